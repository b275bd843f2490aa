import PyProof.Rows.All
import Wide.Data
import Wide.Lay
import Wide.Reads
import Imp.Common
import Imp.FormA
import Wide.Pins
import Wide.Top
import ObjForm.Claim3
import Wide.Claim
import Wide.Tm
import Wide.Row
import Wide.OfPy
import Wide.ObjOpen
import Wide.Vals
import Wide.OfTm
import Wide.Ends
import PyProof.Rows.TopObjD
import Imp.PinsA
import Wide.Head
import Wide.Well
import Flt.Mod
import Wide.OneHead
import Wide.Tac
import Wide.BridgeG
import Wide.Loose
import Wide.Line
import OpenK.Peek
import OpenK.KGet
import OpenK.KCall
import OpenK.KMake
import Open.Claim
import Open.Row
import Open.Head
import Open.Recs
import Open.Strs
import Open.Fast
import Open.FastTabs
import Open.FastLooks
import Open.Line
import OpenK.TopRead
import OpenK.KWalk
import OpenK.KMore
import OpenK.KList
import OpenK.KMeth
import OpenK.KDict
import OpenK.KCell
import Open.Seg
import Open.Boot
import Open.Tree
import Open.FastRun
import Open.FastT1
import Open.FastT9
import Open.Pieces
import OpenK.KLine
import OpenK.KLaw
import OpenK.KUnr
import OpenK.KRaise
import OpenK.KRaiseN
import OpenK.KPrune
import OpenK.KMisc
import OpenK.KToks
import OpenK.KInv2
import OpenK.KComp
import OpenK.KEqL
import OpenK.KNot
import OpenK.KApp
import KE.KEqSeq
import KE.KSlice
import KE.KItem
import KE.LcTurns
import KE.RegLcTurns
import KE.KCat
import KE.KTup
import KE.KxMul
import KE.KxText
import KE.KCells
import KE.KNest
import KE.KCallOwn
import KE.RegKCallOwn
import KE.KTree
import KE.KNestM
import KE.KTurns
import KE.KEqDeep
import KE.KAnyBase
import KE.KWhile
import KE.KOpsOwn
import KE.RegKUnpack
import KE.KLcFree
import KE.KPathFold
import KE.KMethU
import KE.KCompFold
import KE.KIsAll
import KE.RegKIsAll
import KE.KTryDeep
import KE.KTryDeepN
import KE.RegKTryDeep
import KE.RegKLenAny
import KE.KPairComp
import KE.KTypeOf
import KE.KSetAt
import KE.KStateDown
import KE.RegFinNonlin
import KE.KBits
import KE.KAssignIn
import KE.KTryMore
import KE.RegKTryMore
import KE.KCallBy
import KE.KFinally
import PySem.Challenge.RW_bn0014_01
open PySem PySem.W PyProof.Rows
set_option Elab.async false
set_option linter.unusedVariables false
namespace Mine
set_option maxRecDepth 100000
set_option maxHeartbeats 8000000
abbrev Late (b : Bool) : Type := match b with | true => Option Nat | false => Int
theorem lite {p : Prop} {b : Bool} (lw : p) (lx : (Late b → False) → Late b) (le : b = true) : p := lw
section
local macro_rules | `(tactic| o_head $_) => `(tactic| assumption)
theorem hd (h : PySem.Challenge.rw_bn0014_01.row.Holds) : PySem.Challenge.rw_bn0014_01.row.Holds := by
  k_head
end

section
section
abbrev Led := List (Addr × Obj)

/-- the ring (of modulus q, degree n) at r -/
noncomputable def Ring (w : World) (N : Led) (r : Addr) (q n : Int) : Prop :=
  ∃ dr k1 k2 tq tn e, (r, instObj 66 dr) ∈ N ∧ (dr, dictOf [⟨PyData.keyHash w.params (Str.ofString "q"), .str (Str.ofString "q") k1, .int q tq⟩, ⟨PyData.keyHash w.params (Str.ofString "n"), .str (Str.ofString "n") k2, .int n tn⟩] e) ∈ N
/-- a list of ints at l -/
noncomputable def Ints (N : Led) (l : Addr) (ns : List Int) : Prop := ∃ vs e, (l, listOf vs.toArray e) ∈ N ∧ IntsAre vs ns
/-- a polynomial at x, of the ring at r, its row of numbers at l -/
noncomputable def Poly (w : World) (N : Led) (x r l : Addr) (ns : List Int) : Prop :=
  Ints N l ns ∧ ∃ dx k1 k2 e, (x, instObj 227 dx) ∈ N ∧ (dx, dictOf [⟨PyData.keyHash w.params (Str.ofString "parent"), .str (Str.ofString "parent") k1, .ref r⟩, ⟨PyData.keyHash w.params (Str.ofString "coeffs"), .str (Str.ofString "coeffs") k2, .ref l⟩] e) ∈ N


theorem Ring.mono {w : World} {N M : Led} {r : Addr} {q n : Int} (h : Ring w N r q n) (hs : ∀ x ∈ N, x ∈ M) : Ring w M r q n := by
  obtain ⟨dr, k1, k2, tq, tn, e, h1, h2⟩ := h
  exact ⟨dr, k1, k2, tq, tn, e, hs _ h1, hs _ h2⟩
theorem Ints.mono {N M : Led} {l : Addr} {ns : List Int} (h : Ints N l ns) (hs : ∀ x ∈ N, x ∈ M) : Ints M l ns := by
  obtain ⟨vs, e, h1, h2⟩ := h
  exact ⟨vs, e, hs _ h1, h2⟩
theorem Poly.mono {w : World} {N M : Led} {x r l : Addr} {ns : List Int} (h : Poly w N x r l ns) (hs : ∀ x ∈ N, x ∈ M) : Poly w M x r l ns := by
  obtain ⟨h0, dx, k1, k2, e, h1, h2⟩ := h
  exact ⟨h0.mono hs, dx, k1, k2, e, hs _ h1, hs _ h2⟩

/-- the ledger behind a call that makes a polynomial: new at x, its dict at dx, its row at l -/
abbrev polyLed (w : World) (r x dx l : Addr) (t1 t2 : Tok) (vs : List Value) (e : Nat) (N : Led) : Led :=
  (x, instObj 227 dx) :: (dx, dictOf [⟨PyData.keyHash w.params (Str.ofString "parent"), .str (Str.ofString "parent") t1, .ref r⟩, ⟨PyData.keyHash w.params (Str.ofString "coeffs"), .str (Str.ofString "coeffs") t2, .ref l⟩] 2) :: (l, listOf vs.toArray e) :: N
noncomputable def PolyPost (w : World) (N : Led) (r : Addr) (cs : List Int) (v : Value) (N' : Led) : Prop :=
  ∃ x dx l t1 t2 vs e, v = .ref x ∧ N' = polyLed w r x dx l t1 t2 vs e N ∧ IntsAre vs cs ∧ PyProof.Rows.LCg.Off1 x N ∧ PyProof.Rows.LCg.Off1 dx N ∧ PyProof.Rows.LCg.Off1 l N ∧ x ≠ dx ∧ x ≠ l ∧ dx ≠ l
theorem off_of_lt {d : Addr} {l : Led} (h : AllLt d l) : PyProof.Rows.LCg.Off1 d l := by
  induction l with
  | nil => trivial
  | cons q r ih =>
    unfold AllLt at h
    exact ⟨Nat.ne_of_lt h.1, ih h.2⟩
theorem off_of_lt2 {d x : Nat} {l : Led} (h : AllLt d l) (hx : d < x) : PyProof.Rows.LCg.Off1 x l := by
  induction l with
  | nil => trivial
  | cons q r ih =>
    unfold AllLt at h
    exact ⟨Nat.ne_of_lt (Nat.lt_trans h.1 hx), ih h.2⟩
theorem off_all {d : Addr} {l : Led} (h : PyProof.Rows.LCg.Off1 d l) : ∀ p ∈ l, p.1 ≠ d := by
  induction l with
  | nil => intro p hp; cases hp
  | cons q r ih =>
    intro p hp
    unfold PyProof.Rows.LCg.Off1 at h
    rcases List.mem_cons.mp hp with e | e
    · rw [e]; exact h.1
    · exact ih h.2 p e
theorem off_of_all {d : Addr} {l : Led} (h : ∀ p ∈ l, p.1 ≠ d) : PyProof.Rows.LCg.Off1 d l := by
  induction l with
  | nil => trivial
  | cons q r ih => exact ⟨h q (.head _), ih fun p hp => h p (.tail _ hp)⟩
theorem off_of_base {d d₀ : Nat} {l : Led} (h : ∀ p ∈ l, p.1 < d₀) (hd : d₀ ≤ d) : PyProof.Rows.LCg.Off1 d l := off_of_all fun p hp => Nat.ne_of_lt (Nat.lt_of_lt_of_le (h p hp) hd)

theorem off_ne {a d : Nat} {o : Obj} {l : Led} (h : PyProof.Rows.LCg.Off1 d l) (hm : (a, o) ∈ l) : a ≠ d := off_all h _ hm
theorem off_sub {d : Nat} {l l' : Led} (h : PyProof.Rows.LCg.Off1 d l) (hs : ∀ p ∈ l', p ∈ l) : PyProof.Rows.LCg.Off1 d l' := off_of_all fun p hp => off_all h p (hs p hp)

/-- what a call of the text's def at f gives back -/
noncomputable def Ctr (w : World) (d : Nat) (f : Addr) (args : List Value) (N : Led) (Post : Value → Led → Prop) : Prop :=
  ∀ (p : Program) (loose : List Str) (mean : ExcName → Option Value) (mg mb : Str → Option Value) (dp un : Nat) (gd : Option (List Code)) (cn : Str) (cs : Scope) (a : Addr) (ccd : Value) (cl : List (Str × Addr)) (outer : List Env) (A₀ : Around) (base h₀ : Heap) (L : Addr) (m : Str → Option Value) (s : Shared) (R : Result → Shared → Prop),
   Below A₀ base outer h₀ → Fr h₀ L s.heap m → (hd.heap_1 w.params).In h₀ → News h₀ L s.heap N → Top p loose mean mg mb h₀ → cs.kind = .function →
   dp + d < 1000 → un + 20 * d < 9900 →
   (∀ v h' tk' N', Fr h₀ L h' m → News h₀ L h' N' → Post v N' → R (.ok (.ret v)) { s with heap := h', toks := tk' }) →
   codeAny (model PySem.Challenge.rw_bn0014_01.row.toRowW.prog w) (ktrTop dp un gd cn cs L a ccd cl outer) (.call (.ref f) ⟨args, []⟩) R s

theorem Ctr.use {w : World} {d : Nat} {f : Addr} {args : List Value} {N : Led} {Post : Value → Led → Prop} (C : Ctr w d f args N Post)
  {p : Program} {loose : List Str} {mean : ExcName → Option Value} {mg mb : Str → Option Value} {dp un : Nat} {gd : Option (List Code)} {cn : Str} {cs : Scope} {a : Addr} {ccd : Value} {cl : List (Str × Addr)} {outer : List Env} {A₀ : Around} {base h₀ : Heap} {L : Addr} {m : Str → Option Value} {s : Shared} {R : Result → Shared → Prop}
  (B : Below A₀ base outer h₀) (F : Fr h₀ L s.heap m) (X : (hd.heap_1 w.params).In h₀) (N₀ : News h₀ L s.heap N) (T : Top p loose mean mg mb h₀) (hk : cs.kind = .function) (hdp : dp + d < 1000) (hun : un + 20 * d < 9900)
  (h : ∀ v h' tk' N', Fr h₀ L h' m → News h₀ L h' N' → Post v N' → R (.ok (.ret v)) { s with heap := h', toks := tk' }) :
   codeAny (model PySem.Challenge.rw_bn0014_01.row.toRowW.prog w) (ktrTop dp un gd cn cs L a ccd cl outer) (.call (.ref f) ⟨args, []⟩) R s :=
  C _ _ _ _ _ _ _ _ _ _ _ _ _ _ _ _ _ _ _ _ _ B F X N₀ T hk hdp hun h
theorem sub_mem {N M : Led} {p : Addr × Obj} (h : ∀ p ∈ N, p ∈ M) (hp : p ∈ N) : p ∈ M := h p hp
local macro_rules | `(tactic| k_mem) => `(tactic| ((fail_if_success (with_reducible refine' List.Mem.tail _ ?_)); first | with_reducible assumption | assumption | (refine sub_mem (by assumption) ?_; k_mem)))
local macro_rules | `(tactic| news_mem) => `(tactic| k_mem)
local macro_rules | `(tactic| k_room) => `(tactic| ((simp only [depth_under_make, depth_under_kw, depth_in1, depth_deeper, depth_caller, recursionLimit] at *); omega))
local macro_rules | `(tactic| k_units) => `(tactic| ((have hcL9 := cLine_is); (simp only [units_in1, units_deeper, Around.mark_units, units_caller, cLine] at *); omega))
local macro_rules | `(tactic| allgen_close2_more) => `(tactic| assumption)
local macro_rules | `(tactic| ktr_rel) => `(tactic| ((try simp only [List.length_append, List.length_cons, List.length_nil, List.length_map, List.length_set, List.length_zipWith, rangeKs_length]); first | assumption | omega))
local macro_rules | `(tactic| top_reprB) => `(tactic| first | exact List.forall_mem_nil _ | (refine List.forall_mem_cons.mpr ⟨by k_mem, ?_⟩; top_reprB) | (intro p hp; k_mem))
local macro_rules | `(tactic| k_ne) => `(tactic| (refine neN ?_; (try dsimp only); first | (with_reducible assumption) | exact Ne.symm (by with_reducible assumption) | exact off_ne (by with_reducible assumption) (by k_mem) | exact Ne.symm (off_ne (by with_reducible assumption) (by k_mem)) | omega))
local macro_rules | `(tactic| top_strB) => `(tactic| first | (first | assumption | exact allLt_of (by assumption) | exact And.right (by assumption) | exact And.right (And.right (by assumption)) | exact And.right (And.right (And.right (by assumption))) | exact And.right (And.right (And.right (And.right (by assumption)))) | exact And.right (And.right (And.right (And.right (And.right (by assumption))))) | exact And.right (And.right (And.right (And.right (And.right (And.right (by assumption)))))) | exact And.right (And.right (And.right (And.right (And.right (And.right (And.right (by assumption))))))) | exact And.right (And.right (And.right (And.right (And.right (And.right (And.right (And.right (by assumption)))))))) | exact And.right (And.right (And.right (And.right (And.right (And.right (And.right (And.right (And.right (by assumption))))))))) | exact And.right (And.right (And.right (And.right (And.right (And.right (And.right (And.right (And.right (And.right (by assumption)))))))))) | exact And.right (And.right (And.right (And.right (And.right (And.right (And.right (And.right (And.right (And.right (And.right (by assumption))))))))))) | exact And.right (And.right (And.right (And.right (And.right (And.right (And.right (And.right (And.right (And.right (And.right (And.right (by assumption)))))))))))) | exact And.right (And.right (And.right (And.right (And.right (And.right (And.right (And.right (And.right (And.right (And.right (And.right (And.right (by assumption))))))))))))) | exact And.right (And.right (And.right (And.right (And.right (And.right (And.right (And.right (And.right (And.right (And.right (And.right (And.right (And.right (by assumption)))))))))))))) | exact And.right (And.right (And.right (And.right (And.right (And.right (And.right (And.right (And.right (And.right (And.right (And.right (And.right (And.right (And.right (by assumption))))))))))))))) | exact And.right (And.right (And.right (And.right (And.right (And.right (And.right (And.right (And.right (And.right (And.right (And.right (And.right (And.right (And.right (And.right (by assumption)))))))))))))))) | exact And.right (And.right (And.right (And.right (And.right (And.right (And.right (And.right (And.right (And.right (And.right (And.right (And.right (And.right (And.right (And.right (And.right (by assumption))))))))))))))))) | exact And.right (And.right (And.right (And.right (And.right (And.right (And.right (And.right (And.right (And.right (And.right (And.right (And.right (And.right (And.right (And.right (And.right (And.right (by assumption)))))))))))))))))) | exact And.right (And.right (And.right (And.right (And.right (And.right (And.right (And.right (And.right (And.right (And.right (And.right (And.right (And.right (And.right (And.right (And.right (And.right (And.right (by assumption)))))))))))))))))))) | exact off_sub (by with_reducible assumption) (by top_reprB) | exact off_of_lt (by (first | assumption | exact allLt_of (by assumption) | exact And.right (by assumption) | exact And.right (And.right (by assumption)) | exact And.right (And.right (And.right (by assumption))) | exact And.right (And.right (And.right (And.right (by assumption)))) | exact And.right (And.right (And.right (And.right (And.right (by assumption))))) | exact And.right (And.right (And.right (And.right (And.right (And.right (by assumption)))))) | exact And.right (And.right (And.right (And.right (And.right (And.right (And.right (by assumption))))))) | exact And.right (And.right (And.right (And.right (And.right (And.right (And.right (And.right (by assumption)))))))) | exact And.right (And.right (And.right (And.right (And.right (And.right (And.right (And.right (And.right (by assumption))))))))) | exact And.right (And.right (And.right (And.right (And.right (And.right (And.right (And.right (And.right (And.right (by assumption)))))))))) | exact And.right (And.right (And.right (And.right (And.right (And.right (And.right (And.right (And.right (And.right (And.right (by assumption))))))))))) | exact And.right (And.right (And.right (And.right (And.right (And.right (And.right (And.right (And.right (And.right (And.right (And.right (by assumption)))))))))))) | exact And.right (And.right (And.right (And.right (And.right (And.right (And.right (And.right (And.right (And.right (And.right (And.right (And.right (by assumption))))))))))))) | exact And.right (And.right (And.right (And.right (And.right (And.right (And.right (And.right (And.right (And.right (And.right (And.right (And.right (And.right (by assumption)))))))))))))) | exact And.right (And.right (And.right (And.right (And.right (And.right (And.right (And.right (And.right (And.right (And.right (And.right (And.right (And.right (And.right (by assumption))))))))))))))) | exact And.right (And.right (And.right (And.right (And.right (And.right (And.right (And.right (And.right (And.right (And.right (And.right (And.right (And.right (And.right (And.right (by assumption)))))))))))))))) | exact And.right (And.right (And.right (And.right (And.right (And.right (And.right (And.right (And.right (And.right (And.right (And.right (And.right (And.right (And.right (And.right (And.right (by assumption))))))))))))))))) | exact And.right (And.right (And.right (And.right (And.right (And.right (And.right (And.right (And.right (And.right (And.right (And.right (And.right (And.right (And.right (And.right (And.right (And.right (by assumption)))))))))))))))))) | exact And.right (And.right (And.right (And.right (And.right (And.right (And.right (And.right (And.right (And.right (And.right (And.right (And.right (And.right (And.right (And.right (And.right (And.right (And.right (by assumption))))))))))))))))))))) | exact off_of_lt2 (by (first | assumption | exact allLt_of (by assumption) | exact And.right (by assumption) | exact And.right (And.right (by assumption)) | exact And.right (And.right (And.right (by assumption))) | exact And.right (And.right (And.right (And.right (by assumption)))) | exact And.right (And.right (And.right (And.right (And.right (by assumption))))) | exact And.right (And.right (And.right (And.right (And.right (And.right (by assumption)))))) | exact And.right (And.right (And.right (And.right (And.right (And.right (And.right (by assumption))))))) | exact And.right (And.right (And.right (And.right (And.right (And.right (And.right (And.right (by assumption)))))))) | exact And.right (And.right (And.right (And.right (And.right (And.right (And.right (And.right (And.right (by assumption))))))))) | exact And.right (And.right (And.right (And.right (And.right (And.right (And.right (And.right (And.right (And.right (by assumption)))))))))) | exact And.right (And.right (And.right (And.right (And.right (And.right (And.right (And.right (And.right (And.right (And.right (by assumption))))))))))) | exact And.right (And.right (And.right (And.right (And.right (And.right (And.right (And.right (And.right (And.right (And.right (And.right (by assumption)))))))))))) | exact And.right (And.right (And.right (And.right (And.right (And.right (And.right (And.right (And.right (And.right (And.right (And.right (And.right (by assumption))))))))))))) | exact And.right (And.right (And.right (And.right (And.right (And.right (And.right (And.right (And.right (And.right (And.right (And.right (And.right (And.right (by assumption)))))))))))))) | exact And.right (And.right (And.right (And.right (And.right (And.right (And.right (And.right (And.right (And.right (And.right (And.right (And.right (And.right (And.right (by assumption))))))))))))))) | exact And.right (And.right (And.right (And.right (And.right (And.right (And.right (And.right (And.right (And.right (And.right (And.right (And.right (And.right (And.right (And.right (by assumption)))))))))))))))) | exact And.right (And.right (And.right (And.right (And.right (And.right (And.right (And.right (And.right (And.right (And.right (And.right (And.right (And.right (And.right (And.right (And.right (by assumption))))))))))))))))) | exact And.right (And.right (And.right (And.right (And.right (And.right (And.right (And.right (And.right (And.right (And.right (And.right (And.right (And.right (And.right (And.right (And.right (And.right (by assumption)))))))))))))))))) | exact And.right (And.right (And.right (And.right (And.right (And.right (And.right (And.right (And.right (And.right (And.right (And.right (And.right (And.right (And.right (And.right (And.right (And.right (And.right (by assumption))))))))))))))))))))) (by omega) | exact off_of_base (by assumption) (by omega))
local macro_rules | `(tactic| k_all) => `(tactic| (refine off_all ?_; top_strB))
local macro_rules | `(tactic| walk_at "getMethod ref") => `(tactic| (k_here; k_dflt (refine' kmu_own ?k1 ?k2 ?k3 ?k4 ?k5 ?_; (case k1 => k_asm); (case k2 => k_asm); (case k3 => k_inst); (case k4 => k_is); (case k5 => k_is); k_whole)))
theorem idx_hi {k : Int} {n M : Nat} (h : k < 0 + ((((n : Nat) : Int) - 0).toNat : Int)) (e : n ≤ M) : k < (M : Int) := by omega
theorem idx_fit {k : Int} {n : Nat} (h : k < 0 + ((((n : Nat) : Int) - 0).toNat : Int)) (e : n ≤ 4) : k < 2 ^ 63 := by omega
theorem small_getD {xs : List Int} {q : Int} (h : ∀ c ∈ xs, 0 ≤ c ∧ c < q) (hq : 2 ≤ q) (k : Nat) : 0 ≤ xs.getD k 0 ∧ xs.getD k 0 < q := by
  rw [List.getD_eq_getElem?_getD]
  by_cases hk : k < xs.length
  · rw [List.getElem?_eq_getElem hk]; exact h _ (List.getElem_mem hk)
  · rw [List.getElem?_eq_none (by omega)]; exact ⟨by decide, by show (0 : Int) < q; omega⟩
theorem mulok_getD {xs : List Int} {q b : Int} {k : Nat} (h : ∀ c ∈ xs, 0 ≤ c ∧ c < q) (hq : 2 ≤ q) (hq2 : q < 2 ^ 33) : IntMulOk (xs.getD k 0) b := by
  have z := small_getD h hq k
  exact IntMulOk.of_left (intBits_le_64 (by omega) (by omega))
theorem mulok_mem {xs : List Int} {q b c : Int} (hm : c ∈ xs) (h : ∀ c ∈ xs, 0 ≤ c ∧ c < q) (hq2 : q < 2 ^ 33) : IntMulOk c b := by
  have z := h c hm
  exact IntMulOk.of_left (intBits_le_64 (by omega) (by omega))
local macro_rules | `(tactic| walk_at "binaryOp Mult int int") => `(tactic| (k_here; with_reducible first | refine PyProof.Rows.mul_int ?_ (mulok_getD (by assumption) (by assumption) (by assumption)) | refine PyProof.Rows.mul_int ?_ (mulok_mem (by assumption) (by assumption) (by assumption))))
local macro_rules | `(tactic| top_name) => `(tactic| (law_purse 40000 => (law_clear; (repeat (with_reducible rename (@Ne Nat _ _) ∧ _ => hne9; clear hne9)); (repeat (with_reducible rename (@LT.lt Nat _ _ _) ∧ _ => hne9; clear hne9)); (repeat (with_reducible rename (@Ne Nat _ _) => hne9; clear hne9)); (try simp only [List.length_append, List.length_cons, List.length_nil, List.length_map, List.length_take, List.length_set, List.length_zipWith, rangeKs_length]); omega)))
local macro_rules | `(tactic| walk_at "subscriptTail Name Name ref int") => `(tactic| ((k_here; (with_reducible show wpAny _ _ (subscriptTail _ _ (Value.ref _) (Value.int _ _)) _ _ _); (with_unfolding_all refine' item_list_ints ?k1 ?k2 ?k3 ?k4 ?k5 ?_; (case k1 => exact News.isList (by k_asm) (by k_mem)); (case k2 => l_ints); (case k3 => first | assumption | top_name); (case k4 => first | assumption | exact idx_hi (by assumption) (by first | assumption | exact Nat.le_refl _) | top_name); (case k5 => first | assumption | exact idx_fit (by assumption) (by assumption) | top_name); k_whole); intro _)))
local macro_rules | `(tactic| walk_at "subscriptTail Name BinOp ref int") => `(tactic| ((k_here; (with_reducible show wpAny _ _ (subscriptTail _ _ (Value.ref _) (Value.int _ _)) _ _ _); (with_unfolding_all refine' item_list_ints ?k1 ?k2 ?k3 ?k4 ?k5 ?_; (case k1 => exact News.isList (by k_asm) (by k_mem)); (case k2 => l_ints); (case k3 => first | assumption | top_name); (case k4 => first | assumption | exact idx_hi (by assumption) (by first | assumption | exact Nat.le_refl _) | top_name); (case k5 => first | assumption | exact idx_fit (by assumption) (by assumption) | top_name); k_whole); intro _)))
theorem copyK {prog : Program} {w : World} {A : Around} {E : Value → Shared → Prop} {s : Shared} {h₀ : Heap} {L l : Addr} {m : Str → Option Value} {news : Led} {vs : List Value} {Q : Value → Shared → Prop} (F : Fr h₀ L s.heap m) (N : News h₀ L s.heap news) (hl : s.heap.IsList l vs.toArray) (hsz : vs.length ≤ sizeLine)
    (h : ∀ D h', Fr h₀ L h' m → News h₀ L h' ((D, listOf vs.toArray 0) :: news) → (∀ q ∈ news, q.1 < D) → Q (.ref D) { s with heap := h' }) : wpAny (model prog w) A (call (.builtin "list.copy") [.ref l]) Q E s :=
  PyProof.Rows.copy_list F N hl (fun h' F' N' => h _ h' F' N' fun q hq => Heap.lt_size (N q hq).1) hsz
theorem sizeLine_small {n : Nat} (h : n ≤ 64) : n ≤ sizeLine := by unfold sizeLine; omega
theorem ints_size {vs : List Value} {ns : List Int} (h : IntsAre vs ns) (hl : ns.length ≤ 64) : vs.length ≤ sizeLine := sizeLine_small (by rw [h.length]; exact hl)
local macro_rules | `(tactic| walk_at "call builtin:list.copy") => `(tactic| (k_here; (with_reducible show wpAny _ _ (call (Value.builtin _) [Value.ref _]) _ _ _); k_dflt (refine' copyK ?k1 ?k2 ?k3 ?k4 ?_; (case k1 => k_asm); (case k2 => k_asm); (case k3 => exact News.isList (by k_asm) (by k_mem)); (case k4 => exact ints_size (by l_ints) (by top_name)); k_whole); intro D' h' F' N' l1; (try k_lt l1); (try k_sweep)))
local macro_rules | `(tactic| walk_at "setItem ref int") => `(tactic| (k_here; (with_reducible show wpAny _ _ (setItem (Value.ref _) (Value.int _ _) (Value.int _ _)) _ _ _); k_dflt (refine' ksa_set ?k1 ?k2 ?k3 ?k4 ?k5 ?k6 ?k7 ?_; (case k1 => k_asm); (case k2 => k_asm); (case k3 => k_upd); (case k4 => l_ints); (case k5 => first | assumption | top_name); (case k6 => first | assumption | top_name); (case k7 => first | assumption | top_name); k_whole); intro h' F' N' hi' hl' hs'; clear hs'; (try k_sweep)))
local macro_rules | `(tactic| walk_at "callWith ref") => `(tactic| (k_here; kco_here; k_dflt (refine' kco_callWith ?k1 ?k2 ?k3 ?k4 ?_; (case k1 => k_in); (case k2 => k_inst); (case k3 => rfl); (case k4 => k_is); k_whole)))
local macro_rules | `(tactic| allgen_close_more) => `(tactic| first | k_asm | (refine' cb_drop ?cbN ?cbS; (case cbN => assumption); (case cbS => top_reprB)))
end
end
section
local macro_rules | `(tactic| k_mem) => `(tactic| ((fail_if_success (with_reducible refine' List.Mem.tail _ ?_)); first | with_reducible assumption | assumption | (refine sub_mem (by assumption) ?_; k_mem)))
local macro_rules | `(tactic| news_mem) => `(tactic| k_mem)
local macro_rules | `(tactic| k_room) => `(tactic| ((simp only [depth_under_make, depth_under_kw, depth_in1, depth_deeper, depth_caller, recursionLimit] at *); omega))
local macro_rules | `(tactic| k_units) => `(tactic| ((have hcL9 := cLine_is); (simp only [units_in1, units_deeper, Around.mark_units, units_caller, cLine] at *); omega))
local macro_rules | `(tactic| allgen_close2_more) => `(tactic| assumption)
local macro_rules | `(tactic| ktr_rel) => `(tactic| ((try simp only [List.length_append, List.length_cons, List.length_nil, List.length_map, List.length_set, List.length_zipWith, rangeKs_length]); first | assumption | omega))
local macro_rules | `(tactic| top_reprB) => `(tactic| first | exact List.forall_mem_nil _ | (refine List.forall_mem_cons.mpr ⟨by k_mem, ?_⟩; top_reprB) | (intro p hp; k_mem))
local macro_rules | `(tactic| k_ne) => `(tactic| (refine neN ?_; (try dsimp only); first | (with_reducible assumption) | exact Ne.symm (by with_reducible assumption) | exact off_ne (by with_reducible assumption) (by k_mem) | exact Ne.symm (off_ne (by with_reducible assumption) (by k_mem)) | omega))
local macro_rules | `(tactic| top_strB) => `(tactic| first | (first | assumption | exact allLt_of (by assumption) | exact And.right (by assumption) | exact And.right (And.right (by assumption)) | exact And.right (And.right (And.right (by assumption))) | exact And.right (And.right (And.right (And.right (by assumption)))) | exact And.right (And.right (And.right (And.right (And.right (by assumption))))) | exact And.right (And.right (And.right (And.right (And.right (And.right (by assumption)))))) | exact And.right (And.right (And.right (And.right (And.right (And.right (And.right (by assumption))))))) | exact And.right (And.right (And.right (And.right (And.right (And.right (And.right (And.right (by assumption)))))))) | exact And.right (And.right (And.right (And.right (And.right (And.right (And.right (And.right (And.right (by assumption))))))))) | exact And.right (And.right (And.right (And.right (And.right (And.right (And.right (And.right (And.right (And.right (by assumption)))))))))) | exact And.right (And.right (And.right (And.right (And.right (And.right (And.right (And.right (And.right (And.right (And.right (by assumption))))))))))) | exact And.right (And.right (And.right (And.right (And.right (And.right (And.right (And.right (And.right (And.right (And.right (And.right (by assumption)))))))))))) | exact And.right (And.right (And.right (And.right (And.right (And.right (And.right (And.right (And.right (And.right (And.right (And.right (And.right (by assumption))))))))))))) | exact And.right (And.right (And.right (And.right (And.right (And.right (And.right (And.right (And.right (And.right (And.right (And.right (And.right (And.right (by assumption)))))))))))))) | exact And.right (And.right (And.right (And.right (And.right (And.right (And.right (And.right (And.right (And.right (And.right (And.right (And.right (And.right (And.right (by assumption))))))))))))))) | exact And.right (And.right (And.right (And.right (And.right (And.right (And.right (And.right (And.right (And.right (And.right (And.right (And.right (And.right (And.right (And.right (by assumption)))))))))))))))) | exact And.right (And.right (And.right (And.right (And.right (And.right (And.right (And.right (And.right (And.right (And.right (And.right (And.right (And.right (And.right (And.right (And.right (by assumption))))))))))))))))) | exact And.right (And.right (And.right (And.right (And.right (And.right (And.right (And.right (And.right (And.right (And.right (And.right (And.right (And.right (And.right (And.right (And.right (And.right (by assumption)))))))))))))))))) | exact And.right (And.right (And.right (And.right (And.right (And.right (And.right (And.right (And.right (And.right (And.right (And.right (And.right (And.right (And.right (And.right (And.right (And.right (And.right (by assumption)))))))))))))))))))) | exact off_sub (by with_reducible assumption) (by top_reprB) | exact off_of_lt (by (first | assumption | exact allLt_of (by assumption) | exact And.right (by assumption) | exact And.right (And.right (by assumption)) | exact And.right (And.right (And.right (by assumption))) | exact And.right (And.right (And.right (And.right (by assumption)))) | exact And.right (And.right (And.right (And.right (And.right (by assumption))))) | exact And.right (And.right (And.right (And.right (And.right (And.right (by assumption)))))) | exact And.right (And.right (And.right (And.right (And.right (And.right (And.right (by assumption))))))) | exact And.right (And.right (And.right (And.right (And.right (And.right (And.right (And.right (by assumption)))))))) | exact And.right (And.right (And.right (And.right (And.right (And.right (And.right (And.right (And.right (by assumption))))))))) | exact And.right (And.right (And.right (And.right (And.right (And.right (And.right (And.right (And.right (And.right (by assumption)))))))))) | exact And.right (And.right (And.right (And.right (And.right (And.right (And.right (And.right (And.right (And.right (And.right (by assumption))))))))))) | exact And.right (And.right (And.right (And.right (And.right (And.right (And.right (And.right (And.right (And.right (And.right (And.right (by assumption)))))))))))) | exact And.right (And.right (And.right (And.right (And.right (And.right (And.right (And.right (And.right (And.right (And.right (And.right (And.right (by assumption))))))))))))) | exact And.right (And.right (And.right (And.right (And.right (And.right (And.right (And.right (And.right (And.right (And.right (And.right (And.right (And.right (by assumption)))))))))))))) | exact And.right (And.right (And.right (And.right (And.right (And.right (And.right (And.right (And.right (And.right (And.right (And.right (And.right (And.right (And.right (by assumption))))))))))))))) | exact And.right (And.right (And.right (And.right (And.right (And.right (And.right (And.right (And.right (And.right (And.right (And.right (And.right (And.right (And.right (And.right (by assumption)))))))))))))))) | exact And.right (And.right (And.right (And.right (And.right (And.right (And.right (And.right (And.right (And.right (And.right (And.right (And.right (And.right (And.right (And.right (And.right (by assumption))))))))))))))))) | exact And.right (And.right (And.right (And.right (And.right (And.right (And.right (And.right (And.right (And.right (And.right (And.right (And.right (And.right (And.right (And.right (And.right (And.right (by assumption)))))))))))))))))) | exact And.right (And.right (And.right (And.right (And.right (And.right (And.right (And.right (And.right (And.right (And.right (And.right (And.right (And.right (And.right (And.right (And.right (And.right (And.right (by assumption))))))))))))))))))))) | exact off_of_lt2 (by (first | assumption | exact allLt_of (by assumption) | exact And.right (by assumption) | exact And.right (And.right (by assumption)) | exact And.right (And.right (And.right (by assumption))) | exact And.right (And.right (And.right (And.right (by assumption)))) | exact And.right (And.right (And.right (And.right (And.right (by assumption))))) | exact And.right (And.right (And.right (And.right (And.right (And.right (by assumption)))))) | exact And.right (And.right (And.right (And.right (And.right (And.right (And.right (by assumption))))))) | exact And.right (And.right (And.right (And.right (And.right (And.right (And.right (And.right (by assumption)))))))) | exact And.right (And.right (And.right (And.right (And.right (And.right (And.right (And.right (And.right (by assumption))))))))) | exact And.right (And.right (And.right (And.right (And.right (And.right (And.right (And.right (And.right (And.right (by assumption)))))))))) | exact And.right (And.right (And.right (And.right (And.right (And.right (And.right (And.right (And.right (And.right (And.right (by assumption))))))))))) | exact And.right (And.right (And.right (And.right (And.right (And.right (And.right (And.right (And.right (And.right (And.right (And.right (by assumption)))))))))))) | exact And.right (And.right (And.right (And.right (And.right (And.right (And.right (And.right (And.right (And.right (And.right (And.right (And.right (by assumption))))))))))))) | exact And.right (And.right (And.right (And.right (And.right (And.right (And.right (And.right (And.right (And.right (And.right (And.right (And.right (And.right (by assumption)))))))))))))) | exact And.right (And.right (And.right (And.right (And.right (And.right (And.right (And.right (And.right (And.right (And.right (And.right (And.right (And.right (And.right (by assumption))))))))))))))) | exact And.right (And.right (And.right (And.right (And.right (And.right (And.right (And.right (And.right (And.right (And.right (And.right (And.right (And.right (And.right (And.right (by assumption)))))))))))))))) | exact And.right (And.right (And.right (And.right (And.right (And.right (And.right (And.right (And.right (And.right (And.right (And.right (And.right (And.right (And.right (And.right (And.right (by assumption))))))))))))))))) | exact And.right (And.right (And.right (And.right (And.right (And.right (And.right (And.right (And.right (And.right (And.right (And.right (And.right (And.right (And.right (And.right (And.right (And.right (by assumption)))))))))))))))))) | exact And.right (And.right (And.right (And.right (And.right (And.right (And.right (And.right (And.right (And.right (And.right (And.right (And.right (And.right (And.right (And.right (And.right (And.right (And.right (by assumption))))))))))))))))))))) (by omega) | exact off_of_base (by assumption) (by omega))
local macro_rules | `(tactic| k_all) => `(tactic| (refine off_all ?_; top_strB))
local macro_rules | `(tactic| walk_at "getMethod ref") => `(tactic| (k_here; k_dflt (refine' kmu_own ?k1 ?k2 ?k3 ?k4 ?k5 ?_; (case k1 => k_asm); (case k2 => k_asm); (case k3 => k_inst); (case k4 => k_is); (case k5 => k_is); k_whole)))
local macro_rules | `(tactic| walk_at "binaryOp Mult int int") => `(tactic| (k_here; with_reducible first | refine PyProof.Rows.mul_int ?_ (mulok_getD (by assumption) (by assumption) (by assumption)) | refine PyProof.Rows.mul_int ?_ (mulok_mem (by assumption) (by assumption) (by assumption))))
local macro_rules | `(tactic| top_name) => `(tactic| (law_purse 40000 => (law_clear; (repeat (with_reducible rename (@Ne Nat _ _) ∧ _ => hne9; clear hne9)); (repeat (with_reducible rename (@LT.lt Nat _ _ _) ∧ _ => hne9; clear hne9)); (repeat (with_reducible rename (@Ne Nat _ _) => hne9; clear hne9)); (try simp only [List.length_append, List.length_cons, List.length_nil, List.length_map, List.length_take, List.length_set, List.length_zipWith, rangeKs_length]); omega)))
local macro_rules | `(tactic| walk_at "subscriptTail Name Name ref int") => `(tactic| ((k_here; (with_reducible show wpAny _ _ (subscriptTail _ _ (Value.ref _) (Value.int _ _)) _ _ _); (with_unfolding_all refine' item_list_ints ?k1 ?k2 ?k3 ?k4 ?k5 ?_; (case k1 => exact News.isList (by k_asm) (by k_mem)); (case k2 => l_ints); (case k3 => first | assumption | top_name); (case k4 => first | assumption | exact idx_hi (by assumption) (by first | assumption | exact Nat.le_refl _) | top_name); (case k5 => first | assumption | exact idx_fit (by assumption) (by assumption) | top_name); k_whole); intro _)))
local macro_rules | `(tactic| walk_at "subscriptTail Name BinOp ref int") => `(tactic| ((k_here; (with_reducible show wpAny _ _ (subscriptTail _ _ (Value.ref _) (Value.int _ _)) _ _ _); (with_unfolding_all refine' item_list_ints ?k1 ?k2 ?k3 ?k4 ?k5 ?_; (case k1 => exact News.isList (by k_asm) (by k_mem)); (case k2 => l_ints); (case k3 => first | assumption | top_name); (case k4 => first | assumption | exact idx_hi (by assumption) (by first | assumption | exact Nat.le_refl _) | top_name); (case k5 => first | assumption | exact idx_fit (by assumption) (by assumption) | top_name); k_whole); intro _)))
local macro_rules | `(tactic| walk_at "call builtin:list.copy") => `(tactic| (k_here; (with_reducible show wpAny _ _ (call (Value.builtin _) [Value.ref _]) _ _ _); k_dflt (refine' copyK ?k1 ?k2 ?k3 ?k4 ?_; (case k1 => k_asm); (case k2 => k_asm); (case k3 => exact News.isList (by k_asm) (by k_mem)); (case k4 => exact ints_size (by l_ints) (by top_name)); k_whole); intro D' h' F' N' l1; (try k_lt l1); (try k_sweep)))
local macro_rules | `(tactic| walk_at "setItem ref int") => `(tactic| (k_here; (with_reducible show wpAny _ _ (setItem (Value.ref _) (Value.int _ _) (Value.int _ _)) _ _ _); k_dflt (refine' ksa_set ?k1 ?k2 ?k3 ?k4 ?k5 ?k6 ?k7 ?_; (case k1 => k_asm); (case k2 => k_asm); (case k3 => k_upd); (case k4 => l_ints); (case k5 => first | assumption | top_name); (case k6 => first | assumption | top_name); (case k7 => first | assumption | top_name); k_whole); intro h' F' N' hi' hl' hs'; clear hs'; (try k_sweep)))
local macro_rules | `(tactic| walk_at "callWith ref") => `(tactic| (k_here; kco_here; k_dflt (refine' kco_callWith ?k1 ?k2 ?k3 ?k4 ?_; (case k1 => k_in); (case k2 => k_inst); (case k3 => rfl); (case k4 => k_is); k_whole)))
local macro_rules | `(tactic| allgen_close_more) => `(tactic| first | k_asm | (refine' cb_drop ?cbN ?cbS; (case cbN => assumption); (case cbS => top_reprB)))
section
def adds : List Addr := [2, 3, 15, 17, 18, 20, 21, 29, 31, 32, 34, 35, 36, 38, 39, 41, 42, 43, 45, 46, 48, 49, 50, 52, 53, 55, 56, 57, 59, 60, 62, 63, 64, 65, 66, 67, 68, 78, 80, 81, 83, 84, 85, 87, 88, 90, 91, 92, 94, 95, 97, 98, 99, 102, 103, 104, 107, 108, 109, 111, 112, 114, 115, 116, 118, 119, 121, 122, 123, 126, 127, 128, 131, 132, 133, 136, 137, 138, 140, 141, 143, 144, 145, 147, 148, 150, 151, 152, 154, 155, 157, 158, 159, 162, 163, 164, 166, 167, 169, 170, 171, 173, 174, 176, 177, 178, 180, 181, 183, 184, 185, 188, 189, 190, 192, 193, 195, 196, 197, 199, 200, 202, 203, 204, 206, 207, 209, 210, 211, 213, 214, 216, 217, 218, 220, 221, 223, 224, 225, 226, 227, 228, 229, 232, 234, 235, 237, 238, 239, 242, 243, 244, 246, 247, 249, 250, 251, 254, 255, 256, 259, 260, 261, 264, 265, 266, 268, 269, 271, 272, 273, 275, 276, 278, 279, 280, 282, 283, 285, 286, 287, 290, 291]
theorem adds_ok : ∀ P, adds = (hd.heap_1 P).map fun p => p.1 := fun _ => by kernel_rfl
theorem tabs_at {K : Frag} {h : Heap} (X : K.In h) (e1 : codeHdIn K 90 86 = true) (e2 : codeHdIn K 97 93 = true) (T : ∀ P ∈ [86, 93], h.get? P = some (tabObj #[])) : TabsAt [(90, 86), (97, 93)] h :=
  List.forall_mem_cons.mpr ⟨⟨codeHd_of_K X e1, T 86 (by simp)⟩, List.forall_mem_cons.mpr ⟨⟨codeHd_of_K X e2, T 93 (by simp)⟩, fun _ h => nomatch h⟩⟩
theorem kn_postG {M : Model} {A : Around} {cd : Code} {s s₁ : Shared} {cw : ClaimW} {cl : Str → Option Addr} {mean : ExcName → Option Value} {args : List WData} {tabs : List (Addr × Addr)} (hT : TabsAt tabs s₁.heap)
    (h : codeAny M A cd (fun r s' => (∃ v d, r = .ok (.ret v) ∧ (∀ cls, cw.raises args cls = false) ∧ ReadsW cw.records cl s'.heap v d [] ∧ cw.post args d args = true) ∧ (∀ b o, (ghostOf s₁.heap tabs).get? b = some o → s'.heap.get? b = some o) ∧ s'.os = s₁.os ∧ AllBare s'.gens ∧ GrownAll tabs s'.heap) s) : codeAny M A cd (GoodWG cw cl mean args s₁) s :=
  codeAny_mono h fun r s' ⟨⟨v, d, r1, r2, r3, r4⟩, hk, hos, hg, hgr⟩ => by
    have keep : ∀ b o, b ∉ tabs.map (·.2) → s₁.heap.get? b = some o → s'.heap.get? b = some o := fun b o hb e => hk b o (ghost_ne e hb)
    have grown : ∀ b o, b ∈ tabs.map (·.2) → s₁.heap.get? b = some o → isCodeTable s₁.heap b ∧ o = tabObj #[] ∧ ∃ ps, s'.heap.get? b = some (tabObj ps) := fun b o hb e => by
      obtain ⟨q, hq, rfl⟩ := List.mem_map.mp hb
      have e2 := (hT q hq).2
      rw [e] at e2
      exact ⟨((hT q hq).1.tab (hT q hq).2).isCodeTable, Option.some.inj e2, hgr.get q hq⟩
    refine ⟨.inl ⟨v, d, [], r1, r2, r3, r4, fun _ => ⟨.nil, fun a ha => nomatch ha⟩⟩, ⟨fun b o e => ?_, fun b o e => ?_⟩, hos, hg⟩
    · by_cases hb : b ∈ tabs.map (·.2)
      · obtain ⟨ht, rfl, ps, hP⟩ := grown b o hb e
        exact .inr (.inl ⟨ht, rfl, #[], ps, rfl, by rw [Array.empty_append]; exact hP⟩)
      · exact .inl (keep b o hb e)
    · by_cases hb : b ∈ tabs.map (·.2)
      · obtain ⟨_, _, ps, hP⟩ := grown b o hb e
        exact ⟨_, hP⟩
      · exact ⟨o, keep b o hb e⟩
end
section
/-- the code table of a def with one generator expression: empty, or with its one entry -/
def TabAt (pos : Pos) (ps : Array Value) : Prop := ps = #[] ∨ ∃ c' : Addr, ps = #[rawInt pos.line, rawInt pos.col, .ref c']
section
variable {M : Model} {prog : Program} {w : World} {A : Around} {E : Value → Shared → Prop} {s : Shared} {h₀ : Heap} {L : Addr} {m mg mb : Str → Option Value} {p : Program} {loose : List Str} {mean : ExcName → Option Value}
theorem gx_code {env : Env} {c P : Addr} {ps : Array Value} {news : Led} {pos : Pos} {qualname : Str} {scope : Scope} {Q : Value → Shared → Prop}
    (hc : env.code = .ref c) (F : Fr h₀ L s.heap m) (N : News h₀ L s.heap ((P, tabObj ps) :: news)) (hoff : LCg.Off1 P news) (C : CodeHd h₀ c P) (ht : TabAt pos ps)
    (h : ∀ c' h' tk ps', TabAt pos ps' → Fr h₀ L h' m → News h₀ L h' ((P, tabObj ps') :: news) → Heap.ExtBut P s.heap h' → s.heap.objs.size ≤ h'.objs.size → Q (.ref c') { s with heap := h', toks := tk }) :
    wpAny M A (genexprCode env pos qualname scope) Q E s := by
  have hP := N _ (.head _)
  have C' := C.keeps F.keep
  rcases ht with rfl | ⟨c', rfl⟩
  · refine wpAny_genexprCodeX hc (C'.code hP.1 trivial) (C'.tab hP.1) rfl fun c' h' tk hx hge hlt hcode _ htab _ => ?_
    have hPL : P ≠ L := hP.2.1
    have ht2 := htab.2
    rw [Array.empty_append] at ht2
    refine h c' h' tk _ (.inr ⟨c', rfl⟩) ⟨F.ns.extBut hx (Ne.symm hPL), fun b o e => hx b o (fun q => ?_) (F.keep b o e), F.above⟩ (fun q hq => ?_) hx (Nat.le_trans hge (Nat.le_of_lt hlt))
    · rw [q, hP.2.2] at e; cases e
    · rcases List.mem_cons.mp hq with rfl | hq
      · exact ⟨ht2, hP.2⟩
      · exact ⟨hx _ _ (off_all hoff q hq) (N q (.tail _ hq)).1, (N q (.tail _ hq)).2⟩
  · refine wpAny_genexprCode_hit (c' := .ref c') hc (C'.code hP.1 (by simp [TriplesOk, rawInt])) (by simp [codeAmong, rawInt]) ?_
    exact h c' s.heap s.toks _ (.inr ⟨c', rfl⟩) F N (fun _ _ _ e => e) (Nat.le_refl _)
end
end
section
section
variable {prog : Program} {w : World} {A : Around} {E : Value → Shared → Prop} {s : Shared} {h₀ : Heap} {L : Addr} {m mg mb : Str → Option Value} {p : Program} {loose : List Str} {mean : ExcName → Option Value}
theorem passing_all (n : Nat) : passing (fun _ => true) n 0 = List.range n := by
  unfold passing; simp
/-- behind the source of a generator expression over a list of ints -/
def GxAt (prog : Program) (w : World) (A : Around) (h₀ : Heap) (L : Addr) (m : Str → Option Value) (P : Addr) (ps : Array Value) (pos : Pos) (q : Int → Bool) (Q : Value → Shared → Prop) (xv : Value) (s₁ : Shared) : Prop :=
  ∃ l vs ns news, xv = .ref l ∧ Fr h₀ L s₁.heap m ∧ News h₀ L s₁.heap ((P, tabObj ps) :: news) ∧ LCg.Off1 P news ∧ s₁.heap.IsList l vs.toArray ∧ IntsAre vs ns ∧ AllBare s₁.gens ∧
      (∀ a s₅ Kb ps', TabAt pos ps' → Fr h₀ L s₅.heap m → News h₀ L s₅.heap ((P, tabObj ps') :: news) → AllBare s₅.gens → s₅.os = s₁.os → L ≤ Kb → (∀ y ∈ ((P, tabObj ps') :: news : Led), y.1 ≤ Kb) →
        GenOnD prog w A Kb a ns (fun _ => true) (fun k => .bool (q k)) s₅ → Q (.ref a) s₅)
theorem gx_mk {env : Env} {elt iter : Expr} {x : Str} {px : Pos} {scope : Scope} {cl : List (Str × Addr)} {pos : Pos} {Q : Value → Shared → Prop} {c P : Addr} {ps : Array Value} {q : Int → Bool}
    (_F : Fr h₀ L s.heap m) (hc : env.code = .ref c) (hge : env.globals = mainGlobals) (C : CodeHd h₀ c P) (T : Top p loose mean mg mb h₀) (ht : TabAt pos ps)
    (hh : A.handled = none) (hco : scope.isCoroutine = false) (hclos : closureFor scope env = pure cl) (hcell : ∀ y ∈ scope.names, y.2 ≠ .cell) (h0 : scope.names.lookup (".0" : Str) = some NameKind.local)
    (hx : scope.names.lookup x = some .local) (hkind : scope.kind = .function) (hroom : A.depth < recursionLimit)
    (helt : ∀ (code : Value) (D : Addr) (A' : Around) E' (k : Int) (t : Tok) (u : Shared) m₂, A'.handled = none → u.heap.Ns D m₂ → m₂ x = some (.int k t) →
      wpAny (model prog w) A' (eval elt (genEnv scope cl D code builtinsNs env)) (fun y s₃ => y = .bool (q k) ∧ Keeps u s₃) E' u)
    (h : wpAny (model prog w) A (eval iter env) (GxAt prog w A h₀ L m P ps pos q Q) E s)
    (hs : ∀ x, genFold iter env x = pure x) :
    wpAny (model prog w) A (eval (.GeneratorExp elt [⟨.Name x px, iter, [], 0⟩] scope pos) env) Q E s := by
  refine wpAny_GeneratorExp_walksQD hh hco hclos hcell h0 hx hkind hroom (wpAny_mono h (fun xv s₁ h₁ => ?_) fun _ _ e => e) hs
  obtain ⟨l, vs, ns, news, rfl, F₁, N₁, hoff, hl, hI, G₁, hQ⟩ := h₁
  have hlt : l < s₁.heap.objs.size := by obtain ⟨_, e, _⟩ := hl; exact Heap.lt_size e
  have hPlt : P < s₁.heap.objs.size := Heap.lt_size (N₁ _ (.head _)).1
  have hlP : l ≠ P := fun e => by
    obtain ⟨o, ho, hcl, _⟩ := hl
    rw [e, (N₁ _ (.head _)).1] at ho; cases ho; cases hcl
  have hL : L < s₁.heap.objs.size := F₁.ns.lt
  refine wpAny_pyIter_list hl ⟨(T.nolimit.keeps F₁.keep).push _, gx_code hc (F₁.keeps fun _ _ e => Heap.get?_push_of_some _ e) (fun q hq => ⟨Heap.get?_push_of_some _ (N₁ q hq).1, (N₁ q hq).2⟩) hoff C ht fun c' h₃ tk₃ ps' ht' F₃ N₃ hx₃ hsz₃ => ?_⟩
  obtain ⟨bm, ob, b1, b2, b3, b4, b5, b6⟩ := T.bmain
  rw [hge]
  refine wpAny_builtinsFor (T.g.keeps F₃.keep) b1 b2 (F₃.keep _ _ b3) b4 b5 b6 ?_
  have hsz₃' : s₁.heap.objs.size + 1 ≤ h₃.objs.size := by rw [← Heap.size_push]; exact hsz₃
  have hIP : s₁.heap.objs.size ≠ P := Nat.ne_of_gt hPlt
  refine ⟨s₁.heap.objs.size, [s₁.heap.objs.size, l], [s₁.heap.objs.size], vs.toArray.size, _, _, fun _ => true, fun i y => ∃ k, ns[i]? = some k ∧ y = .bool (q k), rfl, (fun A' hA => Walks.list hA _ _ (Nat.ne_of_lt hlt) vs.toArray),
    ⟨?_, (hl.push _).at fun o e => hx₃ l o hlP e⟩, ?_, T.nolimit.keeps F₃.keep, ?_, fun href hhref => ⟨?_, ?_⟩, fun a h₅ tk gs hgb hag hsz₅ hk₅ W hat => ?_⟩
  · exact ⟨_, hx₃ _ _ hIP (Heap.get?_push_size _ rfl), rfl, rfl⟩
  · intro b hb
    show b < h₃.objs.size
    rcases List.mem_cons.mp hb with rfl | hb
    · exact hsz₃'
    · rcases List.mem_cons.mp hb with rfl | hb
      · exact Nat.lt_trans hlt hsz₃'
      · cases hb
  · intro hm
    obtain ⟨_, hn, _⟩ := T.nolimit.keeps F₁.keep
    have := hn.lt
    rcases List.mem_cons.mp hm with e | hm
    · rw [e] at this; exact Nat.lt_irrefl _ this
    · cases hm
  · intro A' E' i v u m₂ _ _ _ _ _ _ _
    exact wpAny_pure ⟨rfl, u.heap, u.toks, rfl, fun _ _ e => e⟩
  · intro A' E' i v u m₂ hA _ _ hv _ hn hm _
    have hv' : vs[i]? = some v := by simpa using hv
    have hi : i < ns.length := by rw [← hI.length]; exact (List.getElem?_eq_some_iff.mp hv').1
    obtain ⟨t, e⟩ := hI.get i ns[i] (List.getElem?_eq_getElem hi)
    obtain ⟨k, t, hk, rfl⟩ : ∃ k t, ns[i]? = some k ∧ v = .int k t := ⟨ns[i], t, List.getElem?_eq_getElem hi, Option.some.inj (hv'.symm.trans e)⟩
    exact wpAny_mono (helt (.ref c') _ A' E' k t u m₂ hA hn hm) (fun y s₃ r => ⟨⟨k, hk, r.1⟩, r.2⟩) fun _ _ e => e
  · have X : Gen prog w A (s₁.heap.objs.size - 1) a (passing (fun _ => true) vs.toArray.size 0).length (fun j y => ∃ i, (passing (fun _ => true) vs.toArray.size 0)[j]? = some i ∧ ∃ k, ns[i]? = some k ∧ y = .bool (q k)) _ :=
      ⟨_, _, _, _, W, hat, (fun i s' st => st.1.typeIs), List.mem_cons_self, ?_, ?_⟩
    · refine hQ a _ (s₁.heap.objs.size - 1) ps' ht' (F₃.keeps hk₅) (fun q hq => ⟨hk₅ _ _ (N₃ q hq).1, (N₃ q hq).2⟩) (G₁.push hgb) rfl (Nat.le_pred_of_lt hL) ?_ ?_
      · intro y hy
        rcases List.mem_cons.mp hy with rfl | hy
        · exact Nat.le_pred_of_lt hPlt
        · exact Nat.le_pred_of_lt (Heap.lt_size (N₁ y (.tail _ hy)).1)
      · unfold GenOnD
        have e1 : ns.filter (fun _ => true) = ns := by simp
        have e3 : vs.toArray.size = ns.length := by simp [hI.length]
        rw [passing_all, e3, List.length_range] at X
        rw [e1]
        refine X.imp fun j y hy => ?_
        obtain ⟨i, hij, k, hk, rfl⟩ := hy
        have hj : i = j := by
          by_cases hlt : j < ns.length
          · rw [List.getElem?_range hlt] at hij; exact (Option.some.inj hij).symm
          · rw [List.getElem?_eq_none (by simpa using Nat.le_of_not_lt hlt)] at hij; cases hij
        subst hj
        exact ⟨k, hk, by constructor⟩
    · intro b hb
      show b < h₅.objs.size
      rw [hsz₅]
      rcases List.mem_cons.mp hb with rfl | hb
      · exact Nat.lt_succ_self _
      · rcases List.mem_cons.mp hb with rfl | hb
        · exact Nat.lt_succ_of_lt hag
        · exact Nat.lt_succ_of_lt (Nat.lt_trans (List.mem_range.mp hb) hag)
    · intro b hb
      have hpos : s₁.heap.objs.size - 1 < s₁.heap.objs.size := Nat.sub_lt (Nat.lt_of_le_of_lt (Nat.zero_le _) hL) Nat.one_pos
      rcases List.mem_cons.mp hb with rfl | hb
      · exact Nat.lt_trans hpos hsz₃'
      · rcases List.mem_cons.mp hb with rfl | hb
        · exact hpos
        · cases hb
end
end
section
open PyProof.V PySem.Spec
section
variable {prog : Program} {w : World} {A : Around} {E : Value → Shared → Prop} {s : Shared} {env : Env} {h₀ : Heap} {x : Str} {px : Pos} {body : List Stmt} {Q : Flow → Shared → Prop}
/-- the object of a range iterator -/
abbrev itZ (x left st : Int) : Obj := { cls := .type "range_iterator", data := .fields #[rawInt x, rawInt left, rawInt st] }

/-- a loop over a range by what holds of the frame and the ledger -/
theorem iter_rangeJ {r : Addr} {a₀ b₀ st : Int} {t₀ u₀ v₀ : Tok} {n : Nat} {m₀ : Str → Option Value} {news : Led} (J : Nat → (Str → Option Value) → Led → Prop)
    (hh : A.handled = none) (hr : IsRange s.heap r a₀ b₀ st t₀ u₀ v₀) (hsmall : Builtin.Range.small a₀ b₀ st = true) (hn : Builtin.Range.rangeSize a₀ b₀ st = (n : Int)) (F : Fr h₀ env.locals s.heap m₀) (N : News h₀ env.locals s.heap news)
    (h0 : J 0 m₀ news)
    (turn : ∀ (i : Nat) t m₁ news₁ h tk I oI, i < n → J i m₁ news₁ → Fr h₀ env.locals h m₁ → News h₀ env.locals h ((I, oI) :: news₁) → LCg.Off1 I news₁ →
      wpAny (model prog w) A (assign (.Name x px) env (.int (a₀ + (i : Int) * st) t)) (fun _ s₃ => wpAny (model prog w) A (execs body env) (UnrPost h₀ env.locals { s with heap := h, toks := tk } I oI (J (i + 1)) Q) E s₃) E { s with heap := h, toks := tk })
    (done : ∀ m₁ news₁ h tk, J n m₁ news₁ → Fr h₀ env.locals h m₁ → News h₀ env.locals h news₁ → Q .next { s with heap := h, toks := tk }) :
    wpAny (model prog w) A (pyIter (.ref r)) (fun it s₂ => TurnsAt prog w A h₀ env (.Name x px) body Q E it s₂) E s := by
  refine wpAny_pyIter_range hr hsmall ?_
  have W := KTurns.ofWalks (target := .Name x px) (Walks.range (prog := prog) (w := w) hh s.heap.objs.size a₀ st n) (fun i v s Q E _ q => by
    unfold letOwnedTupleGo; exact wpAny_pure q)
  have hnew := next_is_new F
  refine ⟨_, _, _, n, _, _, _, m₀, news, J, rfl, W, ?_, ?_, ?_, (by show IsRangeIter _ _ _ _ _; rw [hn]; simpa using Heap.get?_push_size _ rfl), F.push _, (fun p hp => ⟨Heap.get?_push_of_some _ (N p hp).1, (N p hp).2⟩), h0, ?_, ?_⟩
  · intro hm
    exact absurd F.ns.lt ((List.mem_singleton.mp hm) ▸ Nat.lt_irrefl _)
  · intro b hb
    rw [List.mem_singleton.mp hb]
    exact hnew
  · intro p hp hI
    exact absurd (Heap.lt_size (N p hp).1) ((List.mem_singleton.mp hI) ▸ Nat.lt_irrefl _)
  · rintro i v m₁ news₁ h₁ tk₁ own hin ⟨t, rfl⟩ hJ hoff hown hget hall hst F₁ N₁
    have hst' : h₁.get? s.heap.objs.size = some (itZ (a₀ + ((i + 1 : Nat) : Int) * st) ((n : Int) - ((i + 1 : Nat) : Int)) st) := hst
    have hmem := hall s.heap.objs.size (List.mem_singleton.mpr rfl) hnew _ hst'
    have N₂ : News h₀ env.locals h₁ ((s.heap.objs.size, itZ (a₀ + ((i + 1 : Nat) : Int) * st) ((n : Int) - ((i + 1 : Nat) : Int)) st) :: news₁) := fun p hp => by
      rcases List.mem_cons.mp hp with rfl | hp
      · exact N₁ _ (List.mem_append_left _ hmem)
      · exact N₁ _ (List.mem_append_right _ hp)
    have off : LCg.Off1 s.heap.objs.size news₁ := off_of_all fun p hp e => hoff p hp (List.mem_singleton.mpr e)
    refine wpAny_mono (turn i t m₁ news₁ h₁ tk₁ _ _ hin hJ F₁ N₂ off) (fun _ s₂ h₂ => wpAny_mono h₂ (fun f s₃ p => ?_) fun _ _ e => e) fun _ _ e => e
    have fin : UnrEnd h₀ env.locals { s with heap := h₁, toks := tk₁ } s.heap.objs.size (itZ (a₀ + ((i + 1 : Nat) : Int) * st) ((n : Int) - ((i + 1 : Nat) : Int)) st) (J (i + 1)) s₃ →
        LoopStepU h₀ env.locals [s.heap.objs.size] own (J (i + 1)) { s with heap := h₁, toks := tk₁ } .next s₃ := by
      rintro ⟨h', tk, m', news', e, F', N', ho, r⟩
      refine ⟨rfl, h', tk, m', news', e, F', fun p hp => ?_, fun p hp hI => ho p hp (List.mem_singleton.mp hI), r⟩
      rcases List.mem_append.mp hp with hp | hp
      · have h1 : p.1 = s.heap.objs.size := List.mem_singleton.mp (hown p hp)
        have h2 : h₁.get? p.1 = some p.2 := hget p hp
        have h3 : p = (s.heap.objs.size, itZ (a₀ + ((i + 1 : Nat) : Int) * st) ((n : Int) - ((i + 1 : Nat) : Int)) st) := by
          rw [h1, hst'] at h2
          exact Prod.ext h1 (Option.some.inj h2).symm
        rw [h3]; exact N' _ (List.mem_cons_self ..)
      · exact N' _ (List.mem_cons_of_mem _ hp)
    cases f with
    | ret v => exact .ret p
    | brk => exact .brk p
    | next => exact .next (fin p)
    | cont => exact .cont (fin p)
  · rintro h' tk m' news' F' N' _ hJ
    exact done m' news' h' tk hJ F' N'
end
end
section
/-! what the text's defs reckon, as plain functions of rows of ints -/
def rotS (t : List Int) : List Int := [-(t.getD ((-1 : Int) + ((t.length : Nat) : Int)).toNat 0)] ++ t.take (t.length - 1)
def turnS (q : Int) (fs : List Int) (gk : Int) (t : List Int) : List Int :=
  (rangeKs 0 (((fs.length : Nat) : Int) - 0).toNat).map fun j => Int.fmod ((rotS t).getD j.toNat 0 + gk * fs.getD j.toNat 0) q
def timesN (q : Int) (fs gs : List Int) : Nat → List Int
  | 0 => (List.replicate (((fs.length : Nat) : Int)).toNat [(0 : Int)]).flatten
  | i + 1 => turnS q fs (gs.getD (((gs.length : Nat) : Int) - 1 + ((i : Nat) : Int) * -1).toNat 0) (timesN q fs gs i)
def timesS (q : Int) (fs gs : List Int) : List Int := timesN q fs gs gs.length
theorem timesN_length (q : Int) (fs gs : List Int) : ∀ i, (timesN q fs gs i).length = fs.length
  | 0 => by unfold timesN; simp
  | i + 1 => by unfold timesN turnS; rw [List.length_map, rangeKs_length]; omega
/-- a call that makes one list of ints -/
noncomputable def ListPost (N : Led) (cs : List Int) (v : Value) (N' : Led) : Prop :=
  ∃ l vs e, v = .ref l ∧ N' = (l, listOf vs.toArray e) :: N ∧ IntsAre vs cs ∧ LCg.Off1 l N

def stepA (as bs : List Int) (iv jv : Int) (c : List Int) : List Int := c.set (iv + jv).toNat (c.getD (iv + jv).toNat 0 + as.getD iv.toNat 0 * bs.getD jv.toNat 0)
def stepB (as bs : List Int) (n jv iv : Int) (c : List Int) : List Int := c.set (iv + jv - n).toNat (c.getD (iv + jv - n).toNat 0 - as.getD iv.toNat 0 * bs.getD jv.toNat 0)
def inA (as bs : List Int) (iv : Int) (c : List Int) : Nat → List Int
  | 0 => c
  | j + 1 => stepA as bs iv (0 + ((j : Nat) : Int) * 1) (inA as bs iv c j)
def outA (as bs : List Int) (n : Int) : Nat → List Int
  | 0 => (rangeKs 0 (n - 0).toNat).map fun _ => (0 : Int)
  | i + 1 => inA as bs (0 + ((i : Nat) : Int) * 1) (outA as bs n i) (n - (0 + ((i : Nat) : Int) * 1)).toNat
def inB (as bs : List Int) (n jv : Int) (c : List Int) : Nat → List Int
  | 0 => c
  | k + 1 => stepB as bs n jv ((n - jv) + ((k : Nat) : Int) * 1) (inB as bs n jv c k)
def outB (as bs : List Int) (n : Int) : Nat → List Int
  | 0 => outA as bs n n.toNat
  | k + 1 => inB as bs n (1 + ((k : Nat) : Int) * 1) (outB as bs n k) (n - (n - (1 + ((k : Nat) : Int) * 1))).toNat
def schoolS (q n : Int) (as bs : List Int) : List Int := (outB as bs n (n - 1).toNat).map fun c => Int.fmod c q
theorem inA_length (as bs : List Int) (iv : Int) (c : List Int) : ∀ j, (inA as bs iv c j).length = c.length
  | 0 => rfl
  | j + 1 => by unfold inA stepA; rw [List.length_set]; exact inA_length as bs iv c j
theorem outA_length (as bs : List Int) (n : Int) : ∀ i, (outA as bs n i).length = n.toNat
  | 0 => by unfold outA; rw [List.length_map, rangeKs_length]; omega
  | i + 1 => by unfold outA; rw [inA_length]; exact outA_length as bs n i
theorem inB_length (as bs : List Int) (n jv : Int) (c : List Int) : ∀ j, (inB as bs n jv c j).length = c.length
  | 0 => rfl
  | j + 1 => by unfold inB stepB; rw [List.length_set]; exact inB_length as bs n jv c j
theorem outB_length (as bs : List Int) (n : Int) : ∀ i, (outB as bs n i).length = n.toNat
  | 0 => by unfold outB; exact outA_length as bs n _
  | i + 1 => by unfold outB; rw [inB_length]; exact outB_length as bs n i
theorem fr_set {h₀ h : Heap} {L : Addr} {m : Str → Option Value} {x : Str} {v : Value} (F : Fr h₀ L h m) (e : m x = some v) : Fr h₀ L h (fun y => if y = x then some v else m y) := by
  have q : (fun y => if y = x then some v else m y) = m := by
    funext y
    by_cases hy : y = x
    · rw [if_pos hy, hy, e]
    · rw [if_neg hy]
  rw [q]; exact F
theorem set_same {m : Str → Option Value} {x : Str} {v : Value} (e : m x = some v) : (fun y => if y = x then some v else m y) = m := by
  funext y
  by_cases hy : y = x
  · rw [if_pos hy, hy, e]
  · rw [if_neg hy]
theorem fr_set4 {h₀ h : Heap} {L : Addr} {m : Str → Option Value} {x1 x2 x3 x4 : Str} {v1 v2 v3 v4 : Value} (F : Fr h₀ L h m) (e1 : m x1 = some v1) (e2 : m x2 = some v2) (e3 : m x3 = some v3) (e4 : m x4 = some v4) :
    Fr h₀ L h (fun y => if y = x1 then some v1 else if y = x2 then some v2 else if y = x3 then some v3 else if y = x4 then some v4 else m y) := by
  have q : (fun y => if y = x1 then some v1 else if y = x2 then some v2 else if y = x3 then some v3 else if y = x4 then some v4 else m y) = m := by
    funext y
    by_cases h1 : y = x1
    · rw [if_pos h1, h1, e1]
    rw [if_neg h1]
    by_cases h2 : y = x2
    · rw [if_pos h2, h2, e2]
    rw [if_neg h2]
    by_cases h3 : y = x3
    · rw [if_pos h3, h3, e3]
    rw [if_neg h3]
    by_cases h4 : y = x4
    · rw [if_pos h4, h4, e4]
    rw [if_neg h4]
  rw [q]; exact F
theorem fr_set5 {h₀ h : Heap} {L : Addr} {m : Str → Option Value} {x0 x1 x2 x3 x4 : Str} {v0 v1 v2 v3 v4 : Value} (F : Fr h₀ L h m) (e0 : m x0 = some v0) (e1 : m x1 = some v1) (e2 : m x2 = some v2) (e3 : m x3 = some v3) (e4 : m x4 = some v4) :
    Fr h₀ L h (fun y => if y = x0 then some v0 else if y = x1 then some v1 else if y = x2 then some v2 else if y = x3 then some v3 else if y = x4 then some v4 else m y) := by
  have q : (fun y => if y = x0 then some v0 else if y = x1 then some v1 else if y = x2 then some v2 else if y = x3 then some v3 else if y = x4 then some v4 else m y) = m := by
    funext y
    by_cases h0 : y = x0
    · rw [if_pos h0, h0, e0]
    rw [if_neg h0]
    by_cases h1 : y = x1
    · rw [if_pos h1, h1, e1]
    rw [if_neg h1]
    by_cases h2 : y = x2
    · rw [if_pos h2, h2, e2]
    rw [if_neg h2]
    by_cases h3 : y = x3
    · rw [if_pos h3, h3, e3]
    rw [if_neg h3]
    by_cases h4 : y = x4
    · rw [if_pos h4, h4, e4]
    rw [if_neg h4]
  rw [q]; exact F
theorem b_small {a b : Int} (ha : -(2 ^ 62) ≤ a) (ha' : a < 2 ^ 62) (hb : -(2 ^ 62) ≤ b) (hb' : b < 2 ^ 62) : Builtin.Range.small a b 1 = true := by
  unfold Builtin.Range.small
  rw [rangeSize_nat]
  simp only [Builtin.Range.rangeFitsLong, Bool.and_eq_true, Bool.or_eq_true, decide_eq_true_eq, beq_iff_eq, show ((1 : Int) > 0) by decide, if_true]
  omega
local macro_rules | `(tactic| walk_at "exec For Name Call cons nil") => `(tactic| (k_here; k_dflt (refine For_turns (by k_asm) ?_ (by intro _; with_unfolding_all rfl) (by passes_own)); (try k_fold)))
local macro_rules | `(tactic| walk_at "getItem ref int") => `(tactic| (k_here; (with_reducible show wpAny _ _ (getItem (Value.ref _) (Value.int _ _)) _ _ _); k_dflt (refine' ksa_get ?k1 ?k2 ?k3 ?k4 ?k5 ?k6 ?_; (case k1 => k_asm); (case k2 => k_mem); (case k3 => l_ints); (case k4 => first | assumption | top_name); (case k5 => first | assumption | top_name); (case k6 => first | assumption | top_name); k_whole); intro _))
theorem ints_sizeA {vs : List Value} {ns : List Int} (h : IntsAre vs ns) (hl : ns.length ≤ 64) : vs.toArray.size ≤ sizeLine := by rw [List.size_toArray]; exact ints_size h hl
local macro_rules | `(tactic| walk_at "CompSrc") => `(tactic| (k_here; k_dflt (refine' LCg.CompSrc.ledger ?s1 ?s2 ?s3 ?s4 ?s5 ?_; (case s1 => rfl); (case s2 => k_asm); (case s3 => k_asm); (case s4 => k_mem); (case s5 => exact ints_sizeA (by l_ints) (by first | assumption | top_name)); intro g'; (refine' kcf_list _ (by l_ints) (fun k' t' I' oI' C' oC' D' m' ys' h' tk' E' hk' hC' hx' F' N' off' ne' hMark' => ?_) ?_); (all_goals (try (simp only [LCg.Off3, and_true] at off'))); kcf_last)))
end
section
open PySem.Calls
open Sem (wp)
theorem int_add_inst (a : Int) (t : Tok) (l C d : Addr) :
    Meets (Builtin.«int.__add__» ⟨[.int a t, .ref l], []⟩) (fun _ R s => s.heap.get? l = some (instObj C d) ∧ R (.ok (.ret Value.notImplemented)) s) :=
  .of_wp fun prog w A R s h => by obtain ⟨hp, g, d, tk, os⟩ := s; obtain ⟨hl, h⟩ := h; wp_walk; exact ⟨_, rfl, h⟩
theorem int_sub_inst (a : Int) (t : Tok) (l C d : Addr) :
    Meets (Builtin.«int.__sub__» ⟨[.int a t, .ref l], []⟩) (fun _ R s => s.heap.get? l = some (instObj C d) ∧ R (.ok (.ret Value.notImplemented)) s) :=
  .of_wp fun prog w A R s h => by obtain ⟨hp, g, d, tk, os⟩ := s; obtain ⟨hl, h⟩ := h; wp_walk; exact ⟨_, rfl, h⟩
theorem int_mul_inst (a : Int) (t : Tok) (l C d : Addr) :
    Meets (Builtin.«int.__mul__» ⟨[.int a t, .ref l], []⟩) (fun _ R s => s.heap.get? l = some (instObj C d) ∧ R (.ok (.ret Value.notImplemented)) s) :=
  .of_wp fun prog w A R s h => by obtain ⟨hp, g, d, tk, os⟩ := s; obtain ⟨hl, h⟩ := h; wp_walk; exact ⟨_, rfl, h⟩
section
variable {prog : Program} {w : World} {A : Around} {E : Value → Shared → Prop} {s : Shared} {K : Frag} {x C L f dx : Addr} {h₀ : Heap} {m : Str → Option Value} {od : Option Obj} {nm T : String}
theorem ksp_fillsR {M : Model} {h : Heap} {cd : ClassData} {rest : List Value} (X : K.In h) (hc : clsIn K C = some cd) (hm : cd.mro = .ref C :: rest) (hs : findIn K (.ref C) (PySem.dunder nm) = some (some (.ref f))) : Looks M h (fillsNumberSlot (.ref C) nm) true := fills_K X hc hm hs
theorem ksp_rbin {op : Operator} {v : Int} {t : Tok} {f' : Addr} {ro : Option Value} {id : String} {Q : Value → Shared → Prop} (F : Fr h₀ L s.heap m) (X₀ : K.In h₀) (I : InstAt s.heap x (instObj C dx) C od) (hc : selfFirst K C = true)
    (hs : findIn K (.ref C) (PySem.dunder op.info.2) = some (some (.ref f'))) (hr : findIn K (.ref C) (dunderR op.info.2) = some (some (.ref f))) (hf : isFn K (.ref f) = true)
    (h1 : findIn K (.type "int") (PySem.dunder op.info.2) = some (some (.builtin id))) (h2 : findIn K (.type "int") (dunderR op.info.2) = some ro) (hq : isSeqSlot (some (.builtin id)) = false) (hsub : subIn K (.ref C) (.type "int") = some false)
    (hsl : Slot "int" (dunder op.info.2) id)
    (hd : ∀ (R : Value → Shared → Prop) (E' : Value → Shared → Prop), R .notImplemented s → wpAny (model prog w) A (call (.builtin id) [.int v t, .ref x]) R E' s)
    (h : wpAny (model prog w) A (call (.ref f) [.ref x, .int v t]) (W.CmpBack Q) E s) : wpAny (model prog w) A (binaryOp op (.int v t) (.ref x)) Q E s := by
  refine' lite ?lw ?lx ?le
  case lw =>
    have X := X₀.keeps F.keep
    obtain ⟨cd, rest, hcd, hm⟩ := ksp_first hc
    rcases hi : op.info with ⟨sym, nm'⟩
    rw [hi] at hs hr h1 h2 hsl
    dsimp only at hs hr h1 h2 hsl
    have one := ksp_try X I hr hf h
    have dec : ∀ (R : Option Value → Shared → Prop) (E' : Value → Shared → Prop), R none s → wpAny (model prog w) A (tryMethod (.int v t) (dunder nm') (.ref x)) R E' s := fun R E' hR =>
      wpAny_tryMethod_declines (typeIs_int s v t) hsl (hd _ _ ⟨rfl, hR⟩)
    obtain ⟨hh, g, d, tt, os⟩ := s
    have L1 : Looks (model prog w) hh (typeOf (.ref x)) (.ref C) := I.type
    have L2 : Looks (model prog w) hh (typeOf (.int v t)) (.type "int") := Looks.of_pure rfl
    have L3 : Looks (model prog w) hh (fillsNumberSlot (.ref C) nm') true := fills_K X hcd hm hs
    have L4 : Looks (model prog w) hh (fillsNumberSlot (.type "int") nm') true := by
      have z : Looks (model prog w) hh (fillsNumberSlot (.type "int") nm') (((some (Value.builtin id)).isSome && !isSeqSlot (some (.builtin id))) || (ro.isSome && !isSeqSlot ro)) := ksp_fillsT X h1 h2
      rw [hq] at z
      exact z
    have L5 : Looks (model prog w) hh (isSubtype (.ref C) (.type "int")) false := looks_subIn X hsub
    have L7 : Looks (model prog w) hh (numberSlotInPython (.type "int") nm') false := Looks.of_pure rfl
    have hne : (Value.type "int" == Value.ref C) = false := Bool.eq_false_iff.mpr fun q => by cases beq_iff_eq.mp q
    simp only [binaryOp, hi]
    refine wpAny_holding (wpAny_bind ?_)
    unfold binaryOp1
    refine wpAny_bind (L2.at (wpAny_bind (L1.at (wpAny_bind (L4.at ?_)))))
    simp only [hne, Bool.false_eq_true, if_false]
    ksp_lk
    refine dec _ _ ?_
    ksp_lk
    refine wpAny_mono one (fun r s' hr' => ?_) fun _ _ e => e
    obtain ⟨v, rfl, hq⟩ := hr'
    ksp_lk
    exact hq
  case lx => intro hk; simpa only using hk (0 : Nat)
  case le => eq_refl
theorem rbin_add {v : Int} {t : Tok} {f' : Addr} {ro : Option Value} {Q : Value → Shared → Prop} (F : Fr h₀ L s.heap m) (X₀ : K.In h₀) (I : InstAt s.heap x (instObj C dx) C od) (hc : selfFirst K C = true)
    (hs : findIn K (.ref C) (PySem.dunder Operator.Add.info.2) = some (some (.ref f'))) (hr : findIn K (.ref C) (dunderR Operator.Add.info.2) = some (some (.ref f))) (hf : isFn K (.ref f) = true)
    (h1 : findIn K (.type "int") (PySem.dunder Operator.Add.info.2) = some (some (.builtin "int.__add__"))) (h2 : findIn K (.type "int") (dunderR Operator.Add.info.2) = some ro) (hsub : subIn K (.ref C) (.type "int") = some false)
    (h : wpAny (model prog w) A (call (.ref f) [.ref x, .int v t]) (W.CmpBack Q) E s) : wpAny (model prog w) A (binaryOp .Add (.int v t) (.ref x)) Q E s :=
  ksp_rbin F X₀ I hc hs hr hf h1 h2 (by decide +kernel) hsub PySem.F.slot_int_add (fun _ _ hR => call_meets PySem.F.slot_int_add (typeIs_int _ _ _) PySem.F.entry_int_add (PySem.F.args_int_add_2 _ _) (int_add_inst _ _ _ _ _) ⟨I.at_, hR⟩) h
theorem rbin_sub {v : Int} {t : Tok} {f' : Addr} {ro : Option Value} {Q : Value → Shared → Prop} (F : Fr h₀ L s.heap m) (X₀ : K.In h₀) (I : InstAt s.heap x (instObj C dx) C od) (hc : selfFirst K C = true)
    (hs : findIn K (.ref C) (PySem.dunder Operator.Sub.info.2) = some (some (.ref f'))) (hr : findIn K (.ref C) (dunderR Operator.Sub.info.2) = some (some (.ref f))) (hf : isFn K (.ref f) = true)
    (h1 : findIn K (.type "int") (PySem.dunder Operator.Sub.info.2) = some (some (.builtin "int.__sub__"))) (h2 : findIn K (.type "int") (dunderR Operator.Sub.info.2) = some ro) (hsub : subIn K (.ref C) (.type "int") = some false)
    (h : wpAny (model prog w) A (call (.ref f) [.ref x, .int v t]) (W.CmpBack Q) E s) : wpAny (model prog w) A (binaryOp .Sub (.int v t) (.ref x)) Q E s :=
  ksp_rbin F X₀ I hc hs hr hf h1 h2 (by decide +kernel) hsub PySem.F.slot_int_sub (fun _ _ hR => call_meets PySem.F.slot_int_sub (typeIs_int _ _ _) PySem.F.entry_int_sub (PySem.F.args_int_sub_2 _ _) (int_sub_inst _ _ _ _ _) ⟨I.at_, hR⟩) h
theorem rbin_mul {v : Int} {t : Tok} {f' : Addr} {ro : Option Value} {Q : Value → Shared → Prop} (F : Fr h₀ L s.heap m) (X₀ : K.In h₀) (I : InstAt s.heap x (instObj C dx) C od) (hc : selfFirst K C = true)
    (hs : findIn K (.ref C) (PySem.dunder Operator.Mult.info.2) = some (some (.ref f'))) (hr : findIn K (.ref C) (dunderR Operator.Mult.info.2) = some (some (.ref f))) (hf : isFn K (.ref f) = true)
    (h1 : findIn K (.type "int") (PySem.dunder Operator.Mult.info.2) = some (some (.builtin "int.__mul__"))) (h2 : findIn K (.type "int") (dunderR Operator.Mult.info.2) = some ro) (hsub : subIn K (.ref C) (.type "int") = some false)
    (h : wpAny (model prog w) A (call (.ref f) [.ref x, .int v t]) (W.CmpBack Q) E s) : wpAny (model prog w) A (binaryOp .Mult (.int v t) (.ref x)) Q E s :=
  ksp_rbin F X₀ I hc hs hr hf h1 h2 (by decide +kernel) hsub PySem.F.slot_int_mul (fun _ _ hR => call_meets PySem.F.slot_int_mul (typeIs_int _ _ _) PySem.F.entry_int_mul (PySem.F.args_int_mul_2 _ _) (int_mul_inst _ _ _ _ _) ⟨I.at_, hR⟩) h
end
local macro_rules | `(tactic| walk_at "binaryOp Add int ref") => `(tactic| (k_here; (with_reducible show wpAny _ _ (binaryOp Operator.Add (Value.int _ _) (Value.ref _)) _ _ _); k_dflt (refine' rbin_add ?F ?X ?I ?hC ?hS ?hR ?hF ?h1 ?h2 ?hU ?_; (case F => k_asm); (case X => k_asm); (case I => k_inst); (case hC => k_is); (case hS => k_is); (case hR => k_is); (case hF => k_is); (case h1 => k_is); (case h2 => k_is); (case hU => k_is); k_whole)))
local macro_rules | `(tactic| walk_at "binaryOp Sub int ref") => `(tactic| (k_here; (with_reducible show wpAny _ _ (binaryOp Operator.Sub (Value.int _ _) (Value.ref _)) _ _ _); k_dflt (refine' rbin_sub ?F ?X ?I ?hC ?hS ?hR ?hF ?h1 ?h2 ?hU ?_; (case F => k_asm); (case X => k_asm); (case I => k_inst); (case hC => k_is); (case hS => k_is); (case hR => k_is); (case hF => k_is); (case h1 => k_is); (case h2 => k_is); (case hU => k_is); k_whole)))
local macro_rules | `(tactic| walk_at "binaryOp Mult int ref") => `(tactic| (k_here; (with_reducible show wpAny _ _ (binaryOp Operator.Mult (Value.int _ _) (Value.ref _)) _ _ _); k_dflt (refine' rbin_mul ?F ?X ?I ?hC ?hS ?hR ?hF ?h1 ?h2 ?hU ?_; (case F => k_asm); (case X => k_asm); (case I => k_inst); (case hC => k_is); (case hS => k_is); (case hR => k_is); (case hF => k_is); (case h1 => k_is); (case h2 => k_is); (case hU => k_is); k_whole)))
theorem mulok_mem_r {xs : List Int} {q b c : Int} (hm : c ∈ xs) (h : ∀ c ∈ xs, 0 ≤ c ∧ c < q) (hq2 : q < 2 ^ 33) : IntMulOk b c := by
  have z := h c hm
  exact IntMulOk.of_right (intBits_le_64 (by omega) (by omega))
local macro_rules | `(tactic| walk_at "binaryOp Mult int int") => `(tactic| (k_here; with_reducible refine PyProof.Rows.mul_int ?_ (mulok_mem_r (by assumption) (by assumption) (by assumption))))
end
section
theorem ring_call {w : World} {N : Led} {r l : Addr} {q n : Int} {ns : List Int} (hR : Ring w N r q n) (hL : Ints N l ns) (hlen : (ns.length : Int) = n) (hn : n ≤ 4) :
   Ctr w 6 56 [.ref r, .ref l] N (fun v N' => ∃ x dx t1 t2, v = .ref x ∧ N' = (x, instObj 227 dx) :: (dx, dictOf [⟨PyData.keyHash w.params (Str.ofString "parent"), .str (Str.ofString "parent") t1, .ref r⟩, ⟨PyData.keyHash w.params (Str.ofString "coeffs"), .str (Str.ofString "coeffs") t2, .ref l⟩] 2) :: N ∧ PyProof.Rows.LCg.Off1 dx N ∧ PyProof.Rows.LCg.Off1 x N ∧ x ≠ dx) := by
  refine' lite ?lw ?lx ?le
  case lw =>
    unfold Ctr
    k_fill
    intro p loose mean mg mb dp un gd cn cs a ccd cl outer A₀ base h₀ L m s R B F X N₀ T hk hdp hun hret
    obtain ⟨dr, k3, k4, tq, tn, e3, hr, hdr⟩ := hR
    obtain ⟨vs, e1, hl, hI⟩ := hL
    k_dflt (refine' code_def ?k1 ?k2 ?k3 ?k4 ?k5 ?kA ?kF ?kK ?k6 ?k7 ?k8 ?k9 ?kB ?_ ?c2 ?c3 ?c4 ?c5; (case kA => exact rfl); (case kF => exact rfl); (case kK => assumption); (case k1 => k_asm); (case k2 => k_asm); (case k3 => k_asm); (case k4 => k_asm); (case k5 => k_asm); (case k6 => k_is); (case k7 => k_is); (case k8 => k_room); (case k9 => exact BindsTo.of_eq rfl); (case c5 => decide); (case kB => exact locs rfl); (case c2 => exact rfl); (case c3 => exact rfl); (case c4 => exact rfl); k_whole)
    intro g₁ L₁ h₁ FG₁ F₁ N₁ B₁ X₁ T₁
    (try dsimp only)
    (try k_fold)
    k_steps
    exact hret _ _ _ _ (by k_asm) (by k_asm) ⟨_, _, _, _, rfl, rfl, by top_strB, by top_strB, by k_ne⟩
  
  case lx => intro hk; simpa only using hk (0 : Nat)
  case le => eq_refl
local macro_rules | `(tactic| k_enter) => `(tactic| ((with_reducible show codeAny _ _ (Code.call (Value.ref 56) ⟨[Value.ref _, Value.ref _], _⟩) _ _); k_dflt (refine' Ctr.use (ring_call ?c0 ?c1 ?c2 ?c3) ?k1 ?k2 ?k3 ?k4 ?k5 ?kK ?kd ?ku ?_; (case k1 => k_asm); (case k2 => k_asm); (case k3 => k_asm); (case k4 => k_asm); (case k5 => k_asm); (case kK => first | exact rfl | assumption); (case c0 => exact ⟨_, _, _, _, _, _, by k_mem, by k_mem⟩); (case c1 => exact ⟨_, _, by k_mem, by l_ints⟩); (case c2 => ktr_rel); (case c3 => ktr_rel); (case kd => k_room); (case ku => k_units); k_whole; intro v' h' tk' nw' F' N' cP'; obtain ⟨x', d', t1', t2', hv', hn', o1', o2', n1'⟩ := cP'; subst hv'; subst hn'; (try dsimp only); kts_tail; (try k_sweep))))
end
end
section
local macro_rules | `(tactic| k_mem) => `(tactic| ((fail_if_success (with_reducible refine' List.Mem.tail _ ?_)); first | with_reducible assumption | assumption | (refine sub_mem (by assumption) ?_; k_mem)))
local macro_rules | `(tactic| news_mem) => `(tactic| k_mem)
local macro_rules | `(tactic| k_room) => `(tactic| ((simp only [depth_under_make, depth_under_kw, depth_in1, depth_deeper, depth_caller, recursionLimit] at *); omega))
local macro_rules | `(tactic| k_units) => `(tactic| ((have hcL9 := cLine_is); (simp only [units_in1, units_deeper, Around.mark_units, units_caller, cLine] at *); omega))
local macro_rules | `(tactic| allgen_close2_more) => `(tactic| assumption)
local macro_rules | `(tactic| ktr_rel) => `(tactic| ((try simp only [List.length_append, List.length_cons, List.length_nil, List.length_map, List.length_set, List.length_zipWith, rangeKs_length]); first | assumption | omega))
local macro_rules | `(tactic| top_reprB) => `(tactic| first | exact List.forall_mem_nil _ | (refine List.forall_mem_cons.mpr ⟨by k_mem, ?_⟩; top_reprB) | (intro p hp; k_mem))
local macro_rules | `(tactic| k_ne) => `(tactic| (refine neN ?_; (try dsimp only); first | (with_reducible assumption) | exact Ne.symm (by with_reducible assumption) | exact off_ne (by with_reducible assumption) (by k_mem) | exact Ne.symm (off_ne (by with_reducible assumption) (by k_mem)) | omega))
local macro_rules | `(tactic| top_strB) => `(tactic| first | (first | assumption | exact allLt_of (by assumption) | exact And.right (by assumption) | exact And.right (And.right (by assumption)) | exact And.right (And.right (And.right (by assumption))) | exact And.right (And.right (And.right (And.right (by assumption)))) | exact And.right (And.right (And.right (And.right (And.right (by assumption))))) | exact And.right (And.right (And.right (And.right (And.right (And.right (by assumption)))))) | exact And.right (And.right (And.right (And.right (And.right (And.right (And.right (by assumption))))))) | exact And.right (And.right (And.right (And.right (And.right (And.right (And.right (And.right (by assumption)))))))) | exact And.right (And.right (And.right (And.right (And.right (And.right (And.right (And.right (And.right (by assumption))))))))) | exact And.right (And.right (And.right (And.right (And.right (And.right (And.right (And.right (And.right (And.right (by assumption)))))))))) | exact And.right (And.right (And.right (And.right (And.right (And.right (And.right (And.right (And.right (And.right (And.right (by assumption))))))))))) | exact And.right (And.right (And.right (And.right (And.right (And.right (And.right (And.right (And.right (And.right (And.right (And.right (by assumption)))))))))))) | exact And.right (And.right (And.right (And.right (And.right (And.right (And.right (And.right (And.right (And.right (And.right (And.right (And.right (by assumption))))))))))))) | exact And.right (And.right (And.right (And.right (And.right (And.right (And.right (And.right (And.right (And.right (And.right (And.right (And.right (And.right (by assumption)))))))))))))) | exact And.right (And.right (And.right (And.right (And.right (And.right (And.right (And.right (And.right (And.right (And.right (And.right (And.right (And.right (And.right (by assumption))))))))))))))) | exact And.right (And.right (And.right (And.right (And.right (And.right (And.right (And.right (And.right (And.right (And.right (And.right (And.right (And.right (And.right (And.right (by assumption)))))))))))))))) | exact And.right (And.right (And.right (And.right (And.right (And.right (And.right (And.right (And.right (And.right (And.right (And.right (And.right (And.right (And.right (And.right (And.right (by assumption))))))))))))))))) | exact And.right (And.right (And.right (And.right (And.right (And.right (And.right (And.right (And.right (And.right (And.right (And.right (And.right (And.right (And.right (And.right (And.right (And.right (by assumption)))))))))))))))))) | exact And.right (And.right (And.right (And.right (And.right (And.right (And.right (And.right (And.right (And.right (And.right (And.right (And.right (And.right (And.right (And.right (And.right (And.right (And.right (by assumption)))))))))))))))))))) | exact off_sub (by with_reducible assumption) (by top_reprB) | exact off_of_lt (by (first | assumption | exact allLt_of (by assumption) | exact And.right (by assumption) | exact And.right (And.right (by assumption)) | exact And.right (And.right (And.right (by assumption))) | exact And.right (And.right (And.right (And.right (by assumption)))) | exact And.right (And.right (And.right (And.right (And.right (by assumption))))) | exact And.right (And.right (And.right (And.right (And.right (And.right (by assumption)))))) | exact And.right (And.right (And.right (And.right (And.right (And.right (And.right (by assumption))))))) | exact And.right (And.right (And.right (And.right (And.right (And.right (And.right (And.right (by assumption)))))))) | exact And.right (And.right (And.right (And.right (And.right (And.right (And.right (And.right (And.right (by assumption))))))))) | exact And.right (And.right (And.right (And.right (And.right (And.right (And.right (And.right (And.right (And.right (by assumption)))))))))) | exact And.right (And.right (And.right (And.right (And.right (And.right (And.right (And.right (And.right (And.right (And.right (by assumption))))))))))) | exact And.right (And.right (And.right (And.right (And.right (And.right (And.right (And.right (And.right (And.right (And.right (And.right (by assumption)))))))))))) | exact And.right (And.right (And.right (And.right (And.right (And.right (And.right (And.right (And.right (And.right (And.right (And.right (And.right (by assumption))))))))))))) | exact And.right (And.right (And.right (And.right (And.right (And.right (And.right (And.right (And.right (And.right (And.right (And.right (And.right (And.right (by assumption)))))))))))))) | exact And.right (And.right (And.right (And.right (And.right (And.right (And.right (And.right (And.right (And.right (And.right (And.right (And.right (And.right (And.right (by assumption))))))))))))))) | exact And.right (And.right (And.right (And.right (And.right (And.right (And.right (And.right (And.right (And.right (And.right (And.right (And.right (And.right (And.right (And.right (by assumption)))))))))))))))) | exact And.right (And.right (And.right (And.right (And.right (And.right (And.right (And.right (And.right (And.right (And.right (And.right (And.right (And.right (And.right (And.right (And.right (by assumption))))))))))))))))) | exact And.right (And.right (And.right (And.right (And.right (And.right (And.right (And.right (And.right (And.right (And.right (And.right (And.right (And.right (And.right (And.right (And.right (And.right (by assumption)))))))))))))))))) | exact And.right (And.right (And.right (And.right (And.right (And.right (And.right (And.right (And.right (And.right (And.right (And.right (And.right (And.right (And.right (And.right (And.right (And.right (And.right (by assumption))))))))))))))))))))) | exact off_of_lt2 (by (first | assumption | exact allLt_of (by assumption) | exact And.right (by assumption) | exact And.right (And.right (by assumption)) | exact And.right (And.right (And.right (by assumption))) | exact And.right (And.right (And.right (And.right (by assumption)))) | exact And.right (And.right (And.right (And.right (And.right (by assumption))))) | exact And.right (And.right (And.right (And.right (And.right (And.right (by assumption)))))) | exact And.right (And.right (And.right (And.right (And.right (And.right (And.right (by assumption))))))) | exact And.right (And.right (And.right (And.right (And.right (And.right (And.right (And.right (by assumption)))))))) | exact And.right (And.right (And.right (And.right (And.right (And.right (And.right (And.right (And.right (by assumption))))))))) | exact And.right (And.right (And.right (And.right (And.right (And.right (And.right (And.right (And.right (And.right (by assumption)))))))))) | exact And.right (And.right (And.right (And.right (And.right (And.right (And.right (And.right (And.right (And.right (And.right (by assumption))))))))))) | exact And.right (And.right (And.right (And.right (And.right (And.right (And.right (And.right (And.right (And.right (And.right (And.right (by assumption)))))))))))) | exact And.right (And.right (And.right (And.right (And.right (And.right (And.right (And.right (And.right (And.right (And.right (And.right (And.right (by assumption))))))))))))) | exact And.right (And.right (And.right (And.right (And.right (And.right (And.right (And.right (And.right (And.right (And.right (And.right (And.right (And.right (by assumption)))))))))))))) | exact And.right (And.right (And.right (And.right (And.right (And.right (And.right (And.right (And.right (And.right (And.right (And.right (And.right (And.right (And.right (by assumption))))))))))))))) | exact And.right (And.right (And.right (And.right (And.right (And.right (And.right (And.right (And.right (And.right (And.right (And.right (And.right (And.right (And.right (And.right (by assumption)))))))))))))))) | exact And.right (And.right (And.right (And.right (And.right (And.right (And.right (And.right (And.right (And.right (And.right (And.right (And.right (And.right (And.right (And.right (And.right (by assumption))))))))))))))))) | exact And.right (And.right (And.right (And.right (And.right (And.right (And.right (And.right (And.right (And.right (And.right (And.right (And.right (And.right (And.right (And.right (And.right (And.right (by assumption)))))))))))))))))) | exact And.right (And.right (And.right (And.right (And.right (And.right (And.right (And.right (And.right (And.right (And.right (And.right (And.right (And.right (And.right (And.right (And.right (And.right (And.right (by assumption))))))))))))))))))))) (by omega) | exact off_of_base (by assumption) (by omega))
local macro_rules | `(tactic| k_all) => `(tactic| (refine off_all ?_; top_strB))
local macro_rules | `(tactic| walk_at "getMethod ref") => `(tactic| (k_here; k_dflt (refine' kmu_own ?k1 ?k2 ?k3 ?k4 ?k5 ?_; (case k1 => k_asm); (case k2 => k_asm); (case k3 => k_inst); (case k4 => k_is); (case k5 => k_is); k_whole)))
local macro_rules | `(tactic| walk_at "binaryOp Mult int int") => `(tactic| (k_here; with_reducible first | refine PyProof.Rows.mul_int ?_ (mulok_getD (by assumption) (by assumption) (by assumption)) | refine PyProof.Rows.mul_int ?_ (mulok_mem (by assumption) (by assumption) (by assumption))))
local macro_rules | `(tactic| top_name) => `(tactic| (law_purse 40000 => (law_clear; (repeat (with_reducible rename (@Ne Nat _ _) ∧ _ => hne9; clear hne9)); (repeat (with_reducible rename (@LT.lt Nat _ _ _) ∧ _ => hne9; clear hne9)); (repeat (with_reducible rename (@Ne Nat _ _) => hne9; clear hne9)); (try simp only [List.length_append, List.length_cons, List.length_nil, List.length_map, List.length_take, List.length_set, List.length_zipWith, rangeKs_length]); omega)))
local macro_rules | `(tactic| walk_at "subscriptTail Name Name ref int") => `(tactic| ((k_here; (with_reducible show wpAny _ _ (subscriptTail _ _ (Value.ref _) (Value.int _ _)) _ _ _); (with_unfolding_all refine' item_list_ints ?k1 ?k2 ?k3 ?k4 ?k5 ?_; (case k1 => exact News.isList (by k_asm) (by k_mem)); (case k2 => l_ints); (case k3 => first | assumption | top_name); (case k4 => first | assumption | exact idx_hi (by assumption) (by first | assumption | exact Nat.le_refl _) | top_name); (case k5 => first | assumption | exact idx_fit (by assumption) (by assumption) | top_name); k_whole); intro _)))
local macro_rules | `(tactic| walk_at "subscriptTail Name BinOp ref int") => `(tactic| ((k_here; (with_reducible show wpAny _ _ (subscriptTail _ _ (Value.ref _) (Value.int _ _)) _ _ _); (with_unfolding_all refine' item_list_ints ?k1 ?k2 ?k3 ?k4 ?k5 ?_; (case k1 => exact News.isList (by k_asm) (by k_mem)); (case k2 => l_ints); (case k3 => first | assumption | top_name); (case k4 => first | assumption | exact idx_hi (by assumption) (by first | assumption | exact Nat.le_refl _) | top_name); (case k5 => first | assumption | exact idx_fit (by assumption) (by assumption) | top_name); k_whole); intro _)))
local macro_rules | `(tactic| walk_at "call builtin:list.copy") => `(tactic| (k_here; (with_reducible show wpAny _ _ (call (Value.builtin _) [Value.ref _]) _ _ _); k_dflt (refine' copyK ?k1 ?k2 ?k3 ?k4 ?_; (case k1 => k_asm); (case k2 => k_asm); (case k3 => exact News.isList (by k_asm) (by k_mem)); (case k4 => exact ints_size (by l_ints) (by top_name)); k_whole); intro D' h' F' N' l1; (try k_lt l1); (try k_sweep)))
local macro_rules | `(tactic| walk_at "setItem ref int") => `(tactic| (k_here; (with_reducible show wpAny _ _ (setItem (Value.ref _) (Value.int _ _) (Value.int _ _)) _ _ _); k_dflt (refine' ksa_set ?k1 ?k2 ?k3 ?k4 ?k5 ?k6 ?k7 ?_; (case k1 => k_asm); (case k2 => k_asm); (case k3 => k_upd); (case k4 => l_ints); (case k5 => first | assumption | top_name); (case k6 => first | assumption | top_name); (case k7 => first | assumption | top_name); k_whole); intro h' F' N' hi' hl' hs'; clear hs'; (try k_sweep)))
local macro_rules | `(tactic| walk_at "callWith ref") => `(tactic| (k_here; kco_here; k_dflt (refine' kco_callWith ?k1 ?k2 ?k3 ?k4 ?_; (case k1 => k_in); (case k2 => k_inst); (case k3 => rfl); (case k4 => k_is); k_whole)))
local macro_rules | `(tactic| allgen_close_more) => `(tactic| first | k_asm | (refine' cb_drop ?cbN ?cbS; (case cbN => assumption); (case cbS => top_reprB)))
local macro_rules | `(tactic| walk_at "exec For Name Call cons nil") => `(tactic| (k_here; k_dflt (refine For_turns (by k_asm) ?_ (by intro _; with_unfolding_all rfl) (by passes_own)); (try k_fold)))
local macro_rules | `(tactic| walk_at "getItem ref int") => `(tactic| (k_here; (with_reducible show wpAny _ _ (getItem (Value.ref _) (Value.int _ _)) _ _ _); k_dflt (refine' ksa_get ?k1 ?k2 ?k3 ?k4 ?k5 ?k6 ?_; (case k1 => k_asm); (case k2 => k_mem); (case k3 => l_ints); (case k4 => first | assumption | top_name); (case k5 => first | assumption | top_name); (case k6 => first | assumption | top_name); k_whole); intro _))
local macro_rules | `(tactic| walk_at "CompSrc") => `(tactic| (k_here; k_dflt (refine' LCg.CompSrc.ledger ?s1 ?s2 ?s3 ?s4 ?s5 ?_; (case s1 => rfl); (case s2 => k_asm); (case s3 => k_asm); (case s4 => k_mem); (case s5 => exact ints_sizeA (by l_ints) (by first | assumption | top_name)); intro g'; (refine' kcf_list _ (by l_ints) (fun k' t' I' oI' C' oC' D' m' ys' h' tk' E' hk' hC' hx' F' N' off' ne' hMark' => ?_) ?_); (all_goals (try (simp only [LCg.Off3, and_true] at off'))); kcf_last)))
section
theorem schoolS_length (q n : Int) (as bs : List Int) : (schoolS q n as bs).length = n.toNat := by unfold schoolS; rw [List.length_map, outB_length]
theorem fmod_bnd (c : Int) {q : Int} (hq : 2 ≤ q) : 0 ≤ Int.fmod c q ∧ Int.fmod c q < q := ⟨fmod_lo c (by omega), fmod_hi c (by omega)⟩
theorem map_bnd {q : Int} (hq : 2 ≤ q) (l : List Int) (g : Int → Int) : ∀ c ∈ l.map (fun c => Int.fmod (g c) q), 0 ≤ c ∧ c < q := by
  intro c hc
  obtain ⟨a, _, rfl⟩ := List.mem_map.mp hc
  exact fmod_bnd _ hq
theorem school_bnd {q n : Int} (hq : 2 ≤ q) (as bs : List Int) : ∀ c ∈ schoolS q n as bs, 0 ≤ c ∧ c < q := map_bnd hq _ fun c => c
def oneS (n : Int) : List Int := [1] ++ (rangeKs 0 (n - 1 - 0).toNat).map fun _ => (0 : Int)
theorem one_bnd {q n : Int} (hq : 2 ≤ q) : ∀ c ∈ ([1] ++ (rangeKs 0 (n - 1 - 0).toNat).map fun _ => (0 : Int)), 0 ≤ c ∧ c < q := by
  intro c hc
  rcases List.mem_append.mp hc with h | h
  · rw [List.mem_singleton.mp h]; omega
  · obtain ⟨_, _, rfl⟩ := List.mem_map.mp h; omega
def powG (q n : Int) : Nat → Int → List Int → List Int → List Int
  | 0, _, _, g => g
  | k + 1, e, f, g => if 0 < e then powG q n k (e / 2) (schoolS q n f f) (if e % 2 = 1 then schoolS q n g f else g) else g
def powS (q n : Int) (f : List Int) (e : Int) : List Int := powG q n 3 e f (oneS n)
theorem turnS_length (q : Int) (fs : List Int) (g : Int) (t : List Int) : (turnS q fs g t).length = fs.length := by unfold turnS; rw [List.length_map, rangeKs_length]; omega
theorem timesS_length (q : Int) (fs gs : List Int) : (timesS q fs gs).length = fs.length := timesN_length q fs gs _
theorem times_bnd {q : Int} (hq : 2 ≤ q) (fs gs : List Int) : ∀ c ∈ timesS q fs gs, 0 ≤ c ∧ c < q := by
  unfold timesS
  cases gs.length with
  | zero =>
    intro c hc
    unfold timesN at hc
    obtain ⟨l, hl, hc⟩ := List.mem_flatten.mp hc
    rw [List.eq_of_mem_replicate hl] at hc
    rw [List.mem_singleton.mp hc]; omega
  | succ i => unfold timesN turnS; exact map_bnd hq _ _
theorem zip_bnd {q : Int} (hq : 2 ≤ q) (g : Int → Int → Int) : ∀ (as bs : List Int), ∀ c ∈ List.zipWith (fun a b => Int.fmod (g a b) q) as bs, 0 ≤ c ∧ c < q
  | [], _ => by intro c hc; simp at hc
  | _ :: _, [] => by intro c hc; simp at hc
  | a :: as, b :: bs => by
    intro c hc
    rw [List.zipWith_cons_cons] at hc
    rcases List.mem_cons.mp hc with rfl | hc
    · exact fmod_bnd _ hq
    · exact zip_bnd hq g as bs c hc
theorem set_bnd {q x : Int} {as : List Int} {i : Nat} (hq : 2 ≤ q) (h : ∀ c ∈ as, 0 ≤ c ∧ c < q) : ∀ c ∈ as.set i (Int.fmod x q), 0 ≤ c ∧ c < q := by
  intro c hc
  rcases List.mem_or_eq_of_mem_set hc with hc | rfl
  · exact h c hc
  · exact fmod_bnd _ hq
/-- a call that gives back a pair: a new polynomial, a new row -/
noncomputable def PairPost (w : World) (N : Led) (r : Addr) (cs ds : List Int) (v : Value) (N' : Led) : Prop :=
  ∃ u x dx l t1 t2 vs e l2 us e2, v = .ref u ∧ N' = (u, { cls := .type "tuple", data := .seq #[.ref x, .ref l2] 0 }) :: (l2, listOf us.toArray e2) :: polyLed w r x dx l t1 t2 vs e N ∧ IntsAre vs cs ∧ IntsAre us ds ∧ LCg.Off1 x N ∧ LCg.Off1 dx N ∧ LCg.Off1 l N ∧ LCg.Off1 l2 N ∧ LCg.Off1 u N
local macro_rules | `(tactic| allgen_close2_more) => `(tactic| first | assumption | exact school_bnd (by assumption) _ _ | exact one_bnd (by assumption) | exact times_bnd (by assumption) _ _ | exact map_bnd (by assumption) _ _ | exact zip_bnd (by assumption) _ _ _ | exact set_bnd (by assumption) (by allgen_close2_more))
local macro_rules | `(tactic| ktr_rel) => `(tactic| ((simp only [List.length_append, List.length_cons, List.length_nil, List.length_map, List.length_set, List.length_zipWith, rangeKs_length, schoolS_length, timesS_length]); omega))
end
section
open PyProof.Rows.LCg PySem.Spec PySem.Calls
section
variable {prog : Program} {w : World} {A : Around} {E : Value → Shared → Prop} {s : Shared} {h₀ : Heap} {L : Addr} {m : Str → Option Value} {env : Env}

/-- what holds of an element of a comprehension over pairs of ints: an int, nothing that stands is turned -/
def PairElt (prog : Program) (w : World) (A : Around) (h₀ : Heap) (L : Addr) (m : Str → Option Value) (env : Env) (elt : PySem.Expr) (a b : Str) (scope : Scope) (cl : List (Str × Addr)) (news : Led) (g : Int → Int → Int) : Prop :=
  ∀ (x y : Int) (tx ty : Tok) (C : Addr) (oC : Obj) (D : Addr) (ys : List Value) (m₂ : Str → Option Value) (M : Led) (s : Shared) (E' : Value → Shared → Prop), NsObj oC m₂ → m₂ a = some (.int x tx) → m₂ b = some (.int y ty) → (∀ p ∈ news, p ∈ M) →
    Fr h₀ L s.heap m → News h₀ L s.heap ((C, oC) :: (D, lst ys) :: M) →
    wpAny (model prog w) A (eval elt (compEnvC scope cl C env)) (fun v s' => ∃ h' tk' t, s' = { s with heap := h', toks := tk' } ∧ v = .int (g x y) t ∧ Fr h₀ L h' m ∧ News h₀ L h' ((C, oC) :: (D, lst ys) :: M)) E' s

/-- all that stands at the places fp -/
def standing (h : Heap) (fp : List Addr) : Led := fp.filterMap fun b => (h.get? b).map fun o => (b, o)
theorem standing_mem {h : Heap} {fp : List Addr} {b : Addr} {o : Obj} (hb : b ∈ fp) (e : h.get? b = some o) : (b, o) ∈ standing h fp :=
  List.mem_filterMap.mpr ⟨b, hb, by rw [e]; rfl⟩
theorem standing_of {h : Heap} {fp : List Addr} {p : Addr × Obj} (hp : p ∈ standing h fp) : p.1 ∈ fp ∧ h.get? p.1 = some p.2 := by
  obtain ⟨b, hb, e⟩ := List.mem_filterMap.mp hp
  cases q : h.get? b with
  | none => rw [q] at e; cases e
  | some o => rw [q] at e; cases e; exact ⟨hb, q⟩

theorem pair_block {elt iter : PySem.Expr} {a b : Str} {pa pb tp : Pos} {kk : Nat} {scope : Scope} {cl : List (Str × Addr)} {pos : Pos} {s₂ : Shared} {I : Addr} {fp wr : List Addr} {n : Nat} {P Md : Nat → Value → Heap → Prop} {St : Nat → Heap → Prop} {news : Led}
    {ns ms : List Int} {g : Int → Int → Int} {RR : Value → Addr → Result → Shared → Prop}
    (W : KTurns prog w A (.Tuple [.Name a pa, .Name b pb] kk tp) I fp wr n P Md St) (hsz : n ≤ sizeLine) (hh : A.handled = none)
    (hP : ∀ i v h, P i v h → ∃ T x y tx ty, v = .ref T ∧ ns[i]? = some x ∧ ms[i]? = some y ∧ h.IsTuple T #[.int x tx, .int y ty])
    (hn1 : ns.length = n) (hn2 : ms.length = n) (hst : St 0 s₂.heap) (hfp : ∀ b ∈ fp, b < s₂.heap.objs.size) (hfp0 : ∀ b ∈ fp, h₀.get? b = none) (hfL : L ∉ fp)
    (hcell : ∀ y ∈ scope.names, y.2 ≠ .cell) (hkind : scope.kind = .function) (hxa : scope.names.lookup a = some .local) (hxb : scope.names.lookup b = some .local) (hab : ¬ a = b)
    (F : Fr h₀ L s₂.heap m) (N : News h₀ L s₂.heap news) (off : ∀ p ∈ news, p.1 ∉ wr)
    (helt : PairElt prog w A h₀ L m env elt a b scope cl news g) (hself : ∀ (s : Shared) (Q : Value → Shared → Prop) (E : Value → Shared → Prop), St 0 s.heap → Q (.ref I) s → wpAny (model prog w) A (pyIter (.ref I)) Q E s)
    (hRR : ∀ D C h tk m' ys, Fr h₀ L h m → News h₀ L h ((D, lst ys) :: news) → Off1 D news → h.Ns C m' → h₀.get? C = none → h₀.get? D = none → C ≠ L → D ≠ L → C ≠ D → (∀ p ∈ news, p.1 ≠ C) → IntsAre ys (List.zipWith g ns ms) → RR (.ref D) C (.ok .next) { s₂ with heap := h, toks := tk }) :
    wpAny (model prog w) A (newList []) (fun acc s₃ => wpAny (model prog w) A (newFunctionEnv scope env.globals cl [] env.qual none .none (some env)) (fun cenv s₄ =>
      codeAny (model prog w) A (.compStart (.ListComp elt [⟨.Tuple [.Name a pa, .Name b pb] kk tp, iter, [], 0⟩] scope pos) 0 (.ref I) acc { cenv with scope := relabel scope env }) (RR acc cenv.locals) s₄) E s₃) E s₂ := by
  refine' lite ?lw ?lx ?le
  case lw =>
    refine wpAny_newObj_type (wpAny_newFunctionEnv hcell (by intro y hy; simp at hy) (fun h₁ hns₁ hsb₁ => ?_) hkind)
    dsimp only at hns₁ hsb₁ ⊢
    generalize hH2 : s₂.heap.push { cls := .type "list", dict := none, data := .seq ([] : List Value).toArray } = H2 at hns₁ hsb₁ ⊢
    have hC : H2.objs.size = s₂.heap.objs.size + 1 := by rw [← hH2, Heap.size_push]
    have hDC : s₂.heap.objs.size ≠ H2.objs.size := by rw [hC]; exact Nat.ne_of_lt (Nat.lt_succ_self _)
    have below : ∀ b, b < s₂.heap.objs.size → b ≠ H2.objs.size ∧ b ≠ s₂.heap.objs.size := fun b hb => ⟨by rw [hC]; exact Nat.ne_of_lt (Nat.lt_succ_of_lt hb), Nat.ne_of_lt hb⟩
    have hDf : s₂.heap.objs.size ∉ fp := fun hm => Nat.lt_irrefl _ (hfp _ hm)
    have hCf : H2.objs.size ∉ fp := fun hm => by have := hfp _ hm; rw [hC] at this; exact Nat.lt_irrefl _ (Nat.lt_of_succ_lt this)
    have old : ∀ b o, s₂.heap.get? b = some o → h₁.get? b = some o := fun b o e => hsb₁.extBut b o (below b (Heap.lt_size e)).1 (Heap.get?_push_of_some _ (hH2 ▸ Heap.get?_push_of_some _ e))
    have hacc : h₁.get? s₂.heap.objs.size = some (lst []) := hsb₁.extBut _ _ hDC (Heap.get?_push_of_some _ (hH2 ▸ Heap.get?_push_size _ rfl))
    have hst₁ : St 0 h₁ := W.frame _ _ _ hst fun b _ o e => old b o e
    have fresh : ∀ a, s₂.heap.objs.size ≤ a → s₂.heap.get? a = none := fun a ha => by
      cases e : s₂.heap.get? a with
      | none => rfl
      | some o' => exact absurd (Heap.lt_size e) (Nat.not_lt.mpr ha)
    have fresh₀ : ∀ a, s₂.heap.objs.size ≤ a → h₀.get? a = none := fun a ha => by
      cases e : h₀.get? a with
      | none => rfl
      | some o' => have := F.keep a o' e; rw [fresh a ha] at this; cases this
    have hD₀ : h₀.get? s₂.heap.objs.size = none := fresh₀ _ (Nat.le_refl _)
    have hC₀ : h₀.get? H2.objs.size = none := fresh₀ _ (by rw [hC]; exact Nat.le_succ _)
    have hLlt : L < s₂.heap.objs.size := F.ns.lt
    have hDL : s₂.heap.objs.size ≠ L := Ne.symm (below L hLlt).2
    have hCL : H2.objs.size ≠ L := Ne.symm (below L hLlt).1
    have offD : Off1 s₂.heap.objs.size news := off_of_all fun p hp => (below _ (Heap.lt_size (N p hp).1)).2
    have offC : ∀ p ∈ news, p.1 ≠ H2.objs.size := fun p hp => (below _ (Heap.lt_size (N p hp).1)).1
    have hLw : L ∉ wr := fun h => hfL (W.sub _ h)
    have hDw : s₂.heap.objs.size ∉ wr := fun h => hDf (W.sub _ h)
    have hCw : H2.objs.size ∉ wr := fun h => hCf (W.sub _ h)
    have loop : ∀ s₃ : Shared, s₃ = { s₂ with heap := h₁, toks := s₂.toks + ([] : List (Str × Value)).length } →
        codeAny (model prog w) A (.compLoop (.ListComp elt [⟨.Tuple [.Name a pa, .Name b pb] kk tp, iter, [], 0⟩] scope pos) 0 (.ref I) (.ref s₂.heap.objs.size) (compEnvC scope cl H2.objs.size env))
          (RR (.ref s₂.heap.objs.size) H2.objs.size) s₃ := by
      rintro s₃ rfl
      refine kcp_loop
        (fun k s' => ∃ h' tk i ys m', s' = { s₂ with heap := h', toks := tk } ∧ i ≤ n ∧ k = n + 1 - i ∧ IntsAre ys ((List.zipWith g ns ms).take i) ∧ St i h' ∧ Fr h₀ L h' m ∧ h'.Ns H2.objs.size m' ∧ News h₀ L h' ((s₂.heap.objs.size, lst ys) :: news)) ?_ (n + 1)
        ⟨h₁, _, 0, [], _, rfl, Nat.zero_le _, rfl, .nil, hst₁, F.keeps old, hns₁, fun p hp => ?_⟩
      · rintro k s' ⟨h', tk, i, ys, m', rfl, hi, rfl, hys, hst', F', hn', N'⟩
        by_cases hlt : i < n
        · refine W.item i _ _ _ hlt hst' fun v h₂ tk₂ hMd hk₂ => ?_
          refine W.go i v _ _ _ hMd fun h₃ hPv hst₃ hk₃ => ?_
          obtain ⟨T, x, y, tx, ty, rfl, hx, hy, hT⟩ := hP i v h₃ hPv
          have up₃ : ∀ c o, c ∉ wr → h'.get? c = some o → h₃.get? c = some o := fun c o hc e => hk₃ c o hc (hk₂ c o hc e)
          refine kcp_assign (env := compEnvC scope cl H2.objs.size env) hh hT (lookup_relabel_local hxa) (lookup_relabel_local hxb) (by simp [compEnvC, relabel, hkind]) (hn'.at' fun o e => up₃ _ o hCw e) fun h₄ tk₄ hn₄ hs₄ => ?_
          have up : ∀ c o, c ∉ wr → c ≠ H2.objs.size → h'.get? c = some o → h₄.get? c = some o := fun c o h1 h2 e => hs₄ c o h2 (up₃ c o h1 e)
          have hst₄ : St (i + 1) h₄ := W.frame _ _ _ hst₃ fun c hc o e => hs₄ c o (fun q => hCf (by have q' : c = H2.objs.size := q; exact q' ▸ hc)) e
          obtain ⟨oC, heC, hoC⟩ := ns_obj hn₄
          have F₄ : Fr h₀ L h₄ m := ⟨F'.ns.at' fun o e => up _ o hLw (Ne.symm hCL) e, fun c o e => up c o (fun q => by rw [hfp0 c (W.sub _ q)] at e; cases e) (fun q => by rw [q, hC₀] at e; cases e) (F'.keep c o e), F'.above⟩
          have N₄ : News h₀ L h₄ ((s₂.heap.objs.size, lst ys) :: news) := fun q hq => by
            have z := N' q hq
            refine ⟨up _ _ ?_ ?_ z.1, z.2⟩
            · rcases List.mem_cons.mp hq with rfl | hq
              · exact hDw
              · exact off q hq
            · rcases List.mem_cons.mp hq with rfl | hq
              · exact hDC
              · exact offC q hq
          have N₄' : News h₀ L h₄ ((H2.objs.size, oC) :: (s₂.heap.objs.size, lst ys) :: (standing h₄ fp ++ news)) := fun q hq => by
            rcases List.mem_cons.mp hq with rfl | hq
            · exact ⟨heC, hCL, hC₀⟩
            · rcases List.mem_cons.mp hq with rfl | hq
              · exact N₄ _ (.head _)
              · rcases List.mem_append.mp hq with hq | hq
                · have z := standing_of hq
                  exact ⟨z.2, fun e => hfL (e ▸ z.1), hfp0 _ z.1⟩
                · exact N₄ _ (.tail _ hq)
          refine wpAny_mono (helt x y tx ty H2.objs.size oC s₂.heap.objs.size ys _ (standing h₄ fp ++ news) _ _ hoC (by simp [hab]) (by simp) (fun p hp => List.mem_append_right _ hp) F₄ N₄') (fun v s₅ h₅ => ?_) fun _ _ e => e
          obtain ⟨h₅, tk₅, t, rfl, rfl, F₅, N₅⟩ := h₅
          have hst₅ : St (i + 1) h₅ := W.frame _ _ _ hst₄ fun c hc o e => (N₅ _ (.tail _ (.tail _ (List.mem_append_left _ (standing_mem hc e))))).1
          have zD := (N₅ (s₂.heap.objs.size, lst ys) (.tail _ (.head _))).1
          have zC := (N₅ (H2.objs.size, oC) (.head _)).1
          have hylen : ys.length = i := by rw [hys.length, List.length_take, List.length_zipWith, hn1, hn2]; omega
          refine append_at (hsz := by show ys.toArray.size ≤ sizeLine; rw [List.size_toArray, hylen]; exact Nat.le_trans hi hsz) zD fun h₆ hs₆ hD₆ => ?_
          refine ⟨n + 1 - (i + 1), by omega, h₆, tk₅, i + 1, ys ++ [.int (g x y) t], _, rfl, hlt, rfl, ?_, W.frame _ _ _ hst₅ fun c hc o e => hs₆.extBut c o (fun q => hDf (q ▸ hc)) e, F₅.change hs₆ hDL hD₀, (hoC.ns zC).sameBut hs₆ (Ne.symm hDC), fun q hq => ?_⟩
          · have hz : (List.zipWith g ns ms)[i]? = some (g x y) := by rw [List.getElem?_zipWith, hx, hy]
            rw [List.take_add_one, hz]
            exact hys.append (.cons _ _ .nil)
          · rcases List.mem_cons.mp hq with rfl | hq
            · exact ⟨hD₆.trans (congrArg some (lst_snoc ys _)), hDL, hD₀⟩
            · have z := N₅ q (.tail _ (.tail _ (List.mem_append_right _ hq)))
              exact ⟨hs₆.extBut _ _ (off_all offD q hq) z.1, z.2⟩
        · have hin : i = n := Nat.le_antisymm hi (Nat.not_lt.mp hlt)
          subst hin
          refine W.done _ _ _ hst' fun h₂ tk₂ hk₂ => ?_
          have hfull : (List.zipWith g ns ms).take i = List.zipWith g ns ms := List.take_of_length_le (by rw [List.length_zipWith, hn1, hn2]; omega)
          rw [hfull] at hys
          refine hRR _ _ h₂ tk₂ _ ys ⟨F'.ns.at' fun o e => hk₂ _ o hLw e, fun c o e => hk₂ c o (fun q => by rw [hfp0 c (W.sub _ q)] at e; cases e) (F'.keep c o e), F'.above⟩ (fun q hq => ?_) offD (hn'.at' fun o e => hk₂ _ o hCw e) hC₀ hD₀ hCL hDL (Ne.symm hDC) offC hys
          have z := N' q hq
          refine ⟨hk₂ _ _ ?_ z.1, z.2⟩
          rcases List.mem_cons.mp hq with rfl | hq
          · exact hDw
          · exact off q hq
      · rcases List.mem_cons.mp hp with rfl | hp
        · exact ⟨hacc, hDL, hD₀⟩
        · exact ⟨old _ _ (N p hp).1, (N p hp).2⟩
    exact codeAny_compStart_list (loop _ rfl) (hself _ _ _ hst₁ (loop _ rfl))
  
  case lx => intro hk; simpa only using hk (0 : Nat)
  case le => eq_refl
/-- behind the source of a comprehension over pairs, with a use of the new list -/
def ZAt (prog : Program) (w : World) (A : Around) (E : Value → Shared → Prop) (env : Env) (elt iter target : PySem.Expr) (scope : Scope) (cl : List (Str × Addr)) (pos : Pos) (use : Option (Value → Sem Unit)) (Q : Value → Shared → Prop) (it : Value) (s₂ : Shared) : Prop :=
  wpAny (model prog w) A (newList []) (fun acc s₃ => wpAny (model prog w) A (newFunctionEnv scope env.globals cl [] env.qual none .none (some env)) (fun cenv s₄ =>
      codeAny (model prog w) A (.compStart (.ListComp elt [⟨target, iter, [], 0⟩] scope pos) 0 it acc { cenv with scope := relabel scope env }) (compPost (model prog w) A E use Q acc cenv.locals) s₄) E s₃) E s₂

theorem zip_assign {elt iter : PySem.Expr} {a b y : Str} {pa pb tp py : Pos} {kk : Nat} {scope : Scope} {cl : List (Str × Addr)} {pos spos : Pos} {Q : Flow → Shared → Prop}
    (hsw : swapsWith (.ListComp elt [⟨.Tuple [.Name a pa, .Name b pb] kk tp, iter, [], 0⟩] scope pos) (some (.Name y py)) spos.line env = pure true)
    (hclos : closureFor scope env = pure cl) (hkind : scope.kind = .function)
    (hnames : ∀ z ∈ scope.names, z.2 = .local → scope.names.lookup z.1 = some .local)
    (hs : ∀ x, foldedSetIterable iter env x = pure x)
    (h : wpAny (model prog w) A (eval iter env) (fun xv s₁ => wpAny (model prog w) A (pyIter xv) (fun it s₂ => ZAt prog w A E env elt iter (.Tuple [.Name a pa, .Name b pb] kk tp) scope cl pos (some (assign (.Name y py) env)) (fun _ s' => Q .next s') it s₂) E s₁) E s) :
    wpAny (model prog w) A (exec (.Assign [.Name y py] (.ListComp elt [⟨.Tuple [.Name a pa, .Name b pb] kk tp, iter, [], 0⟩] scope pos) spos) env) Q E s := by
  rw [exec_Assign_Name_used _ _ _ _ hsw]
  refine wpAny_bind (wpAny_standAt (wpAny_bind ?_))
  show wpAny _ A (do let _ ← comprehension (.ListComp elt [⟨.Tuple [.Name a pa, .Name b pb] kk tp, iter, [], 0⟩] scope pos) scope env _ (newList []) false (eval iter env) (some (assign (.Name y py) env))) _ _ s
  exact wpAny_bind (wpAny_mono (wpAny_comprehension_free (use := some (assign (.Name y py) env)) (Q := fun _ s' => Q .next s') rfl hs hclos hkind hnames h) (fun _ s' hq => wpAny_pure (wpAny_pure hq)) fun _ _ e => e)

theorem zip_at {elt iter : PySem.Expr} {a b y : Str} {pa pb tp py : Pos} {kk : Nat} {scope : Scope} {cl : List (Str × Addr)} {pos : Pos} {Qn : Shared → Prop} {news : Led} {l1 l2 : Addr} {vs us : List Value} {e1 e2 : Nat} {ns ms : List Int} {g : Int → Int → Int}
    (hh : A.handled = none) (hcell : ∀ y ∈ scope.names, y.2 ≠ .cell) (hkind : scope.kind = .function) (hxa : scope.names.lookup a = some .local) (hxb : scope.names.lookup b = some .local) (hab : ¬ a = b)
    (hy : env.kindOf y = some .local) (hp : (env.scope.kind == .class || (env.scope.kind == .module && env.locals != env.globals)) = false) (hLe : env.locals = L)
    (F : Fr h₀ L s.heap m) (N : News h₀ L s.heap news) (h1 : (l1, listOf vs.toArray e1) ∈ news) (h2 : (l2, listOf us.toArray e2) ∈ news) (hI : IntsAre vs ns) (hJ : IntsAre us ms) (hl : ms.length = ns.length) (hsz : ns.length ≤ 64)
    (helt : PairElt prog w A h₀ L m env elt a b scope cl news g)
    (fin : ∀ D h tk ys, Fr h₀ L h (fun z => if z = y then some (.ref D) else m z) → News h₀ L h ((D, lst ys) :: news) → Off1 D news → IntsAre ys (List.zipWith g ns ms) → Qn { s with heap := h, toks := tk }) :
    wpAny (model prog w) A (call (.type "zip") [.ref l1, .ref l2]) (fun xv s₁ => wpAny (model prog w) A (pyIter xv) (fun it s₂ => ZAt prog w A E env elt iter (.Tuple [.Name a pa, .Name b pb] kk tp) scope cl pos (some (assign (.Name y py) env)) (fun _ s' => Qn s') it s₂) E s₁) E s := by
  subst hLe
  have hax1 := N _ h1
  have hax2 := N _ h2
  have hl1 : s.heap.IsList l1 vs.toArray := ⟨_, hax1.1, rfl, _, rfl⟩
  have hl2 : s.heap.IsList l2 us.toArray := ⟨_, hax2.1, rfl, _, rfl⟩
  have hlt1 : l1 < s.heap.objs.size := Heap.lt_size hax1.1
  have hlt2 : l2 < s.heap.objs.size := Heap.lt_size hax2.1
  have hLs : env.locals < s.heap.objs.size := F.ns.lt
  have D : ZipApart (s.heap.objs.size + 4) (s.heap.objs.size + 2) (s.heap.objs.size + 3) s.heap.objs.size (s.heap.objs.size + 1) l1 l2 := ktu_apart _ _ _ hlt1 hlt2
  refine call_zip_2 hl1 hl2 fun h' hz hTI hTO hi1 hi2 hsz5 hk => ?_
  refine wpAny_pyIter_zip hz ?_
  have hlv : vs.length = ns.length := hI.length
  have hlu : us.length = ns.length := hJ.length.trans hl
  have hn : min vs.toArray.size us.toArray.size = ns.length := by rw [List.size_toArray, List.size_toArray, hlv, hlu]; omega
  have W := (WalksT.zip2 (prog := prog) (w := w) hh _ _ _ _ _ _ _ D vs.toArray us.toArray).toU
  rw [hn] at W
  have hnew : ∀ c, s.heap.objs.size ≤ c → h₀.get? c = none := fun c hc => ktu_new F hc
  unfold ZAt
  refine pair_block (RR := fun acc C => compPost (model prog w) A E (some (assign (.Name y py) env)) (fun _ s' => Qn s') acc C) (ns := ns) (ms := ms) (g := g) (KTurns.ofWalksU W) (sizeLine_small hsz) hh ?_ rfl hl ⟨hz, hTI, ⟨_, _, hTO⟩, hi1, hi2, hl1.at fun o e => hk _ o e, hl2.at fun o e => hk _ o e⟩ ?_ ?_ ?_ hcell hkind hxa hxb hab (F.keeps hk) (N.grown hk) ?_ helt ?_ ?_
  · rintro i v h ⟨T, vals, rfl, ⟨x, y, hx, hy, rfl⟩, hT⟩
    obtain ⟨x', tx, rfl, hx'⟩ := hI.at i x (by simpa using hx)
    obtain ⟨y', ty, rfl, hy'⟩ := hJ.at i y (by simpa using hy)
    exact ⟨T, x', y', tx, ty, rfl, hx', hy', hT⟩
  · intro c hc
    show c < h'.objs.size
    rw [hsz5]
    have hc' : c = s.heap.objs.size + 4 ∨ c = s.heap.objs.size + 2 ∨ c = s.heap.objs.size + 3 ∨ c = s.heap.objs.size ∨ c = s.heap.objs.size + 1 ∨ c = l1 ∨ c = l2 := by simpa using hc
    rcases hc' with rfl | rfl | rfl | rfl | rfl | rfl | rfl
    · exact Nat.lt_succ_self _
    · exact Nat.add_lt_add_left (by decide) _
    · exact Nat.add_lt_add_left (by decide) _
    · exact Nat.lt_add_of_pos_right (by decide)
    · exact Nat.add_lt_add_left (by decide) _
    · exact Nat.lt_of_lt_of_le hlt1 (Nat.le_add_right _ _)
    · exact Nat.lt_of_lt_of_le hlt2 (Nat.le_add_right _ _)
  · intro c hc
    have hc' : c = s.heap.objs.size + 4 ∨ c = s.heap.objs.size + 2 ∨ c = s.heap.objs.size + 3 ∨ c = s.heap.objs.size ∨ c = s.heap.objs.size + 1 ∨ c = l1 ∨ c = l2 := by simpa using hc
    rcases hc' with rfl | rfl | rfl | rfl | rfl | rfl | rfl
    · exact hnew _ (Nat.le_add_right _ _)
    · exact hnew _ (Nat.le_add_right _ _)
    · exact hnew _ (Nat.le_add_right _ _)
    · exact hnew _ (Nat.le_refl _)
    · exact hnew _ (Nat.le_add_right _ _)
    · exact hax1.2.2
    · exact hax2.2.2
  · intro hI'
    have hb' : env.locals = s.heap.objs.size + 4 ∨ env.locals = s.heap.objs.size + 2 ∨ env.locals = s.heap.objs.size + 3 ∨ env.locals = s.heap.objs.size ∨ env.locals = s.heap.objs.size + 1 ∨ env.locals = l1 ∨ env.locals = l2 := by simpa using hI'
    rcases hb' with e | e | e | e | e | e | e
    · exact ktu_ne 4 hLs e
    · exact ktu_ne 2 hLs e
    · exact ktu_ne 3 hLs e
    · exact Nat.ne_of_lt hLs e
    · exact ktu_ne 1 hLs e
    · exact hax1.2.1 e.symm
    · exact hax2.2.1 e.symm
  · intro p hp hI'
    have hb' : p.1 = s.heap.objs.size + 4 ∨ p.1 = s.heap.objs.size + 3 ∨ p.1 = s.heap.objs.size ∨ p.1 = s.heap.objs.size + 1 := by simpa using hI'
    have hlp := Heap.lt_size (N p hp).1
    rcases hb' with e | e | e | e
    · exact ktu_ne 4 hlp e
    · exact ktu_ne 3 hlp e
    · exact Nat.ne_of_lt hlp e
    · exact ktu_ne 1 hlp e
  · intro s Q E hst hq
    exact wpAny_pyIter_zip hst.1 hq
  · intro D C h tk m' ys F' N' o1 hnC hC₀ hD₀ hCL hDL hCD offC fy
    show wpAny _ A (assign (.Name y py) env (.ref D)) _ _ _
    refine wpAny_assign_Name (wpAny_storeName_local hy F'.ns (fun h₂ hn₂ hs₂ => ?_) hp)
    have hL₀ : h₀.get? env.locals = none := Heap.get?_none_of_le F'.above
    have F₂ : Fr h₀ env.locals h₂ (fun z => if z = y then some (.ref D) else m z) := ⟨hn₂, fun b o e => hs₂.extBut b o (fun q => by rw [q, hL₀] at e; cases e) (F'.keep b o e), F'.above⟩
    refine ⟨m', hnC.sameBut hs₂ hCL, fun h'' hs'' => fin D h'' _ ys (F₂.change hs'' hCL hC₀) (fun p hp => ?_) o1 fy⟩
    have z : h₂.get? p.1 = some p.2 := hs₂.extBut _ _ (N' p hp).2.1 (N' p hp).1
    refine ⟨hs''.extBut _ _ ?_ z, (N' p hp).2⟩
    rcases List.mem_cons.mp hp with rfl | hp
    · exact Ne.symm hCD
    · exact offC p hp
theorem zip_eval {elt iter : PySem.Expr} {a b : Str} {pa pb tp : Pos} {kk : Nat} {scope : Scope} {cl : List (Str × Addr)} {pos : Pos} {Q : Value → Shared → Prop}
    (hclos : closureFor scope env = pure cl) (hkind : scope.kind = .function)
    (hnames : ∀ z ∈ scope.names, z.2 = .local → scope.names.lookup z.1 = some .local)
    (hs : ∀ x, foldedSetIterable iter env x = pure x)
    (h : wpAny (model prog w) A (eval iter env) (fun xv s₁ => wpAny (model prog w) A (pyIter xv) (fun it s₂ => ZAt prog w A E env elt iter (.Tuple [.Name a pa, .Name b pb] kk tp) scope cl pos none Q it s₂) E s₁) E s) :
    wpAny (model prog w) A (eval (.ListComp elt [⟨.Tuple [.Name a pa, .Name b pb] kk tp, iter, [], 0⟩] scope pos) env) Q E s := by
  rw [eval_ListComp]
  exact wpAny_comprehension_free (use := none) rfl hs hclos hkind hnames h

theorem zip_atE {elt iter : PySem.Expr} {a b : Str} {pa pb tp : Pos} {kk : Nat} {scope : Scope} {cl : List (Str × Addr)} {pos : Pos} {Q : Value → Shared → Prop} {news : Led} {l1 l2 : Addr} {vs us : List Value} {e1 e2 : Nat} {ns ms : List Int} {g : Int → Int → Int}
    (hh : A.handled = none) (hcell : ∀ y ∈ scope.names, y.2 ≠ .cell) (hkind : scope.kind = .function) (hxa : scope.names.lookup a = some .local) (hxb : scope.names.lookup b = some .local) (hab : ¬ a = b)
    (hLe : env.locals = L)
    (F : Fr h₀ L s.heap m) (N : News h₀ L s.heap news) (h1 : (l1, listOf vs.toArray e1) ∈ news) (h2 : (l2, listOf us.toArray e2) ∈ news) (hI : IntsAre vs ns) (hJ : IntsAre us ms) (hl : ms.length = ns.length) (hsz : ns.length ≤ 64)
    (helt : PairElt prog w A h₀ L m env elt a b scope cl news g)
    (fin : ∀ D h tk ys, Fr h₀ L h m → News h₀ L h ((D, lst ys) :: news) → Off1 D news → IntsAre ys (List.zipWith g ns ms) → Q (.ref D) { s with heap := h, toks := tk }) :
    wpAny (model prog w) A (call (.type "zip") [.ref l1, .ref l2]) (fun xv s₁ => wpAny (model prog w) A (pyIter xv) (fun it s₂ => ZAt prog w A E env elt iter (.Tuple [.Name a pa, .Name b pb] kk tp) scope cl pos none Q it s₂) E s₁) E s := by
  subst hLe
  have hax1 := N _ h1
  have hax2 := N _ h2
  have hl1 : s.heap.IsList l1 vs.toArray := ⟨_, hax1.1, rfl, _, rfl⟩
  have hl2 : s.heap.IsList l2 us.toArray := ⟨_, hax2.1, rfl, _, rfl⟩
  have hlt1 : l1 < s.heap.objs.size := Heap.lt_size hax1.1
  have hlt2 : l2 < s.heap.objs.size := Heap.lt_size hax2.1
  have hLs : env.locals < s.heap.objs.size := F.ns.lt
  have D : ZipApart (s.heap.objs.size + 4) (s.heap.objs.size + 2) (s.heap.objs.size + 3) s.heap.objs.size (s.heap.objs.size + 1) l1 l2 := ktu_apart _ _ _ hlt1 hlt2
  refine call_zip_2 hl1 hl2 fun h' hz hTI hTO hi1 hi2 hsz5 hk => ?_
  refine wpAny_pyIter_zip hz ?_
  have hlv : vs.length = ns.length := hI.length
  have hlu : us.length = ns.length := hJ.length.trans hl
  have hn : min vs.toArray.size us.toArray.size = ns.length := by rw [List.size_toArray, List.size_toArray, hlv, hlu]; omega
  have W := (WalksT.zip2 (prog := prog) (w := w) hh _ _ _ _ _ _ _ D vs.toArray us.toArray).toU
  rw [hn] at W
  have hnew : ∀ c, s.heap.objs.size ≤ c → h₀.get? c = none := fun c hc => ktu_new F hc
  unfold ZAt
  refine pair_block (RR := fun acc C => compPost (model prog w) A E none Q acc C) (ns := ns) (ms := ms) (g := g) (KTurns.ofWalksU W) (sizeLine_small hsz) hh ?_ rfl hl ⟨hz, hTI, ⟨_, _, hTO⟩, hi1, hi2, hl1.at fun o e => hk _ o e, hl2.at fun o e => hk _ o e⟩ ?_ ?_ ?_ hcell hkind hxa hxb hab (F.keeps hk) (N.grown hk) ?_ helt ?_ ?_
  · rintro i v h ⟨T, vals, rfl, ⟨x, y, hx, hy, rfl⟩, hT⟩
    obtain ⟨x', tx, rfl, hx'⟩ := hI.at i x (by simpa using hx)
    obtain ⟨y', ty, rfl, hy'⟩ := hJ.at i y (by simpa using hy)
    exact ⟨T, x', y', tx, ty, rfl, hx', hy', hT⟩
  · intro c hc
    show c < h'.objs.size
    rw [hsz5]
    have hc' : c = s.heap.objs.size + 4 ∨ c = s.heap.objs.size + 2 ∨ c = s.heap.objs.size + 3 ∨ c = s.heap.objs.size ∨ c = s.heap.objs.size + 1 ∨ c = l1 ∨ c = l2 := by simpa using hc
    rcases hc' with rfl | rfl | rfl | rfl | rfl | rfl | rfl
    · exact Nat.lt_succ_self _
    · exact Nat.add_lt_add_left (by decide) _
    · exact Nat.add_lt_add_left (by decide) _
    · exact Nat.lt_add_of_pos_right (by decide)
    · exact Nat.add_lt_add_left (by decide) _
    · exact Nat.lt_of_lt_of_le hlt1 (Nat.le_add_right _ _)
    · exact Nat.lt_of_lt_of_le hlt2 (Nat.le_add_right _ _)
  · intro c hc
    have hc' : c = s.heap.objs.size + 4 ∨ c = s.heap.objs.size + 2 ∨ c = s.heap.objs.size + 3 ∨ c = s.heap.objs.size ∨ c = s.heap.objs.size + 1 ∨ c = l1 ∨ c = l2 := by simpa using hc
    rcases hc' with rfl | rfl | rfl | rfl | rfl | rfl | rfl
    · exact hnew _ (Nat.le_add_right _ _)
    · exact hnew _ (Nat.le_add_right _ _)
    · exact hnew _ (Nat.le_add_right _ _)
    · exact hnew _ (Nat.le_refl _)
    · exact hnew _ (Nat.le_add_right _ _)
    · exact hax1.2.2
    · exact hax2.2.2
  · intro hI'
    have hb' : env.locals = s.heap.objs.size + 4 ∨ env.locals = s.heap.objs.size + 2 ∨ env.locals = s.heap.objs.size + 3 ∨ env.locals = s.heap.objs.size ∨ env.locals = s.heap.objs.size + 1 ∨ env.locals = l1 ∨ env.locals = l2 := by simpa using hI'
    rcases hb' with e | e | e | e | e | e | e
    · exact ktu_ne 4 hLs e
    · exact ktu_ne 2 hLs e
    · exact ktu_ne 3 hLs e
    · exact Nat.ne_of_lt hLs e
    · exact ktu_ne 1 hLs e
    · exact hax1.2.1 e.symm
    · exact hax2.2.1 e.symm
  · intro p hp hI'
    have hb' : p.1 = s.heap.objs.size + 4 ∨ p.1 = s.heap.objs.size + 3 ∨ p.1 = s.heap.objs.size ∨ p.1 = s.heap.objs.size + 1 := by simpa using hI'
    have hlp := Heap.lt_size (N p hp).1
    rcases hb' with e | e | e | e
    · exact ktu_ne 4 hlp e
    · exact ktu_ne 3 hlp e
    · exact Nat.ne_of_lt hlp e
    · exact ktu_ne 1 hlp e
  · intro s Q E hst hq
    exact wpAny_pyIter_zip hst.1 hq
  · intro D C h tk m' ys F' N' o1 hnC hC₀ hD₀ hCL hDL hCD offC fy
    refine ⟨m', hnC, fun h'' hs'' => fin D h'' tk ys (F'.change hs'' hCL hC₀) (fun p hp => ?_) o1 fy⟩
    refine ⟨hs''.extBut _ _ ?_ (N' p hp).1, (N' p hp).2⟩
    rcases List.mem_cons.mp hp with rfl | hp
    · exact Ne.symm hCD
    · exact offC p hp
end

local macro_rules | `(tactic| walk_at "exec Assign cons ListComp") => `(tactic| (k_here; (with_reducible show wpAny _ _ (exec (Stmt.Assign [Expr.Name _ _] (Expr.ListComp _ [⟨Expr.Tuple _ _ _, _, _, _⟩] _ _) _) _) _ _ _); k_dflt (refine' zip_assign ?z1 ?z2 ?z3 ?z4 ?z5 ?_; (case z1 => with_unfolding_all rfl); (case z2 => with_unfolding_all rfl); (case z3 => rfl); (case z4 => decide); (case z5 => intro _; with_unfolding_all rfl))))
local macro_rules | `(tactic| walk_at "eval ListComp") => `(tactic| (k_here; (with_reducible show wpAny _ _ (eval (Expr.ListComp _ [⟨Expr.Tuple _ _ _, _, _, _⟩] _ _) _) _ _ _); k_dflt (refine' zip_eval ?z2 ?z3 ?z4 ?z5 ?_; (case z2 => with_unfolding_all rfl); (case z3 => rfl); (case z4 => decide); (case z5 => intro _; with_unfolding_all rfl))))
end
section
theorem times_call {w : World} {N : Led} {q : Int} {f g : Addr} {fs gs : List Int} (hq : 2 ≤ q) (hq2 : q < 2^33) (hn1 : 1 ≤ fs.length) (hn : fs.length ≤ 4) (hf : Ints N f fs) (hg : Ints N g gs) (hlg : gs.length = fs.length) (hbf : ∀ c ∈ fs, 0 ≤ c ∧ c < q) (hbg : ∀ c ∈ gs, 0 ≤ c ∧ c < q) (tq : Tok) :
   Ctr w 4 243 [.ref f, .ref g, .int q tq] N (ListPost N (timesS q fs gs)) := by
  refine' lite ?lw ?lx ?le
  case lw =>
    unfold Ctr
    k_fill
    intro p loose mean mg mb dp un gd cn cs a ccd cl outer A₀ base h₀ L m s R B F X N₀ T hk hdp hun hret
    obtain ⟨vs, e1, hf, hI⟩ := hf
    obtain ⟨us, e2, hg, hJ⟩ := hg
    k_dflt (refine' code_defC ?k1 ?k2 ?k3 ?k4 ?k5 ?kA ?kF ?kK ?k6 ?k7 ?k8 ?k9 ?kB ?kD ?_ ?c2 ?c3 ?c4; (case kA => exact rfl); (case kF => exact rfl); (case kK => assumption); (case k1 => k_asm); (case k2 => k_asm); (case k3 => k_asm); (case k4 => k_asm); (case k5 => k_asm); (case k6 => k_is); (case k7 => k_is); (case k8 => k_room); (case k9 => exact BindsTo.of_eq rfl); (case kB => exact rfl); (case kD => decide +kernel); (case c2 => exact rfl); (case c3 => exact rfl); (case c4 => exact rfl); k_whole)
    intro g₁ L₁ h₁ tk₁ cells₁ FG₁ F₁ N₁ Y₁ B₁ X₁ T₁ l₁
    k_cells Y₁
    simp only [List.cons_append, List.nil_append] at N₁
    (try dsimp only)
    (try k_fold)
    k_steps
    refine' iter_rangeJ (n := gs.length) (fun i m₁ nw => ∃ ok oT oq og oF D ws e, nw = (D, listOf ws.toArray e) :: (L₁ + 1 + 1 + 1 + 1 + 1, ok) :: (L₁ + 1 + 1 + 1 + 1, oT) :: (L₁ + 1 + 1 + 1, oq) :: (L₁ + 1 + 1, og) :: (L₁ + 1, oF) :: N ∧
        (∃ v, ok.data = .cell v) ∧ oT.data = .cell (some (.ref D)) ∧ oq.data = .cell (some (.int q tq)) ∧ og.data = .cell (some (.ref g)) ∧ oF.data = .cell (some (.ref f)) ∧ IntsAre ws (timesN q fs gs i) ∧ LCg.Off1 D ((L₁ + 1 + 1 + 1 + 1 + 1, ok) :: (L₁ + 1 + 1 + 1 + 1, oT) :: (L₁ + 1 + 1 + 1, oq) :: (L₁ + 1 + 1, og) :: (L₁ + 1, oF) :: N)) ?a1 ?a2 ?a3 ?a4 ?a5 ?a6 ?a7 ?a8 ?a9
    (case a1 => exact rfl)
    (case a2 => k_asm)
    (case a3 => exact small_down (by omega) (by omega) (by omega) (by omega))
    (case a4 => rw [rangeSize_downNat]; omega)
    (case a5 => k_asm)
    (case' a7 => refine' ⟨_, _, _, _, _, _, _, _, rfl, ⟨_, ?i1⟩, ?i2, ?i3, ?i4, ?i5, ?i6, ?i7⟩)
    (case a6 => refine cb_drop (by assumption) ?_; top_reprB)
    (case i1 => assumption)
    (case i2 => assumption)
    (case i3 => assumption)
    (case i4 => assumption)
    (case i5 => assumption)
    (case i6 => assumption)
    (case i7 => exact ⟨by k_ne, by k_ne, by k_ne, by k_ne, by k_ne, by top_strB⟩)
    (case a9 =>
      intro m₁ nw h₂ tk₂ ⟨ok, oT, oq, og, oF, D, ws, e, hnw, ⟨v, hok⟩, hoT, hoq, hog, hoF, hW, hoff⟩ F₂ N₂
      subst hnw
      simp only [LCg.Off1, and_true] at hoff
      dsimp only
      (try k_sweep)
      k_steps
      exact hret _ _ _ _ (by k_asm) (by allgen_close_more) ⟨_, _, _, rfl, rfl, by k_asm, by top_strB⟩)
    intro i t m₁ nw h₂ tk₂ I oI hi ⟨ok, oT, oq, og, oF, D, ws, e, hnw, ⟨v, hok⟩, hoT, hoq, hog, hoF, hW, hoff⟩ F₂ N₂ hI₂
    subst hnw
    have hlw := timesN_length q fs gs i
    have hrot : fs.length ≤ ([-(timesN q fs gs i).getD ((-1 : Int) + (((timesN q fs gs i).length : Nat) : Int)).toNat 0] ++ (timesN q fs gs i).take ((timesN q fs gs i).length - 1)).length := by
      simp only [List.length_append, List.length_cons, List.length_nil, List.length_take]; omega
    have hk1 : (0 : Int) ≤ ((gs.length : Nat) : Int) - 1 + (i : Int) * -1 := by omega
    have hk2 : ((gs.length : Nat) : Int) - 1 + (i : Int) * -1 < ((gs.length : Nat) : Int) := by omega
    have hk3 : ((gs.length : Nat) : Int) - 1 + (i : Int) * -1 < 2 ^ 63 := by omega
    simp only [LCg.Off1, and_true] at hI₂ hoff
    (try k_sweep)
    (try k_fold)
    k_steps
    refine' UnrEnd.intro (by k_asm) (by k_asm) _ ?sub ?off ⟨_, _, _, _, _, _, _, _, rfl, ⟨_, ?d1⟩, ?d2, ?d3, ?d4, ?d5, ?iI, ?o⟩
    (case sub => top_reprB)
    (case d1 => assumption)
    (case d2 => assumption)
    (case iI => assumption)
    (case d3 => assumption)
    (case d4 => assumption)
    (case d5 => assumption)
    (case off => exact off_all ⟨by k_ne, by k_ne, by k_ne, by k_ne, by k_ne, by k_ne, by top_strB⟩)
    (case o => exact ⟨by k_ne, by k_ne, by k_ne, by k_ne, by k_ne, by top_strB⟩)
  case lx => intro hk; simpa only using hk (0 : Nat)
  case le => eq_refl
end
section
theorem school_call {w : World} {N : Led} {x r l : Addr} {q n : Int} {ns : List Int} (hR : Ring w N r q n) (hP : Poly w N x r l ns) (hlen : (ns.length : Int) = n) (hn1 : 1 ≤ n) (hn : n ≤ 4) (hq : 2 ≤ q) (hq2 : q < 2 ^ 33) {y l2 : Addr} {ms : List Int} (hP2 : Poly w N y r l2 ms) (hlen2 : (ms.length : Int) = n) (hb : ∀ c ∈ ns, 0 ≤ c ∧ c < q) (hb2 : ∀ c ∈ ms, 0 ≤ c ∧ c < q) :
   Ctr w 4 127 [.ref x, .ref y] N (ListPost N (schoolS q n ns ms)) := by
  refine' lite ?lw ?lx ?le
  case lw =>
    unfold Ctr
    k_fill
    intro p loose mean mg mb dp un gd cn cs a ccd cl outer A₀ base h₀ L m s R B F X N₀ T hk hdp hun hret
    obtain ⟨dr, k3, k4, tq, tn, e3, hr, hdr⟩ := hR
    obtain ⟨⟨vs, e1, hl, hI⟩, dx, k1, k2, e2, hx, hdx⟩ := hP
    obtain ⟨⟨us, f1, hm, hJ⟩, dy, j1, j2, f2, hy, hdy⟩ := hP2
    k_dflt (refine' code_defC ?k1 ?k2 ?k3 ?k4 ?k5 ?kA ?kF ?kK ?k6 ?k7 ?k8 ?k9 ?kB ?kD ?_ ?c2 ?c3 ?c4; (case kA => exact rfl); (case kF => exact rfl); (case kK => assumption); (case k1 => k_asm); (case k2 => k_asm); (case k3 => k_asm); (case k4 => k_asm); (case k5 => k_asm); (case k6 => k_is); (case k7 => k_is); (case k8 => k_room); (case k9 => exact BindsTo.of_eq rfl); (case kB => exact rfl); (case kD => decide +kernel); (case c2 => exact rfl); (case c3 => exact rfl); (case c4 => exact rfl); k_whole)
    intro g₁ L₁ h₁ tk₁ cells₁ FG₁ F₁ N₁ Y₁ B₁ X₁ T₁ l₁
    k_cells Y₁
    simp only [List.cons_append, List.nil_append] at N₁
    (try dsimp only)
    (try k_fold)
    k_steps
    refine' iter_rangeJ (n := n.toNat) (fun i m₁ nw => ∃ oS D ws e, nw = (D, listOf ws.toArray e) :: (L₁ + 1, oS) :: N ∧ oS.data = .cell (some (.ref x)) ∧ LCg.Off1 D ((L₁ + 1, oS) :: N) ∧ IntsAre ws (outA ns ms n i) ∧ m₁ (Str.ofString "n") = some (.int n tn) ∧ m₁ (Str.ofString "a") = some (.ref l) ∧ m₁ (Str.ofString "b") = some (.ref l2) ∧ m₁ (Str.ofString "new_coeffs") = some (.ref D)) ?a1 ?a2 ?a3 ?a4 ?a5 ?a6 ?a7 ?a8 ?a9
    (case a1 => exact rfl)
    (case a2 => k_asm)
    (case a3 => exact b_small (by omega) (by omega) (by omega) (by omega))
    (case a4 => rw [rangeSize_nat] <;> omega)
    (case a5 => k_asm)
    (case' a7 => refine' ⟨_, _, _, _, rfl, ?a10, ?a11, ?a12, rfl, rfl, rfl, rfl⟩)
    (case a6 => refine cb_drop (by assumption) ?_; top_reprB)
    (case a10 => assumption)
    (case a12 => assumption)
    (case a11 => exact ⟨by k_ne, by top_strB⟩)
    (case a9 =>
      intro m₁ nw h₂ tk₂ ⟨oS, D, ws, e, hnw, hoS, hoff, hW, hmn, hma, hmb, hmc⟩ F₂ N₂
      subst hnw
      have F₃ : Fr g₁ L₁ h₂ _ := fr_set4 F₂ hmn hma hmb hmc
      clear F₂
      replace N₂ : News g₁ L₁ h₂ _ := N₂
      have hoff' := hoff
      simp only [LCg.Off1, and_true] at hoff'
      dsimp only
      (try k_sweep)
      k_steps
      refine' iter_rangeJ (n := (n - 1).toNat) (fun i m₁ nw => ∃ oS D ws e, nw = (D, listOf ws.toArray e) :: (L₁ + 1, oS) :: N ∧ oS.data = .cell (some (.ref x)) ∧ LCg.Off1 D ((L₁ + 1, oS) :: N) ∧ IntsAre ws (outB ns ms n i) ∧ m₁ (Str.ofString "n") = some (.int n tn) ∧ m₁ (Str.ofString "a") = some (.ref l) ∧ m₁ (Str.ofString "b") = some (.ref l2) ∧ m₁ (Str.ofString "new_coeffs") = some (.ref D)) ?c1 ?c2 ?c3 ?c4 ?c5 ?c6 ?c7 ?c8 ?c9
      (case c1 => exact rfl)
      (case c2 => k_asm)
      (case c3 => exact b_small (by omega) (by omega) (by omega) (by omega))
      (case c4 => rw [rangeSize_nat] <;> omega)
      (case c5 => k_asm)
      (case' c7 => refine' ⟨_, _, _, _, rfl, ?c10, ?c11, ?c12, rfl, rfl, rfl, rfl⟩)
      (case c6 => refine cb_drop (by assumption) ?_; top_reprB)
      (case c10 => assumption)
      (case c12 => assumption)
      (case c11 => exact ⟨by k_ne, by top_strB⟩)
      (case c9 =>
        intro m₁ nw h₂ tk₂ ⟨oS, D, ws, e, hnw, hoS, hoff, hW, hmn, hma, hmb, hmc⟩ F₂ N₂
        subst hnw
        have F₃ : Fr g₁ L₁ h₂ _ := fr_set4 F₂ hmn hma hmb hmc
        clear F₂
        replace N₂ : News g₁ L₁ h₂ _ := N₂
        have hoff' := hoff
        simp only [LCg.Off1, and_true] at hoff'
        have hlo : (outB ns ms n (n - 1).toNat).length ≤ 64 := by rw [outB_length]; omega
        dsimp only
        (try k_sweep)
        k_steps
        exact hret _ _ _ _ (by k_asm) (by allgen_close_more) ⟨_, _, _, rfl, rfl, by k_asm, by top_strB⟩
      )
      intro i t₁ m₁ nw h₂ tk₂ I₁ oI₁ hi ⟨oS, D, ws, e, hnw, hoS, hoff, hW, hmn, hma, hmb, hmc⟩ F₂ N₂ hI₁
      subst hnw
      have F₃ : Fr g₁ L₁ h₂ _ := fr_set4 F₂ hmn hma hmb hmc
      clear F₂
      replace N₂ : News g₁ L₁ h₂ _ := N₂
      have hI₁' := hI₁
      have hoff' := hoff
      simp only [LCg.Off1, and_true] at hI₁' hoff'
      (try k_sweep)
      (try k_fold)
      k_steps
      refine' iter_rangeJ (n := (n - (n - (1 + ((i : Nat) : Int) * 1))).toNat) (fun j m₁ nw => ∃ ws e, nw = (D, listOf ws.toArray e) :: (I₁, oI₁) :: (L₁ + 1, oS) :: N ∧ IntsAre ws (inB ns ms n (1 + ((i : Nat) : Int) * 1) (outB ns ms n i) j) ∧ m₁ (Str.ofString "n") = some (.int n tn) ∧ m₁ (Str.ofString "a") = some (.ref l) ∧ m₁ (Str.ofString "b") = some (.ref l2) ∧ m₁ (Str.ofString "new_coeffs") = some (.ref D) ∧ m₁ (Str.ofString "j") = some (.int ((1 + ((i : Nat) : Int) * 1)) t₁)) ?d1 ?d2 ?d3 ?d4 ?d5 ?d6 ?d7 ?d8 ?d9
      (case d1 => exact rfl)
      (case d2 => k_asm)
      (case d3 => exact b_small (by omega) (by omega) (by omega) (by omega))
      (case d4 => rw [rangeSize_nat] <;> omega)
      (case d5 => k_asm)
      (case' d7 => refine' ⟨_, _, rfl, ?d10, rfl, rfl, rfl, rfl, rfl⟩)
      (case d6 => refine cb_drop (by assumption) ?_; top_reprB)
      (case d10 => assumption)
      (case d9 =>
        intro m₃ nw₃ h₃ tk₃ ⟨ws₃, e₃, hnw₃, hW₃, hmn₃, hma₃, hmb₃, hmc₃, hmi₃⟩ F₃ N₃
        subst hnw₃
        dsimp only
        (try k_sweep)
        k_steps
        refine' UnrEnd.intro (by k_asm) (by k_asm) _ ?sub ?off ⟨_, _, _, _, rfl, hoS, hoff, hW₃, hmn₃, hma₃, hmb₃, hmc₃⟩
        (case sub => top_reprB)
        (case off => exact off_all hI₁)
      )
      intro j t₂ m₃ nw₃ h₃ tk₃ I₂ oI₂ hj ⟨ws₃, e₃, hnw₃, hW₃, hmn₃, hma₃, hmb₃, hmc₃, hmi₃⟩ F₃ N₃ hI₂
      subst hnw₃
      have F₄ : Fr g₁ L₁ h₃ _ := fr_set5 F₃ hmi₃ hmn₃ hma₃ hmb₃ hmc₃
      clear F₃
      replace N₃ : News g₁ L₁ h₃ _ := N₃
      have hlw := (inB_length ns ms n (1 + ((i : Nat) : Int) * 1) (outB ns ms n i) j).trans (outB_length ns ms n i)
      have q1 : 0 ≤ ((n - (1 + ((i : Nat) : Int) * 1)) + ((j : Nat) : Int) * 1) + (1 + ((i : Nat) : Int) * 1) - n := by omega
      have q2 : ((n - (1 + ((i : Nat) : Int) * 1)) + ((j : Nat) : Int) * 1) + (1 + ((i : Nat) : Int) * 1) - n < (((inB ns ms n (1 + ((i : Nat) : Int) * 1) (outB ns ms n i) j).length : Nat) : Int) := by omega
      have q3 : ((n - (1 + ((i : Nat) : Int) * 1)) + ((j : Nat) : Int) * 1) + (1 + ((i : Nat) : Int) * 1) - n < 2 ^ 63 := by omega
      have q4 : 0 ≤ ((n - (1 + ((i : Nat) : Int) * 1)) + ((j : Nat) : Int) * 1) := by omega
      have q5 : ((n - (1 + ((i : Nat) : Int) * 1)) + ((j : Nat) : Int) * 1) < ((ns.length : Nat) : Int) := by omega
      have q6 : ((n - (1 + ((i : Nat) : Int) * 1)) + ((j : Nat) : Int) * 1) < 2 ^ 63 := by omega
      have q7 : 0 ≤ (1 + ((i : Nat) : Int) * 1) := by omega
      have q8 : (1 + ((i : Nat) : Int) * 1) < ((ms.length : Nat) : Int) := by omega
      have q9 : (1 + ((i : Nat) : Int) * 1) < 2 ^ 63 := by omega
      clear hlw
      simp only [LCg.Off1, and_true] at hI₂
      (try k_sweep)
      (try k_fold)
      k_steps
      refine' UnrEnd.intro (by k_asm) (by k_asm) _ ?sub ?off ⟨_, _, rfl, ?iI, rfl, rfl, rfl, rfl, rfl⟩
      (case sub => top_reprB)
      (case iI => assumption)
      (case off => exact off_all ⟨by k_ne, by k_ne, by k_ne, by top_strB⟩)
    )
    intro i t₁ m₁ nw h₂ tk₂ I₁ oI₁ hi ⟨oS, D, ws, e, hnw, hoS, hoff, hW, hmn, hma, hmb, hmc⟩ F₂ N₂ hI₁
    subst hnw
    have F₃ : Fr g₁ L₁ h₂ _ := fr_set4 F₂ hmn hma hmb hmc
    clear F₂
    replace N₂ : News g₁ L₁ h₂ _ := N₂
    have hI₁' := hI₁
    have hoff' := hoff
    simp only [LCg.Off1, and_true] at hI₁' hoff'
    (try k_sweep)
    (try k_fold)
    k_steps
    refine' iter_rangeJ (n := (n - (0 + ((i : Nat) : Int) * 1)).toNat) (fun j m₁ nw => ∃ ws e, nw = (D, listOf ws.toArray e) :: (I₁, oI₁) :: (L₁ + 1, oS) :: N ∧ IntsAre ws (inA ns ms (0 + ((i : Nat) : Int) * 1) (outA ns ms n i) j) ∧ m₁ (Str.ofString "n") = some (.int n tn) ∧ m₁ (Str.ofString "a") = some (.ref l) ∧ m₁ (Str.ofString "b") = some (.ref l2) ∧ m₁ (Str.ofString "new_coeffs") = some (.ref D) ∧ m₁ (Str.ofString "i") = some (.int ((0 + ((i : Nat) : Int) * 1)) t₁)) ?b1 ?b2 ?b3 ?b4 ?b5 ?b6 ?b7 ?b8 ?b9
    (case b1 => exact rfl)
    (case b2 => k_asm)
    (case b3 => exact b_small (by omega) (by omega) (by omega) (by omega))
    (case b4 => rw [rangeSize_nat] <;> omega)
    (case b5 => k_asm)
    (case' b7 => refine' ⟨_, _, rfl, ?b10, rfl, rfl, rfl, rfl, rfl⟩)
    (case b6 => refine cb_drop (by assumption) ?_; top_reprB)
    (case b10 => assumption)
    (case b9 =>
      intro m₃ nw₃ h₃ tk₃ ⟨ws₃, e₃, hnw₃, hW₃, hmn₃, hma₃, hmb₃, hmc₃, hmi₃⟩ F₃ N₃
      subst hnw₃
      dsimp only
      (try k_sweep)
      k_steps
      refine' UnrEnd.intro (by k_asm) (by k_asm) _ ?sub ?off ⟨_, _, _, _, rfl, hoS, hoff, hW₃, hmn₃, hma₃, hmb₃, hmc₃⟩
      (case sub => top_reprB)
      (case off => exact off_all hI₁)
    )
    intro j t₂ m₃ nw₃ h₃ tk₃ I₂ oI₂ hj ⟨ws₃, e₃, hnw₃, hW₃, hmn₃, hma₃, hmb₃, hmc₃, hmi₃⟩ F₃ N₃ hI₂
    subst hnw₃
    have F₄ : Fr g₁ L₁ h₃ _ := fr_set5 F₃ hmi₃ hmn₃ hma₃ hmb₃ hmc₃
    clear F₃
    replace N₃ : News g₁ L₁ h₃ _ := N₃
    have hlw := (inA_length ns ms (0 + ((i : Nat) : Int) * 1) (outA ns ms n i) j).trans (outA_length ns ms n i)
    have q1 : 0 ≤ (0 + ((i : Nat) : Int) * 1) + (0 + ((j : Nat) : Int) * 1) := by omega
    have q2 : (0 + ((i : Nat) : Int) * 1) + (0 + ((j : Nat) : Int) * 1) < (((inA ns ms (0 + ((i : Nat) : Int) * 1) (outA ns ms n i) j).length : Nat) : Int) := by omega
    have q3 : (0 + ((i : Nat) : Int) * 1) + (0 + ((j : Nat) : Int) * 1) < 2 ^ 63 := by omega
    have q4 : 0 ≤ (0 + ((i : Nat) : Int) * 1) := by omega
    have q5 : (0 + ((i : Nat) : Int) * 1) < ((ns.length : Nat) : Int) := by omega
    have q6 : (0 + ((i : Nat) : Int) * 1) < 2 ^ 63 := by omega
    have q7 : 0 ≤ (0 + ((j : Nat) : Int) * 1) := by omega
    have q8 : (0 + ((j : Nat) : Int) * 1) < ((ms.length : Nat) : Int) := by omega
    have q9 : (0 + ((j : Nat) : Int) * 1) < 2 ^ 63 := by omega
    clear hlw
    simp only [LCg.Off1, and_true] at hI₂
    (try k_sweep)
    (try k_fold)
    k_steps
    refine' UnrEnd.intro (by k_asm) (by k_asm) _ ?sub ?off ⟨_, _, rfl, ?iI, rfl, rfl, rfl, rfl, rfl⟩
    (case sub => top_reprB)
    (case iI => assumption)
    (case off => exact off_all ⟨by k_ne, by k_ne, by k_ne, by top_strB⟩)
  case lx => intro hk; simpa only using hk (0 : Nat)
  case le => eq_refl
end
section
theorem addI_call {w : World} {N : Led} {x r l : Addr} {q n : Int} {ns : List Int} (hR : Ring w N r q n) (hP : Poly w N x r l ns) (hlen : (ns.length : Int) = n) (hn1 : 1 ≤ n) (hn : n ≤ 4) (hq : 2 ≤ q) (hq2 : q < 2 ^ 33) {v : Int} {t : Tok} :
   Ctr w 6 137 [.ref x, .int v t] N (ListPost N (ns.set (0 : Int).toNat (Int.fmod (ns.getD (0 : Int).toNat 0 + v) q))) := by
  refine' lite ?lw ?lx ?le
  case lw =>
    unfold Ctr
    k_fill
    intro p loose mean mg mb dp un gd cn cs a ccd cl outer A₀ base h₀ L m s R B F X N₀ T hk hdp hun hret
    obtain ⟨dr, k3, k4, tq, tn, e3, hr, hdr⟩ := hR
    obtain ⟨⟨vs, e1, hl, hI⟩, dx, k1, k2, e2, hx, hdx⟩ := hP
    k_dflt (refine' code_defC ?k1 ?k2 ?k3 ?k4 ?k5 ?kA ?kF ?kK ?k6 ?k7 ?k8 ?k9 ?kB ?kD ?_ ?c2 ?c3 ?c4; (case kA => exact rfl); (case kF => exact rfl); (case kK => assumption); (case k1 => k_asm); (case k2 => k_asm); (case k3 => k_asm); (case k4 => k_asm); (case k5 => k_asm); (case k6 => k_is); (case k7 => k_is); (case k8 => k_room); (case k9 => exact BindsTo.of_eq rfl); (case kB => exact rfl); (case kD => decide +kernel); (case c2 => exact rfl); (case c3 => exact rfl); (case c4 => exact rfl); k_whole)
    intro g₁ L₁ h₁ tk₁ cells₁ FG₁ F₁ N₁ Y₁ B₁ X₁ T₁ l₁
    k_cells Y₁
    simp only [List.cons_append, List.nil_append] at N₁
    (try dsimp only)
    (try k_fold)
    k_steps
    exact hret _ _ _ _ (by k_asm) (by allgen_close_more) ⟨_, _, _, rfl, rfl, by k_asm, by top_strB⟩
  case lx => intro hk; simpa only using hk (0 : Nat)
  case le => eq_refl
end
section
theorem subI_call {w : World} {N : Led} {x r l : Addr} {q n : Int} {ns : List Int} (hR : Ring w N r q n) (hP : Poly w N x r l ns) (hlen : (ns.length : Int) = n) (hn1 : 1 ≤ n) (hn : n ≤ 4) (hq : 2 ≤ q) (hq2 : q < 2 ^ 33) {v : Int} {t : Tok} :
   Ctr w 6 163 [.ref x, .int v t] N (ListPost N (ns.set (0 : Int).toNat (Int.fmod (ns.getD (0 : Int).toNat 0 - v) q))) := by
  refine' lite ?lw ?lx ?le
  case lw =>
    unfold Ctr
    k_fill
    intro p loose mean mg mb dp un gd cn cs a ccd cl outer A₀ base h₀ L m s R B F X N₀ T hk hdp hun hret
    obtain ⟨dr, k3, k4, tq, tn, e3, hr, hdr⟩ := hR
    obtain ⟨⟨vs, e1, hl, hI⟩, dx, k1, k2, e2, hx, hdx⟩ := hP
    k_dflt (refine' code_defC ?k1 ?k2 ?k3 ?k4 ?k5 ?kA ?kF ?kK ?k6 ?k7 ?k8 ?k9 ?kB ?kD ?_ ?c2 ?c3 ?c4; (case kA => exact rfl); (case kF => exact rfl); (case kK => assumption); (case k1 => k_asm); (case k2 => k_asm); (case k3 => k_asm); (case k4 => k_asm); (case k5 => k_asm); (case k6 => k_is); (case k7 => k_is); (case k8 => k_room); (case k9 => exact BindsTo.of_eq rfl); (case kB => exact rfl); (case kD => decide +kernel); (case c2 => exact rfl); (case c3 => exact rfl); (case c4 => exact rfl); k_whole)
    intro g₁ L₁ h₁ tk₁ cells₁ FG₁ F₁ N₁ Y₁ B₁ X₁ T₁ l₁
    k_cells Y₁
    simp only [List.cons_append, List.nil_append] at N₁
    (try dsimp only)
    (try k_fold)
    k_steps
    exact hret _ _ _ _ (by k_asm) (by allgen_close_more) ⟨_, _, _, rfl, rfl, by k_asm, by top_strB⟩
  case lx => intro hk; simpa only using hk (0 : Nat)
  case le => eq_refl
end
section
theorem reduce_call {w : World} {M : Led} {x dx r l : Addr} {t1 t2 : Tok} {q n : Int} {ns : List Int} (hR : Ring w M r q n) (hL : Ints M l ns) (hlen : ns.length ≤ 4) (hq : 2 ≤ q) (ox : LCg.Off1 x M) (od : LCg.Off1 dx M) (oxd : x ≠ dx) :
   Ctr w 6 108 [.ref x] ((x, instObj 227 dx) :: (dx, dictOf [⟨PyData.keyHash w.params (Str.ofString "parent"), .str (Str.ofString "parent") t1, .ref r⟩, ⟨PyData.keyHash w.params (Str.ofString "coeffs"), .str (Str.ofString "coeffs") t2, .ref l⟩] 2) :: M)
     (fun v N' => ∃ D us e', v = .ref x ∧ N' = (D, listOf us.toArray e') :: (x, instObj 227 dx) :: (dx, dictOf [⟨PyData.keyHash w.params (Str.ofString "parent"), .str (Str.ofString "parent") t1, .ref r⟩, ⟨PyData.keyHash w.params (Str.ofString "coeffs"), .str (Str.ofString "coeffs") t2, .ref D⟩] 2) :: M ∧ IntsAre us (ns.map fun c => Int.fmod c q) ∧ LCg.Off1 D M ∧ D ≠ x ∧ D ≠ dx) := by
  refine' lite ?lw ?lx ?le
  case lw =>
    unfold Ctr
    k_fill
    intro p loose mean mg mb dp un gd cn cs a ccd cl outer A₀ base h₀ L m s R B F X N₀ T hk hdp hun hret
    obtain ⟨dr, k3, k4, tq, tn, e3, hr, hdr⟩ := hR
    obtain ⟨vs, e1, hl, hI⟩ := hL
    k_dflt (refine' code_defC ?k1 ?k2 ?k3 ?k4 ?k5 ?kA ?kF ?kK ?k6 ?k7 ?k8 ?k9 ?kB ?kD ?_ ?c2 ?c3 ?c4; (case kA => exact rfl); (case kF => exact rfl); (case kK => assumption); (case k1 => k_asm); (case k2 => k_asm); (case k3 => k_asm); (case k4 => k_asm); (case k5 => k_asm); (case k6 => k_is); (case k7 => k_is); (case k8 => k_room); (case k9 => exact BindsTo.of_eq rfl); (case kB => exact rfl); (case kD => decide +kernel); (case c2 => exact rfl); (case c3 => exact rfl); (case c4 => exact rfl); k_whole)
    intro g₁ L₁ h₁ tk₁ cells₁ FG₁ F₁ N₁ Y₁ B₁ X₁ T₁ l₁
    k_cells Y₁
    simp only [List.cons_append, List.nil_append] at N₁
    (try dsimp only)
    (try k_fold)
    have lx := ltN (l₁ _ (.head _))
    have ld := ltN (l₁ _ (.tail _ (.head _)))
    k_steps
    exact hret _ _ _ _ (by k_asm) (by allgen_close_more) ⟨_, _, _, rfl, rfl, by k_asm, by top_strB, by k_ne, by k_ne⟩
  case lx => intro hk; simpa only using hk (0 : Nat)
  case le => eq_refl
end
section
theorem eq_call {w : World} {N : Led} {x r l : Addr} {ns : List Int} (hP : Poly w N x r l ns) {y s' l2 : Addr} {ms : List Int} (hP2 : Poly w N y s' l2 ms) (hlen : ns.length ≤ 4) (hlen2 : ms.length ≤ 4) :
   Ctr w 4 217 [.ref x, .ref y] N (fun v N' => v = .bool (decide (ns = ms)) ∧ N' = N) := by
  refine' lite ?lw ?lx ?le
  case lw =>
    unfold Ctr
    k_fill
    intro p loose mean mg mb dp un gd cn cs a ccd cl outer A₀ base h₀ L m s R B F X N₀ T hk hdp hun hret
    obtain ⟨⟨vs, e1, hl, hI⟩, dx, k1, k2, e2, hx, hdx⟩ := hP
    obtain ⟨⟨us, f1, hm, hJ⟩, dy, j1, j2, f2, hy, hdy⟩ := hP2
    k_dflt (refine' code_def ?k1 ?k2 ?k3 ?k4 ?k5 ?kA ?kF ?kK ?k6 ?k7 ?k8 ?k9 ?kB ?_ ?c2 ?c3 ?c4 ?c5; (case kA => exact rfl); (case kF => exact rfl); (case kK => assumption); (case k1 => k_asm); (case k2 => k_asm); (case k3 => k_asm); (case k4 => k_asm); (case k5 => k_asm); (case k6 => k_is); (case k7 => k_is); (case k8 => k_room); (case k9 => exact BindsTo.of_eq rfl); (case c5 => decide); (case kB => exact locs rfl); (case c2 => exact rfl); (case c3 => exact rfl); (case c4 => exact rfl); k_whole)
    intro g₁ L₁ h₁ FG₁ F₁ N₁ B₁ X₁ T₁
    (try dsimp only)
    (try k_fold)
    k_steps
    exact hret _ _ _ _ (by k_asm) (by allgen_close_more) ⟨rfl, rfl⟩
  case lx => intro hk; simpa only using hk (0 : Nat)
  case le => eq_refl
end
section
theorem eqs_call {w : World} {N : Led} {x r l : Addr} {ns : List Int} (hP : Poly w N x r l ns) {z : Str} {t : Tok} :
   Ctr w 4 217 [.ref x, .str z t] N (fun v N' => v = .bool false ∧ N' = N) := by
  refine' lite ?lw ?lx ?le
  case lw =>
    unfold Ctr
    k_fill
    intro p loose mean mg mb dp un gd cn cs a ccd cl outer A₀ base h₀ L m s R B F X N₀ T hk hdp hun hret
    obtain ⟨⟨vs, e1, hl, hI⟩, dx, k1, k2, e2, hx, hdx⟩ := hP
    k_dflt (refine' code_def ?k1 ?k2 ?k3 ?k4 ?k5 ?kA ?kF ?kK ?k6 ?k7 ?k8 ?k9 ?kB ?_ ?c2 ?c3 ?c4 ?c5; (case kA => exact rfl); (case kF => exact rfl); (case kK => assumption); (case k1 => k_asm); (case k2 => k_asm); (case k3 => k_asm); (case k4 => k_asm); (case k5 => k_asm); (case k6 => k_is); (case k7 => k_is); (case k8 => k_room); (case k9 => exact BindsTo.of_eq rfl); (case c5 => decide); (case kB => exact locs rfl); (case c2 => exact rfl); (case c3 => exact rfl); (case c4 => exact rfl); k_whole)
    intro g₁ L₁ h₁ FG₁ F₁ N₁ B₁ X₁ T₁
    (try dsimp only)
    (try k_fold)
    k_steps
    exact hret _ _ _ _ (by k_asm) (by allgen_close_more) ⟨rfl, rfl⟩
  case lx => intro hk; simpa only using hk (0 : Nat)
  case le => eq_refl
end
section
theorem item_call {w : World} {N : Led} {x r l : Addr} {ns : List Int} (hP : Poly w N x r l ns) {i : Int} {t : Tok} (h0 : 0 ≤ i) (h1 : i < (ns.length : Int)) (hlen : ns.length ≤ 4) :
   Ctr w 4 224 [.ref x, .int i t] N (fun v N' => ∃ t', v = .int (ns.getD i.toNat 0) t' ∧ N' = N) := by
  refine' lite ?lw ?lx ?le
  case lw =>
    unfold Ctr
    k_fill
    intro p loose mean mg mb dp un gd cn cs a ccd cl outer A₀ base h₀ L m s R B F X N₀ T hk hdp hun hret
    obtain ⟨⟨vs, e1, hl, hI⟩, dx, k1, k2, e2, hx, hdx⟩ := hP
    k_dflt (refine' code_def ?k1 ?k2 ?k3 ?k4 ?k5 ?kA ?kF ?kK ?k6 ?k7 ?k8 ?k9 ?kB ?_ ?c2 ?c3 ?c4 ?c5; (case kA => exact rfl); (case kF => exact rfl); (case kK => assumption); (case k1 => k_asm); (case k2 => k_asm); (case k3 => k_asm); (case k4 => k_asm); (case k5 => k_asm); (case k6 => k_is); (case k7 => k_is); (case k8 => k_room); (case k9 => exact BindsTo.of_eq rfl); (case c5 => decide); (case kB => exact locs rfl); (case c2 => exact rfl); (case c3 => exact rfl); (case c4 => exact rfl); k_whole)
    intro g₁ L₁ h₁ FG₁ F₁ N₁ B₁ X₁ T₁
    (try dsimp only)
    (try k_fold)
    k_steps
    exact hret _ _ _ _ (by k_asm) (by allgen_close_more) ⟨_, rfl, rfl⟩
  case lx => intro hk; simpa only using hk (0 : Nat)
  case le => eq_refl
end
section
/-- _law_less -/
def lessS (i : Int) : Int := if 0 < i then Int.fmod i (2 ^ (160 : Int).toNat) else -(Int.fmod (-i) (2 ^ (160 : Int).toNat))
theorem less_call {w : World} {N : Led} {i : Int} {t : Tok} :
   Ctr w 2 238 [.int i t] N (fun v N' => ∃ t', v = .int (lessS i) t' ∧ N' = N) := by
  refine' lite ?lw ?lx ?le
  case lw =>
    unfold Ctr
    k_fill
    intro p loose mean mg mb dp un gd cn cs a ccd cl outer A₀ base h₀ L m s R B F X N₀ T hk hdp hun hret
    k_dflt (refine' code_def ?k1 ?k2 ?k3 ?k4 ?k5 ?kA ?kF ?kK ?k6 ?k7 ?k8 ?k9 ?kB ?_ ?c2 ?c3 ?c4 ?c5; (case kA => exact rfl); (case kF => exact rfl); (case kK => assumption); (case k1 => k_asm); (case k2 => k_asm); (case k3 => k_asm); (case k4 => k_asm); (case k5 => k_asm); (case k6 => k_is); (case k7 => k_is); (case k8 => k_room); (case k9 => exact BindsTo.of_eq rfl); (case c5 => decide); (case kB => exact locs rfl); (case c2 => exact rfl); (case c3 => exact rfl); (case c4 => exact rfl); k_whole)
    intro g₁ L₁ h₁ FG₁ F₁ N₁ B₁ X₁ T₁
    (try dsimp only)
    (try k_fold)
    k_steps
    all_goals exact hret _ _ _ _ (by k_asm) (by allgen_close_more) ⟨_, by unfold lessS; first | rw [if_pos (by omega)] | rw [if_neg (by omega)], rfl⟩
  case lx => intro hk; simpa only using hk (0 : Nat)
  case le => eq_refl
end
end
section
local macro_rules | `(tactic| k_mem) => `(tactic| ((fail_if_success (with_reducible refine' List.Mem.tail _ ?_)); first | with_reducible assumption | assumption | (refine sub_mem (by assumption) ?_; k_mem)))
local macro_rules | `(tactic| news_mem) => `(tactic| k_mem)
local macro_rules | `(tactic| k_room) => `(tactic| ((simp only [depth_under_make, depth_under_kw, depth_in1, depth_deeper, depth_caller, recursionLimit] at *); omega))
local macro_rules | `(tactic| k_units) => `(tactic| ((have hcL9 := cLine_is); (simp only [units_in1, units_deeper, Around.mark_units, units_caller, cLine] at *); omega))
local macro_rules | `(tactic| allgen_close2_more) => `(tactic| assumption)
local macro_rules | `(tactic| ktr_rel) => `(tactic| ((try simp only [List.length_append, List.length_cons, List.length_nil, List.length_map, List.length_set, List.length_zipWith, rangeKs_length]); first | assumption | omega))
local macro_rules | `(tactic| top_reprB) => `(tactic| first | exact List.forall_mem_nil _ | (refine List.forall_mem_cons.mpr ⟨by k_mem, ?_⟩; top_reprB) | (intro p hp; k_mem))
local macro_rules | `(tactic| k_ne) => `(tactic| (refine neN ?_; (try dsimp only); first | (with_reducible assumption) | exact Ne.symm (by with_reducible assumption) | exact off_ne (by with_reducible assumption) (by k_mem) | exact Ne.symm (off_ne (by with_reducible assumption) (by k_mem)) | omega))
local macro_rules | `(tactic| top_strB) => `(tactic| first | (first | assumption | exact allLt_of (by assumption) | exact And.right (by assumption) | exact And.right (And.right (by assumption)) | exact And.right (And.right (And.right (by assumption))) | exact And.right (And.right (And.right (And.right (by assumption)))) | exact And.right (And.right (And.right (And.right (And.right (by assumption))))) | exact And.right (And.right (And.right (And.right (And.right (And.right (by assumption)))))) | exact And.right (And.right (And.right (And.right (And.right (And.right (And.right (by assumption))))))) | exact And.right (And.right (And.right (And.right (And.right (And.right (And.right (And.right (by assumption)))))))) | exact And.right (And.right (And.right (And.right (And.right (And.right (And.right (And.right (And.right (by assumption))))))))) | exact And.right (And.right (And.right (And.right (And.right (And.right (And.right (And.right (And.right (And.right (by assumption)))))))))) | exact And.right (And.right (And.right (And.right (And.right (And.right (And.right (And.right (And.right (And.right (And.right (by assumption))))))))))) | exact And.right (And.right (And.right (And.right (And.right (And.right (And.right (And.right (And.right (And.right (And.right (And.right (by assumption)))))))))))) | exact And.right (And.right (And.right (And.right (And.right (And.right (And.right (And.right (And.right (And.right (And.right (And.right (And.right (by assumption))))))))))))) | exact And.right (And.right (And.right (And.right (And.right (And.right (And.right (And.right (And.right (And.right (And.right (And.right (And.right (And.right (by assumption)))))))))))))) | exact And.right (And.right (And.right (And.right (And.right (And.right (And.right (And.right (And.right (And.right (And.right (And.right (And.right (And.right (And.right (by assumption))))))))))))))) | exact And.right (And.right (And.right (And.right (And.right (And.right (And.right (And.right (And.right (And.right (And.right (And.right (And.right (And.right (And.right (And.right (by assumption)))))))))))))))) | exact And.right (And.right (And.right (And.right (And.right (And.right (And.right (And.right (And.right (And.right (And.right (And.right (And.right (And.right (And.right (And.right (And.right (by assumption))))))))))))))))) | exact And.right (And.right (And.right (And.right (And.right (And.right (And.right (And.right (And.right (And.right (And.right (And.right (And.right (And.right (And.right (And.right (And.right (And.right (by assumption)))))))))))))))))) | exact And.right (And.right (And.right (And.right (And.right (And.right (And.right (And.right (And.right (And.right (And.right (And.right (And.right (And.right (And.right (And.right (And.right (And.right (And.right (by assumption)))))))))))))))))))) | exact off_sub (by with_reducible assumption) (by top_reprB) | exact off_of_lt (by (first | assumption | exact allLt_of (by assumption) | exact And.right (by assumption) | exact And.right (And.right (by assumption)) | exact And.right (And.right (And.right (by assumption))) | exact And.right (And.right (And.right (And.right (by assumption)))) | exact And.right (And.right (And.right (And.right (And.right (by assumption))))) | exact And.right (And.right (And.right (And.right (And.right (And.right (by assumption)))))) | exact And.right (And.right (And.right (And.right (And.right (And.right (And.right (by assumption))))))) | exact And.right (And.right (And.right (And.right (And.right (And.right (And.right (And.right (by assumption)))))))) | exact And.right (And.right (And.right (And.right (And.right (And.right (And.right (And.right (And.right (by assumption))))))))) | exact And.right (And.right (And.right (And.right (And.right (And.right (And.right (And.right (And.right (And.right (by assumption)))))))))) | exact And.right (And.right (And.right (And.right (And.right (And.right (And.right (And.right (And.right (And.right (And.right (by assumption))))))))))) | exact And.right (And.right (And.right (And.right (And.right (And.right (And.right (And.right (And.right (And.right (And.right (And.right (by assumption)))))))))))) | exact And.right (And.right (And.right (And.right (And.right (And.right (And.right (And.right (And.right (And.right (And.right (And.right (And.right (by assumption))))))))))))) | exact And.right (And.right (And.right (And.right (And.right (And.right (And.right (And.right (And.right (And.right (And.right (And.right (And.right (And.right (by assumption)))))))))))))) | exact And.right (And.right (And.right (And.right (And.right (And.right (And.right (And.right (And.right (And.right (And.right (And.right (And.right (And.right (And.right (by assumption))))))))))))))) | exact And.right (And.right (And.right (And.right (And.right (And.right (And.right (And.right (And.right (And.right (And.right (And.right (And.right (And.right (And.right (And.right (by assumption)))))))))))))))) | exact And.right (And.right (And.right (And.right (And.right (And.right (And.right (And.right (And.right (And.right (And.right (And.right (And.right (And.right (And.right (And.right (And.right (by assumption))))))))))))))))) | exact And.right (And.right (And.right (And.right (And.right (And.right (And.right (And.right (And.right (And.right (And.right (And.right (And.right (And.right (And.right (And.right (And.right (And.right (by assumption)))))))))))))))))) | exact And.right (And.right (And.right (And.right (And.right (And.right (And.right (And.right (And.right (And.right (And.right (And.right (And.right (And.right (And.right (And.right (And.right (And.right (And.right (by assumption))))))))))))))))))))) | exact off_of_lt2 (by (first | assumption | exact allLt_of (by assumption) | exact And.right (by assumption) | exact And.right (And.right (by assumption)) | exact And.right (And.right (And.right (by assumption))) | exact And.right (And.right (And.right (And.right (by assumption)))) | exact And.right (And.right (And.right (And.right (And.right (by assumption))))) | exact And.right (And.right (And.right (And.right (And.right (And.right (by assumption)))))) | exact And.right (And.right (And.right (And.right (And.right (And.right (And.right (by assumption))))))) | exact And.right (And.right (And.right (And.right (And.right (And.right (And.right (And.right (by assumption)))))))) | exact And.right (And.right (And.right (And.right (And.right (And.right (And.right (And.right (And.right (by assumption))))))))) | exact And.right (And.right (And.right (And.right (And.right (And.right (And.right (And.right (And.right (And.right (by assumption)))))))))) | exact And.right (And.right (And.right (And.right (And.right (And.right (And.right (And.right (And.right (And.right (And.right (by assumption))))))))))) | exact And.right (And.right (And.right (And.right (And.right (And.right (And.right (And.right (And.right (And.right (And.right (And.right (by assumption)))))))))))) | exact And.right (And.right (And.right (And.right (And.right (And.right (And.right (And.right (And.right (And.right (And.right (And.right (And.right (by assumption))))))))))))) | exact And.right (And.right (And.right (And.right (And.right (And.right (And.right (And.right (And.right (And.right (And.right (And.right (And.right (And.right (by assumption)))))))))))))) | exact And.right (And.right (And.right (And.right (And.right (And.right (And.right (And.right (And.right (And.right (And.right (And.right (And.right (And.right (And.right (by assumption))))))))))))))) | exact And.right (And.right (And.right (And.right (And.right (And.right (And.right (And.right (And.right (And.right (And.right (And.right (And.right (And.right (And.right (And.right (by assumption)))))))))))))))) | exact And.right (And.right (And.right (And.right (And.right (And.right (And.right (And.right (And.right (And.right (And.right (And.right (And.right (And.right (And.right (And.right (And.right (by assumption))))))))))))))))) | exact And.right (And.right (And.right (And.right (And.right (And.right (And.right (And.right (And.right (And.right (And.right (And.right (And.right (And.right (And.right (And.right (And.right (And.right (by assumption)))))))))))))))))) | exact And.right (And.right (And.right (And.right (And.right (And.right (And.right (And.right (And.right (And.right (And.right (And.right (And.right (And.right (And.right (And.right (And.right (And.right (And.right (by assumption))))))))))))))))))))) (by omega) | exact off_of_base (by assumption) (by omega))
local macro_rules | `(tactic| k_all) => `(tactic| (refine off_all ?_; top_strB))
local macro_rules | `(tactic| walk_at "getMethod ref") => `(tactic| (k_here; k_dflt (refine' kmu_own ?k1 ?k2 ?k3 ?k4 ?k5 ?_; (case k1 => k_asm); (case k2 => k_asm); (case k3 => k_inst); (case k4 => k_is); (case k5 => k_is); k_whole)))
local macro_rules | `(tactic| walk_at "binaryOp Mult int int") => `(tactic| (k_here; with_reducible first | refine PyProof.Rows.mul_int ?_ (mulok_getD (by assumption) (by assumption) (by assumption)) | refine PyProof.Rows.mul_int ?_ (mulok_mem (by assumption) (by assumption) (by assumption))))
local macro_rules | `(tactic| top_name) => `(tactic| (law_purse 40000 => (law_clear; (repeat (with_reducible rename (@Ne Nat _ _) ∧ _ => hne9; clear hne9)); (repeat (with_reducible rename (@LT.lt Nat _ _ _) ∧ _ => hne9; clear hne9)); (repeat (with_reducible rename (@Ne Nat _ _) => hne9; clear hne9)); (try simp only [List.length_append, List.length_cons, List.length_nil, List.length_map, List.length_take, List.length_set, List.length_zipWith, rangeKs_length]); omega)))
local macro_rules | `(tactic| walk_at "subscriptTail Name Name ref int") => `(tactic| ((k_here; (with_reducible show wpAny _ _ (subscriptTail _ _ (Value.ref _) (Value.int _ _)) _ _ _); (with_unfolding_all refine' item_list_ints ?k1 ?k2 ?k3 ?k4 ?k5 ?_; (case k1 => exact News.isList (by k_asm) (by k_mem)); (case k2 => l_ints); (case k3 => first | assumption | top_name); (case k4 => first | assumption | exact idx_hi (by assumption) (by first | assumption | exact Nat.le_refl _) | top_name); (case k5 => first | assumption | exact idx_fit (by assumption) (by assumption) | top_name); k_whole); intro _)))
local macro_rules | `(tactic| walk_at "subscriptTail Name BinOp ref int") => `(tactic| ((k_here; (with_reducible show wpAny _ _ (subscriptTail _ _ (Value.ref _) (Value.int _ _)) _ _ _); (with_unfolding_all refine' item_list_ints ?k1 ?k2 ?k3 ?k4 ?k5 ?_; (case k1 => exact News.isList (by k_asm) (by k_mem)); (case k2 => l_ints); (case k3 => first | assumption | top_name); (case k4 => first | assumption | exact idx_hi (by assumption) (by first | assumption | exact Nat.le_refl _) | top_name); (case k5 => first | assumption | exact idx_fit (by assumption) (by assumption) | top_name); k_whole); intro _)))
local macro_rules | `(tactic| walk_at "call builtin:list.copy") => `(tactic| (k_here; (with_reducible show wpAny _ _ (call (Value.builtin _) [Value.ref _]) _ _ _); k_dflt (refine' copyK ?k1 ?k2 ?k3 ?k4 ?_; (case k1 => k_asm); (case k2 => k_asm); (case k3 => exact News.isList (by k_asm) (by k_mem)); (case k4 => exact ints_size (by l_ints) (by top_name)); k_whole); intro D' h' F' N' l1; (try k_lt l1); (try k_sweep)))
local macro_rules | `(tactic| walk_at "setItem ref int") => `(tactic| (k_here; (with_reducible show wpAny _ _ (setItem (Value.ref _) (Value.int _ _) (Value.int _ _)) _ _ _); k_dflt (refine' ksa_set ?k1 ?k2 ?k3 ?k4 ?k5 ?k6 ?k7 ?_; (case k1 => k_asm); (case k2 => k_asm); (case k3 => k_upd); (case k4 => l_ints); (case k5 => first | assumption | top_name); (case k6 => first | assumption | top_name); (case k7 => first | assumption | top_name); k_whole); intro h' F' N' hi' hl' hs'; clear hs'; (try k_sweep)))
local macro_rules | `(tactic| walk_at "callWith ref") => `(tactic| (k_here; kco_here; k_dflt (refine' kco_callWith ?k1 ?k2 ?k3 ?k4 ?_; (case k1 => k_in); (case k2 => k_inst); (case k3 => rfl); (case k4 => k_is); k_whole)))
local macro_rules | `(tactic| allgen_close_more) => `(tactic| first | k_asm | (refine' cb_drop ?cbN ?cbS; (case cbN => assumption); (case cbS => top_reprB)))
local macro_rules | `(tactic| walk_at "exec For Name Call cons nil") => `(tactic| (k_here; k_dflt (refine For_turns (by k_asm) ?_ (by intro _; with_unfolding_all rfl) (by passes_own)); (try k_fold)))
local macro_rules | `(tactic| walk_at "getItem ref int") => `(tactic| (k_here; (with_reducible show wpAny _ _ (getItem (Value.ref _) (Value.int _ _)) _ _ _); k_dflt (refine' ksa_get ?k1 ?k2 ?k3 ?k4 ?k5 ?k6 ?_; (case k1 => k_asm); (case k2 => k_mem); (case k3 => l_ints); (case k4 => first | assumption | top_name); (case k5 => first | assumption | top_name); (case k6 => first | assumption | top_name); k_whole); intro _))
local macro_rules | `(tactic| walk_at "CompSrc") => `(tactic| (k_here; k_dflt (refine' LCg.CompSrc.ledger ?s1 ?s2 ?s3 ?s4 ?s5 ?_; (case s1 => rfl); (case s2 => k_asm); (case s3 => k_asm); (case s4 => k_mem); (case s5 => exact ints_sizeA (by l_ints) (by first | assumption | top_name)); intro g'; (refine' kcf_list _ (by l_ints) (fun k' t' I' oI' C' oC' D' m' ys' h' tk' E' hk' hC' hx' F' N' off' ne' hMark' => ?_) ?_); (all_goals (try (simp only [LCg.Off3, and_true] at off'))); kcf_last)))
local macro_rules | `(tactic| allgen_close2_more) => `(tactic| first | assumption | exact school_bnd (by assumption) _ _ | exact one_bnd (by assumption) | exact times_bnd (by assumption) _ _ | exact map_bnd (by assumption) _ _ | exact zip_bnd (by assumption) _ _ _ | exact set_bnd (by assumption) (by allgen_close2_more))
local macro_rules | `(tactic| ktr_rel) => `(tactic| ((simp only [List.length_append, List.length_cons, List.length_nil, List.length_map, List.length_set, List.length_zipWith, rangeKs_length, schoolS_length, timesS_length]); omega))
section
/-- a contract of a def that may make a generator expression: the rest of the state is free but for what is said -/
noncomputable def CtrG (w : World) (d : Nat) (f : Addr) (args : List Value) (N : Led) (Post : Value → Led → Prop) : Prop :=
  ∀ (p : Program) (loose : List Str) (mean : ExcName → Option Value) (mg mb : Str → Option Value) (dp un : Nat) (gd : Option (List Code)) (cn : Str) (cs : Scope) (a : Addr) (ccd : Value) (cl : List (Str × Addr)) (outer : List Env) (A₀ : Around) (base h₀ : Heap) (L : Addr) (m : Str → Option Value) (s : Shared) (R : Result → Shared → Prop),
   Below A₀ base outer h₀ → Fr h₀ L s.heap m → (hd.heap_1 w.params).In h₀ → News h₀ L s.heap N → Top p loose mean mg mb h₀ → cs.kind = .function → AllBare s.gens →
   dp + d < 1000 → un + 20 * d < 9900 →
   (∀ v s' N', Fr h₀ L s'.heap m → News h₀ L s'.heap N' → AllBare s'.gens → s'.os = s.os → Post v N' → R (.ok (.ret v)) s') →
   codeAny (model PySem.Challenge.rw_bn0014_01.row.toRowW.prog w) (ktrTop dp un gd cn cs L a ccd cl outer) (.call (.ref f) ⟨args, []⟩) R s
theorem CtrG.use {w : World} {d : Nat} {f : Addr} {args : List Value} {N : Led} {Post : Value → Led → Prop} (C : CtrG w d f args N Post)
  {p : Program} {loose : List Str} {mean : ExcName → Option Value} {mg mb : Str → Option Value} {dp un : Nat} {gd : Option (List Code)} {cn : Str} {cs : Scope} {a : Addr} {ccd : Value} {cl : List (Str × Addr)} {outer : List Env} {A₀ : Around} {base h₀ : Heap} {L : Addr} {m : Str → Option Value} {s : Shared} {R : Result → Shared → Prop}
  (B : Below A₀ base outer h₀) (F : Fr h₀ L s.heap m) (X : (hd.heap_1 w.params).In h₀) (N₀ : News h₀ L s.heap N) (T : Top p loose mean mg mb h₀) (hk : cs.kind = .function) (G : AllBare s.gens) (hdp : dp + d < 1000) (hun : un + 20 * d < 9900)
  (h : ∀ v s' N', Fr h₀ L s'.heap m → News h₀ L s'.heap N' → AllBare s'.gens → s'.os = s.os → Post v N' → R (.ok (.ret v)) s') :
   codeAny (model PySem.Challenge.rw_bn0014_01.row.toRowW.prog w) (ktrTop dp un gd cn cs L a ccd cl outer) (.call (.ref f) ⟨args, []⟩) R s :=
  C _ _ _ _ _ _ _ _ _ _ _ _ _ _ _ _ _ _ _ _ _ B F X N₀ T hk G hdp hun h
theorem CtrG.conv {w : World} {d : Nat} {f : Addr} {args : List Value} {N1 N2 : Led} {P1 P2 : Value → Led → Prop} (C : CtrG w d f args N2 P2) (h1 : ∀ p ∈ N2, p ∈ N1) (h2 : ∀ v N', P2 v N' → ∃ N'', (∀ p ∈ N'', p ∈ N') ∧ P1 v N'') : CtrG w d f args N1 P1 := by
  unfold CtrG
  intro p loose mean mg mb dp un gd cn cs a ccd cl outer A₀ base h₀ L m s R B F X N₀ T hk G hdp hun hret
  refine C _ _ _ _ _ _ _ _ _ _ _ _ _ _ _ _ _ _ _ _ _ B F X (fun q hq => N₀ q (h1 q hq)) T hk G hdp hun fun v s' N' F' N'' G' ho hp => ?_
  obtain ⟨M, hs, hp'⟩ := h2 v N' hp
  exact hret v s' M F' (fun q hq => N'' q (hs q hq)) G' ho hp'
theorem CtrG.mono {w : World} {d : Nat} {f : Addr} {args : List Value} {N : Led} {P1 P2 : Value → Led → Prop} (C : CtrG w d f args N P2) (h2 : ∀ v N', P2 v N' → P1 v N') : CtrG w d f args N P1 :=
  C.conv (fun _ h => h) fun v N' h => ⟨N', fun _ h => h, h2 v N' h⟩
section
variable {prog : Program} {w : World} {A : Around} {E : Value → Shared → Prop} {s : Shared} {h₀ : Heap} {L : Addr} {m : Str → Option Value}
theorem gx_elt0 {x : Str} {px p1 p2 : Pos} {zt : Nat} {k : Int} {t : Tok} {u : Shared} {m₂ : Str → Option Value} {D bi : Addr} {scope : Scope} {cl : List (Str × Addr)} {code : Value} {env : Env}
    (hk : scope.kind = .function) (hx : scope.names.lookup x = some .local) (hd : (x == ("__debug__" : Str)) = false) (hn : u.heap.Ns D m₂) (hm : m₂ x = some (.int k t)) :
    wpAny (model prog w) A (eval (.Compare (.Name x px) [.Eq] [.Constant (.int 0) zt p1] p2) (genEnv scope cl D code bi env)) (fun y s₃ => y = .bool (decide (k = 0)) ∧ Keeps u s₃) E u := by
  refine wpAny_Compare1 (wpAny_Name (wpAny_loadName_local hk hx hn hm (wpAny_Constant_int (PyProof.Rows.eq_int ⟨?_, ?_⟩))) hd)
  · rfl
  · exact ⟨u.heap, _, rfl, fun _ _ e => e⟩
theorem all_gx {a Kb : Addr} {ns : List Int} {q : Int → Bool} {news : Led} {Q : Value → Shared → Prop} (F : Fr h₀ L s.heap m) (N : News h₀ L s.heap news) (G : AllBare s.gens) (X : GenOnD prog w A Kb a ns (fun _ => true) (fun k => .bool (q k)) s) (hLK : L ≤ Kb) (hb : ∀ y ∈ news, y.1 ≤ Kb)
    (hQ : ∀ s', Fr h₀ L s'.heap m → News h₀ L s'.heap news → AllBare s'.gens → s'.os = s.os → Q (.bool (ns.all q)) s') : wpAny (model prog w) A (call (.builtin "all") [.ref a]) Q E s := by
  refine all_genD F G X hLK fun s' F' G' hos hk => ?_
  have e : ns.filter (fun _ => true) = ns := by simp
  rw [e]
  exact hQ s' F' (fun p hp => ⟨hk _ _ (hb p hp) (N p hp).1, (N p hp).2⟩) G' hos
end
local macro_rules | `(tactic| walk_at "call builtin:all") => `(tactic| (k_here; (with_reducible rename GenOnD _ _ _ _ _ _ _ _ _ => gxX'); k_dflt (refine' all_gx ?k1 ?k2 ?k3 gxX' ?k4 ?k5 ?_; (case k1 => k_asm); (case k2 => k_asm); (case k3 => k_asm); (case k4 => k_asm); (case k5 => k_asm); k_whole); clear gxX'; intro s' F' N' G' hos'))
end
section
open PySem.Calls
/-- the class at C has its own __eq__ at f, no __ne__, and stands right under object -/
def ownEqIn (K : Frag) (C f : Addr) : Bool := match K.lookup C with
  | some ⟨.type "type", _, .cls cd, sl⟩ => (match cd.mro, sl.toList with
    | [.ref C', .type "object"], [_, _, _, _, some (.builtin _), _] => C' == C && !cd.hasDel && (match K.lookup cd.ns with
      | some ⟨_, _, .dict es _, _⟩ => (es.toList.all fun e => match e.key with | .str _ _ => true | _ => false) && nsFind es "__eq__" == some (.ref f) && nsFind es "__ne__" == none
      | _ => false)
    | _, _ => false)
  | _ => false
def fnClsIn (K : Frag) (f : Addr) : Bool := match K.lookup f with
  | some ⟨.type "function", _, _, _⟩ => true
  | _ => false
theorem ownEq_of {K : Frag} {h : Heap} {C f x : Addr} {ox : Obj} {od : Option Obj} (X : K.In h) (q : ownEqIn K C f = true) (I : InstAt h x ox C od) (hf : fnClsIn K f = true) : h.OwnEqNoNe x C f "object" [.type "object"] := by
  refine' lite ?lw ?lx ?le
  case lw =>
    unfold ownEqIn at q
    split at q
    · rename_i dd cd sl ho
      split at q
      · rename_i C' k0 k1 k2 k3 n k5 hm hs
        simp only [Bool.and_eq_true, beq_iff_eq, Bool.not_eq_true'] at q
        obtain ⟨⟨rfl, hdel⟩, q⟩ := q
        split at q
        · rename_i cn dn es ep sn' hn
          simp only [Bool.and_eq_true, beq_iff_eq] at q
          obtain ⟨⟨hk, he⟩, hne⟩ := q
          obtain ⟨nm, bs, mro, ns, qn, hd, sn, sub, ab, col, del⟩ := cd
          dsimp only at hm hdel hn
          subst hm hdel
          have hsl : sl = #[k0, k1, k2, k3, some (.builtin n), k5] := by
            obtain ⟨l⟩ := sl
            simp only at hs
            rw [hs]
          subst hsl
          obtain ⟨of, hof, hfc⟩ : ∃ of, h.get? f = some of ∧ of.cls = .type "function" := by
            unfold fnClsIn at hf
            split at hf
            · rename_i e; exact ⟨_, X _ _ e, rfl⟩
            · cases hf
          refine ⟨ox, of, nm, qn, ns, bs, hd, sn, sub, ab, col, dd, k0, k1, k2, k3, k5, n, nsFind es, _, I.at_, I.cls, X _ _ ho, ⟨_, es, ep, X _ _ hn, rfl, fun e he' => ?_, fun _ => rfl⟩, he, hof, hfc, PySem.F.mro_object, PySem.F.cmp_object.eq.lookup, hne⟩
          have := List.all_eq_true.mp hk e (by simpa using he')
          split at this
          · rename_i a t e2; exact ⟨a, t, e2⟩
          · cases this
        · cases q
      · cases q
    · cases q
  case lx => intro hk; simpa only using hk (0 : Nat)
  case le => eq_refl
theorem ne_inst {prog : Program} {w : World} {A : Around} {E : Value → Shared → Prop} {s : Shared} {K : Frag} {x y C f L : Addr} {h₀ : Heap} {m : Str → Option Value} {ox oy : Obj} {od oe : Option Obj} {Q : Value → Shared → Prop}
    (hu : A.units + 1 < cLine) (F : Fr h₀ L s.heap m) (X₀ : K.In h₀) (I : InstAt s.heap x ox C od) (J : InstAt s.heap y oy C oe) (q : ownEqIn K C f = true) (hf : fnClsIn K f = true)
    (h : wpAny (model prog w) A.in1 (call (.ref f) [.ref x, .ref y]) (NeBack Q) E s) : wpAny (model prog w) A (compareOp .NotEq (.ref x) (.ref y)) Q E s := by
  have Y := ownEq_of (X₀.keeps F.keep) q I hf
  obtain ⟨hh, g, d, t, os⟩ := s
  exact compareOp_ne_ownEq PySem.F.cmp_object Y J.at_ J.cls hu h
local macro_rules | `(tactic| walk_at "compareOp NotEq ref ref") => `(tactic| (k_here; (with_reducible show wpAny _ _ (compareOp CmpOp.NotEq (Value.ref _) (Value.ref _)) _ _ _); k_dflt (refine' ne_inst (C := 227) (f := 217) ?hu ?F ?X ?I ?J ?q ?hf ?_; (case F => k_asm); (case X => k_asm); (case I => k_inst); (case J => k_inst); (case hu => k_units); (case q => kernel_rfl); (case hf => kernel_rfl); k_whole)))
local macro_rules | `(tactic| walk_at "NeBack") => `(tactic| (refine neBack_bool ?_))
theorem ne_bool_eq {prog : Program} {w : World} {A : Around} {E : Value → Shared → Prop} {s : Shared} {a b : Bool} {Q : Value → Shared → Prop} (e : a = b) (h : Q (.bool false) s) : wpAny (model prog w) A (compareOp .NotEq (.bool a) (.bool b)) Q E s := by
  subst e
  refine PyProof.Rows.ne_bool ?_
  rw [bne_self_eq_false]
  exact h
theorem eq_bool_eq {prog : Program} {w : World} {A : Around} {E : Value → Shared → Prop} {s : Shared} {a b : Bool} {Q : Value → Shared → Prop} (e : a = b) (h : Q (.bool true) s) : wpAny (model prog w) A (compareOp .Eq (.bool a) (.bool b)) Q E s := by
  subst e
  refine PyProof.Rows.eq_bool ?_
  rw [beq_self_eq_true]
  exact h
theorem eq_int_same {prog : Program} {w : World} {A : Around} {E : Value → Shared → Prop} {s : Shared} {a : Int} {t u : Tok} {Q : Value → Shared → Prop} (h : Q (.bool true) s) : wpAny (model prog w) A (compareOp .Eq (.int a t) (.int a u)) Q E s := by
  refine' lite ?lw ?lx ?le
  case lw =>
    refine PyProof.Rows.eq_int ?_
    rw [beq_self_eq_true]
    exact h
  case lx => intro hk; simpa only using hk (0 : Nat)
  case le => eq_refl
local macro_rules | `(tactic| walk_at "compareOp NotEq bool bool") => `(tactic| (k_here; refine ne_bool_eq ?_ ?_; (focus (first | (with_reducible exact rfl) | ((with_reducible rename (@Eq (List Int) _ (List.flatten _)) => hx9); (simp only [hx9, decide_true, Bool.true_and]; done)) | ((with_reducible rename (Not (@Eq (List Int) _ (List.flatten _))) => hx9); (simp only [hx9, decide_false, Bool.false_and]; done))))))
local macro_rules | `(tactic| walk_at "compareOp Eq bool bool") => `(tactic| (k_here; refine eq_bool_eq ?_ ?_; (focus (first | (with_reducible exact rfl) | ((with_reducible rename (@Eq (List Int) _ (List.flatten _)) => hx9); (simp only [hx9, decide_true, Bool.true_and]; done)) | ((with_reducible rename (Not (@Eq (List Int) _ (List.flatten _))) => hx9); (simp only [hx9, decide_false, Bool.false_and]; done))))))
local macro_rules | `(tactic| walk_at "compareOp Eq int int") => `(tactic| (k_here; with_reducible refine eq_int_same ?_))
end
section
def powerN (q : Int) (fs : List Int) : Nat → List Int
  | 0 => [1] ++ (List.replicate ((((fs.length : Nat) : Int) - 1)).toNat [(0 : Int)]).flatten
  | i + 1 => timesS q (powerN q fs i) fs
theorem powerN_length {fs : List Int} (q : Int) (h : 1 ≤ fs.length) : ∀ i, (powerN q fs i).length = fs.length
  | 0 => by unfold powerN; simp; omega
  | i + 1 => by unfold powerN; rw [timesS_length]; exact powerN_length q h i
theorem powerN_bnd {q : Int} (hq : 2 ≤ q) (fs : List Int) : ∀ i, ∀ c ∈ powerN q fs i, 0 ≤ c ∧ c < q
  | 0 => by
    intro c hc
    unfold powerN at hc
    rcases List.mem_append.mp hc with h | h
    · rw [List.mem_singleton.mp h]; omega
    · obtain ⟨l, hl, hc⟩ := List.mem_flatten.mp h
      rw [List.eq_of_mem_replicate hl] at hc
      rw [List.mem_singleton.mp hc]; omega
  | i + 1 => by unfold powerN; exact times_bnd hq _ _
local macro_rules | `(tactic| k_enter) => `(tactic| ((with_reducible show codeAny _ _ (Code.call (Value.ref 243) ⟨_, _⟩) _ _); k_dflt (refine' Ctr.use (times_call ?c0 ?c1 ?c2 ?c3 ?c4 ?c5 ?c6 ?c7 ?c8 _) ?k1 ?k2 ?k3 ?k4 ?k5 ?kK ?kd ?ku ?_; (case k1 => k_asm); (case k2 => k_asm); (case k3 => k_asm); (case k4 => k_asm); (case k5 => k_asm); (case kK => first | exact rfl | assumption); (case c0 => assumption); (case c1 => assumption); (case c2 => first | assumption | ktr_rel); (case c3 => first | assumption | ktr_rel); (case c4 => exact ⟨_, _, by k_mem, by l_ints⟩); (case c5 => exact ⟨_, _, by k_mem, by l_ints⟩); (case c6 => first | assumption | ktr_rel); (case c7 => first | assumption | allgen_close2_more); (case c8 => first | assumption | allgen_close2_more); (case kd => k_room); (case ku => k_units); k_whole; intro v' h' tk' nw' F' N' cP'; obtain ⟨l', vs', e', hv', hn', hi', o1'⟩ := cP'; subst hv'; subst hn'; (try dsimp only); kts_tail; (try k_sweep))))

theorem power_call {w : World} {N : Led} {q v : Int} {f : Addr} {fs : List Int} (hq : 2 ≤ q) (hq2 : q < 2^33) (hn1 : 1 ≤ fs.length) (hn : fs.length ≤ 4) (hf : Ints N f fs) (hbf : ∀ c ∈ fs, 0 ≤ c ∧ c < q) (hv : 0 ≤ v ∧ v ≤ 5) (tv tq : Tok) :
   Ctr w 8 250 [.ref f, .int v tv, .int q tq] N (ListPost N (powerN q fs v.toNat)) := by
  refine' lite ?lw ?lx ?le
  case lw =>
    unfold Ctr
    k_fill
    intro p loose mean mg mb dp un gd cn cs a ccd cl outer A₀ base h₀ L m s R B F X N₀ T hk hdp hun hret
    obtain ⟨vs, e1, hf, hI⟩ := hf
    k_dflt (refine' code_def ?k1 ?k2 ?k3 ?k4 ?k5 ?kA ?kF ?kK ?k6 ?k7 ?k8 ?k9 ?kB ?_ ?c2 ?c3 ?c4 ?c5; (case kA => exact rfl); (case kF => exact rfl); (case kK => assumption); (case k1 => k_asm); (case k2 => k_asm); (case k3 => k_asm); (case k4 => k_asm); (case k5 => k_asm); (case k6 => k_is); (case k7 => k_is); (case k8 => k_room); (case k9 => exact BindsTo.of_eq rfl); (case c5 => decide); (case kB => exact locs rfl); (case c2 => exact rfl); (case c3 => exact rfl); (case c4 => exact rfl); k_whole)
    intro g₁ L₁ h₁ FG₁ F₁ N₁ B₁ X₁ T₁
    (try dsimp only)
    (try k_fold)
    k_steps
    refine' iter_rangeJ (n := v.toNat) (fun i m₁ nw => ∃ D ws e, nw = (D, listOf ws.toArray e) :: N ∧ LCg.Off1 D N ∧ IntsAre ws (powerN q fs i) ∧ m₁ (Str.ofString "told") = some (.ref D) ∧ m₁ (Str.ofString "f") = some (.ref f) ∧ m₁ (Str.ofString "q") = some (.int q tq) ∧ m₁ (Str.ofString "times") = some (.int v tv)) ?a1 ?a2 ?a3 ?a4 ?a5 ?a6 ?a7 ?a8 ?a9
    (case a1 => exact rfl)
    (case a2 => k_asm)
    (case a3 => exact b_small (by omega) (by omega) (by omega) (by omega))
    (case a4 => rw [rangeSize_nat] <;> omega)
    (case a5 => k_asm)
    (case' a7 => refine' ⟨_, _, _, rfl, ?a10, ?a12, rfl, rfl, rfl, rfl⟩)
    (case a6 => refine cb_drop (by assumption) ?_; top_reprB)
    (case a12 => assumption)
    (case a10 => top_strB)
    (case a9 =>
      intro m₁ nw h₂ tk₂ ⟨D, ws, e, hnw, hoff, hW, hmt, hmf, hmq, hmv⟩ F₂ N₂
      subst hnw
      have F₃ : Fr g₁ L₁ h₂ _ := fr_set4 F₂ hmt hmf hmq hmv
      clear F₂
      replace N₂ : News g₁ L₁ h₂ _ := N₂
      dsimp only
      (try k_sweep)
      k_steps
      exact hret _ _ _ _ (by k_asm) (by allgen_close_more) ⟨_, _, _, rfl, rfl, by k_asm, by top_strB⟩)
    intro i t m₁ nw h₂ tk₂ I oI hi ⟨D, ws, e, hnw, hoff, hW, hmt, hmf, hmq, hmv⟩ F₂ N₂ hI₂
    subst hnw
    have F₃ : Fr g₁ L₁ h₂ _ := fr_set4 F₂ hmt hmf hmq hmv
    clear F₂
    replace N₂ : News g₁ L₁ h₂ _ := N₂
    have hl0 := powerN_length q hn1 i
    have hl1 : 1 ≤ (powerN q fs i).length := by omega
    have hl2 : (powerN q fs i).length ≤ 4 := by omega
    have hl3 : fs.length = (powerN q fs i).length := by omega
    have hb1 := powerN_bnd hq fs i
    (try k_sweep)
    (try k_fold)
    k_steps
    refine' UnrEnd.intro (by k_asm) (by k_asm) _ ?sub ?off ⟨_, _, _, rfl, ?o1, ?iI, rfl, rfl, rfl, rfl⟩
    (case sub => top_reprB)
    (case iI => assumption)
    (case off => exact off_all ⟨by k_ne, by top_strB⟩)
    (case o1 => top_strB)
  case lx => intro hk; simpa only using hk (0 : Nat)
  case le => eq_refl
end
section
theorem fmod_cong {q A B : Int} (W : Int) (h : A = B + q * W) : Int.fmod A q = Int.fmod B q := by
  rw [h, Int.add_mul_fmod_self_left]
theorem fmod_id {q A : Int} (h0 : 0 ≤ A) (h1 : A < q) : Int.fmod A q = A := by
  rw [Int.fmod_eq_emod_of_nonneg _ (by omega)]; exact Int.emod_eq_of_lt h0 h1
theorem school1 (q a0 b0 : Int) : schoolS q 1 [a0] [b0] = [Int.fmod (0 + a0 * b0) q] := by kernel_rfl
theorem times1 (q a0 b0 : Int) : timesS q [a0] [b0] = [Int.fmod ((-0) + b0 * a0) q] := by kernel_rfl
theorem school2 (q a0 a1 b0 b1 : Int) : schoolS q 2 [a0, a1] [b0, b1] = [Int.fmod ((0 + a0 * b0) - a1 * b1) q, Int.fmod ((0 + a0 * b1) + a1 * b0) q] := by kernel_rfl
theorem times2 (q a0 a1 b0 b1 : Int) : timesS q [a0, a1] [b0, b1] = [Int.fmod ((-Int.fmod (0 + b1 * a1) q) + b0 * a0) q, Int.fmod (Int.fmod ((-0) + b1 * a0) q + b0 * a1) q] := by kernel_rfl
theorem school3 (q a0 a1 a2 b0 b1 b2 : Int) : schoolS q 3 [a0, a1, a2] [b0, b1, b2] = [Int.fmod (((0 + a0 * b0) - a2 * b1) - a1 * b2) q, Int.fmod (((0 + a0 * b1) + a1 * b0) - a2 * b2) q, Int.fmod (((0 + a0 * b2) + a1 * b1) + a2 * b0) q] := by kernel_rfl
theorem times3 (q a0 a1 a2 b0 b1 b2 : Int) : timesS q [a0, a1, a2] [b0, b1, b2] = [Int.fmod ((-Int.fmod (Int.fmod (0 + b2 * a1) q + b1 * a2) q) + b0 * a0) q, Int.fmod (Int.fmod ((-Int.fmod (0 + b2 * a2) q) + b1 * a0) q + b0 * a1) q, Int.fmod (Int.fmod (Int.fmod ((-0) + b2 * a0) q + b1 * a1) q + b0 * a2) q] := by kernel_rfl
theorem school4 (q a0 a1 a2 a3 b0 b1 b2 b3 : Int) : schoolS q 4 [a0, a1, a2, a3] [b0, b1, b2, b3] = [Int.fmod ((((0 + a0 * b0) - a3 * b1) - a2 * b2) - a1 * b3) q, Int.fmod ((((0 + a0 * b1) + a1 * b0) - a3 * b2) - a2 * b3) q, Int.fmod ((((0 + a0 * b2) + a1 * b1) + a2 * b0) - a3 * b3) q, Int.fmod ((((0 + a0 * b3) + a1 * b2) + a2 * b1) + a3 * b0) q] := by kernel_rfl
theorem times4 (q a0 a1 a2 a3 b0 b1 b2 b3 : Int) : timesS q [a0, a1, a2, a3] [b0, b1, b2, b3] = [Int.fmod ((-Int.fmod (Int.fmod (Int.fmod (0 + b3 * a1) q + b2 * a2) q + b1 * a3) q) + b0 * a0) q, Int.fmod (Int.fmod ((-Int.fmod (Int.fmod (0 + b3 * a2) q + b2 * a3) q) + b1 * a0) q + b0 * a1) q, Int.fmod (Int.fmod (Int.fmod ((-Int.fmod (0 + b3 * a3) q) + b2 * a0) q + b1 * a1) q + b0 * a2) q, Int.fmod (Int.fmod (Int.fmod (Int.fmod ((-0) + b3 * a0) q + b2 * a1) q + b1 * a2) q + b0 * a3) q] := by kernel_rfl
theorem fm_add (x y q : Int) : Int.fmod (Int.fmod x q + y) q = Int.fmod (x + y) q := by
  rw [Int.fmod_def x q]; exact fmod_cong (-(x.fdiv q)) (by grind)
theorem fm_neg (x y q : Int) : Int.fmod (-(Int.fmod x q) + y) q = Int.fmod (-x + y) q := by
  rw [Int.fmod_def x q]; exact fmod_cong (x.fdiv q) (by grind)
theorem len1 {l : List Int} (h : l.length = 1) : ∃ a, l = [a] := by
  match l, h with | [a], _ => exact ⟨a, rfl⟩
theorem len2 {l : List Int} (h : l.length = 2) : ∃ a b, l = [a, b] := by
  match l, h with | [a, b], _ => exact ⟨a, b, rfl⟩
theorem len3 {l : List Int} (h : l.length = 3) : ∃ a b c, l = [a, b, c] := by
  match l, h with | [a, b, c], _ => exact ⟨a, b, c, rfl⟩
theorem len4 {l : List Int} (h : l.length = 4) : ∃ a b c d, l = [a, b, c, d] := by
  match l, h with | [a, b, c, d], _ => exact ⟨a, b, c, d, rfl⟩
theorem st1 (q a0 b0 : Int) : schoolS q 1 [a0] [b0] = timesS q [a0] [b0] := by
  rw [school1, times1]
  simp only [fm_add, fm_neg, List.cons.injEq, and_true]
  exact congrArg (Int.fmod · q) (by grind)
theorem st2 (q a0 a1 b0 b1 : Int) : schoolS q 2 [a0, a1] [b0, b1] = timesS q [a0, a1] [b0, b1] := by
  rw [school2, times2]
  simp only [fm_add, fm_neg, List.cons.injEq, and_true]
  refine ⟨?_, ?_⟩ <;> exact congrArg (Int.fmod · q) (by grind)
theorem st3 (q a0 a1 a2 b0 b1 b2 : Int) : schoolS q 3 [a0, a1, a2] [b0, b1, b2] = timesS q [a0, a1, a2] [b0, b1, b2] := by
  rw [school3, times3]
  simp only [fm_add, fm_neg, List.cons.injEq, and_true]
  refine ⟨?_, ?_, ?_⟩ <;> exact congrArg (Int.fmod · q) (by grind)
theorem st4 (q a0 a1 a2 a3 b0 b1 b2 b3 : Int) : schoolS q 4 [a0, a1, a2, a3] [b0, b1, b2, b3] = timesS q [a0, a1, a2, a3] [b0, b1, b2, b3] := by
  rw [school4, times4]
  simp only [fm_add, fm_neg, List.cons.injEq, and_true]
  refine ⟨?_, ?_, ?_, ?_⟩ <;> exact congrArg (Int.fmod · q) (by grind)
theorem school_times {q n : Int} {f g : List Int} (hn1 : 1 ≤ n) (hn : n ≤ 4) (hf : (f.length : Int) = n) (hg : (g.length : Int) = n) : schoolS q n f g = timesS q f g := by
  obtain rfl | rfl | rfl | rfl : n = 1 ∨ n = 2 ∨ n = 3 ∨ n = 4 := by omega
  · obtain ⟨a0, rfl⟩ := len1 (l := f) (by omega)
    obtain ⟨b0, rfl⟩ := len1 (l := g) (by omega)
    exact st1 _ _ _
  · obtain ⟨a0, a1, rfl⟩ := len2 (l := f) (by omega)
    obtain ⟨b0, b1, rfl⟩ := len2 (l := g) (by omega)
    exact st2 _ _ _ _ _
  · obtain ⟨a0, a1, a2, rfl⟩ := len3 (l := f) (by omega)
    obtain ⟨b0, b1, b2, rfl⟩ := len3 (l := g) (by omega)
    exact st3 _ _ _ _ _ _ _
  · obtain ⟨a0, a1, a2, a3, rfl⟩ := len4 (l := f) (by omega)
    obtain ⟨b0, b1, b2, b3, rfl⟩ := len4 (l := g) (by omega)
    exact st4 _ _ _ _ _ _ _ _ _
theorem one1 (q a0 : Int) (h0 : 0 ≤ a0 ∧ a0 < q) : schoolS q 1 [1] [a0] = [a0] := by
  rw [school1]
  simp only [List.cons.injEq, and_true]
  exact (congrArg (Int.fmod · q) (by grind)).trans (fmod_id (And.left (by assumption)) (And.right (by assumption)))
theorem com1 (q a0 b0 : Int) : schoolS q 1 [a0] [b0] = schoolS q 1 [b0] [a0] := by
  rw [school1, school1]
  simp only [List.cons.injEq, and_true]
  exact congrArg (Int.fmod · q) (by grind)
theorem assoc1 (q a0 b0 : Int) : schoolS q 1 (schoolS q 1 [a0] [b0]) [b0] = schoolS q 1 [a0] (schoolS q 1 [b0] [b0]) := by
  rw [school1 q a0 b0, school1 q b0 b0, school1, school1]
  obtain ⟨w0, hw0⟩ : ∃ w, Int.fmod (0 + a0 * b0) q = (0 + a0 * b0) - q * w := ⟨_, Int.fmod_def _ _⟩
  obtain ⟨v0, hv0⟩ : ∃ w, Int.fmod (0 + b0 * b0) q = (0 + b0 * b0) - q * w := ⟨_, Int.fmod_def _ _⟩
  rw [hw0, hv0]
  simp only [List.cons.injEq, and_true]
  exact fmod_cong ((0 + a0 * v0) - (0 + w0 * b0)) (by clear hw0 hv0; grind)
theorem one2 (q a0 a1 : Int) (h0 : 0 ≤ a0 ∧ a0 < q) (h1 : 0 ≤ a1 ∧ a1 < q) : schoolS q 2 [1, 0] [a0, a1] = [a0, a1] := by
  rw [school2]
  simp only [List.cons.injEq, and_true]
  refine ⟨?_, ?_⟩ <;> exact (congrArg (Int.fmod · q) (by grind)).trans (fmod_id (And.left (by assumption)) (And.right (by assumption)))
theorem com2 (q a0 a1 b0 b1 : Int) : schoolS q 2 [a0, a1] [b0, b1] = schoolS q 2 [b0, b1] [a0, a1] := by
  rw [school2, school2]
  simp only [List.cons.injEq, and_true]
  refine ⟨?_, ?_⟩ <;> exact congrArg (Int.fmod · q) (by grind)
theorem assoc2 (q a0 a1 b0 b1 : Int) : schoolS q 2 (schoolS q 2 [a0, a1] [b0, b1]) [b0, b1] = schoolS q 2 [a0, a1] (schoolS q 2 [b0, b1] [b0, b1]) := by
  rw [school2 q a0 a1 b0 b1, school2 q b0 b1 b0 b1, school2, school2]
  obtain ⟨w0, hw0⟩ : ∃ w, Int.fmod ((0 + a0 * b0) - a1 * b1) q = ((0 + a0 * b0) - a1 * b1) - q * w := ⟨_, Int.fmod_def _ _⟩
  obtain ⟨v0, hv0⟩ : ∃ w, Int.fmod ((0 + b0 * b0) - b1 * b1) q = ((0 + b0 * b0) - b1 * b1) - q * w := ⟨_, Int.fmod_def _ _⟩
  obtain ⟨w1, hw1⟩ : ∃ w, Int.fmod ((0 + a0 * b1) + a1 * b0) q = ((0 + a0 * b1) + a1 * b0) - q * w := ⟨_, Int.fmod_def _ _⟩
  obtain ⟨v1, hv1⟩ : ∃ w, Int.fmod ((0 + b0 * b1) + b1 * b0) q = ((0 + b0 * b1) + b1 * b0) - q * w := ⟨_, Int.fmod_def _ _⟩
  rw [hw0, hv0, hw1, hv1]
  simp only [List.cons.injEq, and_true]
  refine ⟨?_, ?_⟩
  · exact fmod_cong (((0 + a0 * v0) - a1 * v1) - ((0 + w0 * b0) - w1 * b1)) (by clear hw0 hv0 hw1 hv1; grind)
  · exact fmod_cong (((0 + a0 * v1) + a1 * v0) - ((0 + w0 * b1) + w1 * b0)) (by clear hw0 hv0 hw1 hv1; grind)
theorem one3 (q a0 a1 a2 : Int) (h0 : 0 ≤ a0 ∧ a0 < q) (h1 : 0 ≤ a1 ∧ a1 < q) (h2 : 0 ≤ a2 ∧ a2 < q) : schoolS q 3 [1, 0, 0] [a0, a1, a2] = [a0, a1, a2] := by
  rw [school3]
  simp only [List.cons.injEq, and_true]
  refine ⟨?_, ?_, ?_⟩ <;> exact (congrArg (Int.fmod · q) (by grind)).trans (fmod_id (And.left (by assumption)) (And.right (by assumption)))
theorem com3 (q a0 a1 a2 b0 b1 b2 : Int) : schoolS q 3 [a0, a1, a2] [b0, b1, b2] = schoolS q 3 [b0, b1, b2] [a0, a1, a2] := by
  rw [school3, school3]
  simp only [List.cons.injEq, and_true]
  refine ⟨?_, ?_, ?_⟩ <;> exact congrArg (Int.fmod · q) (by grind)
theorem assoc3 (q a0 a1 a2 b0 b1 b2 : Int) : schoolS q 3 (schoolS q 3 [a0, a1, a2] [b0, b1, b2]) [b0, b1, b2] = schoolS q 3 [a0, a1, a2] (schoolS q 3 [b0, b1, b2] [b0, b1, b2]) := by
  rw [school3 q a0 a1 a2 b0 b1 b2, school3 q b0 b1 b2 b0 b1 b2, school3, school3]
  obtain ⟨w0, hw0⟩ : ∃ w, Int.fmod (((0 + a0 * b0) - a2 * b1) - a1 * b2) q = (((0 + a0 * b0) - a2 * b1) - a1 * b2) - q * w := ⟨_, Int.fmod_def _ _⟩
  obtain ⟨v0, hv0⟩ : ∃ w, Int.fmod (((0 + b0 * b0) - b2 * b1) - b1 * b2) q = (((0 + b0 * b0) - b2 * b1) - b1 * b2) - q * w := ⟨_, Int.fmod_def _ _⟩
  obtain ⟨w1, hw1⟩ : ∃ w, Int.fmod (((0 + a0 * b1) + a1 * b0) - a2 * b2) q = (((0 + a0 * b1) + a1 * b0) - a2 * b2) - q * w := ⟨_, Int.fmod_def _ _⟩
  obtain ⟨v1, hv1⟩ : ∃ w, Int.fmod (((0 + b0 * b1) + b1 * b0) - b2 * b2) q = (((0 + b0 * b1) + b1 * b0) - b2 * b2) - q * w := ⟨_, Int.fmod_def _ _⟩
  obtain ⟨w2, hw2⟩ : ∃ w, Int.fmod (((0 + a0 * b2) + a1 * b1) + a2 * b0) q = (((0 + a0 * b2) + a1 * b1) + a2 * b0) - q * w := ⟨_, Int.fmod_def _ _⟩
  obtain ⟨v2, hv2⟩ : ∃ w, Int.fmod (((0 + b0 * b2) + b1 * b1) + b2 * b0) q = (((0 + b0 * b2) + b1 * b1) + b2 * b0) - q * w := ⟨_, Int.fmod_def _ _⟩
  rw [hw0, hv0, hw1, hv1, hw2, hv2]
  simp only [List.cons.injEq, and_true]
  refine ⟨?_, ?_, ?_⟩
  · exact fmod_cong ((((0 + a0 * v0) - a2 * v1) - a1 * v2) - (((0 + w0 * b0) - w2 * b1) - w1 * b2)) (by clear hw0 hv0 hw1 hv1 hw2 hv2; grind)
  · exact fmod_cong ((((0 + a0 * v1) + a1 * v0) - a2 * v2) - (((0 + w0 * b1) + w1 * b0) - w2 * b2)) (by clear hw0 hv0 hw1 hv1 hw2 hv2; grind)
  · exact fmod_cong ((((0 + a0 * v2) + a1 * v1) + a2 * v0) - (((0 + w0 * b2) + w1 * b1) + w2 * b0)) (by clear hw0 hv0 hw1 hv1 hw2 hv2; grind)
theorem one4 (q a0 a1 a2 a3 : Int) (h0 : 0 ≤ a0 ∧ a0 < q) (h1 : 0 ≤ a1 ∧ a1 < q) (h2 : 0 ≤ a2 ∧ a2 < q) (h3 : 0 ≤ a3 ∧ a3 < q) : schoolS q 4 [1, 0, 0, 0] [a0, a1, a2, a3] = [a0, a1, a2, a3] := by
  rw [school4]
  simp only [List.cons.injEq, and_true]
  refine ⟨?_, ?_, ?_, ?_⟩ <;> exact (congrArg (Int.fmod · q) (by grind)).trans (fmod_id (And.left (by assumption)) (And.right (by assumption)))
theorem com4 (q a0 a1 a2 a3 b0 b1 b2 b3 : Int) : schoolS q 4 [a0, a1, a2, a3] [b0, b1, b2, b3] = schoolS q 4 [b0, b1, b2, b3] [a0, a1, a2, a3] := by
  rw [school4, school4]
  simp only [List.cons.injEq, and_true]
  refine ⟨?_, ?_, ?_, ?_⟩ <;> exact congrArg (Int.fmod · q) (by grind)
theorem assoc4 (q a0 a1 a2 a3 b0 b1 b2 b3 : Int) : schoolS q 4 (schoolS q 4 [a0, a1, a2, a3] [b0, b1, b2, b3]) [b0, b1, b2, b3] = schoolS q 4 [a0, a1, a2, a3] (schoolS q 4 [b0, b1, b2, b3] [b0, b1, b2, b3]) := by
  rw [school4 q a0 a1 a2 a3 b0 b1 b2 b3, school4 q b0 b1 b2 b3 b0 b1 b2 b3, school4, school4]
  obtain ⟨w0, hw0⟩ : ∃ w, Int.fmod ((((0 + a0 * b0) - a3 * b1) - a2 * b2) - a1 * b3) q = ((((0 + a0 * b0) - a3 * b1) - a2 * b2) - a1 * b3) - q * w := ⟨_, Int.fmod_def _ _⟩
  obtain ⟨v0, hv0⟩ : ∃ w, Int.fmod ((((0 + b0 * b0) - b3 * b1) - b2 * b2) - b1 * b3) q = ((((0 + b0 * b0) - b3 * b1) - b2 * b2) - b1 * b3) - q * w := ⟨_, Int.fmod_def _ _⟩
  obtain ⟨w1, hw1⟩ : ∃ w, Int.fmod ((((0 + a0 * b1) + a1 * b0) - a3 * b2) - a2 * b3) q = ((((0 + a0 * b1) + a1 * b0) - a3 * b2) - a2 * b3) - q * w := ⟨_, Int.fmod_def _ _⟩
  obtain ⟨v1, hv1⟩ : ∃ w, Int.fmod ((((0 + b0 * b1) + b1 * b0) - b3 * b2) - b2 * b3) q = ((((0 + b0 * b1) + b1 * b0) - b3 * b2) - b2 * b3) - q * w := ⟨_, Int.fmod_def _ _⟩
  obtain ⟨w2, hw2⟩ : ∃ w, Int.fmod ((((0 + a0 * b2) + a1 * b1) + a2 * b0) - a3 * b3) q = ((((0 + a0 * b2) + a1 * b1) + a2 * b0) - a3 * b3) - q * w := ⟨_, Int.fmod_def _ _⟩
  obtain ⟨v2, hv2⟩ : ∃ w, Int.fmod ((((0 + b0 * b2) + b1 * b1) + b2 * b0) - b3 * b3) q = ((((0 + b0 * b2) + b1 * b1) + b2 * b0) - b3 * b3) - q * w := ⟨_, Int.fmod_def _ _⟩
  obtain ⟨w3, hw3⟩ : ∃ w, Int.fmod ((((0 + a0 * b3) + a1 * b2) + a2 * b1) + a3 * b0) q = ((((0 + a0 * b3) + a1 * b2) + a2 * b1) + a3 * b0) - q * w := ⟨_, Int.fmod_def _ _⟩
  obtain ⟨v3, hv3⟩ : ∃ w, Int.fmod ((((0 + b0 * b3) + b1 * b2) + b2 * b1) + b3 * b0) q = ((((0 + b0 * b3) + b1 * b2) + b2 * b1) + b3 * b0) - q * w := ⟨_, Int.fmod_def _ _⟩
  rw [hw0, hv0, hw1, hv1, hw2, hv2, hw3, hv3]
  simp only [List.cons.injEq, and_true]
  refine ⟨?_, ?_, ?_, ?_⟩
  · exact fmod_cong (((((0 + a0 * v0) - a3 * v1) - a2 * v2) - a1 * v3) - ((((0 + w0 * b0) - w3 * b1) - w2 * b2) - w1 * b3)) (by clear hw0 hv0 hw1 hv1 hw2 hv2 hw3 hv3; grind)
  · exact fmod_cong (((((0 + a0 * v1) + a1 * v0) - a3 * v2) - a2 * v3) - ((((0 + w0 * b1) + w1 * b0) - w3 * b2) - w2 * b3)) (by clear hw0 hv0 hw1 hv1 hw2 hv2 hw3 hv3; grind)
  · exact fmod_cong (((((0 + a0 * v2) + a1 * v1) + a2 * v0) - a3 * v3) - ((((0 + w0 * b2) + w1 * b1) + w2 * b0) - w3 * b3)) (by clear hw0 hv0 hw1 hv1 hw2 hv2 hw3 hv3; grind)
  · exact fmod_cong (((((0 + a0 * v3) + a1 * v2) + a2 * v1) + a3 * v0) - ((((0 + w0 * b3) + w1 * b2) + w2 * b1) + w3 * b0)) (by clear hw0 hv0 hw1 hv1 hw2 hv2 hw3 hv3; grind)
theorem school_one {q n : Int} {f : List Int} (hn1 : 1 ≤ n) (hn : n ≤ 4) (hf : (f.length : Int) = n) (h : ∀ c ∈ f, 0 ≤ c ∧ c < q) : schoolS q n (oneS n) f = f := by
  obtain rfl | rfl | rfl | rfl : n = 1 ∨ n = 2 ∨ n = 3 ∨ n = 4 := by omega
  · obtain ⟨a0, rfl⟩ := len1 (l := f) (by omega)
    exact one1 q _ (h _ (by simp))
  · obtain ⟨a0, a1, rfl⟩ := len2 (l := f) (by omega)
    exact one2 q _ _ (h _ (by simp)) (h _ (by simp))
  · obtain ⟨a0, a1, a2, rfl⟩ := len3 (l := f) (by omega)
    exact one3 q _ _ _ (h _ (by simp)) (h _ (by simp)) (h _ (by simp))
  · obtain ⟨a0, a1, a2, a3, rfl⟩ := len4 (l := f) (by omega)
    exact one4 q _ _ _ _ (h _ (by simp)) (h _ (by simp)) (h _ (by simp)) (h _ (by simp))
theorem school_com {q n : Int} {f g : List Int} (hn1 : 1 ≤ n) (hn : n ≤ 4) (hf : (f.length : Int) = n) (hg : (g.length : Int) = n) : schoolS q n f g = schoolS q n g f := by
  obtain rfl | rfl | rfl | rfl : n = 1 ∨ n = 2 ∨ n = 3 ∨ n = 4 := by omega
  · obtain ⟨a0, rfl⟩ := len1 (l := f) (by omega)
    obtain ⟨b0, rfl⟩ := len1 (l := g) (by omega)
    exact com1 _ _ _
  · obtain ⟨a0, a1, rfl⟩ := len2 (l := f) (by omega)
    obtain ⟨b0, b1, rfl⟩ := len2 (l := g) (by omega)
    exact com2 _ _ _ _ _
  · obtain ⟨a0, a1, a2, rfl⟩ := len3 (l := f) (by omega)
    obtain ⟨b0, b1, b2, rfl⟩ := len3 (l := g) (by omega)
    exact com3 _ _ _ _ _ _ _
  · obtain ⟨a0, a1, a2, a3, rfl⟩ := len4 (l := f) (by omega)
    obtain ⟨b0, b1, b2, b3, rfl⟩ := len4 (l := g) (by omega)
    exact com4 _ _ _ _ _ _ _ _ _
theorem school_assoc {q n : Int} {f g : List Int} (hn1 : 1 ≤ n) (hn : n ≤ 4) (hf : (f.length : Int) = n) (hg : (g.length : Int) = n) : schoolS q n (schoolS q n g f) f = schoolS q n g (schoolS q n f f) := by
  obtain rfl | rfl | rfl | rfl : n = 1 ∨ n = 2 ∨ n = 3 ∨ n = 4 := by omega
  · obtain ⟨a0, rfl⟩ := len1 (l := g) (by omega)
    obtain ⟨b0, rfl⟩ := len1 (l := f) (by omega)
    exact assoc1 _ _ _
  · obtain ⟨a0, a1, rfl⟩ := len2 (l := g) (by omega)
    obtain ⟨b0, b1, rfl⟩ := len2 (l := f) (by omega)
    exact assoc2 _ _ _ _ _
  · obtain ⟨a0, a1, a2, rfl⟩ := len3 (l := g) (by omega)
    obtain ⟨b0, b1, b2, rfl⟩ := len3 (l := f) (by omega)
    exact assoc3 _ _ _ _ _ _ _
  · obtain ⟨a0, a1, a2, a3, rfl⟩ := len4 (l := g) (by omega)
    obtain ⟨b0, b1, b2, b3, rfl⟩ := len4 (l := f) (by omega)
    exact assoc4 _ _ _ _ _ _ _ _ _
theorem pow_power {q n e : Int} {f : List Int} (hq : 2 ≤ q) (hn1 : 1 ≤ n) (hn : n ≤ 4) (hf : (f.length : Int) = n) (h : ∀ c ∈ f, 0 ≤ c ∧ c < q) (he : 0 ≤ e ∧ e ≤ 5) : powS q n f e = powerN q f e.toNat := by
  have L : ∀ a b, ((schoolS q n a b).length : Int) = n := fun a b => by rw [schoolS_length]; omega
  have O : ((oneS n).length : Int) = n := by unfold oneS; rw [List.length_append, List.length_map, rangeKs_length, List.length_singleton]; omega
  have T : ∀ {a b : List Int}, (a.length : Int) = n → (b.length : Int) = n → timesS q a b = schoolS q n a b := fun ha hb => (school_times hn1 hn ha hb).symm
  have One : ∀ {a : List Int}, (a.length : Int) = n → (∀ c ∈ a, 0 ≤ c ∧ c < q) → schoolS q n (oneS n) a = a := fun ha hb => school_one hn1 hn ha hb
  have S : ∀ a b, ∀ c ∈ schoolS q n a b, 0 ≤ c ∧ c < q := fun a b => school_bnd hq a b
  have p0 : powerN q f 0 = oneS n := by
    unfold powerN oneS
    have : (((f.length : Nat) : Int) - 1).toNat = (n - 1 - 0).toNat := by omega
    rw [this]
    generalize (n - 1 - 0).toNat = k
    congr 1
    rw [show (List.replicate k [(0 : Int)]).flatten = List.replicate k 0 by simp]
    exact (List.eq_replicate_iff.mpr ⟨by rw [List.length_map, rangeKs_length], fun b hb => by obtain ⟨_, _, rfl⟩ := List.mem_map.mp hb; rfl⟩).symm
  have p1 : powerN q f 1 = f := by unfold powerN; rw [p0, T O hf, One hf h]
  have p2 : powerN q f 2 = schoolS q n f f := by unfold powerN; rw [p1, T hf hf]
  have p3 : powerN q f 3 = schoolS q n (schoolS q n f f) f := by unfold powerN; rw [p2, T (L _ _) hf]
  have p4 : powerN q f 4 = schoolS q n (schoolS q n f f) (schoolS q n f f) := by unfold powerN; rw [p3, T (L _ _) hf, school_assoc hn1 hn hf (L _ _)]
  have p5 : powerN q f 5 = schoolS q n f (schoolS q n (schoolS q n f f) (schoolS q n f f)) := by unfold powerN; rw [p4, T (L _ _) hf, school_com hn1 hn (L _ _) hf]
  obtain rfl | rfl | rfl | rfl | rfl | rfl : e = 0 ∨ e = 1 ∨ e = 2 ∨ e = 3 ∨ e = 4 ∨ e = 5 := by omega
  · exact p0.symm
  · show schoolS q n (oneS n) f = powerN q f 1
    rw [One hf h, p1]
  · show schoolS q n (oneS n) (schoolS q n f f) = powerN q f 2
    rw [One (L _ _) (S _ _), p2]
  · show schoolS q n (schoolS q n (oneS n) f) (schoolS q n f f) = powerN q f 3
    rw [One hf h, p3, school_com hn1 hn hf (L _ _)]
  · show schoolS q n (oneS n) (schoolS q n (schoolS q n f f) (schoolS q n f f)) = powerN q f 4
    rw [One (L _ _) (S _ _), p4]
  · show schoolS q n (schoolS q n (oneS n) f) (schoolS q n (schoolS q n f f) (schoolS q n f f)) = powerN q f 5
    rw [One hf h, p5]
theorem set0_eq {l : List Int} (h : 1 ≤ l.length) (x : Int) : l.set (0 : Int).toNat x = [x] ++ l.drop 1 := by
  match l, h with | a :: r, _ => rfl
theorem set0_neg {l : List Int} {q v : Int} (h : 1 ≤ l.length) : ((l.set (0 : Int).toNat (Int.fmod (l.getD (0 : Int).toNat 0 - v) q)).map fun c => Int.fmod (-c) q) = [Int.fmod (v - l.getD (0 : Int).toNat 0) q] ++ ((l.drop 1).map fun x => Int.fmod (-x) q) := by
  match l, h with
  | a :: r, _ =>
    show Int.fmod (-(Int.fmod (a - v) q)) q :: (r.map fun x => Int.fmod (-x) q) = Int.fmod (v - a) q :: (r.map fun x => Int.fmod (-x) q)
    have e := fm_neg (a - v) 0 q
    rw [Int.add_zero, Int.add_zero] at e
    rw [e]
    congr 2
    omega
theorem mul_comm_map (l : List Int) (q v : Int) : (l.map fun c => Int.fmod (c * v) q) = l.map fun x => Int.fmod (v * x) q := by
  refine' lite ?lw ?lx ?le
  case lw =>
    refine List.map_congr_left fun a _ => ?_
    rw [Int.mul_comm]
  case lx => intro hk; simpa only using hk (0 : Nat)
  case le => eq_refl
#print axioms pow_power
#print axioms school_times
end
end
section
local macro_rules | `(tactic| k_mem) => `(tactic| ((fail_if_success (with_reducible refine' List.Mem.tail _ ?_)); first | with_reducible assumption | assumption | (refine sub_mem (by assumption) ?_; k_mem)))
local macro_rules | `(tactic| news_mem) => `(tactic| k_mem)
local macro_rules | `(tactic| k_room) => `(tactic| ((simp only [depth_under_make, depth_under_kw, depth_in1, depth_deeper, depth_caller, recursionLimit] at *); omega))
local macro_rules | `(tactic| k_units) => `(tactic| ((have hcL9 := cLine_is); (simp only [units_in1, units_deeper, Around.mark_units, units_caller, cLine] at *); omega))
local macro_rules | `(tactic| allgen_close2_more) => `(tactic| assumption)
local macro_rules | `(tactic| ktr_rel) => `(tactic| ((try simp only [List.length_append, List.length_cons, List.length_nil, List.length_map, List.length_set, List.length_zipWith, rangeKs_length]); first | assumption | omega))
local macro_rules | `(tactic| top_reprB) => `(tactic| first | exact List.forall_mem_nil _ | (refine List.forall_mem_cons.mpr ⟨by k_mem, ?_⟩; top_reprB) | (intro p hp; k_mem))
local macro_rules | `(tactic| k_ne) => `(tactic| (refine neN ?_; (try dsimp only); first | (with_reducible assumption) | exact Ne.symm (by with_reducible assumption) | exact off_ne (by with_reducible assumption) (by k_mem) | exact Ne.symm (off_ne (by with_reducible assumption) (by k_mem)) | omega))
local macro_rules | `(tactic| top_strB) => `(tactic| first | (first | assumption | exact allLt_of (by assumption) | exact And.right (by assumption) | exact And.right (And.right (by assumption)) | exact And.right (And.right (And.right (by assumption))) | exact And.right (And.right (And.right (And.right (by assumption)))) | exact And.right (And.right (And.right (And.right (And.right (by assumption))))) | exact And.right (And.right (And.right (And.right (And.right (And.right (by assumption)))))) | exact And.right (And.right (And.right (And.right (And.right (And.right (And.right (by assumption))))))) | exact And.right (And.right (And.right (And.right (And.right (And.right (And.right (And.right (by assumption)))))))) | exact And.right (And.right (And.right (And.right (And.right (And.right (And.right (And.right (And.right (by assumption))))))))) | exact And.right (And.right (And.right (And.right (And.right (And.right (And.right (And.right (And.right (And.right (by assumption)))))))))) | exact And.right (And.right (And.right (And.right (And.right (And.right (And.right (And.right (And.right (And.right (And.right (by assumption))))))))))) | exact And.right (And.right (And.right (And.right (And.right (And.right (And.right (And.right (And.right (And.right (And.right (And.right (by assumption)))))))))))) | exact And.right (And.right (And.right (And.right (And.right (And.right (And.right (And.right (And.right (And.right (And.right (And.right (And.right (by assumption))))))))))))) | exact And.right (And.right (And.right (And.right (And.right (And.right (And.right (And.right (And.right (And.right (And.right (And.right (And.right (And.right (by assumption)))))))))))))) | exact And.right (And.right (And.right (And.right (And.right (And.right (And.right (And.right (And.right (And.right (And.right (And.right (And.right (And.right (And.right (by assumption))))))))))))))) | exact And.right (And.right (And.right (And.right (And.right (And.right (And.right (And.right (And.right (And.right (And.right (And.right (And.right (And.right (And.right (And.right (by assumption)))))))))))))))) | exact And.right (And.right (And.right (And.right (And.right (And.right (And.right (And.right (And.right (And.right (And.right (And.right (And.right (And.right (And.right (And.right (And.right (by assumption))))))))))))))))) | exact And.right (And.right (And.right (And.right (And.right (And.right (And.right (And.right (And.right (And.right (And.right (And.right (And.right (And.right (And.right (And.right (And.right (And.right (by assumption)))))))))))))))))) | exact And.right (And.right (And.right (And.right (And.right (And.right (And.right (And.right (And.right (And.right (And.right (And.right (And.right (And.right (And.right (And.right (And.right (And.right (And.right (by assumption)))))))))))))))))))) | exact off_sub (by with_reducible assumption) (by top_reprB) | exact off_of_lt (by (first | assumption | exact allLt_of (by assumption) | exact And.right (by assumption) | exact And.right (And.right (by assumption)) | exact And.right (And.right (And.right (by assumption))) | exact And.right (And.right (And.right (And.right (by assumption)))) | exact And.right (And.right (And.right (And.right (And.right (by assumption))))) | exact And.right (And.right (And.right (And.right (And.right (And.right (by assumption)))))) | exact And.right (And.right (And.right (And.right (And.right (And.right (And.right (by assumption))))))) | exact And.right (And.right (And.right (And.right (And.right (And.right (And.right (And.right (by assumption)))))))) | exact And.right (And.right (And.right (And.right (And.right (And.right (And.right (And.right (And.right (by assumption))))))))) | exact And.right (And.right (And.right (And.right (And.right (And.right (And.right (And.right (And.right (And.right (by assumption)))))))))) | exact And.right (And.right (And.right (And.right (And.right (And.right (And.right (And.right (And.right (And.right (And.right (by assumption))))))))))) | exact And.right (And.right (And.right (And.right (And.right (And.right (And.right (And.right (And.right (And.right (And.right (And.right (by assumption)))))))))))) | exact And.right (And.right (And.right (And.right (And.right (And.right (And.right (And.right (And.right (And.right (And.right (And.right (And.right (by assumption))))))))))))) | exact And.right (And.right (And.right (And.right (And.right (And.right (And.right (And.right (And.right (And.right (And.right (And.right (And.right (And.right (by assumption)))))))))))))) | exact And.right (And.right (And.right (And.right (And.right (And.right (And.right (And.right (And.right (And.right (And.right (And.right (And.right (And.right (And.right (by assumption))))))))))))))) | exact And.right (And.right (And.right (And.right (And.right (And.right (And.right (And.right (And.right (And.right (And.right (And.right (And.right (And.right (And.right (And.right (by assumption)))))))))))))))) | exact And.right (And.right (And.right (And.right (And.right (And.right (And.right (And.right (And.right (And.right (And.right (And.right (And.right (And.right (And.right (And.right (And.right (by assumption))))))))))))))))) | exact And.right (And.right (And.right (And.right (And.right (And.right (And.right (And.right (And.right (And.right (And.right (And.right (And.right (And.right (And.right (And.right (And.right (And.right (by assumption)))))))))))))))))) | exact And.right (And.right (And.right (And.right (And.right (And.right (And.right (And.right (And.right (And.right (And.right (And.right (And.right (And.right (And.right (And.right (And.right (And.right (And.right (by assumption))))))))))))))))))))) | exact off_of_lt2 (by (first | assumption | exact allLt_of (by assumption) | exact And.right (by assumption) | exact And.right (And.right (by assumption)) | exact And.right (And.right (And.right (by assumption))) | exact And.right (And.right (And.right (And.right (by assumption)))) | exact And.right (And.right (And.right (And.right (And.right (by assumption))))) | exact And.right (And.right (And.right (And.right (And.right (And.right (by assumption)))))) | exact And.right (And.right (And.right (And.right (And.right (And.right (And.right (by assumption))))))) | exact And.right (And.right (And.right (And.right (And.right (And.right (And.right (And.right (by assumption)))))))) | exact And.right (And.right (And.right (And.right (And.right (And.right (And.right (And.right (And.right (by assumption))))))))) | exact And.right (And.right (And.right (And.right (And.right (And.right (And.right (And.right (And.right (And.right (by assumption)))))))))) | exact And.right (And.right (And.right (And.right (And.right (And.right (And.right (And.right (And.right (And.right (And.right (by assumption))))))))))) | exact And.right (And.right (And.right (And.right (And.right (And.right (And.right (And.right (And.right (And.right (And.right (And.right (by assumption)))))))))))) | exact And.right (And.right (And.right (And.right (And.right (And.right (And.right (And.right (And.right (And.right (And.right (And.right (And.right (by assumption))))))))))))) | exact And.right (And.right (And.right (And.right (And.right (And.right (And.right (And.right (And.right (And.right (And.right (And.right (And.right (And.right (by assumption)))))))))))))) | exact And.right (And.right (And.right (And.right (And.right (And.right (And.right (And.right (And.right (And.right (And.right (And.right (And.right (And.right (And.right (by assumption))))))))))))))) | exact And.right (And.right (And.right (And.right (And.right (And.right (And.right (And.right (And.right (And.right (And.right (And.right (And.right (And.right (And.right (And.right (by assumption)))))))))))))))) | exact And.right (And.right (And.right (And.right (And.right (And.right (And.right (And.right (And.right (And.right (And.right (And.right (And.right (And.right (And.right (And.right (And.right (by assumption))))))))))))))))) | exact And.right (And.right (And.right (And.right (And.right (And.right (And.right (And.right (And.right (And.right (And.right (And.right (And.right (And.right (And.right (And.right (And.right (And.right (by assumption)))))))))))))))))) | exact And.right (And.right (And.right (And.right (And.right (And.right (And.right (And.right (And.right (And.right (And.right (And.right (And.right (And.right (And.right (And.right (And.right (And.right (And.right (by assumption))))))))))))))))))))) (by omega) | exact off_of_base (by assumption) (by omega))
local macro_rules | `(tactic| k_all) => `(tactic| (refine off_all ?_; top_strB))
local macro_rules | `(tactic| walk_at "getMethod ref") => `(tactic| (k_here; k_dflt (refine' kmu_own ?k1 ?k2 ?k3 ?k4 ?k5 ?_; (case k1 => k_asm); (case k2 => k_asm); (case k3 => k_inst); (case k4 => k_is); (case k5 => k_is); k_whole)))
local macro_rules | `(tactic| walk_at "binaryOp Mult int int") => `(tactic| (k_here; with_reducible first | refine PyProof.Rows.mul_int ?_ (mulok_getD (by assumption) (by assumption) (by assumption)) | refine PyProof.Rows.mul_int ?_ (mulok_mem (by assumption) (by assumption) (by assumption))))
local macro_rules | `(tactic| top_name) => `(tactic| (law_purse 40000 => (law_clear; (repeat (with_reducible rename (@Ne Nat _ _) ∧ _ => hne9; clear hne9)); (repeat (with_reducible rename (@LT.lt Nat _ _ _) ∧ _ => hne9; clear hne9)); (repeat (with_reducible rename (@Ne Nat _ _) => hne9; clear hne9)); (try simp only [List.length_append, List.length_cons, List.length_nil, List.length_map, List.length_take, List.length_set, List.length_zipWith, rangeKs_length]); omega)))
local macro_rules | `(tactic| walk_at "subscriptTail Name Name ref int") => `(tactic| ((k_here; (with_reducible show wpAny _ _ (subscriptTail _ _ (Value.ref _) (Value.int _ _)) _ _ _); (with_unfolding_all refine' item_list_ints ?k1 ?k2 ?k3 ?k4 ?k5 ?_; (case k1 => exact News.isList (by k_asm) (by k_mem)); (case k2 => l_ints); (case k3 => first | assumption | top_name); (case k4 => first | assumption | exact idx_hi (by assumption) (by first | assumption | exact Nat.le_refl _) | top_name); (case k5 => first | assumption | exact idx_fit (by assumption) (by assumption) | top_name); k_whole); intro _)))
local macro_rules | `(tactic| walk_at "subscriptTail Name BinOp ref int") => `(tactic| ((k_here; (with_reducible show wpAny _ _ (subscriptTail _ _ (Value.ref _) (Value.int _ _)) _ _ _); (with_unfolding_all refine' item_list_ints ?k1 ?k2 ?k3 ?k4 ?k5 ?_; (case k1 => exact News.isList (by k_asm) (by k_mem)); (case k2 => l_ints); (case k3 => first | assumption | top_name); (case k4 => first | assumption | exact idx_hi (by assumption) (by first | assumption | exact Nat.le_refl _) | top_name); (case k5 => first | assumption | exact idx_fit (by assumption) (by assumption) | top_name); k_whole); intro _)))
local macro_rules | `(tactic| walk_at "call builtin:list.copy") => `(tactic| (k_here; (with_reducible show wpAny _ _ (call (Value.builtin _) [Value.ref _]) _ _ _); k_dflt (refine' copyK ?k1 ?k2 ?k3 ?k4 ?_; (case k1 => k_asm); (case k2 => k_asm); (case k3 => exact News.isList (by k_asm) (by k_mem)); (case k4 => exact ints_size (by l_ints) (by top_name)); k_whole); intro D' h' F' N' l1; (try k_lt l1); (try k_sweep)))
local macro_rules | `(tactic| walk_at "setItem ref int") => `(tactic| (k_here; (with_reducible show wpAny _ _ (setItem (Value.ref _) (Value.int _ _) (Value.int _ _)) _ _ _); k_dflt (refine' ksa_set ?k1 ?k2 ?k3 ?k4 ?k5 ?k6 ?k7 ?_; (case k1 => k_asm); (case k2 => k_asm); (case k3 => k_upd); (case k4 => l_ints); (case k5 => first | assumption | top_name); (case k6 => first | assumption | top_name); (case k7 => first | assumption | top_name); k_whole); intro h' F' N' hi' hl' hs'; clear hs'; (try k_sweep)))
local macro_rules | `(tactic| walk_at "callWith ref") => `(tactic| (k_here; kco_here; k_dflt (refine' kco_callWith ?k1 ?k2 ?k3 ?k4 ?_; (case k1 => k_in); (case k2 => k_inst); (case k3 => rfl); (case k4 => k_is); k_whole)))
local macro_rules | `(tactic| allgen_close_more) => `(tactic| first | k_asm | (refine' cb_drop ?cbN ?cbS; (case cbN => assumption); (case cbS => top_reprB)))
local macro_rules | `(tactic| walk_at "exec For Name Call cons nil") => `(tactic| (k_here; k_dflt (refine For_turns (by k_asm) ?_ (by intro _; with_unfolding_all rfl) (by passes_own)); (try k_fold)))
local macro_rules | `(tactic| walk_at "getItem ref int") => `(tactic| (k_here; (with_reducible show wpAny _ _ (getItem (Value.ref _) (Value.int _ _)) _ _ _); k_dflt (refine' ksa_get ?k1 ?k2 ?k3 ?k4 ?k5 ?k6 ?_; (case k1 => k_asm); (case k2 => k_mem); (case k3 => l_ints); (case k4 => first | assumption | top_name); (case k5 => first | assumption | top_name); (case k6 => first | assumption | top_name); k_whole); intro _))
local macro_rules | `(tactic| walk_at "CompSrc") => `(tactic| (k_here; k_dflt (refine' LCg.CompSrc.ledger ?s1 ?s2 ?s3 ?s4 ?s5 ?_; (case s1 => rfl); (case s2 => k_asm); (case s3 => k_asm); (case s4 => k_mem); (case s5 => exact ints_sizeA (by l_ints) (by first | assumption | top_name)); intro g'; (refine' kcf_list _ (by l_ints) (fun k' t' I' oI' C' oC' D' m' ys' h' tk' E' hk' hC' hx' F' N' off' ne' hMark' => ?_) ?_); (all_goals (try (simp only [LCg.Off3, and_true] at off'))); kcf_last)))
local macro_rules | `(tactic| allgen_close2_more) => `(tactic| first | assumption | exact school_bnd (by assumption) _ _ | exact one_bnd (by assumption) | exact times_bnd (by assumption) _ _ | exact map_bnd (by assumption) _ _ | exact zip_bnd (by assumption) _ _ _ | exact set_bnd (by assumption) (by allgen_close2_more))
local macro_rules | `(tactic| ktr_rel) => `(tactic| ((simp only [List.length_append, List.length_cons, List.length_nil, List.length_map, List.length_set, List.length_zipWith, rangeKs_length, schoolS_length, timesS_length]); omega))
local macro_rules | `(tactic| walk_at "binaryOp Add int ref") => `(tactic| (k_here; (with_reducible show wpAny _ _ (binaryOp Operator.Add (Value.int _ _) (Value.ref _)) _ _ _); k_dflt (refine' rbin_add ?F ?X ?I ?hC ?hS ?hR ?hF ?h1 ?h2 ?hU ?_; (case F => k_asm); (case X => k_asm); (case I => k_inst); (case hC => k_is); (case hS => k_is); (case hR => k_is); (case hF => k_is); (case h1 => k_is); (case h2 => k_is); (case hU => k_is); k_whole)))
local macro_rules | `(tactic| walk_at "binaryOp Sub int ref") => `(tactic| (k_here; (with_reducible show wpAny _ _ (binaryOp Operator.Sub (Value.int _ _) (Value.ref _)) _ _ _); k_dflt (refine' rbin_sub ?F ?X ?I ?hC ?hS ?hR ?hF ?h1 ?h2 ?hU ?_; (case F => k_asm); (case X => k_asm); (case I => k_inst); (case hC => k_is); (case hS => k_is); (case hR => k_is); (case hF => k_is); (case h1 => k_is); (case h2 => k_is); (case hU => k_is); k_whole)))
local macro_rules | `(tactic| walk_at "binaryOp Mult int ref") => `(tactic| (k_here; (with_reducible show wpAny _ _ (binaryOp Operator.Mult (Value.int _ _) (Value.ref _)) _ _ _); k_dflt (refine' rbin_mul ?F ?X ?I ?hC ?hS ?hR ?hF ?h1 ?h2 ?hU ?_; (case F => k_asm); (case X => k_asm); (case I => k_inst); (case hC => k_is); (case hS => k_is); (case hR => k_is); (case hF => k_is); (case h1 => k_is); (case h2 => k_is); (case hU => k_is); k_whole)))
local macro_rules | `(tactic| walk_at "binaryOp Mult int int") => `(tactic| (k_here; with_reducible refine PyProof.Rows.mul_int ?_ (mulok_mem_r (by assumption) (by assumption) (by assumption))))
section
open PySem.Calls
theorem memX {env : Env} {L b : Addr} {outer : List Env} (he : env.frame = some L) (hm : b ∈ (env :: outer).filterMap (·.frame)) : b = L ∨ b ∈ outer.filterMap (·.frame) := by
  obtain ⟨env', he', hf⟩ := List.mem_filterMap.mp hm
  rcases List.mem_cons.mp he' with rfl | he'
  · exact .inl (Option.some.inj (hf.symm.trans he))
  · exact .inr (List.mem_filterMap.mpr ⟨env', he', hf⟩)
section
variable {M : Model} {A : Around} {E : Value → Shared → Prop} {s' : Shared} {base g g₂ h : Heap} {outer : List Env} {L e t : Addr} {m : Str → Option Value} {env : Env} {Q : Unit → Shared → Prop} {news : Led}
theorem leave_raiseX {cls : Value} {vs : List Value} (K : Below A base outer g) (hx : Heap.MadeExcOf h s'.heap e cls vs) (F : Fr g L h m) (N : News g L h news) (he : env.frame = some L) (hk : env.scope.kind = .function)
    (hQ : ∀ h' t, RaisedS base g outer e cls t vs news h' → RaisedK base outer e cls t vs news h' → g.UpToSlots h' → Q () { s' with heap := h' }) :
    wpAny M (A.deeper env) (leaving env (.ref e)) Q E s' := by
  have K' := pushX K F he hk
  have hin : ∀ env' ∈ (env :: outer), ∀ b, env'.frame = some b → b ∈ (env :: outer).filterMap (·.frame) := fun env' he b hb => List.mem_filterMap.mpr ⟨env', he, hb⟩
  have st : base.StaysIn (hideAll h ((env :: outer).filterMap (·.frame))) := fun b o q => hideAll_get _ (K'.stays b o q) fun hm => by
    rw [(K'.frames.mem hm).1] at q; cases q
  have sg : ∀ b o, g.get? b = some o → b ∉ outer.filterMap (·.frame) → (hideAll h ((env :: outer).filterMap (·.frame))).get? b = some o := fun b o q nm => hideAll_get _ (F.keep b o q) fun hm => by
    rcases memX he hm with z | z
    · rw [z, kts_self F] at q
      cases q
    · exact nm z
  have hl : ∀ q ∈ news, (hideAll h ((env :: outer).filterMap (·.frame))).get? q.1 = some q.2 ∧ g.get? q.1 = none ∧ base.get? q.1 = none := fun q hq => by
    refine ⟨hideAll_get _ (N q hq).1 fun hm => ?_, (N q hq).2.2, fresh_of_stays K.stays (N q hq).2.2⟩
    rcases memX he hm with z | z
    · exact (N q hq).2.1 z
    · obtain ⟨o, ho, _⟩ := (K.frames.mem z).2
      rw [(N q hq).2.2] at ho; cases ho
  exact wpAny_leaves_madeW K'.stack he (fun b o q => of_hideAll _ q) (funFrames_hide K'.frames hin) hx fun h' t x1 x2 x3 x4 =>
    have R : RaisedS base g outer e cls t vs news h' := ⟨⟨_, st, sg, hl, x1, x3⟩, x2⟩
    hQ h' t R R.toK (((Heap.UpToSlots.of_keeps F.keep).trans (Heap.UpToSlots.of_keeps hx.keeps)).trans x4)

theorem leave_onX {cls : Value} {vs : List Value} (K : Below A base outer g) (F : Fr g L g₂ m) (R : RaisedS base g₂ (env :: outer) e cls t vs news s'.heap) (hsm : g₂.UpToSlots s'.heap) (he : env.frame = some L)
    (hQ : ∀ h', RaisedS base g outer e cls t vs news h' → RaisedK base outer e cls t vs news h' → g.UpToSlots h' → Q () { s' with heap := h' }) :
    wpAny M (A.deeper env) (leaving env (.ref e)) Q E s' := by
  obtain ⟨⟨B, hB, hBG, hl, hfl, hnew⟩, htup⟩ := R
  exact wpAny_leaves_onW (Around.frames_deeper K.stack) he hfl fun h' x1 x2 =>
    have R : RaisedS base g outer e cls t vs news h' := ⟨⟨B, hB, fun b o q nm => hBG b o (F.keep b o q) (fun hm => by
      rcases memX he hm with z | z
      · rw [z, kts_self F] at q
        cases q
      · exact nm z), fun q hq => ⟨(hl q hq).1, kts_none F.keep (hl q hq).2.1, (hl q hq).2.2⟩, x1, hnew⟩, htup.of_slots x2⟩
    hQ h' R R.toK ((Heap.UpToSlots.of_keeps F.keep).trans (hsm.trans x2))
theorem leave_newX {cls : String} (K : Below A base outer g) (hx : Heap.NewExc h s'.heap e cls) (F : Fr g L h m) (N : News g L h news) (he : env.frame = some L) (hk : env.scope.kind = .function)
    (hQ : ∀ h', RaisedSN base g outer e (.type cls) news h' → RaisedN base outer e (.type cls) news h' → g.UpToSlots h' → Q () { s' with heap := h' }) :
    wpAny M (A.deeper env) (leaving env (.ref e)) Q E s' := by
  have K' := pushX K F he hk
  have hin : ∀ env' ∈ (env :: outer), ∀ b, env'.frame = some b → b ∈ (env :: outer).filterMap (·.frame) := fun env' he b hb => List.mem_filterMap.mpr ⟨env', he, hb⟩
  have st : base.StaysIn (hideAll h ((env :: outer).filterMap (·.frame))) := fun b o q => hideAll_get _ (K'.stays b o q) fun hm => by
    rw [(K'.frames.mem hm).1] at q; cases q
  have sg : ∀ b o, g.get? b = some o → b ∉ outer.filterMap (·.frame) → (hideAll h ((env :: outer).filterMap (·.frame))).get? b = some o := fun b o q nm => hideAll_get _ (F.keep b o q) fun hm => by
    rcases memX he hm with z | z
    · rw [z, kts_self F] at q
      cases q
    · exact nm z
  have hl : ∀ q ∈ news, (hideAll h ((env :: outer).filterMap (·.frame))).get? q.1 = some q.2 ∧ g.get? q.1 = none ∧ base.get? q.1 = none := fun q hq => by
    refine ⟨hideAll_get _ (N q hq).1 fun hm => ?_, (N q hq).2.2, fresh_of_stays K.stays (N q hq).2.2⟩
    rcases memX he hm with z | z
    · exact (N q hq).2.1 z
    · obtain ⟨o, ho, _⟩ := (K.frames.mem z).2
      rw [(N q hq).2.2] at ho; cases ho
  obtain ⟨ob, tp, hee, hcls, hd⟩ := hx.there
  have hen : (hideAll h ((env :: outer).filterMap (·.frame))).get? e = none := by
    cases q : (hideAll h ((env :: outer).filterMap (·.frame))).get? e with
    | none => rfl
    | some o => have := of_hideAll _ q; rw [hx.new] at this; cases this
  refine wpAny_leaving_firstW (a0 := tp) K'.stack ((funFrames_hide K'.frames hin).of_keeps fun b o hb _ => ⟨o, hx.keeps b o hb, rfl⟩) he hee (fun b o hb => hx.keeps b o (of_hideAll _ hb)) hen hd rfl rfl fun h' hL => ?_
  obtain ⟨k1, ⟨_, _, k2⟩, k3, k4⟩ := hL
  have R : RaisedSN base g outer e (.type cls) news h' := ⟨_, tp, st, sg, hl, k1, hen, k2, by rw [← hcls]; exact k3⟩
  exact hQ h' R R.toN (((Heap.UpToSlots.of_keeps F.keep).trans (Heap.UpToSlots.of_keeps hx.keeps)).trans k4)
theorem leave_onNX {cls : Value} (K : Below A base outer g) (F : Fr g L g₂ m) (R : RaisedSN base g₂ (env :: outer) e cls news s'.heap) (hsm : g₂.UpToSlots s'.heap) (he : env.frame = some L)
    (hQ : ∀ h', RaisedSN base g outer e cls news h' → RaisedN base outer e cls news h' → g.UpToSlots h' → Q () { s' with heap := h' }) :
    wpAny M (A.deeper env) (leaving env (.ref e)) Q E s' := by
  obtain ⟨B, a0, hB, hBG, hl, hfl⟩ := R
  exact wpAny_leaves_onW (Around.frames_deeper K.stack) he hfl fun h' x1 x2 =>
    have R : RaisedSN base g outer e cls news h' := ⟨B, a0, hB, fun b o q nm => hBG b o (F.keep b o q) (fun hm => by
      rcases memX he hm with z | z
      · rw [z, kts_self F] at q
        cases q
      · exact nm z), fun q hq => ⟨(hl q hq).1, kts_none F.keep (hl q hq).2.1, (hl q hq).2.2⟩, x1⟩
    hQ h' R R.toN ((Heap.UpToSlots.of_keeps F.keep).trans (hsm.trans x2))
end
section
variable {prog : Program} {w : World} {A₀ A : Around} {s : Shared} {base h₀ g₀ : Heap} {outer : List Env} {L a : Addr} {m : Str → Option Value} {env : Env} {news : Led} {K : Frag} {p : Program} {loose : List Str} {mean : ExcName → Option Value} {mg mb : Str → Option Value}
    {R : Result → Shared → Prop} {name qual : Str} {params : Arguments} {body : List Stmt} {scope : Scope} {dV kV doc pm cdv ct oc : Value} {an od : Option Addr} {osl : Array (Option Value)} {f : Addr} {args : Args} {binds : List (Str × Value)}
theorem kts_enterX (B : Below A₀ base outer h₀) (F : Fr h₀ L s.heap m) (N : News h₀ L s.heap news) (hA : A.frames = some (env :: outer)) (he : env.frame = some L) (hck : env.scope.kind = .function) :
    ∃ oL es ep, (hideAll s.heap (news.map (·.1))).get? L = some oL ∧ oL.data = .dict es ep ∧ (∀ h', h'.get? L = some oL → Heap.Ns h' L m) ∧ (∀ (sl : Array (Option Value)) h', h'.get? L = some { oL with slots := sl } → Heap.Ns h' L m) ∧
      h₀.StaysIn (hideAll s.heap (news.map (·.1))) ∧ Below A base (env :: outer) (hideAll s.heap (news.map (·.1))) := by
  have nm : ∀ b o, h₀.get? b = some o → b ∉ news.map (·.1) := fun b o e q => by
    obtain ⟨p, hp, rfl⟩ := List.mem_map.mp q
    rw [(N p hp).2.2] at e; cases e
  have st : h₀.StaysIn (hideAll s.heap (news.map (·.1))) := fun b o e => hideAll_get _ (F.keep b o e) (nm b o e)
  obtain ⟨oL, es, ep, hL, hLd, hLk, hLf⟩ := F.ns
  have nL : L ∉ news.map (·.1) := fun q => by
    obtain ⟨p, hp, e⟩ := List.mem_map.mp q
    exact (N p hp).2.1 e
  have hLg := hideAll_get (news.map (·.1)) hL nL
  have B₁ := pushX B F he hck
  exact ⟨oL, es, ep, hLg, hLd, fun h' e => ⟨oL, es, ep, e, hLd, hLk, hLf⟩, fun sl h' e => ⟨_, es, ep, e, hLd, hLk, hLf⟩, st, ⟨hA, fun b o e => st b o (B.stays b o e), funFrames_hideAll B₁.frames fun env' he' b hb hf => by
    rcases List.mem_cons.mp he' with rfl | he'
    · exact nL ((Option.some.inj (he.symm.trans hf) : L = b) ▸ hb)
    · obtain ⟨L₁, o₁, hf₁, ho₁⟩ := funFrames_in B.frames env' he'
      rw [hf₁] at hf
      exact nm L₁ o₁ ho₁ ((Option.some.inj hf : L₁ = b) ▸ hb)⟩⟩

theorem code_defX0 (B : Below A₀ base [] h₀) (F : Fr h₀ L s.heap m) (X₀ : K.In h₀) (N : News h₀ L s.heap news) (T : Top p loose mean mg mb h₀) (hA : A.frames = some [env]) (he : env.frame = some L) (hck : env.scope.kind = .function)
    (ho : K.lookup f = some ⟨oc, od, .func (fnOf name qual params body scope dV kV doc pm an cdv ct), osl⟩) (hcd : codeIn K cdv qual = true) (hroom : A.depth < recursionLimit)
    (hbind : BindsTo s (fnOf name qual params body scope dV kV doc pm an cdv ct) args binds) (hloc : ∀ y ∈ binds, scope.names.lookup y.1 = some .local)
    (h : ∀ g L' h₁, Fr h₀ L g m → Fr g L' h₁ (fun y => binds.reverse.lookup y) → News g L' h₁ news → Below A base [env] g → K.In g → Top p loose mean mg mb g → KtsDicts ([env].filterMap (·.frame)) g →
      wpAny (model prog w) (A.deeper (envOf qual scope L' f cdv)) (execs body (envOf qual scope L' f cdv))
        (fun fl s' => LeaveS0 ([env].filterMap (·.frame)) h₀ L m g R (match fl with | .ret v => v | _ => .none) s')
        (fun e s' => wpAny (model prog w) (A.deeper (envOf qual scope L' f cdv)) (leaving (envOf qual scope L' f cdv) e) (fun _ s'' => R (.error e) s'') (fun e' s'' => R (.error e') s'') s')
        { s with heap := h₁, toks := s.toks + binds.length })
    (hco : scope.isCoroutine = false) (hgen : scope.isGenerator = false) (hk : scope.kind = .function)
    (hcell : ∀ x ∈ scope.names, x.2 ≠ .cell) : codeAny (model prog w) A (.call (.ref f) args) R s := by
  have X := X₀.keeps F.keep
  refine codeAny_call_def (fd := fnOf name qual params body scope dV kV doc pm an cdv ct) (body := body) (binds := binds) hroom (X _ _ ho) rfl (T.nolimit.keeps F.keep) (codeRec_of X hcd) rfl hbind hcell hloc (fun h₁ hns hk₁ => ?_) hco hgen hk
  obtain ⟨oL, es, ep, hLg, hLd, hN, hNs, st, B₂⟩ := kts_enterX B F N hA he hck
  refine wpAny_mono (h _ s.heap.objs.size h₁ ⟨hN _ hLg, st, F.above⟩ ⟨hns, fun b o e => hk₁ b o (of_hideAll _ e), Nat.le_of_eq (hideAll_size _ _)⟩
    (fun p hp => ⟨hk₁ _ _ (N p hp).1, Nat.ne_of_lt (Heap.lt_size (N p hp).1), hideAll_none _ (List.mem_map_of_mem hp)⟩) B₂ (X₀.keeps st) (T.keeps st) (fun b hb => by
      rcases memX he hb with rfl | z
      · exact ⟨oL, es, ep, hLg, hLd⟩
      · simp at z)) (fun fl s' hl => ?_) fun _ _ y => y
  obtain ⟨g', L', m', news', T', F', N', k⟩ := hl
  have nL₀ : h₀.get? L = none := kts_self F
  obtain ⟨sl, hs⟩ := T'.up hLg
  refine k ⟨hNs sl _ (F'.keep _ _ hs), fun b o e => F'.keep b o (T'.other b o (st b o e) (fun q => by
    rcases memX he q with z | z
    · rw [z, nL₀] at e
      cases e
    · simp at z)), F.above⟩ fun p hp => ⟨(N' p hp).1, fun q => ?_, ?_⟩
  · have := (N' p hp).2.2; rw [q, hs] at this; cases this
  · cases q : h₀.get? p.1 with
    | none => rfl
    | some o =>
      obtain ⟨sl', hs'⟩ := T'.up (st _ _ q)
      have := (N' p hp).2.2
      rw [hs'] at this
      cases this
end
section
variable {prog : Program} {w : World} {A : Around} {E : Value → Shared → Prop} {s : Shared} {K : Frag} {x C L f : Addr} {h₀ : Heap} {m : Str → Option Value} {ox : Obj} {od : Option Obj} {T : String} {news : Led}
theorem ksp_binL {op : Operator} {l : Addr} {vs : List Value} {k : Nat} {fo ro rc : Option Value} {Q : Value → Shared → Prop} (F : Fr h₀ L s.heap m) (X₀ : K.In h₀) (N : News h₀ L s.heap news) (I : InstAt s.heap x ox C od) (hl : (l, listOf vs.toArray k) ∈ news) (hc : selfFirst K C = true)
    (hs : findIn K (.ref C) (PySem.dunder op.info.2) = some (some (.ref f))) (hf : isFn K (.ref f) = true) (hr : findIn K (.ref C) (dunderR op.info.2) = some rc) (hp : rc = none ∨ ∃ g : Addr, rc = some (.ref g))
    (h1 : findIn K (.type "list") (PySem.dunder op.info.2) = some fo) (h2 : findIn K (.type "list") (dunderR op.info.2) = some ro) (hsub : subIn K (.type "list") (.ref C) = some false)
    (h : wpAny (model prog w) A (call (.ref f) [.ref x, .ref l]) (W.CmpBack Q) E s) : wpAny (model prog w) A (binaryOp op (.ref x) (.ref l)) Q E s := by
  refine' lite ?lw ?lx ?le
  case lw =>
    have X := X₀.keeps F.keep
    obtain ⟨cd, rest, hcd, hm⟩ := ksp_first hc
    rcases hi : op.info with ⟨sym, nm'⟩
    rw [hi] at hs hr h1 h2
    dsimp only at hs hr h1 h2
    have one := ksp_try X I hs hf h
    have hll := (N _ hl).1
    obtain ⟨hh, g, d, tt, os⟩ := s
    have L1 : Looks (model prog w) hh (typeOf (.ref x)) (.ref C) := I.type
    have L2 : Looks (model prog w) hh (typeOf (.ref l)) (.type "list") := (Looks.ld hll).andThen .now
    have L3 : Looks (model prog w) hh (fillsNumberSlot (.ref C) nm') true := fills_K X hcd hm hs
    have L4 : Looks (model prog w) hh (fillsNumberSlot (.type "list") nm') ((fo.isSome && !isSeqSlot fo) || (ro.isSome && !isSeqSlot ro)) := ksp_fillsT X h1 h2
    have L5 : Looks (model prog w) hh (isSubtype (.type "list") (.ref C)) false := looks_subIn X hsub
    have L6 : Looks (model prog w) hh (numberSlotInPython (.ref C) nm') true := ksp_inPy X hs hr hp
    have L7 : Looks (model prog w) hh (numberSlotInPython (.type "list") nm') false := Looks.of_pure rfl
    have L8 : Looks (model prog w) hh (typeLookup (.type "list") (dunderR nm')) ro := looks_findIn X h2
    generalize ((fo.isSome && !isSeqSlot fo) || (ro.isSome && !isSeqSlot ro)) = right at L4
    have hne : (Value.ref C == Value.type "list") = false := Bool.eq_false_iff.mpr fun q => by cases beq_iff_eq.mp q
    simp only [binaryOp, hi]
    refine wpAny_holding (wpAny_bind ?_)
    unfold binaryOp1
    refine wpAny_bind (L1.at (wpAny_bind (L2.at (wpAny_bind (L3.at ?_)))))
    simp only [hne, Bool.false_eq_true, if_false]
    cases right with
    | false =>
      ksp_lk
      refine wpAny_mono one (fun r s' hr' => ?_) fun _ _ e => e
      obtain ⟨v, rfl, hq⟩ := hr'
      ksp_lk
      exact hq
    | true =>
      ksp_lk
      refine wpAny_mono one (fun r s' hr' => ?_) fun _ _ e => e
      obtain ⟨v, rfl, hq⟩ := hr'
      ksp_lk
      exact hq
  case lx => intro hk; simpa only using hk (0 : Nat)
  case le => eq_refl
end
local macro_rules | `(tactic| walk_at "binaryOp Sub ref") => `(tactic| (k_here; (with_reducible show wpAny _ _ (binaryOp Operator.Sub (Value.ref _) (Value.ref _)) _ _ _); k_dflt (refine' ksp_binL ?F ?X ?N ?I ?hl ?hC ?hS ?hF ?hR ?hP ?h1 ?h2 ?hU ?_; (case F => k_asm); (case X => k_asm); (case N => k_asm); (case I => k_inst); (case hl => k_mem); (case hS => k_is); (case hF => k_is); (case hC => k_is); (case hR => k_is); (case hP => first | exact .inl rfl | exact .inr ⟨_, rfl⟩); (case h1 => k_is); (case h2 => k_is); (case hU => k_is); k_whole)))
/-- a contract of a def with a try, called by the law itself -/
noncomputable def CtrT (w : World) (d : Nat) (f : Addr) (args : List Value) (N : Led) (Post : Value → Led → Prop) : Prop :=
  ∀ (p : Program) (loose : List Str) (mean : ExcName → Option Value) (mg mb : Str → Option Value) (dp un : Nat) (gd : Option (List Code)) (cn : Str) (cs : Scope) (a : Addr) (ccd : Value) (cl : List (Str × Addr)) (A₀ : Around) (h₀ : Heap) (L : Addr) (m : Str → Option Value) (s : Shared) (R : Result → Shared → Prop),
   Below A₀ h₀ [] h₀ → Fr h₀ L s.heap m → (hd.heap_1 w.params).In h₀ → News h₀ L s.heap N → Top p loose mean mg mb h₀ → cs.kind = .function →
   dp + d < 1000 → un + 20 * d < 9900 →
   (∀ v h' tk' N', Fr h₀ L h' m → News h₀ L h' N' → Post v N' → R (.ok (.ret v)) { s with heap := h', toks := tk' }) →
   codeAny (model PySem.Challenge.rw_bn0014_01.row.toRowW.prog w) (ktrTop dp un gd cn cs L a ccd cl []) (.call (.ref f) ⟨args, []⟩) R s
local macro_rules | `(tactic| walk_at "leaving ref") => `(tactic| (k_here; (with_reducible rename KtsDicts _ _ => kdX); (with_reducible show wpAny _ _ (leaving (envOfC _ _ _ _ _) _) _ _ _); first
  | (refine' leave_raiseX ?k1 ?k0 ?k2 ?k3 ?e1 ?e2 ?_; (case k0 => first | assumption | exact Heap.MadeExc.of (by assumption)); (case k2 => assumption); (case k1 => assumption); (case k3 => k_asm); (case e1 => exact rfl); (case e2 => exact rfl); k_whole; intro h' t' S' R' U'; (try dsimp only at S' R' U' ⊢))
  | (refine' leave_onX ?k1 ?k2 ?k3 ?k4 ?e1 ?_; (case k3 => assumption); (case k2 => assumption); (case k1 => assumption); (case k4 => assumption); (case e1 => exact rfl); k_whole; intro h' S' R' U'; (try dsimp only at S' R' U' ⊢))
  | (refine' leave_newX ?k1 ?k0 ?k2 ?k3 ?e1 ?e2 ?_; (case k0 => assumption); (case k2 => assumption); (case k1 => assumption); (case k3 => k_asm); (case e1 => exact rfl); (case e2 => exact rfl); k_whole; intro h' S' R' U'; (try dsimp only at S' R' U' ⊢))
  | (refine' leave_onNX ?k1 ?k2 ?k3 ?k4 ?e1 ?_; (case k3 => assumption); (case k2 => assumption); (case k1 => assumption); (case k4 => assumption); (case e1 => exact rfl); k_whole; intro h' S' R' U'; (try dsimp only at S' R' U' ⊢))))
local macro_rules | `(tactic| walk_at "exec Raise some none") => `(tactic| (k_here; (with_reducible show wpAny _ _ (exec (Stmt.Raise (some (Expr.Call (Expr.Name _ _) (_ :: _) [] _)) none _) _) _ _ _); refine Raise_new rfl ?_))
local macro_rules | `(tactic| walk_at "InitBack") => `(tactic| (dsimp only [InitBack]))
end
end
section
local macro_rules | `(tactic| k_mem) => `(tactic| ((fail_if_success (with_reducible refine' List.Mem.tail _ ?_)); first | with_reducible assumption | assumption | (refine sub_mem (by assumption) ?_; k_mem)))
local macro_rules | `(tactic| news_mem) => `(tactic| k_mem)
local macro_rules | `(tactic| k_room) => `(tactic| ((simp only [depth_under_make, depth_under_kw, depth_in1, depth_deeper, depth_caller, recursionLimit] at *); omega))
local macro_rules | `(tactic| k_units) => `(tactic| ((have hcL9 := cLine_is); (simp only [units_in1, units_deeper, Around.mark_units, units_caller, cLine] at *); omega))
local macro_rules | `(tactic| allgen_close2_more) => `(tactic| assumption)
local macro_rules | `(tactic| ktr_rel) => `(tactic| ((try simp only [List.length_append, List.length_cons, List.length_nil, List.length_map, List.length_set, List.length_zipWith, rangeKs_length]); first | assumption | omega))
local macro_rules | `(tactic| top_reprB) => `(tactic| first | exact List.forall_mem_nil _ | (refine List.forall_mem_cons.mpr ⟨by k_mem, ?_⟩; top_reprB) | (intro p hp; k_mem))
local macro_rules | `(tactic| k_ne) => `(tactic| (refine neN ?_; (try dsimp only); first | (with_reducible assumption) | exact Ne.symm (by with_reducible assumption) | exact off_ne (by with_reducible assumption) (by k_mem) | exact Ne.symm (off_ne (by with_reducible assumption) (by k_mem)) | omega))
local macro_rules | `(tactic| top_strB) => `(tactic| first | (first | assumption | exact allLt_of (by assumption) | exact And.right (by assumption) | exact And.right (And.right (by assumption)) | exact And.right (And.right (And.right (by assumption))) | exact And.right (And.right (And.right (And.right (by assumption)))) | exact And.right (And.right (And.right (And.right (And.right (by assumption))))) | exact And.right (And.right (And.right (And.right (And.right (And.right (by assumption)))))) | exact And.right (And.right (And.right (And.right (And.right (And.right (And.right (by assumption))))))) | exact And.right (And.right (And.right (And.right (And.right (And.right (And.right (And.right (by assumption)))))))) | exact And.right (And.right (And.right (And.right (And.right (And.right (And.right (And.right (And.right (by assumption))))))))) | exact And.right (And.right (And.right (And.right (And.right (And.right (And.right (And.right (And.right (And.right (by assumption)))))))))) | exact And.right (And.right (And.right (And.right (And.right (And.right (And.right (And.right (And.right (And.right (And.right (by assumption))))))))))) | exact And.right (And.right (And.right (And.right (And.right (And.right (And.right (And.right (And.right (And.right (And.right (And.right (by assumption)))))))))))) | exact And.right (And.right (And.right (And.right (And.right (And.right (And.right (And.right (And.right (And.right (And.right (And.right (And.right (by assumption))))))))))))) | exact And.right (And.right (And.right (And.right (And.right (And.right (And.right (And.right (And.right (And.right (And.right (And.right (And.right (And.right (by assumption)))))))))))))) | exact And.right (And.right (And.right (And.right (And.right (And.right (And.right (And.right (And.right (And.right (And.right (And.right (And.right (And.right (And.right (by assumption))))))))))))))) | exact And.right (And.right (And.right (And.right (And.right (And.right (And.right (And.right (And.right (And.right (And.right (And.right (And.right (And.right (And.right (And.right (by assumption)))))))))))))))) | exact And.right (And.right (And.right (And.right (And.right (And.right (And.right (And.right (And.right (And.right (And.right (And.right (And.right (And.right (And.right (And.right (And.right (by assumption))))))))))))))))) | exact And.right (And.right (And.right (And.right (And.right (And.right (And.right (And.right (And.right (And.right (And.right (And.right (And.right (And.right (And.right (And.right (And.right (And.right (by assumption)))))))))))))))))) | exact And.right (And.right (And.right (And.right (And.right (And.right (And.right (And.right (And.right (And.right (And.right (And.right (And.right (And.right (And.right (And.right (And.right (And.right (And.right (by assumption)))))))))))))))))))) | exact off_sub (by with_reducible assumption) (by top_reprB) | exact off_of_lt (by (first | assumption | exact allLt_of (by assumption) | exact And.right (by assumption) | exact And.right (And.right (by assumption)) | exact And.right (And.right (And.right (by assumption))) | exact And.right (And.right (And.right (And.right (by assumption)))) | exact And.right (And.right (And.right (And.right (And.right (by assumption))))) | exact And.right (And.right (And.right (And.right (And.right (And.right (by assumption)))))) | exact And.right (And.right (And.right (And.right (And.right (And.right (And.right (by assumption))))))) | exact And.right (And.right (And.right (And.right (And.right (And.right (And.right (And.right (by assumption)))))))) | exact And.right (And.right (And.right (And.right (And.right (And.right (And.right (And.right (And.right (by assumption))))))))) | exact And.right (And.right (And.right (And.right (And.right (And.right (And.right (And.right (And.right (And.right (by assumption)))))))))) | exact And.right (And.right (And.right (And.right (And.right (And.right (And.right (And.right (And.right (And.right (And.right (by assumption))))))))))) | exact And.right (And.right (And.right (And.right (And.right (And.right (And.right (And.right (And.right (And.right (And.right (And.right (by assumption)))))))))))) | exact And.right (And.right (And.right (And.right (And.right (And.right (And.right (And.right (And.right (And.right (And.right (And.right (And.right (by assumption))))))))))))) | exact And.right (And.right (And.right (And.right (And.right (And.right (And.right (And.right (And.right (And.right (And.right (And.right (And.right (And.right (by assumption)))))))))))))) | exact And.right (And.right (And.right (And.right (And.right (And.right (And.right (And.right (And.right (And.right (And.right (And.right (And.right (And.right (And.right (by assumption))))))))))))))) | exact And.right (And.right (And.right (And.right (And.right (And.right (And.right (And.right (And.right (And.right (And.right (And.right (And.right (And.right (And.right (And.right (by assumption)))))))))))))))) | exact And.right (And.right (And.right (And.right (And.right (And.right (And.right (And.right (And.right (And.right (And.right (And.right (And.right (And.right (And.right (And.right (And.right (by assumption))))))))))))))))) | exact And.right (And.right (And.right (And.right (And.right (And.right (And.right (And.right (And.right (And.right (And.right (And.right (And.right (And.right (And.right (And.right (And.right (And.right (by assumption)))))))))))))))))) | exact And.right (And.right (And.right (And.right (And.right (And.right (And.right (And.right (And.right (And.right (And.right (And.right (And.right (And.right (And.right (And.right (And.right (And.right (And.right (by assumption))))))))))))))))))))) | exact off_of_lt2 (by (first | assumption | exact allLt_of (by assumption) | exact And.right (by assumption) | exact And.right (And.right (by assumption)) | exact And.right (And.right (And.right (by assumption))) | exact And.right (And.right (And.right (And.right (by assumption)))) | exact And.right (And.right (And.right (And.right (And.right (by assumption))))) | exact And.right (And.right (And.right (And.right (And.right (And.right (by assumption)))))) | exact And.right (And.right (And.right (And.right (And.right (And.right (And.right (by assumption))))))) | exact And.right (And.right (And.right (And.right (And.right (And.right (And.right (And.right (by assumption)))))))) | exact And.right (And.right (And.right (And.right (And.right (And.right (And.right (And.right (And.right (by assumption))))))))) | exact And.right (And.right (And.right (And.right (And.right (And.right (And.right (And.right (And.right (And.right (by assumption)))))))))) | exact And.right (And.right (And.right (And.right (And.right (And.right (And.right (And.right (And.right (And.right (And.right (by assumption))))))))))) | exact And.right (And.right (And.right (And.right (And.right (And.right (And.right (And.right (And.right (And.right (And.right (And.right (by assumption)))))))))))) | exact And.right (And.right (And.right (And.right (And.right (And.right (And.right (And.right (And.right (And.right (And.right (And.right (And.right (by assumption))))))))))))) | exact And.right (And.right (And.right (And.right (And.right (And.right (And.right (And.right (And.right (And.right (And.right (And.right (And.right (And.right (by assumption)))))))))))))) | exact And.right (And.right (And.right (And.right (And.right (And.right (And.right (And.right (And.right (And.right (And.right (And.right (And.right (And.right (And.right (by assumption))))))))))))))) | exact And.right (And.right (And.right (And.right (And.right (And.right (And.right (And.right (And.right (And.right (And.right (And.right (And.right (And.right (And.right (And.right (by assumption)))))))))))))))) | exact And.right (And.right (And.right (And.right (And.right (And.right (And.right (And.right (And.right (And.right (And.right (And.right (And.right (And.right (And.right (And.right (And.right (by assumption))))))))))))))))) | exact And.right (And.right (And.right (And.right (And.right (And.right (And.right (And.right (And.right (And.right (And.right (And.right (And.right (And.right (And.right (And.right (And.right (And.right (by assumption)))))))))))))))))) | exact And.right (And.right (And.right (And.right (And.right (And.right (And.right (And.right (And.right (And.right (And.right (And.right (And.right (And.right (And.right (And.right (And.right (And.right (And.right (by assumption))))))))))))))))))))) (by omega) | exact off_of_base (by assumption) (by omega))
local macro_rules | `(tactic| k_all) => `(tactic| (refine off_all ?_; top_strB))
local macro_rules | `(tactic| walk_at "getMethod ref") => `(tactic| (k_here; k_dflt (refine' kmu_own ?k1 ?k2 ?k3 ?k4 ?k5 ?_; (case k1 => k_asm); (case k2 => k_asm); (case k3 => k_inst); (case k4 => k_is); (case k5 => k_is); k_whole)))
local macro_rules | `(tactic| walk_at "binaryOp Mult int int") => `(tactic| (k_here; with_reducible first | refine PyProof.Rows.mul_int ?_ (mulok_getD (by assumption) (by assumption) (by assumption)) | refine PyProof.Rows.mul_int ?_ (mulok_mem (by assumption) (by assumption) (by assumption))))
local macro_rules | `(tactic| top_name) => `(tactic| (law_purse 40000 => (law_clear; (repeat (with_reducible rename (@Ne Nat _ _) ∧ _ => hne9; clear hne9)); (repeat (with_reducible rename (@LT.lt Nat _ _ _) ∧ _ => hne9; clear hne9)); (repeat (with_reducible rename (@Ne Nat _ _) => hne9; clear hne9)); (try simp only [List.length_append, List.length_cons, List.length_nil, List.length_map, List.length_take, List.length_set, List.length_zipWith, rangeKs_length]); omega)))
local macro_rules | `(tactic| walk_at "subscriptTail Name Name ref int") => `(tactic| ((k_here; (with_reducible show wpAny _ _ (subscriptTail _ _ (Value.ref _) (Value.int _ _)) _ _ _); (with_unfolding_all refine' item_list_ints ?k1 ?k2 ?k3 ?k4 ?k5 ?_; (case k1 => exact News.isList (by k_asm) (by k_mem)); (case k2 => l_ints); (case k3 => first | assumption | top_name); (case k4 => first | assumption | exact idx_hi (by assumption) (by first | assumption | exact Nat.le_refl _) | top_name); (case k5 => first | assumption | exact idx_fit (by assumption) (by assumption) | top_name); k_whole); intro _)))
local macro_rules | `(tactic| walk_at "subscriptTail Name BinOp ref int") => `(tactic| ((k_here; (with_reducible show wpAny _ _ (subscriptTail _ _ (Value.ref _) (Value.int _ _)) _ _ _); (with_unfolding_all refine' item_list_ints ?k1 ?k2 ?k3 ?k4 ?k5 ?_; (case k1 => exact News.isList (by k_asm) (by k_mem)); (case k2 => l_ints); (case k3 => first | assumption | top_name); (case k4 => first | assumption | exact idx_hi (by assumption) (by first | assumption | exact Nat.le_refl _) | top_name); (case k5 => first | assumption | exact idx_fit (by assumption) (by assumption) | top_name); k_whole); intro _)))
local macro_rules | `(tactic| walk_at "call builtin:list.copy") => `(tactic| (k_here; (with_reducible show wpAny _ _ (call (Value.builtin _) [Value.ref _]) _ _ _); k_dflt (refine' copyK ?k1 ?k2 ?k3 ?k4 ?_; (case k1 => k_asm); (case k2 => k_asm); (case k3 => exact News.isList (by k_asm) (by k_mem)); (case k4 => exact ints_size (by l_ints) (by top_name)); k_whole); intro D' h' F' N' l1; (try k_lt l1); (try k_sweep)))
local macro_rules | `(tactic| walk_at "setItem ref int") => `(tactic| (k_here; (with_reducible show wpAny _ _ (setItem (Value.ref _) (Value.int _ _) (Value.int _ _)) _ _ _); k_dflt (refine' ksa_set ?k1 ?k2 ?k3 ?k4 ?k5 ?k6 ?k7 ?_; (case k1 => k_asm); (case k2 => k_asm); (case k3 => k_upd); (case k4 => l_ints); (case k5 => first | assumption | top_name); (case k6 => first | assumption | top_name); (case k7 => first | assumption | top_name); k_whole); intro h' F' N' hi' hl' hs'; clear hs'; (try k_sweep)))
local macro_rules | `(tactic| walk_at "callWith ref") => `(tactic| (k_here; kco_here; k_dflt (refine' kco_callWith ?k1 ?k2 ?k3 ?k4 ?_; (case k1 => k_in); (case k2 => k_inst); (case k3 => rfl); (case k4 => k_is); k_whole)))
local macro_rules | `(tactic| allgen_close_more) => `(tactic| first | k_asm | (refine' cb_drop ?cbN ?cbS; (case cbN => assumption); (case cbS => top_reprB)))
local macro_rules | `(tactic| walk_at "exec For Name Call cons nil") => `(tactic| (k_here; k_dflt (refine For_turns (by k_asm) ?_ (by intro _; with_unfolding_all rfl) (by passes_own)); (try k_fold)))
local macro_rules | `(tactic| walk_at "getItem ref int") => `(tactic| (k_here; (with_reducible show wpAny _ _ (getItem (Value.ref _) (Value.int _ _)) _ _ _); k_dflt (refine' ksa_get ?k1 ?k2 ?k3 ?k4 ?k5 ?k6 ?_; (case k1 => k_asm); (case k2 => k_mem); (case k3 => l_ints); (case k4 => first | assumption | top_name); (case k5 => first | assumption | top_name); (case k6 => first | assumption | top_name); k_whole); intro _))
local macro_rules | `(tactic| walk_at "CompSrc") => `(tactic| (k_here; k_dflt (refine' LCg.CompSrc.ledger ?s1 ?s2 ?s3 ?s4 ?s5 ?_; (case s1 => rfl); (case s2 => k_asm); (case s3 => k_asm); (case s4 => k_mem); (case s5 => exact ints_sizeA (by l_ints) (by first | assumption | top_name)); intro g'; (refine' kcf_list _ (by l_ints) (fun k' t' I' oI' C' oC' D' m' ys' h' tk' E' hk' hC' hx' F' N' off' ne' hMark' => ?_) ?_); (all_goals (try (simp only [LCg.Off3, and_true] at off'))); kcf_last)))
local macro_rules | `(tactic| allgen_close2_more) => `(tactic| first | assumption | exact school_bnd (by assumption) _ _ | exact one_bnd (by assumption) | exact times_bnd (by assumption) _ _ | exact map_bnd (by assumption) _ _ | exact zip_bnd (by assumption) _ _ _ | exact set_bnd (by assumption) (by allgen_close2_more))
local macro_rules | `(tactic| ktr_rel) => `(tactic| ((simp only [List.length_append, List.length_cons, List.length_nil, List.length_map, List.length_set, List.length_zipWith, rangeKs_length, schoolS_length, timesS_length]); omega))
local macro_rules | `(tactic| walk_at "call builtin:all") => `(tactic| (k_here; (with_reducible rename GenOnD _ _ _ _ _ _ _ _ _ => gxX'); k_dflt (refine' all_gx ?k1 ?k2 ?k3 gxX' ?k4 ?k5 ?_; (case k1 => k_asm); (case k2 => k_asm); (case k3 => k_asm); (case k4 => k_asm); (case k5 => k_asm); k_whole); clear gxX'; intro s' F' N' G' hos'))
local macro_rules | `(tactic| walk_at "binaryOp Add int ref") => `(tactic| (k_here; (with_reducible show wpAny _ _ (binaryOp Operator.Add (Value.int _ _) (Value.ref _)) _ _ _); k_dflt (refine' rbin_add ?F ?X ?I ?hC ?hS ?hR ?hF ?h1 ?h2 ?hU ?_; (case F => k_asm); (case X => k_asm); (case I => k_inst); (case hC => k_is); (case hS => k_is); (case hR => k_is); (case hF => k_is); (case h1 => k_is); (case h2 => k_is); (case hU => k_is); k_whole)))
local macro_rules | `(tactic| walk_at "binaryOp Sub int ref") => `(tactic| (k_here; (with_reducible show wpAny _ _ (binaryOp Operator.Sub (Value.int _ _) (Value.ref _)) _ _ _); k_dflt (refine' rbin_sub ?F ?X ?I ?hC ?hS ?hR ?hF ?h1 ?h2 ?hU ?_; (case F => k_asm); (case X => k_asm); (case I => k_inst); (case hC => k_is); (case hS => k_is); (case hR => k_is); (case hF => k_is); (case h1 => k_is); (case h2 => k_is); (case hU => k_is); k_whole)))
local macro_rules | `(tactic| walk_at "binaryOp Mult int ref") => `(tactic| (k_here; (with_reducible show wpAny _ _ (binaryOp Operator.Mult (Value.int _ _) (Value.ref _)) _ _ _); k_dflt (refine' rbin_mul ?F ?X ?I ?hC ?hS ?hR ?hF ?h1 ?h2 ?hU ?_; (case F => k_asm); (case X => k_asm); (case I => k_inst); (case hC => k_is); (case hS => k_is); (case hR => k_is); (case hF => k_is); (case h1 => k_is); (case h2 => k_is); (case hU => k_is); k_whole)))
local macro_rules | `(tactic| walk_at "binaryOp Mult int int") => `(tactic| (k_here; with_reducible refine PyProof.Rows.mul_int ?_ (mulok_mem_r (by assumption) (by assumption) (by assumption))))
local macro_rules | `(tactic| walk_at "binaryOp Sub ref") => `(tactic| (k_here; (with_reducible show wpAny _ _ (binaryOp Operator.Sub (Value.ref _) (Value.ref _)) _ _ _); k_dflt (refine' ksp_binL ?F ?X ?N ?I ?hl ?hC ?hS ?hF ?hR ?hP ?h1 ?h2 ?hU ?_; (case F => k_asm); (case X => k_asm); (case N => k_asm); (case I => k_inst); (case hl => k_mem); (case hS => k_is); (case hF => k_is); (case hC => k_is); (case hR => k_is); (case hP => first | exact .inl rfl | exact .inr ⟨_, rfl⟩); (case h1 => k_is); (case h2 => k_is); (case hU => k_is); k_whole)))
local macro_rules | `(tactic| walk_at "leaving ref") => `(tactic| (k_here; (with_reducible rename KtsDicts _ _ => kdX); (with_reducible show wpAny _ _ (leaving (envOfC _ _ _ _ _) _) _ _ _); first
  | (refine' leave_raiseX ?k1 ?k0 ?k2 ?k3 ?e1 ?e2 ?_; (case k0 => first | assumption | exact Heap.MadeExc.of (by assumption)); (case k2 => assumption); (case k1 => assumption); (case k3 => k_asm); (case e1 => exact rfl); (case e2 => exact rfl); k_whole; intro h' t' S' R' U'; (try dsimp only at S' R' U' ⊢))
  | (refine' leave_onX ?k1 ?k2 ?k3 ?k4 ?e1 ?_; (case k3 => assumption); (case k2 => assumption); (case k1 => assumption); (case k4 => assumption); (case e1 => exact rfl); k_whole; intro h' S' R' U'; (try dsimp only at S' R' U' ⊢))
  | (refine' leave_newX ?k1 ?k0 ?k2 ?k3 ?e1 ?e2 ?_; (case k0 => assumption); (case k2 => assumption); (case k1 => assumption); (case k3 => k_asm); (case e1 => exact rfl); (case e2 => exact rfl); k_whole; intro h' S' R' U'; (try dsimp only at S' R' U' ⊢))
  | (refine' leave_onNX ?k1 ?k2 ?k3 ?k4 ?e1 ?_; (case k3 => assumption); (case k2 => assumption); (case k1 => assumption); (case k4 => assumption); (case e1 => exact rfl); k_whole; intro h' S' R' U'; (try dsimp only at S' R' U' ⊢))))
local macro_rules | `(tactic| walk_at "exec Raise some none") => `(tactic| (k_here; (with_reducible show wpAny _ _ (exec (Stmt.Raise (some (Expr.Call (Expr.Name _ _) (_ :: _) [] _)) none _) _) _ _ _); refine Raise_new rfl ?_))
local macro_rules | `(tactic| walk_at "InitBack") => `(tactic| (dsimp only [InitBack]))
section
open PyProof.V PySem.Spec
/-! lists of three objects, by a place that is not written -/
def upd {α : Type} (X : Nat → α) (i : Nat) (x : α) : Nat → α := fun j => if j = i then x else X j
theorem upd_same {α : Type} (X : Nat → α) (i : Nat) (x : α) : upd X i x i = x := if_pos rfl
theorem upd_ne {α : Type} (X : Nat → α) {i j : Nat} (x : α) (h : j ≠ i) : upd X i x j = X j := if_neg h
abbrev refs3 (X : Nat → Addr) : List Value := [.ref (X 0), .ref (X 1), .ref (X 2)]
theorem refs3_get {X : Nat → Addr} {k : Int} (h0 : 0 ≤ k) (h3 : k < 3) : (refs3 X).toArray[k.toNat]? = some (.ref (X k.toNat)) := by
  obtain rfl | rfl | rfl : k = 0 ∨ k = 1 ∨ k = 2 := by omega
  all_goals rfl
theorem refs3_set {X : Nat → Addr} {k : Int} {x : Addr} (h0 : 0 ≤ k) (h3 : k < 3) : (refs3 X).toArray.setIfInBounds k.toNat (.ref x) = (refs3 (upd X k.toNat x)).toArray := by
  obtain rfl | rfl | rfl : k = 0 ∨ k = 1 ∨ k = 2 := by omega
  all_goals rfl
theorem toNat_lt3 {k : Int} (h0 : 0 ≤ k) (h3 : k < 3) : k.toNat < 3 := by omega
section
variable {prog : Program} {w : World} {A : Around} {E : Value → Shared → Prop} {s : Shared} {h₀ : Heap} {L : Addr} {m : Str → Option Value} {news news' : Led}
theorem item_refs {value slice : Expr} {D : Addr} {X : Nat → Addr} {n : Nat} {k : Int} {u : Tok} {Q : Value → Shared → Prop} (N : News h₀ L s.heap news) (hm : (D, listOf (refs3 X).toArray n) ∈ news) (h0 : 0 ≤ k) (h3 : k < 3) (h : Q (.ref (X k.toNat)) s)
    (hs : subscripted slice false (.ref D) (.int k u) = operate [.ref D, .int k u] (getItem (.ref D) (.int k u)) := by with_unfolding_all rfl) : wpAny (model prog w) A (subscriptTail value slice (.ref D) (.int k u)) Q E s :=
  tail_any (News.isList N hm).typeIs slot_list_getitem.lookup (wpAny_getItem_list (News.isList N hm) h0 (by omega) (refs3_get h0 h3) h) hs
theorem set_refs {D x : Addr} {X : Nat → Addr} {n : Nat} {k : Int} {t : Tok} {Q : Unit → Shared → Prop} (F : Fr h₀ L s.heap m) (N : News h₀ L s.heap news) (U : Upd D (listOf (refs3 X).toArray n) (listOf (refs3 (upd X k.toNat x)).toArray n) news news') (h0 : 0 ≤ k) (h3 : k < 3)
    (h : ∀ h', Fr h₀ L h' m → News h₀ L h' news' → Q () { s with heap := h' }) : wpAny (model prog w) A (setItem (.ref D) (.int k t) (.ref x)) Q E s := by
  obtain ⟨pre, post, rfl, rfl, a, b⟩ := U.split
  have z := N (D, listOf (refs3 X).toArray n) (List.mem_append.mpr (.inr (.head _)))
  refine ki_setAt z.1 h0 (by omega) (by show k < 3; exact h3) (h _ (F.change (Heap.SameBut.update ..) z.2.1 z.2.2) (ki_turn _ N a b (refs3_set h0 h3) ?_))
  simp
/-- the end of a turn of a loop over a list of the call's own -/
def EndG (h₀ : Heap) (L : Addr) (os : OsState) (I : Addr) (oI : Obj) (Dp : Addr × Obj) (J : (Str → Option Value) → Led → Prop) (Q : Flow → Shared → Prop) (f : Flow) (s₂ : Shared) : Prop :=
  match f with
  | .ret v => Q (.ret v) s₂
  | .brk => Q .next s₂
  | _ => ∃ m' news', Fr h₀ L s₂.heap m' ∧ News h₀ L s₂.heap ((I, oI) :: Dp :: news') ∧ AllBare s₂.gens ∧ s₂.os = os ∧ (∀ p ∈ news', p.1 ≠ I) ∧ J m' news'
theorem for_listG {env : Env} {x : Str} {px : Pos} {body : List Stmt} {D : Addr} {vs : List Value} {e : Nat} {Q : Flow → Shared → Prop} (J : Nat → (Str → Option Value) → Led → Prop) (hLe : env.locals = L)
    (hh : A.handled = none) (hE : PassesOwn (model prog w) A env E) (F : Fr h₀ L s.heap m) (N : News h₀ L s.heap ((D, listOf vs.toArray e) :: news)) (hoff : LCg.Off1 D news) (G : AllBare s.gens) (h0 : J 0 m news)
    (turn : ∀ i v m₁ news₁ s₁ I oI, vs[i]? = some v → J i m₁ news₁ → Fr h₀ L s₁.heap m₁ → News h₀ L s₁.heap ((I, oI) :: (D, listOf vs.toArray e) :: news₁) → LCg.Off1 I ((D, listOf vs.toArray e) :: news₁) → LCg.Off1 D news₁ → AllBare s₁.gens → s₁.os = s.os →
      wpAny (model prog w) A (assign (.Name x px) env v) (fun _ s₃ => wpAny (model prog w) A (execs body env) (EndG h₀ L s.os I oI (D, listOf vs.toArray e) (fun m' news' => LCg.Off1 D news' ∧ J (i + 1) m' news') Q) E s₃) E s₁)
    (done : ∀ m₁ news₁ s₁, J vs.length m₁ news₁ → Fr h₀ L s₁.heap m₁ → News h₀ L s₁.heap ((D, listOf vs.toArray e) :: news₁) → AllBare s₁.gens → s₁.os = s.os → Q .next s₁) :
    wpAny (model prog w) A (pyIter (.ref D)) (fun it s₂ => codeAny (model prog w) A (.forLoop (.Name x px) it body [] env) (fun r s' => match r with | .ok f => Q f s' | .error e => cameBackBy (model prog w) A env E e s') s₂) E s := by
  subst hLe
  have hax := N _ (.head _)
  have hl : s.heap.IsList D vs.toArray := News.isList N (.head _)
  have hlt : D < s.heap.objs.size := Heap.lt_size hax.1
  have hne : D ≠ s.heap.objs.size := Nat.ne_of_lt hlt
  refine wpAny_pyIter_list hl ?_
  have W := Walks.list (prog := prog) (w := w) hh s.heap.objs.size D hne vs.toArray
  have hnew : h₀.get? s.heap.objs.size = none := next_is_new F
  have hIL : s.heap.objs.size ≠ env.locals := Nat.ne_of_gt F.ns.lt
  have hlen : vs.toArray.size = vs.length := by simp
  rw [hlen] at W
  refine codeAny_forLoop_any (fun k s' => ∃ m' news' i, s'.heap.IsListIter s.heap.objs.size D i ∧ Fr h₀ env.locals s'.heap m' ∧ News h₀ env.locals s'.heap ((D, listOf vs.toArray e) :: news') ∧ AllBare s'.gens ∧ s'.os = s.os ∧ (∀ p ∈ news', p.1 ≠ s.heap.objs.size) ∧ LCg.Off1 D news' ∧ J i m' news' ∧ i ≤ vs.length ∧ k = vs.length + 1 - i) ?_ (vs.length + 1)
    ⟨m, news, 0, ⟨_, Heap.get?_push_size _ rfl, rfl, rfl⟩, F.push _, fun p hp => ⟨Heap.get?_push_of_some _ (N p hp).1, (N p hp).2⟩, G, rfl, fun p hp => Nat.ne_of_lt (Heap.lt_size (N p (.tail _ hp)).1), hoff, h0, Nat.zero_le _, rfl⟩
  rintro k s' ⟨m', news', i, hit, F', N', G', ho', hnI, hD, hJ, hi, rfl⟩
  have hl' : s'.heap.IsList D vs.toArray := News.isList N' (.head _)
  have next : ∀ h₁ : Heap, (∀ b o, b ∉ [s.heap.objs.size] → s'.heap.get? b = some o → h₁.get? b = some o) → Fr h₀ env.locals h₁ m' ∧ News h₀ env.locals h₁ ((D, listOf vs.toArray e) :: news') := fun h₁ hk₁ => by
    refine ⟨⟨F'.ns.at' fun o e => hk₁ _ o (fun q => hIL (List.mem_singleton.mp q).symm) e, fun b o e => hk₁ b o (fun q => by rw [List.mem_singleton.mp q, hnew] at e; cases e) (F'.keep b o e), F'.above⟩, fun p hp => ⟨hk₁ _ _ (fun q => ?_) (N' p hp).1, (N' p hp).2⟩⟩
    rcases List.mem_cons.mp hp with rfl | hp
    · exact hne (List.mem_singleton.mp q)
    · exact hnI p hp (List.mem_singleton.mp q)
  by_cases hlt' : i < vs.length
  · refine W.item i _ _ _ hlt' ⟨hit, hl'⟩ fun v h₁ tk₁ hP hst₁ hk₁ => ?_
    obtain ⟨F₁, N₁⟩ := next h₁ hk₁
    obtain ⟨it, hit', hic, hid⟩ := hst₁.1
    have hv : vs[i]? = some v := by simpa using hP
    have N₂ : News h₀ env.locals h₁ ((s.heap.objs.size, it) :: (D, listOf vs.toArray e) :: news') := fun p hp => by
      rcases List.mem_cons.mp hp with rfl | hp
      · exact ⟨hit', hIL, hnew⟩
      · exact N₁ p hp
    have offI : LCg.Off1 s.heap.objs.size ((D, listOf vs.toArray e) :: news') := ⟨hne, off_of_all hnI⟩
    show wpAny (model prog w) A (letOwnedTupleGo (.Name x px) _ v) _ _ _
    unfold letOwnedTupleGo
    refine wpAny_pure ?_
    refine wpAny_mono (wpAny_passesOwn hE (turn i v m' news' { s' with heap := h₁, toks := tk₁ } s.heap.objs.size it hv hJ F₁ N₂ offI hD G' ho')) (fun _ s₂ h₂ => wpAny_mono (wpAny_passesOwn hE h₂) (fun f s₃ h₃ => ?_) fun _ _ e => e) fun _ _ e => e
    have fin : (∃ m' news', Fr h₀ env.locals s₃.heap m' ∧ News h₀ env.locals s₃.heap ((s.heap.objs.size, it) :: (D, listOf vs.toArray e) :: news') ∧ AllBare s₃.gens ∧ s₃.os = s.os ∧ (∀ p ∈ news', p.1 ≠ s.heap.objs.size) ∧ LCg.Off1 D news' ∧ J (i + 1) m' news') →
        ∃ k', k' < vs.length + 1 - i ∧ ∃ m' news' i, s₃.heap.IsListIter s.heap.objs.size D i ∧ Fr h₀ env.locals s₃.heap m' ∧ News h₀ env.locals s₃.heap ((D, listOf vs.toArray e) :: news') ∧ AllBare s₃.gens ∧ s₃.os = s.os ∧ (∀ p ∈ news', p.1 ≠ s.heap.objs.size) ∧ LCg.Off1 D news' ∧ J i m' news' ∧ i ≤ vs.length ∧ k' = vs.length + 1 - i := by
      rintro ⟨m₂, news₂, F₂, N₂, G₂, o₂, n₂, d₂, J₂⟩
      exact ⟨vs.length + 1 - (i + 1), by omega, m₂, news₂, i + 1, ⟨it, (N₂ _ (.head _)).1, hic, hid⟩, F₂, fun p hp => N₂ p (.tail _ hp), G₂, o₂, n₂, d₂, J₂, hlt', rfl⟩
    cases f with
    | ret v => exact h₃
    | brk => exact h₃
    | next => exact fin h₃
    | cont => exact fin h₃
  · have hin : i = vs.length := by omega
    subst hin
    refine W.done _ _ _ ⟨hit, hl'⟩ fun h₁ tk₁ hk₁ => wpAny_execs_nil ?_
    obtain ⟨F₁, N₁⟩ := next h₁ hk₁
    exact done m' news' { s' with heap := h₁, toks := tk₁ } hJ F₁ N₁ G' ho'
/-- the frame by some of its names -/
theorem fr_sets {h : Heap} {l : List (Str × Value)} (F : Fr h₀ L h m) (hl : ∀ p ∈ l, m p.1 = some p.2) : Fr h₀ L h (fun y => (l.lookup y).or (m y)) := by
  have q : (fun y => (l.lookup y).or (m y)) = m := by
    funext y
    cases e : l.lookup y with
    | none => rfl
    | some v =>
      have : (y, v) ∈ l := by
        clear hl
        induction l with
        | nil => cases e
        | cons p r ih =>
          obtain ⟨z, u⟩ := p
          rw [List.lookup_cons] at e
          cases hb : y == z with
          | true => rw [hb] at e; cases e; rw [eq_of_beq hb]; exact .head _
          | false => rw [hb] at e; exact .tail _ (ih e)
      exact (hl _ this).symm
  rw [q]; exact F
end
local macro_rules | `(tactic| walk_at "subscriptTail Name Name ref int") => `(tactic| (k_here; (with_reducible show wpAny _ _ (subscriptTail _ _ (Value.ref _) (Value.int _ _)) _ _ _); (with_unfolding_all refine' item_refs ?k1 ?k2 ?k3 ?k4 ?_; (case k1 => k_asm); (case k2 => k_mem); (case k3 => assumption); (case k4 => assumption); k_whole)))
local macro_rules | `(tactic| walk_at "setItem ref int") => `(tactic| (k_here; (with_reducible show wpAny _ _ (setItem (Value.ref _) (Value.int _ _) (Value.ref _)) _ _ _); k_dflt (refine' set_refs ?k1 ?k2 ?k3 ?k4 ?k5 ?_; (case k1 => k_asm); (case k2 => k_asm); (case k3 => k_upd); (case k4 => assumption); (case k5 => assumption); k_whole); intro h' F' N'; (try k_sweep)))
/-- the ledger of the law between two deeds -/
abbrev lawLed (L H U : Addr) (X Y : Nat → Addr) (e1 e2 : Nat) (oV oQ : Obj) (ps1 ps2 : Array Value) (M : Led) : Led :=
  (H, listOf (refs3 X).toArray e1) :: (U, listOf (refs3 Y).toArray e2) :: (L + 1 + 1, oV) :: (L + 1, oQ) :: (86, tabObj ps1) :: (93, tabObj ps2) :: M
/-- what stands at the three places -/
structure Rows (w : World) (q n : Int) (r : Addr) (X Y : Nat → Addr) (f : Nat → List Int) (M : Led) : Prop where
  ring : Ring w M r q n
  poly : ∀ i, i < 3 → ∃ l, Poly w M (X i) r l (f i)
  dues : ∀ i, i < 3 → Ints M (Y i) (f i)
  len : ∀ i, i < 3 → ((f i).length : Int) = n
  bnd : ∀ i, i < 3 → ∀ c ∈ f i, 0 ≤ c ∧ c < q
/-- the objects of the law's own are apart from each other and from the rest -/
structure Apart (L H U : Nat) (M : Led) : Prop where
  h : LCg.Off1 H M
  u : LCg.Off1 U M
  v : LCg.Off1 (L + 1 + 1) M
  q : LCg.Off1 (L + 1) M
  z : LCg.Off1 86 M
  c : LCg.Off1 93 M
  l1 : L + 1 + 1 < H
  l2 : H < U
  l3 : 93 < L
/-- what holds between two deeds -/
def LawJ (w : World) (q n : Int) (L r H U : Addr) (m : Str → Option Value) (news : Led) : Prop :=
  ∃ X Y f e1 e2 oV oQ ps1 ps2 M v₀ tq tn, news = lawLed L H U X Y e1 e2 oV oQ ps1 ps2 M ∧ Rows w q n r X Y f M ∧ Apart L H U M ∧ oV.data = .cell v₀ ∧ oQ.data = .cell (some (.int q tq)) ∧
    TabAt ⟨33, 19, 33, 48⟩ ps1 ∧ TabAt ⟨36, 19, 36, 52⟩ ps2 ∧ m (Str.ofString "have") = some (.ref H) ∧ m (Str.ofString "due") = some (.ref U) ∧ m (Str.ofString "ring") = some (.ref r) ∧ m (Str.ofString "n") = some (.int n tn)
theorem lk_elim {K : Frag} {f : Addr} {o o' : Obj} {P : Prop} (h : K.lookup f = some o) (h' : K.lookup f = some o') (k : o = o' → P) : P := k (Option.some.inj (h.symm.trans h'))
/-- the law's own def: its frame's word, its statements, its names -/
noncomputable def LawAt (w : World) (lqual : Str) (body : List Stmt) (scope : Scope) : Prop :=
  ∃ oc od lname params dV kV doc pm an cdv ct osl, (hd.heap_1 w.params).lookup 291 = some ⟨oc, od, .func (fnOf lname lqual params body scope dV kV doc pm an cdv ct), osl⟩
abbrev lawEnv (lqual : Str) (scope : Scope) (L fa : Addr) (cd : Value) : Env := envOfC lqual scope L fa cd
theorem off_cons {d a : Nat} {o : Obj} {r : Led} (h1 : a ≠ d) (h2 : LCg.Off1 d r) : LCg.Off1 d ((a, o) :: r) := ⟨h1, h2⟩
local macro_rules | `(tactic| top_strB) => `(tactic| first | (with_reducible assumption) | (refine off_cons ?bo1 ?bo2; (case bo1 => k_ne); (case bo2 => top_strB)))
def Stop (p : Prop) : Prop := p
theorem stop_elim {p : Prop} (h : Stop p) : p := h
theorem Rows.turn {w : World} {q n : Int} {r x y : Addr} {X Y : Nat → Addr} {f : Nat → List Int} {M M' : Led} {i : Nat} {g : List Int} (R : Rows w q n r X Y f M) (hs : ∀ p ∈ M, p ∈ M') (hx : ∃ l, Poly w M' x r l g) (hy : Ints M' y g) (hl : (g.length : Int) = n) (hb : ∀ c ∈ g, 0 ≤ c ∧ c < q) :
    Rows w q n r (upd X i x) (upd Y i y) (upd f i g) M' where
  ring := R.ring.mono hs
  poly := fun j hj => by
    by_cases e : j = i
    · subst e; rw [upd_same, upd_same]; exact hx
    · rw [upd_ne _ _ e, upd_ne _ _ e]; obtain ⟨l, h⟩ := R.poly j hj; exact ⟨l, h.mono hs⟩
  dues := fun j hj => by
    by_cases e : j = i
    · subst e; rw [upd_same, upd_same]; exact hy
    · rw [upd_ne _ _ e, upd_ne _ _ e]; exact (R.dues j hj).mono hs
  len := fun j hj => by
    by_cases e : j = i
    · subst e; rw [upd_same]; exact hl
    · rw [upd_ne _ _ e]; exact R.len j hj
  bnd := fun j hj => by
    by_cases e : j = i
    · subst e; rw [upd_same]; exact hb
    · rw [upd_ne _ _ e]; exact R.bnd j hj
theorem Rows.mono {w : World} {q n : Int} {r : Addr} {X Y : Nat → Addr} {f : Nat → List Int} {M M' : Led} (R : Rows w q n r X Y f M) (hs : ∀ p ∈ M, p ∈ M') : Rows w q n r X Y f M' :=
  ⟨R.ring.mono hs, fun j hj => (R.poly j hj).imp fun _ h => h.mono hs, fun j hj => (R.dues j hj).mono hs, R.len, R.bnd⟩
local macro_rules | `(tactic| walk_at "execs cons") => `(tactic| ((with_reducible show wpAny _ _ (execs [Stmt.If (Expr.Compare (Expr.Attribute _ _ _) _ _ _) _ _ _, Stmt.For _ _ _ _ _] _) _ _ _); refine stop_elim ?_))
section
variable {prog : Program} {w : World} {A : Around} {E : Value → Shared → Prop} {s : Shared} {a b : Int} {t u : Tok} {Q : Value → Shared → Prop}
theorem eq_int_ff (e : a ≠ b) (h : Q (.bool false) s) : wpAny (model prog w) A (compareOp .Eq (.int a t) (.int b u)) Q E s := by
  refine PyProof.Rows.eq_int ?_
  rw [beq_false_of_ne e]; exact h
theorem eq_int_tt (e : a = b) (h : Q (.bool true) s) : wpAny (model prog w) A (compareOp .Eq (.int a t) (.int b u)) Q E s := by
  refine PyProof.Rows.eq_int ?_
  rw [e, beq_self_eq_true]; exact h
theorem lt_int_tt (e : a < b) (h : Q (.bool true) s) : wpAny (model prog w) A (compareOp .Lt (.int a t) (.int b u)) Q E s := by
  refine PyProof.Rows.lt_int ?_
  rw [decide_eq_true e]; exact h
theorem lt_int_ff (e : ¬ a < b) (h : Q (.bool false) s) : wpAny (model prog w) A (compareOp .Lt (.int a t) (.int b u)) Q E s := by
  refine PyProof.Rows.lt_int ?_
  rw [decide_eq_false e]; exact h
end
theorem CtrT.use {w : World} {d : Nat} {f : Addr} {args : List Value} {N : Led} {Post : Value → Led → Prop} (C : CtrT w d f args N Post)
  {p : Program} {loose : List Str} {mean : ExcName → Option Value} {mg mb : Str → Option Value} {dp un : Nat} {gd : Option (List Code)} {cn : Str} {cs : Scope} {a : Addr} {ccd : Value} {cl : List (Str × Addr)} {A₀ : Around} {h₀ : Heap} {L : Addr} {m : Str → Option Value} {s : Shared} {R : Result → Shared → Prop}
  (B : Below A₀ h₀ [] h₀) (F : Fr h₀ L s.heap m) (X : (hd.heap_1 w.params).In h₀) (N₀ : News h₀ L s.heap N) (T : Top p loose mean mg mb h₀) (hk : cs.kind = .function) (hdp : dp + d < 1000) (hun : un + 20 * d < 9900)
  (h : ∀ v h' tk' N', Fr h₀ L h' m → News h₀ L h' N' → Post v N' → R (.ok (.ret v)) { s with heap := h', toks := tk' }) :
   codeAny (model PySem.Challenge.rw_bn0014_01.row.toRowW.prog w) (ktrTop dp un gd cn cs L a ccd cl []) (.call (.ref f) ⟨args, []⟩) R s :=
  C _ _ _ _ _ _ _ _ _ _ _ _ _ _ _ _ _ _ _ B F X N₀ T hk hdp hun h
theorem ne_int_eq {prog : Program} {w : World} {A : Around} {E : Value → Shared → Prop} {s : Shared} {a b : Int} {t u : Tok} {Q : Value → Shared → Prop} (e : a = b) (h : Q (.bool false) s) : wpAny (model prog w) A (compareOp .NotEq (.int a t) (.int b u)) Q E s := by
  subst e
  refine PyProof.Rows.ne_int ?_
  rw [bne_self_eq_false]; exact h
section
variable {prog : Program} {w : World} {A : Around} {E : Value → Shared → Prop} {s : Shared} {v q k n : Int} {t u : Tok} {Q : Value → Shared → Prop}
theorem pow_q (hq : 2 ≤ q) (hq2 : q < 2 ^ 33) (h0 : 0 ≤ k) (h1 : k < 0 + (((n - 0).toNat : Nat) : Int)) (hn : n ≤ 4) (h : Q (.int (q ^ k.toNat) s.toks) { s with toks := s.toks + 1 }) :
    wpAny (model prog w) A (binaryOp .Pow (.int q t) (.int k u)) Q E s := pow_int_small h0 (by omega) (by omega) h
theorem pow_pos_q (hq : 2 ≤ q) (j : Nat) : 0 < q ^ j := Int.pow_pos (by omega)
theorem pow_log {j : Nat} (hq : 2 ≤ q) (hq2 : q < 2 ^ 33) (hj : j ≤ 4) : (q ^ j).natAbs.log2 < 132 := by
  have h1 : (q ^ j).natAbs = q.natAbs ^ j := Int.natAbs_pow q j
  have h2 : q.natAbs < 2 ^ 33 := by omega
  have h3 : q.natAbs ^ j ≤ q.natAbs ^ 4 := Nat.pow_le_pow_right (by omega) hj
  have h4 : q.natAbs ^ 4 < (2 ^ 33) ^ 4 := Nat.pow_lt_pow_left h2 (by decide)
  have h5 : (q ^ j).natAbs ≠ 0 := by have := pow_pos_q hq j; omega
  rw [Nat.log2_lt h5, h1]
  exact Nat.lt_of_le_of_lt h3 (Nat.lt_of_lt_of_eq h4 (by decide))
theorem div_q (hq : 2 ≤ q) (hq2 : q < 2 ^ 33) (h1 : k < 0 + (((n - 0).toNat : Nat) : Int)) (hn : n ≤ 4) (h : Q (.int (Int.fdiv v (q ^ k.toNat)) s.toks) { s with toks := s.toks + 1 }) :
    wpAny (model prog w) A (binaryOp .FloorDiv (.int v t) (.int (q ^ k.toNat) u)) Q E s := by
  refine' lite ?lw ?lx ?le
  case lw =>
    have hj : k.toNat ≤ 4 := by omega
    have hp := pow_pos_q hq k.toNat
    refine PyProof.Rows.floordiv_int (by omega) h (Or.inl (PyProof.noPylong_of_log2 ?_))
    have := pow_log hq hq2 hj
    omega
  case lx => intro hk; simpa only using hk (0 : Nat)
  case le => eq_refl
end
end
end
section
local macro_rules | `(tactic| k_mem) => `(tactic| ((fail_if_success (with_reducible refine' List.Mem.tail _ ?_)); first | with_reducible assumption | assumption | (refine sub_mem (by assumption) ?_; k_mem)))
local macro_rules | `(tactic| news_mem) => `(tactic| k_mem)
local macro_rules | `(tactic| k_room) => `(tactic| ((simp only [depth_under_make, depth_under_kw, depth_in1, depth_deeper, depth_caller, recursionLimit] at *); omega))
local macro_rules | `(tactic| k_units) => `(tactic| ((have hcL9 := cLine_is); (simp only [units_in1, units_deeper, Around.mark_units, units_caller, cLine] at *); omega))
local macro_rules | `(tactic| allgen_close2_more) => `(tactic| assumption)
local macro_rules | `(tactic| ktr_rel) => `(tactic| ((try simp only [List.length_append, List.length_cons, List.length_nil, List.length_map, List.length_set, List.length_zipWith, rangeKs_length]); first | assumption | omega))
local macro_rules | `(tactic| top_reprB) => `(tactic| first | exact List.forall_mem_nil _ | (refine List.forall_mem_cons.mpr ⟨by k_mem, ?_⟩; top_reprB) | (intro p hp; k_mem))
local macro_rules | `(tactic| k_ne) => `(tactic| (refine neN ?_; (try dsimp only); first | (with_reducible assumption) | exact Ne.symm (by with_reducible assumption) | exact off_ne (by with_reducible assumption) (by k_mem) | exact Ne.symm (off_ne (by with_reducible assumption) (by k_mem)) | omega))
local macro_rules | `(tactic| top_strB) => `(tactic| first | (first | assumption | exact allLt_of (by assumption) | exact And.right (by assumption) | exact And.right (And.right (by assumption)) | exact And.right (And.right (And.right (by assumption))) | exact And.right (And.right (And.right (And.right (by assumption)))) | exact And.right (And.right (And.right (And.right (And.right (by assumption))))) | exact And.right (And.right (And.right (And.right (And.right (And.right (by assumption)))))) | exact And.right (And.right (And.right (And.right (And.right (And.right (And.right (by assumption))))))) | exact And.right (And.right (And.right (And.right (And.right (And.right (And.right (And.right (by assumption)))))))) | exact And.right (And.right (And.right (And.right (And.right (And.right (And.right (And.right (And.right (by assumption))))))))) | exact And.right (And.right (And.right (And.right (And.right (And.right (And.right (And.right (And.right (And.right (by assumption)))))))))) | exact And.right (And.right (And.right (And.right (And.right (And.right (And.right (And.right (And.right (And.right (And.right (by assumption))))))))))) | exact And.right (And.right (And.right (And.right (And.right (And.right (And.right (And.right (And.right (And.right (And.right (And.right (by assumption)))))))))))) | exact And.right (And.right (And.right (And.right (And.right (And.right (And.right (And.right (And.right (And.right (And.right (And.right (And.right (by assumption))))))))))))) | exact And.right (And.right (And.right (And.right (And.right (And.right (And.right (And.right (And.right (And.right (And.right (And.right (And.right (And.right (by assumption)))))))))))))) | exact And.right (And.right (And.right (And.right (And.right (And.right (And.right (And.right (And.right (And.right (And.right (And.right (And.right (And.right (And.right (by assumption))))))))))))))) | exact And.right (And.right (And.right (And.right (And.right (And.right (And.right (And.right (And.right (And.right (And.right (And.right (And.right (And.right (And.right (And.right (by assumption)))))))))))))))) | exact And.right (And.right (And.right (And.right (And.right (And.right (And.right (And.right (And.right (And.right (And.right (And.right (And.right (And.right (And.right (And.right (And.right (by assumption))))))))))))))))) | exact And.right (And.right (And.right (And.right (And.right (And.right (And.right (And.right (And.right (And.right (And.right (And.right (And.right (And.right (And.right (And.right (And.right (And.right (by assumption)))))))))))))))))) | exact And.right (And.right (And.right (And.right (And.right (And.right (And.right (And.right (And.right (And.right (And.right (And.right (And.right (And.right (And.right (And.right (And.right (And.right (And.right (by assumption)))))))))))))))))))) | exact off_sub (by with_reducible assumption) (by top_reprB) | exact off_of_lt (by (first | assumption | exact allLt_of (by assumption) | exact And.right (by assumption) | exact And.right (And.right (by assumption)) | exact And.right (And.right (And.right (by assumption))) | exact And.right (And.right (And.right (And.right (by assumption)))) | exact And.right (And.right (And.right (And.right (And.right (by assumption))))) | exact And.right (And.right (And.right (And.right (And.right (And.right (by assumption)))))) | exact And.right (And.right (And.right (And.right (And.right (And.right (And.right (by assumption))))))) | exact And.right (And.right (And.right (And.right (And.right (And.right (And.right (And.right (by assumption)))))))) | exact And.right (And.right (And.right (And.right (And.right (And.right (And.right (And.right (And.right (by assumption))))))))) | exact And.right (And.right (And.right (And.right (And.right (And.right (And.right (And.right (And.right (And.right (by assumption)))))))))) | exact And.right (And.right (And.right (And.right (And.right (And.right (And.right (And.right (And.right (And.right (And.right (by assumption))))))))))) | exact And.right (And.right (And.right (And.right (And.right (And.right (And.right (And.right (And.right (And.right (And.right (And.right (by assumption)))))))))))) | exact And.right (And.right (And.right (And.right (And.right (And.right (And.right (And.right (And.right (And.right (And.right (And.right (And.right (by assumption))))))))))))) | exact And.right (And.right (And.right (And.right (And.right (And.right (And.right (And.right (And.right (And.right (And.right (And.right (And.right (And.right (by assumption)))))))))))))) | exact And.right (And.right (And.right (And.right (And.right (And.right (And.right (And.right (And.right (And.right (And.right (And.right (And.right (And.right (And.right (by assumption))))))))))))))) | exact And.right (And.right (And.right (And.right (And.right (And.right (And.right (And.right (And.right (And.right (And.right (And.right (And.right (And.right (And.right (And.right (by assumption)))))))))))))))) | exact And.right (And.right (And.right (And.right (And.right (And.right (And.right (And.right (And.right (And.right (And.right (And.right (And.right (And.right (And.right (And.right (And.right (by assumption))))))))))))))))) | exact And.right (And.right (And.right (And.right (And.right (And.right (And.right (And.right (And.right (And.right (And.right (And.right (And.right (And.right (And.right (And.right (And.right (And.right (by assumption)))))))))))))))))) | exact And.right (And.right (And.right (And.right (And.right (And.right (And.right (And.right (And.right (And.right (And.right (And.right (And.right (And.right (And.right (And.right (And.right (And.right (And.right (by assumption))))))))))))))))))))) | exact off_of_lt2 (by (first | assumption | exact allLt_of (by assumption) | exact And.right (by assumption) | exact And.right (And.right (by assumption)) | exact And.right (And.right (And.right (by assumption))) | exact And.right (And.right (And.right (And.right (by assumption)))) | exact And.right (And.right (And.right (And.right (And.right (by assumption))))) | exact And.right (And.right (And.right (And.right (And.right (And.right (by assumption)))))) | exact And.right (And.right (And.right (And.right (And.right (And.right (And.right (by assumption))))))) | exact And.right (And.right (And.right (And.right (And.right (And.right (And.right (And.right (by assumption)))))))) | exact And.right (And.right (And.right (And.right (And.right (And.right (And.right (And.right (And.right (by assumption))))))))) | exact And.right (And.right (And.right (And.right (And.right (And.right (And.right (And.right (And.right (And.right (by assumption)))))))))) | exact And.right (And.right (And.right (And.right (And.right (And.right (And.right (And.right (And.right (And.right (And.right (by assumption))))))))))) | exact And.right (And.right (And.right (And.right (And.right (And.right (And.right (And.right (And.right (And.right (And.right (And.right (by assumption)))))))))))) | exact And.right (And.right (And.right (And.right (And.right (And.right (And.right (And.right (And.right (And.right (And.right (And.right (And.right (by assumption))))))))))))) | exact And.right (And.right (And.right (And.right (And.right (And.right (And.right (And.right (And.right (And.right (And.right (And.right (And.right (And.right (by assumption)))))))))))))) | exact And.right (And.right (And.right (And.right (And.right (And.right (And.right (And.right (And.right (And.right (And.right (And.right (And.right (And.right (And.right (by assumption))))))))))))))) | exact And.right (And.right (And.right (And.right (And.right (And.right (And.right (And.right (And.right (And.right (And.right (And.right (And.right (And.right (And.right (And.right (by assumption)))))))))))))))) | exact And.right (And.right (And.right (And.right (And.right (And.right (And.right (And.right (And.right (And.right (And.right (And.right (And.right (And.right (And.right (And.right (And.right (by assumption))))))))))))))))) | exact And.right (And.right (And.right (And.right (And.right (And.right (And.right (And.right (And.right (And.right (And.right (And.right (And.right (And.right (And.right (And.right (And.right (And.right (by assumption)))))))))))))))))) | exact And.right (And.right (And.right (And.right (And.right (And.right (And.right (And.right (And.right (And.right (And.right (And.right (And.right (And.right (And.right (And.right (And.right (And.right (And.right (by assumption))))))))))))))))))))) (by omega) | exact off_of_base (by assumption) (by omega))
local macro_rules | `(tactic| k_all) => `(tactic| (refine off_all ?_; top_strB))
local macro_rules | `(tactic| walk_at "getMethod ref") => `(tactic| (k_here; k_dflt (refine' kmu_own ?k1 ?k2 ?k3 ?k4 ?k5 ?_; (case k1 => k_asm); (case k2 => k_asm); (case k3 => k_inst); (case k4 => k_is); (case k5 => k_is); k_whole)))
local macro_rules | `(tactic| walk_at "binaryOp Mult int int") => `(tactic| (k_here; with_reducible first | refine PyProof.Rows.mul_int ?_ (mulok_getD (by assumption) (by assumption) (by assumption)) | refine PyProof.Rows.mul_int ?_ (mulok_mem (by assumption) (by assumption) (by assumption))))
local macro_rules | `(tactic| top_name) => `(tactic| (law_purse 40000 => (law_clear; (repeat (with_reducible rename (@Ne Nat _ _) ∧ _ => hne9; clear hne9)); (repeat (with_reducible rename (@LT.lt Nat _ _ _) ∧ _ => hne9; clear hne9)); (repeat (with_reducible rename (@Ne Nat _ _) => hne9; clear hne9)); (try simp only [List.length_append, List.length_cons, List.length_nil, List.length_map, List.length_take, List.length_set, List.length_zipWith, rangeKs_length]); omega)))
local macro_rules | `(tactic| walk_at "subscriptTail Name Name ref int") => `(tactic| ((k_here; (with_reducible show wpAny _ _ (subscriptTail _ _ (Value.ref _) (Value.int _ _)) _ _ _); (with_unfolding_all refine' item_list_ints ?k1 ?k2 ?k3 ?k4 ?k5 ?_; (case k1 => exact News.isList (by k_asm) (by k_mem)); (case k2 => l_ints); (case k3 => first | assumption | top_name); (case k4 => first | assumption | exact idx_hi (by assumption) (by first | assumption | exact Nat.le_refl _) | top_name); (case k5 => first | assumption | exact idx_fit (by assumption) (by assumption) | top_name); k_whole); intro _)))
local macro_rules | `(tactic| walk_at "subscriptTail Name BinOp ref int") => `(tactic| ((k_here; (with_reducible show wpAny _ _ (subscriptTail _ _ (Value.ref _) (Value.int _ _)) _ _ _); (with_unfolding_all refine' item_list_ints ?k1 ?k2 ?k3 ?k4 ?k5 ?_; (case k1 => exact News.isList (by k_asm) (by k_mem)); (case k2 => l_ints); (case k3 => first | assumption | top_name); (case k4 => first | assumption | exact idx_hi (by assumption) (by first | assumption | exact Nat.le_refl _) | top_name); (case k5 => first | assumption | exact idx_fit (by assumption) (by assumption) | top_name); k_whole); intro _)))
local macro_rules | `(tactic| walk_at "call builtin:list.copy") => `(tactic| (k_here; (with_reducible show wpAny _ _ (call (Value.builtin _) [Value.ref _]) _ _ _); k_dflt (refine' copyK ?k1 ?k2 ?k3 ?k4 ?_; (case k1 => k_asm); (case k2 => k_asm); (case k3 => exact News.isList (by k_asm) (by k_mem)); (case k4 => exact ints_size (by l_ints) (by top_name)); k_whole); intro D' h' F' N' l1; (try k_lt l1); (try k_sweep)))
local macro_rules | `(tactic| walk_at "setItem ref int") => `(tactic| (k_here; (with_reducible show wpAny _ _ (setItem (Value.ref _) (Value.int _ _) (Value.int _ _)) _ _ _); k_dflt (refine' ksa_set ?k1 ?k2 ?k3 ?k4 ?k5 ?k6 ?k7 ?_; (case k1 => k_asm); (case k2 => k_asm); (case k3 => k_upd); (case k4 => l_ints); (case k5 => first | assumption | top_name); (case k6 => first | assumption | top_name); (case k7 => first | assumption | top_name); k_whole); intro h' F' N' hi' hl' hs'; clear hs'; (try k_sweep)))
local macro_rules | `(tactic| walk_at "callWith ref") => `(tactic| (k_here; kco_here; k_dflt (refine' kco_callWith ?k1 ?k2 ?k3 ?k4 ?_; (case k1 => k_in); (case k2 => k_inst); (case k3 => rfl); (case k4 => k_is); k_whole)))
local macro_rules | `(tactic| allgen_close_more) => `(tactic| first | k_asm | (refine' cb_drop ?cbN ?cbS; (case cbN => assumption); (case cbS => top_reprB)))
local macro_rules | `(tactic| walk_at "exec For Name Call cons nil") => `(tactic| (k_here; k_dflt (refine For_turns (by k_asm) ?_ (by intro _; with_unfolding_all rfl) (by passes_own)); (try k_fold)))
local macro_rules | `(tactic| walk_at "getItem ref int") => `(tactic| (k_here; (with_reducible show wpAny _ _ (getItem (Value.ref _) (Value.int _ _)) _ _ _); k_dflt (refine' ksa_get ?k1 ?k2 ?k3 ?k4 ?k5 ?k6 ?_; (case k1 => k_asm); (case k2 => k_mem); (case k3 => l_ints); (case k4 => first | assumption | top_name); (case k5 => first | assumption | top_name); (case k6 => first | assumption | top_name); k_whole); intro _))
local macro_rules | `(tactic| walk_at "CompSrc") => `(tactic| (k_here; k_dflt (refine' LCg.CompSrc.ledger ?s1 ?s2 ?s3 ?s4 ?s5 ?_; (case s1 => rfl); (case s2 => k_asm); (case s3 => k_asm); (case s4 => k_mem); (case s5 => exact ints_sizeA (by l_ints) (by first | assumption | top_name)); intro g'; (refine' kcf_list _ (by l_ints) (fun k' t' I' oI' C' oC' D' m' ys' h' tk' E' hk' hC' hx' F' N' off' ne' hMark' => ?_) ?_); (all_goals (try (simp only [LCg.Off3, and_true] at off'))); kcf_last)))
local macro_rules | `(tactic| allgen_close2_more) => `(tactic| first | assumption | exact school_bnd (by assumption) _ _ | exact one_bnd (by assumption) | exact times_bnd (by assumption) _ _ | exact map_bnd (by assumption) _ _ | exact zip_bnd (by assumption) _ _ _ | exact set_bnd (by assumption) (by allgen_close2_more))
local macro_rules | `(tactic| ktr_rel) => `(tactic| ((simp only [List.length_append, List.length_cons, List.length_nil, List.length_map, List.length_set, List.length_zipWith, rangeKs_length, schoolS_length, timesS_length]); omega))
local macro_rules | `(tactic| walk_at "call builtin:all") => `(tactic| (k_here; (with_reducible rename GenOnD _ _ _ _ _ _ _ _ _ => gxX'); k_dflt (refine' all_gx ?k1 ?k2 ?k3 gxX' ?k4 ?k5 ?_; (case k1 => k_asm); (case k2 => k_asm); (case k3 => k_asm); (case k4 => k_asm); (case k5 => k_asm); k_whole); clear gxX'; intro s' F' N' G' hos'))
local macro_rules | `(tactic| walk_at "binaryOp Add int ref") => `(tactic| (k_here; (with_reducible show wpAny _ _ (binaryOp Operator.Add (Value.int _ _) (Value.ref _)) _ _ _); k_dflt (refine' rbin_add ?F ?X ?I ?hC ?hS ?hR ?hF ?h1 ?h2 ?hU ?_; (case F => k_asm); (case X => k_asm); (case I => k_inst); (case hC => k_is); (case hS => k_is); (case hR => k_is); (case hF => k_is); (case h1 => k_is); (case h2 => k_is); (case hU => k_is); k_whole)))
local macro_rules | `(tactic| walk_at "binaryOp Sub int ref") => `(tactic| (k_here; (with_reducible show wpAny _ _ (binaryOp Operator.Sub (Value.int _ _) (Value.ref _)) _ _ _); k_dflt (refine' rbin_sub ?F ?X ?I ?hC ?hS ?hR ?hF ?h1 ?h2 ?hU ?_; (case F => k_asm); (case X => k_asm); (case I => k_inst); (case hC => k_is); (case hS => k_is); (case hR => k_is); (case hF => k_is); (case h1 => k_is); (case h2 => k_is); (case hU => k_is); k_whole)))
local macro_rules | `(tactic| walk_at "binaryOp Mult int ref") => `(tactic| (k_here; (with_reducible show wpAny _ _ (binaryOp Operator.Mult (Value.int _ _) (Value.ref _)) _ _ _); k_dflt (refine' rbin_mul ?F ?X ?I ?hC ?hS ?hR ?hF ?h1 ?h2 ?hU ?_; (case F => k_asm); (case X => k_asm); (case I => k_inst); (case hC => k_is); (case hS => k_is); (case hR => k_is); (case hF => k_is); (case h1 => k_is); (case h2 => k_is); (case hU => k_is); k_whole)))
local macro_rules | `(tactic| walk_at "binaryOp Mult int int") => `(tactic| (k_here; with_reducible refine PyProof.Rows.mul_int ?_ (mulok_mem_r (by assumption) (by assumption) (by assumption))))
local macro_rules | `(tactic| walk_at "binaryOp Sub ref") => `(tactic| (k_here; (with_reducible show wpAny _ _ (binaryOp Operator.Sub (Value.ref _) (Value.ref _)) _ _ _); k_dflt (refine' ksp_binL ?F ?X ?N ?I ?hl ?hC ?hS ?hF ?hR ?hP ?h1 ?h2 ?hU ?_; (case F => k_asm); (case X => k_asm); (case N => k_asm); (case I => k_inst); (case hl => k_mem); (case hS => k_is); (case hF => k_is); (case hC => k_is); (case hR => k_is); (case hP => first | exact .inl rfl | exact .inr ⟨_, rfl⟩); (case h1 => k_is); (case h2 => k_is); (case hU => k_is); k_whole)))
local macro_rules | `(tactic| walk_at "leaving ref") => `(tactic| (k_here; (with_reducible rename KtsDicts _ _ => kdX); (with_reducible show wpAny _ _ (leaving (envOfC _ _ _ _ _) _) _ _ _); first
  | (refine' leave_raiseX ?k1 ?k0 ?k2 ?k3 ?e1 ?e2 ?_; (case k0 => first | assumption | exact Heap.MadeExc.of (by assumption)); (case k2 => assumption); (case k1 => assumption); (case k3 => k_asm); (case e1 => exact rfl); (case e2 => exact rfl); k_whole; intro h' t' S' R' U'; (try dsimp only at S' R' U' ⊢))
  | (refine' leave_onX ?k1 ?k2 ?k3 ?k4 ?e1 ?_; (case k3 => assumption); (case k2 => assumption); (case k1 => assumption); (case k4 => assumption); (case e1 => exact rfl); k_whole; intro h' S' R' U'; (try dsimp only at S' R' U' ⊢))
  | (refine' leave_newX ?k1 ?k0 ?k2 ?k3 ?e1 ?e2 ?_; (case k0 => assumption); (case k2 => assumption); (case k1 => assumption); (case k3 => k_asm); (case e1 => exact rfl); (case e2 => exact rfl); k_whole; intro h' S' R' U'; (try dsimp only at S' R' U' ⊢))
  | (refine' leave_onNX ?k1 ?k2 ?k3 ?k4 ?e1 ?_; (case k3 => assumption); (case k2 => assumption); (case k1 => assumption); (case k4 => assumption); (case e1 => exact rfl); k_whole; intro h' S' R' U'; (try dsimp only at S' R' U' ⊢))))
local macro_rules | `(tactic| walk_at "exec Raise some none") => `(tactic| (k_here; (with_reducible show wpAny _ _ (exec (Stmt.Raise (some (Expr.Call (Expr.Name _ _) (_ :: _) [] _)) none _) _) _ _ _); refine Raise_new rfl ?_))
local macro_rules | `(tactic| walk_at "InitBack") => `(tactic| (dsimp only [InitBack]))
local macro_rules | `(tactic| walk_at "subscriptTail Name Name ref int") => `(tactic| (k_here; (with_reducible show wpAny _ _ (subscriptTail _ _ (Value.ref _) (Value.int _ _)) _ _ _); (with_unfolding_all refine' item_refs ?k1 ?k2 ?k3 ?k4 ?_; (case k1 => k_asm); (case k2 => k_mem); (case k3 => assumption); (case k4 => assumption); k_whole)))
local macro_rules | `(tactic| walk_at "setItem ref int") => `(tactic| (k_here; (with_reducible show wpAny _ _ (setItem (Value.ref _) (Value.int _ _) (Value.ref _)) _ _ _); k_dflt (refine' set_refs ?k1 ?k2 ?k3 ?k4 ?k5 ?_; (case k1 => k_asm); (case k2 => k_asm); (case k3 => k_upd); (case k4 => assumption); (case k5 => assumption); k_whole); intro h' F' N'; (try k_sweep)))
local macro_rules | `(tactic| top_strB) => `(tactic| first | (with_reducible assumption) | (refine off_cons ?bo1 ?bo2; (case bo1 => k_ne); (case bo2 => top_strB)))
local macro_rules | `(tactic| walk_at "execs cons") => `(tactic| ((with_reducible show wpAny _ _ (execs [Stmt.If (Expr.Compare (Expr.Attribute _ _ _) _ _ _) _ _ _, Stmt.For _ _ _ _ _] _) _ _ _); refine stop_elim ?_))
section
local macro_rules | `(tactic| walk_at "execs cons Assign cons") => `(tactic| ((with_reducible show wpAny _ _ (execs [Stmt.Assign [_] (Expr.Call _ [_, _] _ _) _, Stmt.Assign _ _ _, Stmt.Assign _ _ _, Stmt.For _ _ _ _ _, Stmt.Return _ _] _) _ _ _); refine stop_elim ?_))
theorem qb (x : Int) : 2 ≤ 2 + Int.fmod x 4294967296 ∧ 2 + Int.fmod x 4294967296 < 2 ^ 33 := by
  have h1 := fmod_lo x (n := 4294967296) (by decide)
  have h2 := fmod_hi x (n := 4294967296) (by decide)
  omega
theorem nb (x : Int) : 1 ≤ 1 + Int.fmod x 4 ∧ 1 + Int.fmod x 4 ≤ 4 := by
  have h1 := fmod_lo x (n := 4) (by decide)
  have h2 := fmod_hi x (n := 4) (by decide)
  omega
theorem pf_a {w : World} {h₀ : Heap} {L fa : Addr} {cd : Value} {p : Program} {loose : List Str} {mean : ExcName → Option Value} {mg mb : Str → Option Value} {m : Str → Option Value} {s : Shared}
    {lqual : Str} {body tb : List Stmt} {scope : Scope} {a0 a1 a2 a3 a4 a6 t0 t1 t2 t3 t4 : Stmt} {iter : Expr} {nx : Str} {px fp : Pos}
    {D : Addr} {vs : List Value} {ns : List Int} {oV oQ : Obj} {M : Led} {v₀ : Option Value} {Q : Flow → Shared → Prop}
    (hK : LawAt w lqual body scope) (hb : body = [a0, a1, a2, a3, a4, .For (.Name nx px) iter tb [] fp, a6]) (ht : tb = [t0, t1, t2, t3, t4])
    (B : Below callerA h₀ [] h₀) (X₀ : (hd.heap_1 w.params).In h₀) (T : Top p loose mean mg mb h₀)
    (F : Fr h₀ L s.heap m) (N : News h₀ L s.heap ((L + 1 + 1, oV) :: (L + 1, oQ) :: M)) (oM1 : LCg.Off1 (L + 1) M) (oM2 : LCg.Off1 (L + 1 + 1) M)
    (hV : oV.data = .cell v₀) (hQ : oQ.data = .cell none) (hL : h₀.IsList D vs.toArray) (hI : IntsAre vs ns) (hn : ns.length ≤ 63)
    (hm1 : m (Str.ofString "script") = some (.ref D))
    (next : ∀ s' m' q n oQ' tq tn, 2 ≤ q → q < 2 ^ 33 → 1 ≤ n → n ≤ 4 → Fr h₀ L s'.heap m' → News h₀ L s'.heap ((L + 1 + 1, oV) :: (L + 1, oQ') :: M) → s'.gens = s.gens → s'.os = s.os → oQ'.data = .cell (some (.int q tq)) →
      m' (Str.ofString "script") = some (.ref D) → m' (Str.ofString "n") = some (.int n tn) →
      wpAny (model PySem.Challenge.rw_bn0014_01.row.toRowW.prog w) (callerA.deeper (lawEnv lqual scope L fa cd)) (execs [a2, a3, a4, .For (.Name nx px) iter tb [] fp, a6] (lawEnv lqual scope L fa cd)) Q (fun _ _ => False) s') :
    wpAny (model PySem.Challenge.rw_bn0014_01.row.toRowW.prog w) (callerA.deeper (lawEnv lqual scope L fa cd)) (execs body (lawEnv lqual scope L fa cd)) Q (fun _ _ => False) s := by
  refine' lite ?lw ?lx ?le
  case lw =>
    have hKK := hK
    obtain ⟨oc, od, lname, params, dV, kV, doc, pm, an, cdv, ct, osl, hK⟩ := hK
    revert hK X₀
    k_fill
    intro X₀ hK
    refine' lk_elim hK ?hz ?_
    case hz => k_dflt k_is
    intro hE
    cases hE
    cases hb
    cases ht
    clear hK
    replace F := fr_sets (l := [(Str.ofString "script", .ref D)]) F (by simp [hm1])
    (try k_fold)
    k_steps
    · exact next _ _ _ _ _ _ _ (qb _).1 (qb _).2 (nb _).1 (nb _).2 (by k_asm) (by k_asm) rfl rfl (by k_asm) rfl rfl
    · exact next _ _ _ 4 _ _ _ (qb _).1 (qb _).2 (by decide) (by decide) (by k_asm) (by k_asm) rfl rfl (by k_asm) rfl rfl
    · exact next _ _ 17 4 _ _ _ (by decide) (by decide) (by decide) (by decide) (by k_asm) (by k_asm) rfl rfl (by k_asm) rfl rfl
  case lx => intro hk; simpa only using hk (0 : Nat)
  case le => eq_refl
end
end
section
local macro_rules | `(tactic| k_mem) => `(tactic| ((fail_if_success (with_reducible refine' List.Mem.tail _ ?_)); first | with_reducible assumption | assumption | (refine sub_mem (by assumption) ?_; k_mem)))
local macro_rules | `(tactic| news_mem) => `(tactic| k_mem)
local macro_rules | `(tactic| k_room) => `(tactic| ((simp only [depth_under_make, depth_under_kw, depth_in1, depth_deeper, depth_caller, recursionLimit] at *); omega))
local macro_rules | `(tactic| k_units) => `(tactic| ((have hcL9 := cLine_is); (simp only [units_in1, units_deeper, Around.mark_units, units_caller, cLine] at *); omega))
local macro_rules | `(tactic| allgen_close2_more) => `(tactic| assumption)
local macro_rules | `(tactic| ktr_rel) => `(tactic| ((try simp only [List.length_append, List.length_cons, List.length_nil, List.length_map, List.length_set, List.length_zipWith, rangeKs_length]); first | assumption | omega))
local macro_rules | `(tactic| top_reprB) => `(tactic| first | exact List.forall_mem_nil _ | (refine List.forall_mem_cons.mpr ⟨by k_mem, ?_⟩; top_reprB) | (intro p hp; k_mem))
local macro_rules | `(tactic| k_ne) => `(tactic| (refine neN ?_; (try dsimp only); first | (with_reducible assumption) | exact Ne.symm (by with_reducible assumption) | exact off_ne (by with_reducible assumption) (by k_mem) | exact Ne.symm (off_ne (by with_reducible assumption) (by k_mem)) | omega))
local macro_rules | `(tactic| top_strB) => `(tactic| first | (first | assumption | exact allLt_of (by assumption) | exact And.right (by assumption) | exact And.right (And.right (by assumption)) | exact And.right (And.right (And.right (by assumption))) | exact And.right (And.right (And.right (And.right (by assumption)))) | exact And.right (And.right (And.right (And.right (And.right (by assumption))))) | exact And.right (And.right (And.right (And.right (And.right (And.right (by assumption)))))) | exact And.right (And.right (And.right (And.right (And.right (And.right (And.right (by assumption))))))) | exact And.right (And.right (And.right (And.right (And.right (And.right (And.right (And.right (by assumption)))))))) | exact And.right (And.right (And.right (And.right (And.right (And.right (And.right (And.right (And.right (by assumption))))))))) | exact And.right (And.right (And.right (And.right (And.right (And.right (And.right (And.right (And.right (And.right (by assumption)))))))))) | exact And.right (And.right (And.right (And.right (And.right (And.right (And.right (And.right (And.right (And.right (And.right (by assumption))))))))))) | exact And.right (And.right (And.right (And.right (And.right (And.right (And.right (And.right (And.right (And.right (And.right (And.right (by assumption)))))))))))) | exact And.right (And.right (And.right (And.right (And.right (And.right (And.right (And.right (And.right (And.right (And.right (And.right (And.right (by assumption))))))))))))) | exact And.right (And.right (And.right (And.right (And.right (And.right (And.right (And.right (And.right (And.right (And.right (And.right (And.right (And.right (by assumption)))))))))))))) | exact And.right (And.right (And.right (And.right (And.right (And.right (And.right (And.right (And.right (And.right (And.right (And.right (And.right (And.right (And.right (by assumption))))))))))))))) | exact And.right (And.right (And.right (And.right (And.right (And.right (And.right (And.right (And.right (And.right (And.right (And.right (And.right (And.right (And.right (And.right (by assumption)))))))))))))))) | exact And.right (And.right (And.right (And.right (And.right (And.right (And.right (And.right (And.right (And.right (And.right (And.right (And.right (And.right (And.right (And.right (And.right (by assumption))))))))))))))))) | exact And.right (And.right (And.right (And.right (And.right (And.right (And.right (And.right (And.right (And.right (And.right (And.right (And.right (And.right (And.right (And.right (And.right (And.right (by assumption)))))))))))))))))) | exact And.right (And.right (And.right (And.right (And.right (And.right (And.right (And.right (And.right (And.right (And.right (And.right (And.right (And.right (And.right (And.right (And.right (And.right (And.right (by assumption)))))))))))))))))))) | exact off_sub (by with_reducible assumption) (by top_reprB) | exact off_of_lt (by (first | assumption | exact allLt_of (by assumption) | exact And.right (by assumption) | exact And.right (And.right (by assumption)) | exact And.right (And.right (And.right (by assumption))) | exact And.right (And.right (And.right (And.right (by assumption)))) | exact And.right (And.right (And.right (And.right (And.right (by assumption))))) | exact And.right (And.right (And.right (And.right (And.right (And.right (by assumption)))))) | exact And.right (And.right (And.right (And.right (And.right (And.right (And.right (by assumption))))))) | exact And.right (And.right (And.right (And.right (And.right (And.right (And.right (And.right (by assumption)))))))) | exact And.right (And.right (And.right (And.right (And.right (And.right (And.right (And.right (And.right (by assumption))))))))) | exact And.right (And.right (And.right (And.right (And.right (And.right (And.right (And.right (And.right (And.right (by assumption)))))))))) | exact And.right (And.right (And.right (And.right (And.right (And.right (And.right (And.right (And.right (And.right (And.right (by assumption))))))))))) | exact And.right (And.right (And.right (And.right (And.right (And.right (And.right (And.right (And.right (And.right (And.right (And.right (by assumption)))))))))))) | exact And.right (And.right (And.right (And.right (And.right (And.right (And.right (And.right (And.right (And.right (And.right (And.right (And.right (by assumption))))))))))))) | exact And.right (And.right (And.right (And.right (And.right (And.right (And.right (And.right (And.right (And.right (And.right (And.right (And.right (And.right (by assumption)))))))))))))) | exact And.right (And.right (And.right (And.right (And.right (And.right (And.right (And.right (And.right (And.right (And.right (And.right (And.right (And.right (And.right (by assumption))))))))))))))) | exact And.right (And.right (And.right (And.right (And.right (And.right (And.right (And.right (And.right (And.right (And.right (And.right (And.right (And.right (And.right (And.right (by assumption)))))))))))))))) | exact And.right (And.right (And.right (And.right (And.right (And.right (And.right (And.right (And.right (And.right (And.right (And.right (And.right (And.right (And.right (And.right (And.right (by assumption))))))))))))))))) | exact And.right (And.right (And.right (And.right (And.right (And.right (And.right (And.right (And.right (And.right (And.right (And.right (And.right (And.right (And.right (And.right (And.right (And.right (by assumption)))))))))))))))))) | exact And.right (And.right (And.right (And.right (And.right (And.right (And.right (And.right (And.right (And.right (And.right (And.right (And.right (And.right (And.right (And.right (And.right (And.right (And.right (by assumption))))))))))))))))))))) | exact off_of_lt2 (by (first | assumption | exact allLt_of (by assumption) | exact And.right (by assumption) | exact And.right (And.right (by assumption)) | exact And.right (And.right (And.right (by assumption))) | exact And.right (And.right (And.right (And.right (by assumption)))) | exact And.right (And.right (And.right (And.right (And.right (by assumption))))) | exact And.right (And.right (And.right (And.right (And.right (And.right (by assumption)))))) | exact And.right (And.right (And.right (And.right (And.right (And.right (And.right (by assumption))))))) | exact And.right (And.right (And.right (And.right (And.right (And.right (And.right (And.right (by assumption)))))))) | exact And.right (And.right (And.right (And.right (And.right (And.right (And.right (And.right (And.right (by assumption))))))))) | exact And.right (And.right (And.right (And.right (And.right (And.right (And.right (And.right (And.right (And.right (by assumption)))))))))) | exact And.right (And.right (And.right (And.right (And.right (And.right (And.right (And.right (And.right (And.right (And.right (by assumption))))))))))) | exact And.right (And.right (And.right (And.right (And.right (And.right (And.right (And.right (And.right (And.right (And.right (And.right (by assumption)))))))))))) | exact And.right (And.right (And.right (And.right (And.right (And.right (And.right (And.right (And.right (And.right (And.right (And.right (And.right (by assumption))))))))))))) | exact And.right (And.right (And.right (And.right (And.right (And.right (And.right (And.right (And.right (And.right (And.right (And.right (And.right (And.right (by assumption)))))))))))))) | exact And.right (And.right (And.right (And.right (And.right (And.right (And.right (And.right (And.right (And.right (And.right (And.right (And.right (And.right (And.right (by assumption))))))))))))))) | exact And.right (And.right (And.right (And.right (And.right (And.right (And.right (And.right (And.right (And.right (And.right (And.right (And.right (And.right (And.right (And.right (by assumption)))))))))))))))) | exact And.right (And.right (And.right (And.right (And.right (And.right (And.right (And.right (And.right (And.right (And.right (And.right (And.right (And.right (And.right (And.right (And.right (by assumption))))))))))))))))) | exact And.right (And.right (And.right (And.right (And.right (And.right (And.right (And.right (And.right (And.right (And.right (And.right (And.right (And.right (And.right (And.right (And.right (And.right (by assumption)))))))))))))))))) | exact And.right (And.right (And.right (And.right (And.right (And.right (And.right (And.right (And.right (And.right (And.right (And.right (And.right (And.right (And.right (And.right (And.right (And.right (And.right (by assumption))))))))))))))))))))) (by omega) | exact off_of_base (by assumption) (by omega))
local macro_rules | `(tactic| k_all) => `(tactic| (refine off_all ?_; top_strB))
local macro_rules | `(tactic| walk_at "getMethod ref") => `(tactic| (k_here; k_dflt (refine' kmu_own ?k1 ?k2 ?k3 ?k4 ?k5 ?_; (case k1 => k_asm); (case k2 => k_asm); (case k3 => k_inst); (case k4 => k_is); (case k5 => k_is); k_whole)))
local macro_rules | `(tactic| walk_at "binaryOp Mult int int") => `(tactic| (k_here; with_reducible first | refine PyProof.Rows.mul_int ?_ (mulok_getD (by assumption) (by assumption) (by assumption)) | refine PyProof.Rows.mul_int ?_ (mulok_mem (by assumption) (by assumption) (by assumption))))
local macro_rules | `(tactic| top_name) => `(tactic| (law_purse 40000 => (law_clear; (repeat (with_reducible rename (@Ne Nat _ _) ∧ _ => hne9; clear hne9)); (repeat (with_reducible rename (@LT.lt Nat _ _ _) ∧ _ => hne9; clear hne9)); (repeat (with_reducible rename (@Ne Nat _ _) => hne9; clear hne9)); (try simp only [List.length_append, List.length_cons, List.length_nil, List.length_map, List.length_take, List.length_set, List.length_zipWith, rangeKs_length]); omega)))
local macro_rules | `(tactic| walk_at "subscriptTail Name Name ref int") => `(tactic| ((k_here; (with_reducible show wpAny _ _ (subscriptTail _ _ (Value.ref _) (Value.int _ _)) _ _ _); (with_unfolding_all refine' item_list_ints ?k1 ?k2 ?k3 ?k4 ?k5 ?_; (case k1 => exact News.isList (by k_asm) (by k_mem)); (case k2 => l_ints); (case k3 => first | assumption | top_name); (case k4 => first | assumption | exact idx_hi (by assumption) (by first | assumption | exact Nat.le_refl _) | top_name); (case k5 => first | assumption | exact idx_fit (by assumption) (by assumption) | top_name); k_whole); intro _)))
local macro_rules | `(tactic| walk_at "subscriptTail Name BinOp ref int") => `(tactic| ((k_here; (with_reducible show wpAny _ _ (subscriptTail _ _ (Value.ref _) (Value.int _ _)) _ _ _); (with_unfolding_all refine' item_list_ints ?k1 ?k2 ?k3 ?k4 ?k5 ?_; (case k1 => exact News.isList (by k_asm) (by k_mem)); (case k2 => l_ints); (case k3 => first | assumption | top_name); (case k4 => first | assumption | exact idx_hi (by assumption) (by first | assumption | exact Nat.le_refl _) | top_name); (case k5 => first | assumption | exact idx_fit (by assumption) (by assumption) | top_name); k_whole); intro _)))
local macro_rules | `(tactic| walk_at "call builtin:list.copy") => `(tactic| (k_here; (with_reducible show wpAny _ _ (call (Value.builtin _) [Value.ref _]) _ _ _); k_dflt (refine' copyK ?k1 ?k2 ?k3 ?k4 ?_; (case k1 => k_asm); (case k2 => k_asm); (case k3 => exact News.isList (by k_asm) (by k_mem)); (case k4 => exact ints_size (by l_ints) (by top_name)); k_whole); intro D' h' F' N' l1; (try k_lt l1); (try k_sweep)))
local macro_rules | `(tactic| walk_at "setItem ref int") => `(tactic| (k_here; (with_reducible show wpAny _ _ (setItem (Value.ref _) (Value.int _ _) (Value.int _ _)) _ _ _); k_dflt (refine' ksa_set ?k1 ?k2 ?k3 ?k4 ?k5 ?k6 ?k7 ?_; (case k1 => k_asm); (case k2 => k_asm); (case k3 => k_upd); (case k4 => l_ints); (case k5 => first | assumption | top_name); (case k6 => first | assumption | top_name); (case k7 => first | assumption | top_name); k_whole); intro h' F' N' hi' hl' hs'; clear hs'; (try k_sweep)))
local macro_rules | `(tactic| walk_at "callWith ref") => `(tactic| (k_here; kco_here; k_dflt (refine' kco_callWith ?k1 ?k2 ?k3 ?k4 ?_; (case k1 => k_in); (case k2 => k_inst); (case k3 => rfl); (case k4 => k_is); k_whole)))
local macro_rules | `(tactic| allgen_close_more) => `(tactic| first | k_asm | (refine' cb_drop ?cbN ?cbS; (case cbN => assumption); (case cbS => top_reprB)))
local macro_rules | `(tactic| k_enter) => `(tactic| ((with_reducible show codeAny _ _ (Code.call (Value.ref 56) ⟨[Value.ref _, Value.ref _], _⟩) _ _); k_dflt (refine' Ctr.use (ring_call ?c0 ?c1 ?c2 ?c3) ?k1 ?k2 ?k3 ?k4 ?k5 ?kK ?kd ?ku ?_; (case k1 => k_asm); (case k2 => k_asm); (case k3 => k_asm); (case k4 => k_asm); (case k5 => k_asm); (case kK => first | exact rfl | assumption); (case c0 => exact ⟨_, _, _, _, _, _, by k_mem, by k_mem⟩); (case c1 => exact ⟨_, _, by k_mem, by l_ints⟩); (case c2 => ktr_rel); (case c3 => ktr_rel); (case kd => k_room); (case ku => k_units); k_whole; intro v' h' tk' nw' F' N' cP'; obtain ⟨x', d', t1', t2', hv', hn', o1', o2', n1'⟩ := cP'; subst hv'; subst hn'; (try dsimp only); kts_tail; (try k_sweep))))
section
theorem ringI_call {w : World} {N : Led} {r : Addr} {q n : Int} (hR : Ring w N r q n) (hn1 : 1 ≤ n) (hn : n ≤ 4) {v : Int} {t : Tok} :
   Ctr w 10 56 [.ref r, .int v t] N (PolyPost w N r ([v] ++ (rangeKs 0 (n - 1 - 0).toNat).map fun _ => 0)) := by
  refine' lite ?lw ?lx ?le
  case lw =>
    unfold Ctr
    k_fill
    intro p loose mean mg mb dp un gd cn cs a ccd cl outer A₀ base h₀ L m s R B F X N₀ T hk hdp hun hret
    obtain ⟨dr, k3, k4, tq, tn, e3, hr, hdr⟩ := hR
    k_dflt (refine' code_def ?k1 ?k2 ?k3 ?k4 ?k5 ?kA ?kF ?kK ?k6 ?k7 ?k8 ?k9 ?kB ?_ ?c2 ?c3 ?c4 ?c5; (case kA => exact rfl); (case kF => exact rfl); (case kK => assumption); (case k1 => k_asm); (case k2 => k_asm); (case k3 => k_asm); (case k4 => k_asm); (case k5 => k_asm); (case k6 => k_is); (case k7 => k_is); (case k8 => k_room); (case k9 => exact BindsTo.of_eq rfl); (case c5 => decide); (case kB => exact locs rfl); (case c2 => exact rfl); (case c3 => exact rfl); (case c4 => exact rfl); k_whole)
    intro g₁ L₁ h₁ FG₁ F₁ N₁ B₁ X₁ T₁
    (try dsimp only)
    (try k_fold)
    k_steps
    · exact hret _ _ _ _ (by k_asm) (by allgen_close_more) ⟨_, _, _, _, _, _, _, rfl, rfl, by k_asm, by top_strB, by top_strB, by top_strB, by k_ne, by k_ne, by k_ne⟩
    · have hz : (n - 1 - 0).toNat = 0 := by omega
      have e : ([v] ++ (rangeKs 0 (n - 1 - 0).toNat).map fun _ => (0 : Int)) = [v] := by rw [hz]; rfl
      rw [e] at hret
      exact hret _ _ _ _ (by k_asm) (by allgen_close_more) ⟨_, _, _, _, _, _, _, rfl, rfl, .cons _ _ .nil, by top_strB, by top_strB, by top_strB, by k_ne, by k_ne, by k_ne⟩
  case lx => intro hk; simpa only using hk (0 : Nat)
  case le => eq_refl
end
section
/-- a row that is too short is filled up -/
theorem ringS_call {w : World} {N : Led} {r l : Addr} {q n : Int} {ns : List Int} (hR : Ring w N r q n) (hL : Ints N l ns) (hlen : (ns.length : Int) < n) (hn : n ≤ 4) :
   Ctr w 8 56 [.ref r, .ref l] N (PolyPost w N r (ns ++ (rangeKs 0 (n - (ns.length : Int) - 0).toNat).map fun _ => 0)) := by
  unfold Ctr
  k_fill
  intro p loose mean mg mb dp un gd cn cs a ccd cl outer A₀ base h₀ L m s R B F X N₀ T hk hdp hun hret
  obtain ⟨dr, k3, k4, tq, tn, e3, hr, hdr⟩ := hR
  obtain ⟨vs, e1, hl, hI⟩ := hL
  k_dflt (refine' code_def ?k1 ?k2 ?k3 ?k4 ?k5 ?kA ?kF ?kK ?k6 ?k7 ?k8 ?k9 ?kB ?_ ?c2 ?c3 ?c4 ?c5; (case kA => exact rfl); (case kF => exact rfl); (case kK => assumption); (case k1 => k_asm); (case k2 => k_asm); (case k3 => k_asm); (case k4 => k_asm); (case k5 => k_asm); (case k6 => k_is); (case k7 => k_is); (case k8 => k_room); (case k9 => exact BindsTo.of_eq rfl); (case c5 => decide); (case kB => exact locs rfl); (case c2 => exact rfl); (case c3 => exact rfl); (case c4 => exact rfl); k_whole)
  intro g₁ L₁ h₁ FG₁ F₁ N₁ B₁ X₁ T₁
  (try dsimp only)
  (try k_fold)
  k_steps
  exact hret _ _ _ _ (by k_asm) (cb_drop (by k_asm) (List.forall_mem_cons.mpr ⟨.tail _ (.tail _ (.head _)), List.forall_mem_cons.mpr ⟨.tail _ (.tail _ (.tail _ (.head _))), List.forall_mem_cons.mpr ⟨.head _, by intro p hp; k_mem⟩⟩⟩)) ⟨_, _, _, _, _, _, _, rfl, rfl, by k_asm, by top_strB, by top_strB, by top_strB, by k_ne, by k_ne, by k_ne⟩
end
section
local macro_rules | `(tactic| k_enter) => `(tactic| ((with_reducible show codeAny _ _ (Code.call (Value.ref 56) ⟨[Value.ref _, Value.ref _], _⟩) _ _); k_dflt (refine' Ctr.use (ringS_call ?c0 ?c1 ?c2 ?c3) ?k1 ?k2 ?k3 ?k4 ?k5 ?kK ?kd ?ku ?_; (case k1 => k_asm); (case k2 => k_asm); (case k3 => k_asm); (case k4 => k_asm); (case k5 => k_asm); (case kK => first | exact rfl | assumption); (case c0 => exact ⟨_, _, _, _, _, _, by k_mem, by k_mem⟩); (case c1 => exact ⟨_, _, by k_mem, by l_ints⟩); (case c2 => ktr_rel); (case c3 => ktr_rel); (case kd => k_room); (case ku => k_units); k_whole; intro v' h' tk' nw' F' N' cP'; obtain ⟨x', d', l', t1', t2', vs', e', hv', hn', hi', o1', o2', o3', n1', n2', n3'⟩ := cP'; subst hv'; subst hn'; (try dsimp only); kts_tail; (try k_sweep))))
theorem zero_call {w : World} {N : Led} {r : Addr} {q n : Int} (hR : Ring w N r q n) (hn1 : 1 ≤ n) (hn : n ≤ 4) :
   Ctr w 10 42 [.ref r] N (PolyPost w N r ([0] ++ (rangeKs 0 (n - 1 - 0).toNat).map fun _ => 0)) := by
  refine' lite ?lw ?lx ?le
  case lw =>
    unfold Ctr
    k_fill
    intro p loose mean mg mb dp un gd cn cs a ccd cl outer A₀ base h₀ L m s R B F X N₀ T hk hdp hun hret
    obtain ⟨dr, k3, k4, tq, tn, e3, hr, hdr⟩ := hR
    k_dflt (refine' code_def ?k1 ?k2 ?k3 ?k4 ?k5 ?kA ?kF ?kK ?k6 ?k7 ?k8 ?k9 ?kB ?_ ?c2 ?c3 ?c4 ?c5; (case kA => exact rfl); (case kF => exact rfl); (case kK => assumption); (case k1 => k_asm); (case k2 => k_asm); (case k3 => k_asm); (case k4 => k_asm); (case k5 => k_asm); (case k6 => k_is); (case k7 => k_is); (case k8 => k_room); (case k9 => exact BindsTo.of_eq rfl); (case c5 => decide); (case kB => exact locs rfl); (case c2 => exact rfl); (case c3 => exact rfl); (case c4 => exact rfl); k_whole)
    intro g₁ L₁ h₁ FG₁ F₁ N₁ B₁ X₁ T₁
    (try dsimp only)
    (try k_fold)
    by_cases hz : n = 1
    · subst hz
      k_steps
      exact hret _ _ _ _ (by k_asm) (by allgen_close_more) ⟨_, _, _, _, _, _, _, rfl, rfl, .cons _ _ .nil, by top_strB, by top_strB, by top_strB, by k_ne, by k_ne, by k_ne⟩
    · have hz2 : 1 < n := by omega
      k_steps
      exact hret _ _ _ _ (by k_asm) (by allgen_close_more) ⟨_, _, _, _, _, _, _, rfl, rfl, by k_asm, by top_strB, by top_strB, by top_strB, by k_ne, by k_ne, by k_ne⟩
  case lx => intro hk; simpa only using hk (0 : Nat)
  case le => eq_refl
end
section
local macro_rules | `(tactic| k_enter) => `(tactic| ((with_reducible show codeAny _ _ (Code.call (Value.ref 56) ⟨[Value.ref _, Value.ref _], _⟩) _ _); k_dflt (refine' Ctr.use (ringS_call ?c0 ?c1 ?c2 ?c3) ?k1 ?k2 ?k3 ?k4 ?k5 ?kK ?kd ?ku ?_; (case k1 => k_asm); (case k2 => k_asm); (case k3 => k_asm); (case k4 => k_asm); (case k5 => k_asm); (case kK => first | exact rfl | assumption); (case c0 => exact ⟨_, _, _, _, _, _, by k_mem, by k_mem⟩); (case c1 => exact ⟨_, _, by k_mem, by l_ints⟩); (case c2 => ktr_rel); (case c3 => ktr_rel); (case kd => k_room); (case ku => k_units); k_whole; intro v' h' tk' nw' F' N' cP'; obtain ⟨x', d', l', t1', t2', vs', e', hv', hn', hi', o1', o2', o3', n1', n2', n3'⟩ := cP'; subst hv'; subst hn'; (try dsimp only); kts_tail; (try k_sweep))))
theorem gen_call {w : World} {N : Led} {r : Addr} {q n : Int} (hR : Ring w N r q n) (hn1 : 1 ≤ n) (hn : n ≤ 4) (hn2 : 2 ≤ n) :
   Ctr w 10 49 [.ref r] N (PolyPost w N r ([0, 1] ++ (rangeKs 0 (n - 2 - 0).toNat).map fun _ => 0)) := by
  refine' lite ?lw ?lx ?le
  case lw =>
    unfold Ctr
    k_fill
    intro p loose mean mg mb dp un gd cn cs a ccd cl outer A₀ base h₀ L m s R B F X N₀ T hk hdp hun hret
    obtain ⟨dr, k3, k4, tq, tn, e3, hr, hdr⟩ := hR
    k_dflt (refine' code_def ?k1 ?k2 ?k3 ?k4 ?k5 ?kA ?kF ?kK ?k6 ?k7 ?k8 ?k9 ?kB ?_ ?c2 ?c3 ?c4 ?c5; (case kA => exact rfl); (case kF => exact rfl); (case kK => assumption); (case k1 => k_asm); (case k2 => k_asm); (case k3 => k_asm); (case k4 => k_asm); (case k5 => k_asm); (case k6 => k_is); (case k7 => k_is); (case k8 => k_room); (case k9 => exact BindsTo.of_eq rfl); (case c5 => decide); (case kB => exact locs rfl); (case c2 => exact rfl); (case c3 => exact rfl); (case c4 => exact rfl); k_whole)
    intro g₁ L₁ h₁ FG₁ F₁ N₁ B₁ X₁ T₁
    (try dsimp only)
    (try k_fold)
    by_cases hz : n = 2
    · subst hz
      k_steps
      exact hret _ _ _ _ (by k_asm) (by allgen_close_more) ⟨_, _, _, _, _, _, _, rfl, rfl, .cons _ _ (.cons _ _ .nil), by top_strB, by top_strB, by top_strB, by k_ne, by k_ne, by k_ne⟩
    · have hz2 : 2 < n := by omega
      k_steps
      exact hret _ _ _ _ (by k_asm) (by allgen_close_more) ⟨_, _, _, _, _, _, _, rfl, rfl, by k_asm, by top_strB, by top_strB, by top_strB, by k_ne, by k_ne, by k_ne⟩
  case lx => intro hk; simpa only using hk (0 : Nat)
  case le => eq_refl
end
section
theorem neg_call {w : World} {N : Led} {x r l : Addr} {q n : Int} {ns : List Int} (hR : Ring w N r q n) (hP : Poly w N x r l ns) (hlen : (ns.length : Int) = n) (hn : n ≤ 4) (hq : 2 ≤ q) :
   Ctr w 10 132 [.ref x] N (PolyPost w N r (ns.map fun c => Int.fmod (-c) q)) := by
  refine' lite ?lw ?lx ?le
  case lw =>
    unfold Ctr
    k_fill
    intro p loose mean mg mb dp un gd cn cs a ccd cl outer A₀ base h₀ L m s R B F X N₀ T hk hdp hun hret
    obtain ⟨dr, k3, k4, tq, tn, e3, hr, hdr⟩ := hR
    obtain ⟨⟨vs, e1, hl, hI⟩, dx, k1, k2, e2, hx, hdx⟩ := hP
    k_dflt (refine' code_defC ?k1 ?k2 ?k3 ?k4 ?k5 ?kA ?kF ?kK ?k6 ?k7 ?k8 ?k9 ?kB ?kD ?_ ?c2 ?c3 ?c4; (case kA => exact rfl); (case kF => exact rfl); (case kK => assumption); (case k1 => k_asm); (case k2 => k_asm); (case k3 => k_asm); (case k4 => k_asm); (case k5 => k_asm); (case k6 => k_is); (case k7 => k_is); (case k8 => k_room); (case k9 => exact BindsTo.of_eq rfl); (case kB => exact rfl); (case kD => decide +kernel); (case c2 => exact rfl); (case c3 => exact rfl); (case c4 => exact rfl); k_whole)
    intro g₁ L₁ h₁ tk₁ cells₁ FG₁ F₁ N₁ Y₁ B₁ X₁ T₁ l₁
    k_cells Y₁
    simp only [List.cons_append, List.nil_append] at N₁
    (try dsimp only)
    (try k_fold)
    k_steps
    exact hret _ _ _ _ (by k_asm) (by allgen_close_more) ⟨_, _, _, _, _, _, _, rfl, rfl, by k_asm, by top_strB, by top_strB, by top_strB, by k_ne, by k_ne, by k_ne⟩
  case lx => intro hk; simpa only using hk (0 : Nat)
  case le => eq_refl
end
end
section
local macro_rules | `(tactic| k_mem) => `(tactic| ((fail_if_success (with_reducible refine' List.Mem.tail _ ?_)); first | with_reducible assumption | assumption | (refine sub_mem (by assumption) ?_; k_mem)))
local macro_rules | `(tactic| news_mem) => `(tactic| k_mem)
local macro_rules | `(tactic| k_room) => `(tactic| ((simp only [depth_under_make, depth_under_kw, depth_in1, depth_deeper, depth_caller, recursionLimit] at *); omega))
local macro_rules | `(tactic| k_units) => `(tactic| ((have hcL9 := cLine_is); (simp only [units_in1, units_deeper, Around.mark_units, units_caller, cLine] at *); omega))
local macro_rules | `(tactic| allgen_close2_more) => `(tactic| assumption)
local macro_rules | `(tactic| ktr_rel) => `(tactic| ((try simp only [List.length_append, List.length_cons, List.length_nil, List.length_map, List.length_set, List.length_zipWith, rangeKs_length]); first | assumption | omega))
local macro_rules | `(tactic| top_reprB) => `(tactic| first | exact List.forall_mem_nil _ | (refine List.forall_mem_cons.mpr ⟨by k_mem, ?_⟩; top_reprB) | (intro p hp; k_mem))
local macro_rules | `(tactic| k_ne) => `(tactic| (refine neN ?_; (try dsimp only); first | (with_reducible assumption) | exact Ne.symm (by with_reducible assumption) | exact off_ne (by with_reducible assumption) (by k_mem) | exact Ne.symm (off_ne (by with_reducible assumption) (by k_mem)) | omega))
local macro_rules | `(tactic| top_strB) => `(tactic| first | (first | assumption | exact allLt_of (by assumption) | exact And.right (by assumption) | exact And.right (And.right (by assumption)) | exact And.right (And.right (And.right (by assumption))) | exact And.right (And.right (And.right (And.right (by assumption)))) | exact And.right (And.right (And.right (And.right (And.right (by assumption))))) | exact And.right (And.right (And.right (And.right (And.right (And.right (by assumption)))))) | exact And.right (And.right (And.right (And.right (And.right (And.right (And.right (by assumption))))))) | exact And.right (And.right (And.right (And.right (And.right (And.right (And.right (And.right (by assumption)))))))) | exact And.right (And.right (And.right (And.right (And.right (And.right (And.right (And.right (And.right (by assumption))))))))) | exact And.right (And.right (And.right (And.right (And.right (And.right (And.right (And.right (And.right (And.right (by assumption)))))))))) | exact And.right (And.right (And.right (And.right (And.right (And.right (And.right (And.right (And.right (And.right (And.right (by assumption))))))))))) | exact And.right (And.right (And.right (And.right (And.right (And.right (And.right (And.right (And.right (And.right (And.right (And.right (by assumption)))))))))))) | exact And.right (And.right (And.right (And.right (And.right (And.right (And.right (And.right (And.right (And.right (And.right (And.right (And.right (by assumption))))))))))))) | exact And.right (And.right (And.right (And.right (And.right (And.right (And.right (And.right (And.right (And.right (And.right (And.right (And.right (And.right (by assumption)))))))))))))) | exact And.right (And.right (And.right (And.right (And.right (And.right (And.right (And.right (And.right (And.right (And.right (And.right (And.right (And.right (And.right (by assumption))))))))))))))) | exact And.right (And.right (And.right (And.right (And.right (And.right (And.right (And.right (And.right (And.right (And.right (And.right (And.right (And.right (And.right (And.right (by assumption)))))))))))))))) | exact And.right (And.right (And.right (And.right (And.right (And.right (And.right (And.right (And.right (And.right (And.right (And.right (And.right (And.right (And.right (And.right (And.right (by assumption))))))))))))))))) | exact And.right (And.right (And.right (And.right (And.right (And.right (And.right (And.right (And.right (And.right (And.right (And.right (And.right (And.right (And.right (And.right (And.right (And.right (by assumption)))))))))))))))))) | exact And.right (And.right (And.right (And.right (And.right (And.right (And.right (And.right (And.right (And.right (And.right (And.right (And.right (And.right (And.right (And.right (And.right (And.right (And.right (by assumption)))))))))))))))))))) | exact off_sub (by with_reducible assumption) (by top_reprB) | exact off_of_lt (by (first | assumption | exact allLt_of (by assumption) | exact And.right (by assumption) | exact And.right (And.right (by assumption)) | exact And.right (And.right (And.right (by assumption))) | exact And.right (And.right (And.right (And.right (by assumption)))) | exact And.right (And.right (And.right (And.right (And.right (by assumption))))) | exact And.right (And.right (And.right (And.right (And.right (And.right (by assumption)))))) | exact And.right (And.right (And.right (And.right (And.right (And.right (And.right (by assumption))))))) | exact And.right (And.right (And.right (And.right (And.right (And.right (And.right (And.right (by assumption)))))))) | exact And.right (And.right (And.right (And.right (And.right (And.right (And.right (And.right (And.right (by assumption))))))))) | exact And.right (And.right (And.right (And.right (And.right (And.right (And.right (And.right (And.right (And.right (by assumption)))))))))) | exact And.right (And.right (And.right (And.right (And.right (And.right (And.right (And.right (And.right (And.right (And.right (by assumption))))))))))) | exact And.right (And.right (And.right (And.right (And.right (And.right (And.right (And.right (And.right (And.right (And.right (And.right (by assumption)))))))))))) | exact And.right (And.right (And.right (And.right (And.right (And.right (And.right (And.right (And.right (And.right (And.right (And.right (And.right (by assumption))))))))))))) | exact And.right (And.right (And.right (And.right (And.right (And.right (And.right (And.right (And.right (And.right (And.right (And.right (And.right (And.right (by assumption)))))))))))))) | exact And.right (And.right (And.right (And.right (And.right (And.right (And.right (And.right (And.right (And.right (And.right (And.right (And.right (And.right (And.right (by assumption))))))))))))))) | exact And.right (And.right (And.right (And.right (And.right (And.right (And.right (And.right (And.right (And.right (And.right (And.right (And.right (And.right (And.right (And.right (by assumption)))))))))))))))) | exact And.right (And.right (And.right (And.right (And.right (And.right (And.right (And.right (And.right (And.right (And.right (And.right (And.right (And.right (And.right (And.right (And.right (by assumption))))))))))))))))) | exact And.right (And.right (And.right (And.right (And.right (And.right (And.right (And.right (And.right (And.right (And.right (And.right (And.right (And.right (And.right (And.right (And.right (And.right (by assumption)))))))))))))))))) | exact And.right (And.right (And.right (And.right (And.right (And.right (And.right (And.right (And.right (And.right (And.right (And.right (And.right (And.right (And.right (And.right (And.right (And.right (And.right (by assumption))))))))))))))))))))) | exact off_of_lt2 (by (first | assumption | exact allLt_of (by assumption) | exact And.right (by assumption) | exact And.right (And.right (by assumption)) | exact And.right (And.right (And.right (by assumption))) | exact And.right (And.right (And.right (And.right (by assumption)))) | exact And.right (And.right (And.right (And.right (And.right (by assumption))))) | exact And.right (And.right (And.right (And.right (And.right (And.right (by assumption)))))) | exact And.right (And.right (And.right (And.right (And.right (And.right (And.right (by assumption))))))) | exact And.right (And.right (And.right (And.right (And.right (And.right (And.right (And.right (by assumption)))))))) | exact And.right (And.right (And.right (And.right (And.right (And.right (And.right (And.right (And.right (by assumption))))))))) | exact And.right (And.right (And.right (And.right (And.right (And.right (And.right (And.right (And.right (And.right (by assumption)))))))))) | exact And.right (And.right (And.right (And.right (And.right (And.right (And.right (And.right (And.right (And.right (And.right (by assumption))))))))))) | exact And.right (And.right (And.right (And.right (And.right (And.right (And.right (And.right (And.right (And.right (And.right (And.right (by assumption)))))))))))) | exact And.right (And.right (And.right (And.right (And.right (And.right (And.right (And.right (And.right (And.right (And.right (And.right (And.right (by assumption))))))))))))) | exact And.right (And.right (And.right (And.right (And.right (And.right (And.right (And.right (And.right (And.right (And.right (And.right (And.right (And.right (by assumption)))))))))))))) | exact And.right (And.right (And.right (And.right (And.right (And.right (And.right (And.right (And.right (And.right (And.right (And.right (And.right (And.right (And.right (by assumption))))))))))))))) | exact And.right (And.right (And.right (And.right (And.right (And.right (And.right (And.right (And.right (And.right (And.right (And.right (And.right (And.right (And.right (And.right (by assumption)))))))))))))))) | exact And.right (And.right (And.right (And.right (And.right (And.right (And.right (And.right (And.right (And.right (And.right (And.right (And.right (And.right (And.right (And.right (And.right (by assumption))))))))))))))))) | exact And.right (And.right (And.right (And.right (And.right (And.right (And.right (And.right (And.right (And.right (And.right (And.right (And.right (And.right (And.right (And.right (And.right (And.right (by assumption)))))))))))))))))) | exact And.right (And.right (And.right (And.right (And.right (And.right (And.right (And.right (And.right (And.right (And.right (And.right (And.right (And.right (And.right (And.right (And.right (And.right (And.right (by assumption))))))))))))))))))))) (by omega) | exact off_of_base (by assumption) (by omega))
local macro_rules | `(tactic| k_all) => `(tactic| (refine off_all ?_; top_strB))
local macro_rules | `(tactic| walk_at "getMethod ref") => `(tactic| (k_here; k_dflt (refine' kmu_own ?k1 ?k2 ?k3 ?k4 ?k5 ?_; (case k1 => k_asm); (case k2 => k_asm); (case k3 => k_inst); (case k4 => k_is); (case k5 => k_is); k_whole)))
local macro_rules | `(tactic| walk_at "binaryOp Mult int int") => `(tactic| (k_here; with_reducible first | refine PyProof.Rows.mul_int ?_ (mulok_getD (by assumption) (by assumption) (by assumption)) | refine PyProof.Rows.mul_int ?_ (mulok_mem (by assumption) (by assumption) (by assumption))))
local macro_rules | `(tactic| top_name) => `(tactic| (law_purse 40000 => (law_clear; (repeat (with_reducible rename (@Ne Nat _ _) ∧ _ => hne9; clear hne9)); (repeat (with_reducible rename (@LT.lt Nat _ _ _) ∧ _ => hne9; clear hne9)); (repeat (with_reducible rename (@Ne Nat _ _) => hne9; clear hne9)); (try simp only [List.length_append, List.length_cons, List.length_nil, List.length_map, List.length_take, List.length_set, List.length_zipWith, rangeKs_length]); omega)))
local macro_rules | `(tactic| walk_at "subscriptTail Name Name ref int") => `(tactic| ((k_here; (with_reducible show wpAny _ _ (subscriptTail _ _ (Value.ref _) (Value.int _ _)) _ _ _); (with_unfolding_all refine' item_list_ints ?k1 ?k2 ?k3 ?k4 ?k5 ?_; (case k1 => exact News.isList (by k_asm) (by k_mem)); (case k2 => l_ints); (case k3 => first | assumption | top_name); (case k4 => first | assumption | exact idx_hi (by assumption) (by first | assumption | exact Nat.le_refl _) | top_name); (case k5 => first | assumption | exact idx_fit (by assumption) (by assumption) | top_name); k_whole); intro _)))
local macro_rules | `(tactic| walk_at "subscriptTail Name BinOp ref int") => `(tactic| ((k_here; (with_reducible show wpAny _ _ (subscriptTail _ _ (Value.ref _) (Value.int _ _)) _ _ _); (with_unfolding_all refine' item_list_ints ?k1 ?k2 ?k3 ?k4 ?k5 ?_; (case k1 => exact News.isList (by k_asm) (by k_mem)); (case k2 => l_ints); (case k3 => first | assumption | top_name); (case k4 => first | assumption | exact idx_hi (by assumption) (by first | assumption | exact Nat.le_refl _) | top_name); (case k5 => first | assumption | exact idx_fit (by assumption) (by assumption) | top_name); k_whole); intro _)))
local macro_rules | `(tactic| walk_at "call builtin:list.copy") => `(tactic| (k_here; (with_reducible show wpAny _ _ (call (Value.builtin _) [Value.ref _]) _ _ _); k_dflt (refine' copyK ?k1 ?k2 ?k3 ?k4 ?_; (case k1 => k_asm); (case k2 => k_asm); (case k3 => exact News.isList (by k_asm) (by k_mem)); (case k4 => exact ints_size (by l_ints) (by top_name)); k_whole); intro D' h' F' N' l1; (try k_lt l1); (try k_sweep)))
local macro_rules | `(tactic| walk_at "setItem ref int") => `(tactic| (k_here; (with_reducible show wpAny _ _ (setItem (Value.ref _) (Value.int _ _) (Value.int _ _)) _ _ _); k_dflt (refine' ksa_set ?k1 ?k2 ?k3 ?k4 ?k5 ?k6 ?k7 ?_; (case k1 => k_asm); (case k2 => k_asm); (case k3 => k_upd); (case k4 => l_ints); (case k5 => first | assumption | top_name); (case k6 => first | assumption | top_name); (case k7 => first | assumption | top_name); k_whole); intro h' F' N' hi' hl' hs'; clear hs'; (try k_sweep)))
local macro_rules | `(tactic| walk_at "callWith ref") => `(tactic| (k_here; kco_here; k_dflt (refine' kco_callWith ?k1 ?k2 ?k3 ?k4 ?_; (case k1 => k_in); (case k2 => k_inst); (case k3 => rfl); (case k4 => k_is); k_whole)))
local macro_rules | `(tactic| allgen_close_more) => `(tactic| first | k_asm | (refine' cb_drop ?cbN ?cbS; (case cbN => assumption); (case cbS => top_reprB)))
local macro_rules | `(tactic| walk_at "exec For Name Call cons nil") => `(tactic| (k_here; k_dflt (refine For_turns (by k_asm) ?_ (by intro _; with_unfolding_all rfl) (by passes_own)); (try k_fold)))
local macro_rules | `(tactic| walk_at "getItem ref int") => `(tactic| (k_here; (with_reducible show wpAny _ _ (getItem (Value.ref _) (Value.int _ _)) _ _ _); k_dflt (refine' ksa_get ?k1 ?k2 ?k3 ?k4 ?k5 ?k6 ?_; (case k1 => k_asm); (case k2 => k_mem); (case k3 => l_ints); (case k4 => first | assumption | top_name); (case k5 => first | assumption | top_name); (case k6 => first | assumption | top_name); k_whole); intro _))
local macro_rules | `(tactic| walk_at "CompSrc") => `(tactic| (k_here; k_dflt (refine' LCg.CompSrc.ledger ?s1 ?s2 ?s3 ?s4 ?s5 ?_; (case s1 => rfl); (case s2 => k_asm); (case s3 => k_asm); (case s4 => k_mem); (case s5 => exact ints_sizeA (by l_ints) (by first | assumption | top_name)); intro g'; (refine' kcf_list _ (by l_ints) (fun k' t' I' oI' C' oC' D' m' ys' h' tk' E' hk' hC' hx' F' N' off' ne' hMark' => ?_) ?_); (all_goals (try (simp only [LCg.Off3, and_true] at off'))); kcf_last)))
local macro_rules | `(tactic| allgen_close2_more) => `(tactic| first | assumption | exact school_bnd (by assumption) _ _ | exact one_bnd (by assumption) | exact times_bnd (by assumption) _ _ | exact map_bnd (by assumption) _ _ | exact zip_bnd (by assumption) _ _ _ | exact set_bnd (by assumption) (by allgen_close2_more))
local macro_rules | `(tactic| ktr_rel) => `(tactic| ((simp only [List.length_append, List.length_cons, List.length_nil, List.length_map, List.length_set, List.length_zipWith, rangeKs_length, schoolS_length, timesS_length]); omega))
local macro_rules | `(tactic| walk_at "call builtin:all") => `(tactic| (k_here; (with_reducible rename GenOnD _ _ _ _ _ _ _ _ _ => gxX'); k_dflt (refine' all_gx ?k1 ?k2 ?k3 gxX' ?k4 ?k5 ?_; (case k1 => k_asm); (case k2 => k_asm); (case k3 => k_asm); (case k4 => k_asm); (case k5 => k_asm); k_whole); clear gxX'; intro s' F' N' G' hos'))
local macro_rules | `(tactic| walk_at "binaryOp Add int ref") => `(tactic| (k_here; (with_reducible show wpAny _ _ (binaryOp Operator.Add (Value.int _ _) (Value.ref _)) _ _ _); k_dflt (refine' rbin_add ?F ?X ?I ?hC ?hS ?hR ?hF ?h1 ?h2 ?hU ?_; (case F => k_asm); (case X => k_asm); (case I => k_inst); (case hC => k_is); (case hS => k_is); (case hR => k_is); (case hF => k_is); (case h1 => k_is); (case h2 => k_is); (case hU => k_is); k_whole)))
local macro_rules | `(tactic| walk_at "binaryOp Sub int ref") => `(tactic| (k_here; (with_reducible show wpAny _ _ (binaryOp Operator.Sub (Value.int _ _) (Value.ref _)) _ _ _); k_dflt (refine' rbin_sub ?F ?X ?I ?hC ?hS ?hR ?hF ?h1 ?h2 ?hU ?_; (case F => k_asm); (case X => k_asm); (case I => k_inst); (case hC => k_is); (case hS => k_is); (case hR => k_is); (case hF => k_is); (case h1 => k_is); (case h2 => k_is); (case hU => k_is); k_whole)))
local macro_rules | `(tactic| walk_at "binaryOp Mult int ref") => `(tactic| (k_here; (with_reducible show wpAny _ _ (binaryOp Operator.Mult (Value.int _ _) (Value.ref _)) _ _ _); k_dflt (refine' rbin_mul ?F ?X ?I ?hC ?hS ?hR ?hF ?h1 ?h2 ?hU ?_; (case F => k_asm); (case X => k_asm); (case I => k_inst); (case hC => k_is); (case hS => k_is); (case hR => k_is); (case hF => k_is); (case h1 => k_is); (case h2 => k_is); (case hU => k_is); k_whole)))
local macro_rules | `(tactic| walk_at "binaryOp Mult int int") => `(tactic| (k_here; with_reducible refine PyProof.Rows.mul_int ?_ (mulok_mem_r (by assumption) (by assumption) (by assumption))))
local macro_rules | `(tactic| walk_at "binaryOp Sub ref") => `(tactic| (k_here; (with_reducible show wpAny _ _ (binaryOp Operator.Sub (Value.ref _) (Value.ref _)) _ _ _); k_dflt (refine' ksp_binL ?F ?X ?N ?I ?hl ?hC ?hS ?hF ?hR ?hP ?h1 ?h2 ?hU ?_; (case F => k_asm); (case X => k_asm); (case N => k_asm); (case I => k_inst); (case hl => k_mem); (case hS => k_is); (case hF => k_is); (case hC => k_is); (case hR => k_is); (case hP => first | exact .inl rfl | exact .inr ⟨_, rfl⟩); (case h1 => k_is); (case h2 => k_is); (case hU => k_is); k_whole)))
local macro_rules | `(tactic| walk_at "leaving ref") => `(tactic| (k_here; (with_reducible rename KtsDicts _ _ => kdX); (with_reducible show wpAny _ _ (leaving (envOfC _ _ _ _ _) _) _ _ _); first
  | (refine' leave_raiseX ?k1 ?k0 ?k2 ?k3 ?e1 ?e2 ?_; (case k0 => first | assumption | exact Heap.MadeExc.of (by assumption)); (case k2 => assumption); (case k1 => assumption); (case k3 => k_asm); (case e1 => exact rfl); (case e2 => exact rfl); k_whole; intro h' t' S' R' U'; (try dsimp only at S' R' U' ⊢))
  | (refine' leave_onX ?k1 ?k2 ?k3 ?k4 ?e1 ?_; (case k3 => assumption); (case k2 => assumption); (case k1 => assumption); (case k4 => assumption); (case e1 => exact rfl); k_whole; intro h' S' R' U'; (try dsimp only at S' R' U' ⊢))
  | (refine' leave_newX ?k1 ?k0 ?k2 ?k3 ?e1 ?e2 ?_; (case k0 => assumption); (case k2 => assumption); (case k1 => assumption); (case k3 => k_asm); (case e1 => exact rfl); (case e2 => exact rfl); k_whole; intro h' S' R' U'; (try dsimp only at S' R' U' ⊢))
  | (refine' leave_onNX ?k1 ?k2 ?k3 ?k4 ?e1 ?_; (case k3 => assumption); (case k2 => assumption); (case k1 => assumption); (case k4 => assumption); (case e1 => exact rfl); k_whole; intro h' S' R' U'; (try dsimp only at S' R' U' ⊢))))
local macro_rules | `(tactic| walk_at "exec Raise some none") => `(tactic| (k_here; (with_reducible show wpAny _ _ (exec (Stmt.Raise (some (Expr.Call (Expr.Name _ _) (_ :: _) [] _)) none _) _) _ _ _); refine Raise_new rfl ?_))
local macro_rules | `(tactic| walk_at "InitBack") => `(tactic| (dsimp only [InitBack]))
local macro_rules | `(tactic| walk_at "subscriptTail Name Name ref int") => `(tactic| (k_here; (with_reducible show wpAny _ _ (subscriptTail _ _ (Value.ref _) (Value.int _ _)) _ _ _); (with_unfolding_all refine' item_refs ?k1 ?k2 ?k3 ?k4 ?_; (case k1 => k_asm); (case k2 => k_mem); (case k3 => assumption); (case k4 => assumption); k_whole)))
local macro_rules | `(tactic| walk_at "setItem ref int") => `(tactic| (k_here; (with_reducible show wpAny _ _ (setItem (Value.ref _) (Value.int _ _) (Value.ref _)) _ _ _); k_dflt (refine' set_refs ?k1 ?k2 ?k3 ?k4 ?k5 ?_; (case k1 => k_asm); (case k2 => k_asm); (case k3 => k_upd); (case k4 => assumption); (case k5 => assumption); k_whole); intro h' F' N'; (try k_sweep)))
local macro_rules | `(tactic| top_strB) => `(tactic| first | (with_reducible assumption) | (refine off_cons ?bo1 ?bo2; (case bo1 => k_ne); (case bo2 => top_strB)))
local macro_rules | `(tactic| walk_at "execs cons") => `(tactic| ((with_reducible show wpAny _ _ (execs [Stmt.If (Expr.Compare (Expr.Attribute _ _ _) _ _ _) _ _ _, Stmt.For _ _ _ _ _] _) _ _ _); refine stop_elim ?_))
local macro_rules | `(tactic| k_enter) => `(tactic| ((with_reducible show codeAny _ _ (Code.call (Value.ref 56) ⟨[Value.ref _, Value.ref _], _⟩) _ _); k_dflt (refine' Ctr.use (ring_call ?c0 ?c1 ?c2 ?c3) ?k1 ?k2 ?k3 ?k4 ?k5 ?kK ?kd ?ku ?_; (case k1 => k_asm); (case k2 => k_asm); (case k3 => k_asm); (case k4 => k_asm); (case k5 => k_asm); (case kK => first | exact rfl | assumption); (case c0 => exact ⟨_, _, _, _, _, _, by k_mem, by k_mem⟩); (case c1 => exact ⟨_, _, by k_mem, by l_ints⟩); (case c2 => ktr_rel); (case c3 => ktr_rel); (case kd => k_room); (case ku => k_units); k_whole; intro v' h' tk' nw' F' N' cP'; obtain ⟨x', d', t1', t2', hv', hn', o1', o2', n1'⟩ := cP'; subst hv'; subst hn'; (try dsimp only); kts_tail; (try k_sweep))))
section
local macro_rules | `(tactic| k_enter) => `(tactic| ((with_reducible show codeAny _ _ (Code.call (Value.ref 56) ⟨[Value.ref _, Value.int _ _], _⟩) _ _); k_dflt (refine' Ctr.use (ringI_call ?c0 ?c1 ?c2) ?k1 ?k2 ?k3 ?k4 ?k5 ?kK ?kd ?ku ?_; (case k1 => k_asm); (case k2 => k_asm); (case k3 => k_asm); (case k4 => k_asm); (case k5 => k_asm); (case kK => first | exact rfl | assumption); (case c0 => exact ⟨_, _, _, _, _, _, by k_mem, by k_mem⟩); (case c1 => ktr_rel); (case c2 => ktr_rel); (case kd => k_room); (case ku => k_units); k_whole; intro v' h' tk' nw' F' N' cP'; obtain ⟨x', d', l', t1', t2', vs', e', hv', hn', hi', o1', o2', o3', n1', n2', n3'⟩ := cP'; subst hv'; subst hn'; (try dsimp only); kts_tail; (try k_sweep))))
local macro_rules | `(tactic| k_enter) => `(tactic| ((show codeAny _ _ (Code.call (Value.ref 42) ⟨[Value.ref _], _⟩) _ _); k_dflt (refine' Ctr.use (zero_call ?c0 ?c1 ?c2) ?k1 ?k2 ?k3 ?k4 ?k5 ?kK ?kd ?ku ?_; (case k1 => k_asm); (case k2 => k_asm); (case k3 => k_asm); (case k4 => k_asm); (case k5 => k_asm); (case kK => first | exact rfl | assumption); (case c0 => exact ⟨_, _, _, _, _, _, by k_mem, by k_mem⟩); (case c1 => ktr_rel); (case c2 => ktr_rel); (case kd => k_room); (case ku => k_units); k_whole; intro v' h' tk' nw' F' N' cP'; obtain ⟨x', d', l', t1', t2', vs', e', hv', hn', hi', o1', o2', o3', n1', n2', n3'⟩ := cP'; subst hv'; subst hn'; (try dsimp only); kts_tail; (try k_sweep))))
local macro_rules | `(tactic| k_enter) => `(tactic| ((show codeAny _ _ (Code.call (Value.ref 49) ⟨[Value.ref _], _⟩) _ _); k_dflt (refine' Ctr.use (gen_call ?c0 ?c1 ?c2 ?c3) ?k1 ?k2 ?k3 ?k4 ?k5 ?kK ?kd ?ku ?_; (case k1 => k_asm); (case k2 => k_asm); (case k3 => k_asm); (case k4 => k_asm); (case k5 => k_asm); (case kK => first | exact rfl | assumption); (case c0 => exact ⟨_, _, _, _, _, _, by k_mem, by k_mem⟩); (case c1 => ktr_rel); (case c2 => ktr_rel); (case c3 => ktr_rel); (case kd => k_room); (case ku => k_units); k_whole; intro v' h' tk' nw' F' N' cP'; obtain ⟨x', d', l', t1', t2', vs', e', hv', hn', hi', o1', o2', o3', n1', n2', n3'⟩ := cP'; subst hv'; subst hn'; (try dsimp only); kts_tail; (try k_sweep))))
local macro_rules | `(tactic| walk_at "execs cons") => `(tactic| ((with_reducible show wpAny _ _ (execs [Stmt.For _ _ _ _ _, Stmt.Return _ _] _) _ _ _); refine stop_elim ?_))
def pick3 {α : Type} (a b c : α) : Nat → α
  | 0 => a
  | 1 => b
  | _ => c
theorem all3 {P : Nat → Prop} (h0 : P 0) (h1 : P 1) (h2 : P 2) : ∀ i, i < 3 → P i
  | 0, _ => h0
  | 1, _ => h1
  | 2, _ => h2
  | k + 3, h => absurd h (by omega)
theorem rows_of {w : World} {q n : Int} {r x0 x1 x2 y0 y1 y2 : Addr} {f0 f1 f2 : List Int} {M : Led} (hR : Ring w M r q n) (p0 : ∃ l, Poly w M x0 r l f0) (p1 : ∃ l, Poly w M x1 r l f1) (p2 : ∃ l, Poly w M x2 r l f2)
    (d0 : Ints M y0 f0) (d1 : Ints M y1 f1) (d2 : Ints M y2 f2) (n0 : (f0.length : Int) = n) (n1 : (f1.length : Int) = n) (n2 : (f2.length : Int) = n) (b0 : ∀ c ∈ f0, 0 ≤ c ∧ c < q) (b1 : ∀ c ∈ f1, 0 ≤ c ∧ c < q) (b2 : ∀ c ∈ f2, 0 ≤ c ∧ c < q) :
    Rows w q n r (pick3 x0 x1 x2) (pick3 y0 y1 y2) (pick3 f0 f1 f2) M where
  ring := hR
  poly := all3 p0 p1 p2
  dues := all3 d0 d1 d2
  len := all3 n0 n1 n2
  bnd := all3 b0 b1 b2
theorem start_led {h₀ h : Heap} {L H U : Addr} {A B : Led} {oH oU oV oQ t1 t2 : Obj} (N : News h₀ L h ((U, oU) :: (A ++ (H, oH) :: (B ++ [(L + 1 + 1, oV), (L + 1, oQ), (86, t1), (93, t2)])))) :
    News h₀ L h ((H, oH) :: (U, oU) :: (L + 1 + 1, oV) :: (L + 1, oQ) :: (86, t1) :: (93, t2) :: (A ++ B)) := by
  refine cb_drop N ?_
  intro p hp
  simp only [List.mem_cons, List.mem_append, List.not_mem_nil, or_false] at hp ⊢
  rcases hp with h | h | h | h | h | h | h | h <;> simp [h]
theorem e0 {n : Int} (h1 : 1 ≤ n) (h4 : n ≤ 4) : [0] ++ (rangeKs 0 (n - 1 - 0).toNat).map (fun _ => (0 : Int)) = (List.replicate n.toNat [0]).flatten := by
  obtain rfl | rfl | rfl | rfl : n = 1 ∨ n = 2 ∨ n = 3 ∨ n = 4 := by omega
  all_goals decide +kernel
theorem e1 {n : Int} (h1 : 1 ≤ n) (h4 : n ≤ 4) : [1] ++ (rangeKs 0 (n - 1 - 0).toNat).map (fun _ => (0 : Int)) = [1] ++ (List.replicate (n - 1).toNat [0]).flatten := by
  obtain rfl | rfl | rfl | rfl : n = 1 ∨ n = 2 ∨ n = 3 ∨ n = 4 := by omega
  all_goals decide +kernel
theorem e2 {n : Int} (h1 : 1 < n) (h4 : n ≤ 4) : [0, 1] ++ (rangeKs 0 (n - 2 - 0).toNat).map (fun _ => (0 : Int)) = [0, 1] ++ (List.replicate (n - 2).toNat [0]).flatten := by
  obtain rfl | rfl | rfl : n = 2 ∨ n = 3 ∨ n = 4 := by omega
  all_goals decide +kernel
theorem bnd_app {q : Int} {xs : List Int} {k : Nat} (h : ∀ c ∈ xs, 0 ≤ c ∧ c < q) (hq : 2 ≤ q) : ∀ c ∈ xs ++ (rangeKs 0 k).map (fun _ => (0 : Int)), 0 ≤ c ∧ c < q := by
  intro c hc
  rcases List.mem_append.mp hc with h' | h'
  · exact h c h'
  · obtain ⟨_, _, rfl⟩ := List.mem_map.mp h'; omega
theorem bnd0 {q : Int} (hq : 2 ≤ q) : ∀ c ∈ ([0] : List Int), 0 ≤ c ∧ c < q := by
  intro c hc; rw [List.mem_singleton.mp hc]; omega
theorem bnd1 {q : Int} (hq : 2 ≤ q) : ∀ c ∈ ([1] : List Int), 0 ≤ c ∧ c < q := by
  intro c hc; rw [List.mem_singleton.mp hc]; omega
theorem bnd01 {q : Int} (hq : 2 ≤ q) : ∀ c ∈ ([0, 1] : List Int), 0 ≤ c ∧ c < q := by
  intro c hc
  simp only [List.mem_cons, List.not_mem_nil, or_false] at hc
  rcases hc with rfl | rfl <;> omega
theorem bndq {q : Int} (hq : 2 ≤ q) : ∀ c ∈ ([q - 1] : List Int), 0 ≤ c ∧ c < q := by
  intro c hc; rw [List.mem_singleton.mp hc]; omega
theorem pf_b {w : World} {h₀ : Heap} {L fa : Addr} {cd : Value} {p : Program} {loose : List Str} {mean : ExcName → Option Value} {mg mb : Str → Option Value} {m : Str → Option Value} {s : Shared}
    {lqual : Str} {body tb : List Stmt} {scope : Scope} {a0 a1 a2 a3 a4 a6 t0 t1 t2 t3 t4 : Stmt} {iter : Expr} {nx : Str} {px fp : Pos}
    {D : Addr} {oV oQ : Obj} {v₀ : Option Value} {Q : Flow → Shared → Prop} {q n : Int} {tq tn : Tok}
    (hK : LawAt w lqual body scope) (hb : body = [a0, a1, a2, a3, a4, .For (.Name nx px) iter tb [] fp, a6]) (ht : tb = [t0, t1, t2, t3, t4])
    (B : Below callerA h₀ [] h₀) (X₀ : (hd.heap_1 w.params).In h₀) (T : Top p loose mean mg mb h₀)
    (hq : 2 ≤ q) (hq2 : q < 2 ^ 33) (hn1 : 1 ≤ n) (hn : n ≤ 4) (hL93 : 93 < L)
    (F : Fr h₀ L s.heap m) (N : News h₀ L s.heap ((L + 1 + 1, oV) :: (L + 1, oQ) :: (86, tabObj #[]) :: (93, tabObj #[]) :: []))
    (hV : oV.data = .cell v₀) (hQ : oQ.data = .cell (some (.int q tq)))
    (hm1 : m (Str.ofString "script") = some (.ref D)) (hm2 : m (Str.ofString "n") = some (.int n tn))
    (next : ∀ s' m' news' r H U, Fr h₀ L s'.heap m' → News h₀ L s'.heap news' → s'.gens = s.gens → s'.os = s.os → LawJ w q n L r H U m' news' →
      m' (Str.ofString "script") = some (.ref D) →
      wpAny (model PySem.Challenge.rw_bn0014_01.row.toRowW.prog w) (callerA.deeper (lawEnv lqual scope L fa cd)) (execs [.For (.Name nx px) iter tb [] fp, a6] (lawEnv lqual scope L fa cd)) Q (fun _ _ => False) s') :
    wpAny (model PySem.Challenge.rw_bn0014_01.row.toRowW.prog w) (callerA.deeper (lawEnv lqual scope L fa cd)) (execs [a2, a3, a4, .For (.Name nx px) iter tb [] fp, a6] (lawEnv lqual scope L fa cd)) Q (fun _ _ => False) s := by
  refine' lite ?lw ?lx ?le
  case lw =>
    have hKK := hK
    obtain ⟨oc, od, lname, params, dV, kV, doc, pm, an, cdv, ct, osl, hK⟩ := hK
    revert hK X₀
    k_fill
    intro X₀ hK
    refine' lk_elim hK ?hz ?_
    case hz => k_dflt k_is
    intro hE
    cases hE
    cases hb
    cases ht
    clear hK
    replace F := fr_sets (l := [(Str.ofString "script", .ref D), (Str.ofString "n", .int n tn)]) F (by simp [hm1, hm2])
    (try k_fold)
    k_steps
    · have N9 := start_led (A := [_, _, _, _, _, _, _, _, _, _]) (B := [_, _, _, _, _, _, _, _, _, _, _]) (by k_asm)
      simp only [List.cons_append, List.nil_append] at N9
      refine next _ _ _ _ _ _ (by k_asm) N9 rfl rfl ⟨pick3 _ _ _, pick3 _ _ _, pick3 ([0] ++ (rangeKs 0 (n - 1 - 0).toNat).map fun _ => 0) ([1] ++ (rangeKs 0 (n - 1 - 0).toNat).map fun _ => 0) ([0, 1] ++ (rangeKs 0 (n - 2 - 0).toNat).map fun _ => 0), _, _, _, _, _, _, _, _, _, _, rfl, rows_of ?r0 ?r1 ?r2 ?r3 ?r4 ?r5 ?r6 ?r7 ?r8 ?r9 (bnd_app (bnd0 hq) hq) (bnd_app (bnd1 hq) hq) (bnd_app (bnd01 hq) hq), ⟨?a1, ?a2, ?a3, ?a4, ?a5, ?a6, ?a7, ?a8, hL93⟩, hV, hQ, .inl rfl, .inl rfl, rfl, rfl, rfl, rfl⟩ rfl
      case r0 => exact ⟨_, _, _, _, _, _, .tail _ (.tail _ (.tail _ (.tail _ (.tail _ (.tail _ (.tail _ (.tail _ (.tail _ (.tail _ (.tail _ (.tail _ (.tail _ (.tail _ (.tail _ (.tail _ (.tail _ (.tail _ (.tail _ (.head _))))))))))))))))))), .tail _ (.tail _ (.tail _ (.tail _ (.tail _ (.tail _ (.tail _ (.tail _ (.tail _ (.tail _ (.tail _ (.tail _ (.tail _ (.tail _ (.tail _ (.tail _ (.tail _ (.tail _ (.tail _ (.tail _ (.head _))))))))))))))))))))⟩
      case r1 => exact ⟨_, ⟨_, _, .tail _ (.tail _ (.tail _ (.tail _ (.tail _ (.tail _ (.tail _ (.tail _ (.tail _ (.tail _ (.tail _ (.tail _ (.tail _ (.tail _ (.tail _ (.tail _ (.tail _ (.tail _ (.head _)))))))))))))))))), by first | assumption | l_ints⟩, _, _, _, _, .tail _ (.tail _ (.tail _ (.tail _ (.tail _ (.tail _ (.tail _ (.tail _ (.tail _ (.tail _ (.tail _ (.tail _ (.tail _ (.tail _ (.tail _ (.tail _ (.head _)))))))))))))))), .tail _ (.tail _ (.tail _ (.tail _ (.tail _ (.tail _ (.tail _ (.tail _ (.tail _ (.tail _ (.tail _ (.tail _ (.tail _ (.tail _ (.tail _ (.tail _ (.tail _ (.head _)))))))))))))))))⟩
      case r2 => exact ⟨_, ⟨_, _, .tail _ (.tail _ (.tail _ (.tail _ (.tail _ (.tail _ (.tail _ (.tail _ (.tail _ (.tail _ (.tail _ (.tail _ (.tail _ (.tail _ (.tail _ (.head _))))))))))))))), by first | assumption | l_ints⟩, _, _, _, _, .tail _ (.tail _ (.tail _ (.tail _ (.tail _ (.tail _ (.tail _ (.tail _ (.tail _ (.tail _ (.tail _ (.tail _ (.tail _ (.head _))))))))))))), .tail _ (.tail _ (.tail _ (.tail _ (.tail _ (.tail _ (.tail _ (.tail _ (.tail _ (.tail _ (.tail _ (.tail _ (.tail _ (.tail _ (.head _))))))))))))))⟩
      case r3 => exact ⟨_, ⟨_, _, .tail _ (.tail _ (.tail _ (.tail _ (.tail _ (.tail _ (.tail _ (.tail _ (.tail _ (.tail _ (.tail _ (.tail _ (.head _)))))))))))), by first | assumption | l_ints⟩, _, _, _, _, .tail _ (.tail _ (.tail _ (.tail _ (.tail _ (.tail _ (.tail _ (.tail _ (.tail _ (.tail _ (.head _)))))))))), .tail _ (.tail _ (.tail _ (.tail _ (.tail _ (.tail _ (.tail _ (.tail _ (.tail _ (.tail _ (.tail _ (.head _)))))))))))⟩
      case r4 => rw [e0 hn1 hn]; exact ⟨_, _, .tail _ (.tail _ (.tail _ (.tail _ (.tail _ (.tail _ (.tail _ (.tail _ (.head _)))))))), by first | assumption | l_ints⟩
      case r5 => rw [e1 hn1 hn]; exact ⟨_, _, .tail _ (.tail _ (.tail _ (.tail _ (.head _)))), by first | assumption | l_ints⟩
      case r6 => rw [e2 (by assumption) hn]; exact ⟨_, _, .head _, by first | assumption | l_ints⟩
      case r7 => ktr_rel
      case r8 => ktr_rel
      case r9 => ktr_rel
      case a1 => top_strB
      case a2 => top_strB
      case a3 => top_strB
      case a4 => top_strB
      case a5 => top_strB
      case a6 => top_strB
      case a7 => omega
      case a8 => omega
    · have N9 := start_led (A := [_, _, _, _, _, _, _]) (B := [_, _, _, _, _, _, _, _, _, _, _]) (by k_asm)
      simp only [List.cons_append, List.nil_append] at N9
      refine next _ _ _ _ _ _ (by k_asm) N9 rfl rfl ⟨pick3 _ _ _, pick3 _ _ _, pick3 ([0] ++ (rangeKs 0 (n - 1 - 0).toNat).map fun _ => 0) ([1] ++ (rangeKs 0 (n - 1 - 0).toNat).map fun _ => 0) [q - 1], _, _, _, _, _, _, _, _, _, _, rfl, rows_of ?r0 ?r1 ?r2 ?r3 ?r4 ?r5 ?r6 ?r7 ?r8 ?r9 (bnd_app (bnd0 hq) hq) (bnd_app (bnd1 hq) hq) (bndq hq), ⟨?a1, ?a2, ?a3, ?a4, ?a5, ?a6, ?a7, ?a8, hL93⟩, hV, hQ, .inl rfl, .inl rfl, rfl, rfl, rfl, rfl⟩ rfl
      case r0 => exact ⟨_, _, _, _, _, _, .tail _ (.tail _ (.tail _ (.tail _ (.tail _ (.tail _ (.tail _ (.tail _ (.tail _ (.tail _ (.tail _ (.tail _ (.tail _ (.tail _ (.tail _ (.tail _ (.head _)))))))))))))))), .tail _ (.tail _ (.tail _ (.tail _ (.tail _ (.tail _ (.tail _ (.tail _ (.tail _ (.tail _ (.tail _ (.tail _ (.tail _ (.tail _ (.tail _ (.tail _ (.tail _ (.head _)))))))))))))))))⟩
      case r1 => exact ⟨_, ⟨_, _, .tail _ (.tail _ (.tail _ (.tail _ (.tail _ (.tail _ (.tail _ (.tail _ (.tail _ (.tail _ (.tail _ (.tail _ (.tail _ (.tail _ (.tail _ (.head _))))))))))))))), by first | assumption | l_ints⟩, _, _, _, _, .tail _ (.tail _ (.tail _ (.tail _ (.tail _ (.tail _ (.tail _ (.tail _ (.tail _ (.tail _ (.tail _ (.tail _ (.tail _ (.head _))))))))))))), .tail _ (.tail _ (.tail _ (.tail _ (.tail _ (.tail _ (.tail _ (.tail _ (.tail _ (.tail _ (.tail _ (.tail _ (.tail _ (.tail _ (.head _))))))))))))))⟩
      case r2 => exact ⟨_, ⟨_, _, .tail _ (.tail _ (.tail _ (.tail _ (.tail _ (.tail _ (.tail _ (.tail _ (.tail _ (.tail _ (.tail _ (.tail _ (.head _)))))))))))), by first | assumption | l_ints⟩, _, _, _, _, .tail _ (.tail _ (.tail _ (.tail _ (.tail _ (.tail _ (.tail _ (.tail _ (.tail _ (.tail _ (.head _)))))))))), .tail _ (.tail _ (.tail _ (.tail _ (.tail _ (.tail _ (.tail _ (.tail _ (.tail _ (.tail _ (.tail _ (.head _)))))))))))⟩
      case r3 => exact ⟨_, ⟨_, _, .tail _ (.tail _ (.tail _ (.tail _ (.tail _ (.tail _ (.tail _ (.tail _ (.tail _ (.head _))))))))), by first | assumption | l_ints⟩, _, _, _, _, .tail _ (.tail _ (.tail _ (.tail _ (.tail _ (.tail _ (.tail _ (.head _))))))), .tail _ (.tail _ (.tail _ (.tail _ (.tail _ (.tail _ (.tail _ (.tail _ (.head _))))))))⟩
      case r4 => rw [e0 hn1 hn]; exact ⟨_, _, .tail _ (.tail _ (.tail _ (.tail _ (.tail _ (.head _))))), by first | assumption | l_ints⟩
      case r5 => rw [e1 hn1 hn]; exact ⟨_, _, .tail _ (.head _), by first | assumption | l_ints⟩
      case r6 => exact ⟨_, _, .head _, by first | assumption | l_ints⟩
      case r7 => ktr_rel
      case r8 => ktr_rel
      case r9 => ktr_rel
      case a1 => top_strB
      case a2 => top_strB
      case a3 => top_strB
      case a4 => top_strB
      case a5 => top_strB
      case a6 => top_strB
      case a7 => omega
      case a8 => omega
  case lx => intro hk; simpa only using hk (0 : Nat)
  case le => eq_refl
end
end
section
local macro_rules | `(tactic| k_mem) => `(tactic| ((fail_if_success (with_reducible refine' List.Mem.tail _ ?_)); first | with_reducible assumption | assumption | (refine sub_mem (by assumption) ?_; k_mem)))
local macro_rules | `(tactic| news_mem) => `(tactic| k_mem)
local macro_rules | `(tactic| k_room) => `(tactic| ((simp only [depth_under_make, depth_under_kw, depth_in1, depth_deeper, depth_caller, recursionLimit] at *); omega))
local macro_rules | `(tactic| k_units) => `(tactic| ((have hcL9 := cLine_is); (simp only [units_in1, units_deeper, Around.mark_units, units_caller, cLine] at *); omega))
local macro_rules | `(tactic| allgen_close2_more) => `(tactic| assumption)
local macro_rules | `(tactic| ktr_rel) => `(tactic| ((try simp only [List.length_append, List.length_cons, List.length_nil, List.length_map, List.length_set, List.length_zipWith, rangeKs_length]); first | assumption | omega))
local macro_rules | `(tactic| top_reprB) => `(tactic| first | exact List.forall_mem_nil _ | (refine List.forall_mem_cons.mpr ⟨by k_mem, ?_⟩; top_reprB) | (intro p hp; k_mem))
local macro_rules | `(tactic| k_ne) => `(tactic| (refine neN ?_; (try dsimp only); first | (with_reducible assumption) | exact Ne.symm (by with_reducible assumption) | exact off_ne (by with_reducible assumption) (by k_mem) | exact Ne.symm (off_ne (by with_reducible assumption) (by k_mem)) | omega))
local macro_rules | `(tactic| top_strB) => `(tactic| first | (first | assumption | exact allLt_of (by assumption) | exact And.right (by assumption) | exact And.right (And.right (by assumption)) | exact And.right (And.right (And.right (by assumption))) | exact And.right (And.right (And.right (And.right (by assumption)))) | exact And.right (And.right (And.right (And.right (And.right (by assumption))))) | exact And.right (And.right (And.right (And.right (And.right (And.right (by assumption)))))) | exact And.right (And.right (And.right (And.right (And.right (And.right (And.right (by assumption))))))) | exact And.right (And.right (And.right (And.right (And.right (And.right (And.right (And.right (by assumption)))))))) | exact And.right (And.right (And.right (And.right (And.right (And.right (And.right (And.right (And.right (by assumption))))))))) | exact And.right (And.right (And.right (And.right (And.right (And.right (And.right (And.right (And.right (And.right (by assumption)))))))))) | exact And.right (And.right (And.right (And.right (And.right (And.right (And.right (And.right (And.right (And.right (And.right (by assumption))))))))))) | exact And.right (And.right (And.right (And.right (And.right (And.right (And.right (And.right (And.right (And.right (And.right (And.right (by assumption)))))))))))) | exact And.right (And.right (And.right (And.right (And.right (And.right (And.right (And.right (And.right (And.right (And.right (And.right (And.right (by assumption))))))))))))) | exact And.right (And.right (And.right (And.right (And.right (And.right (And.right (And.right (And.right (And.right (And.right (And.right (And.right (And.right (by assumption)))))))))))))) | exact And.right (And.right (And.right (And.right (And.right (And.right (And.right (And.right (And.right (And.right (And.right (And.right (And.right (And.right (And.right (by assumption))))))))))))))) | exact And.right (And.right (And.right (And.right (And.right (And.right (And.right (And.right (And.right (And.right (And.right (And.right (And.right (And.right (And.right (And.right (by assumption)))))))))))))))) | exact And.right (And.right (And.right (And.right (And.right (And.right (And.right (And.right (And.right (And.right (And.right (And.right (And.right (And.right (And.right (And.right (And.right (by assumption))))))))))))))))) | exact And.right (And.right (And.right (And.right (And.right (And.right (And.right (And.right (And.right (And.right (And.right (And.right (And.right (And.right (And.right (And.right (And.right (And.right (by assumption)))))))))))))))))) | exact And.right (And.right (And.right (And.right (And.right (And.right (And.right (And.right (And.right (And.right (And.right (And.right (And.right (And.right (And.right (And.right (And.right (And.right (And.right (by assumption)))))))))))))))))))) | exact off_sub (by with_reducible assumption) (by top_reprB) | exact off_of_lt (by (first | assumption | exact allLt_of (by assumption) | exact And.right (by assumption) | exact And.right (And.right (by assumption)) | exact And.right (And.right (And.right (by assumption))) | exact And.right (And.right (And.right (And.right (by assumption)))) | exact And.right (And.right (And.right (And.right (And.right (by assumption))))) | exact And.right (And.right (And.right (And.right (And.right (And.right (by assumption)))))) | exact And.right (And.right (And.right (And.right (And.right (And.right (And.right (by assumption))))))) | exact And.right (And.right (And.right (And.right (And.right (And.right (And.right (And.right (by assumption)))))))) | exact And.right (And.right (And.right (And.right (And.right (And.right (And.right (And.right (And.right (by assumption))))))))) | exact And.right (And.right (And.right (And.right (And.right (And.right (And.right (And.right (And.right (And.right (by assumption)))))))))) | exact And.right (And.right (And.right (And.right (And.right (And.right (And.right (And.right (And.right (And.right (And.right (by assumption))))))))))) | exact And.right (And.right (And.right (And.right (And.right (And.right (And.right (And.right (And.right (And.right (And.right (And.right (by assumption)))))))))))) | exact And.right (And.right (And.right (And.right (And.right (And.right (And.right (And.right (And.right (And.right (And.right (And.right (And.right (by assumption))))))))))))) | exact And.right (And.right (And.right (And.right (And.right (And.right (And.right (And.right (And.right (And.right (And.right (And.right (And.right (And.right (by assumption)))))))))))))) | exact And.right (And.right (And.right (And.right (And.right (And.right (And.right (And.right (And.right (And.right (And.right (And.right (And.right (And.right (And.right (by assumption))))))))))))))) | exact And.right (And.right (And.right (And.right (And.right (And.right (And.right (And.right (And.right (And.right (And.right (And.right (And.right (And.right (And.right (And.right (by assumption)))))))))))))))) | exact And.right (And.right (And.right (And.right (And.right (And.right (And.right (And.right (And.right (And.right (And.right (And.right (And.right (And.right (And.right (And.right (And.right (by assumption))))))))))))))))) | exact And.right (And.right (And.right (And.right (And.right (And.right (And.right (And.right (And.right (And.right (And.right (And.right (And.right (And.right (And.right (And.right (And.right (And.right (by assumption)))))))))))))))))) | exact And.right (And.right (And.right (And.right (And.right (And.right (And.right (And.right (And.right (And.right (And.right (And.right (And.right (And.right (And.right (And.right (And.right (And.right (And.right (by assumption))))))))))))))))))))) | exact off_of_lt2 (by (first | assumption | exact allLt_of (by assumption) | exact And.right (by assumption) | exact And.right (And.right (by assumption)) | exact And.right (And.right (And.right (by assumption))) | exact And.right (And.right (And.right (And.right (by assumption)))) | exact And.right (And.right (And.right (And.right (And.right (by assumption))))) | exact And.right (And.right (And.right (And.right (And.right (And.right (by assumption)))))) | exact And.right (And.right (And.right (And.right (And.right (And.right (And.right (by assumption))))))) | exact And.right (And.right (And.right (And.right (And.right (And.right (And.right (And.right (by assumption)))))))) | exact And.right (And.right (And.right (And.right (And.right (And.right (And.right (And.right (And.right (by assumption))))))))) | exact And.right (And.right (And.right (And.right (And.right (And.right (And.right (And.right (And.right (And.right (by assumption)))))))))) | exact And.right (And.right (And.right (And.right (And.right (And.right (And.right (And.right (And.right (And.right (And.right (by assumption))))))))))) | exact And.right (And.right (And.right (And.right (And.right (And.right (And.right (And.right (And.right (And.right (And.right (And.right (by assumption)))))))))))) | exact And.right (And.right (And.right (And.right (And.right (And.right (And.right (And.right (And.right (And.right (And.right (And.right (And.right (by assumption))))))))))))) | exact And.right (And.right (And.right (And.right (And.right (And.right (And.right (And.right (And.right (And.right (And.right (And.right (And.right (And.right (by assumption)))))))))))))) | exact And.right (And.right (And.right (And.right (And.right (And.right (And.right (And.right (And.right (And.right (And.right (And.right (And.right (And.right (And.right (by assumption))))))))))))))) | exact And.right (And.right (And.right (And.right (And.right (And.right (And.right (And.right (And.right (And.right (And.right (And.right (And.right (And.right (And.right (And.right (by assumption)))))))))))))))) | exact And.right (And.right (And.right (And.right (And.right (And.right (And.right (And.right (And.right (And.right (And.right (And.right (And.right (And.right (And.right (And.right (And.right (by assumption))))))))))))))))) | exact And.right (And.right (And.right (And.right (And.right (And.right (And.right (And.right (And.right (And.right (And.right (And.right (And.right (And.right (And.right (And.right (And.right (And.right (by assumption)))))))))))))))))) | exact And.right (And.right (And.right (And.right (And.right (And.right (And.right (And.right (And.right (And.right (And.right (And.right (And.right (And.right (And.right (And.right (And.right (And.right (And.right (by assumption))))))))))))))))))))) (by omega) | exact off_of_base (by assumption) (by omega))
local macro_rules | `(tactic| k_all) => `(tactic| (refine off_all ?_; top_strB))
local macro_rules | `(tactic| walk_at "getMethod ref") => `(tactic| (k_here; k_dflt (refine' kmu_own ?k1 ?k2 ?k3 ?k4 ?k5 ?_; (case k1 => k_asm); (case k2 => k_asm); (case k3 => k_inst); (case k4 => k_is); (case k5 => k_is); k_whole)))
local macro_rules | `(tactic| walk_at "binaryOp Mult int int") => `(tactic| (k_here; with_reducible first | refine PyProof.Rows.mul_int ?_ (mulok_getD (by assumption) (by assumption) (by assumption)) | refine PyProof.Rows.mul_int ?_ (mulok_mem (by assumption) (by assumption) (by assumption))))
local macro_rules | `(tactic| top_name) => `(tactic| (law_purse 40000 => (law_clear; (repeat (with_reducible rename (@Ne Nat _ _) ∧ _ => hne9; clear hne9)); (repeat (with_reducible rename (@LT.lt Nat _ _ _) ∧ _ => hne9; clear hne9)); (repeat (with_reducible rename (@Ne Nat _ _) => hne9; clear hne9)); (try simp only [List.length_append, List.length_cons, List.length_nil, List.length_map, List.length_take, List.length_set, List.length_zipWith, rangeKs_length]); omega)))
local macro_rules | `(tactic| walk_at "subscriptTail Name Name ref int") => `(tactic| ((k_here; (with_reducible show wpAny _ _ (subscriptTail _ _ (Value.ref _) (Value.int _ _)) _ _ _); (with_unfolding_all refine' item_list_ints ?k1 ?k2 ?k3 ?k4 ?k5 ?_; (case k1 => exact News.isList (by k_asm) (by k_mem)); (case k2 => l_ints); (case k3 => first | assumption | top_name); (case k4 => first | assumption | exact idx_hi (by assumption) (by first | assumption | exact Nat.le_refl _) | top_name); (case k5 => first | assumption | exact idx_fit (by assumption) (by assumption) | top_name); k_whole); intro _)))
local macro_rules | `(tactic| walk_at "subscriptTail Name BinOp ref int") => `(tactic| ((k_here; (with_reducible show wpAny _ _ (subscriptTail _ _ (Value.ref _) (Value.int _ _)) _ _ _); (with_unfolding_all refine' item_list_ints ?k1 ?k2 ?k3 ?k4 ?k5 ?_; (case k1 => exact News.isList (by k_asm) (by k_mem)); (case k2 => l_ints); (case k3 => first | assumption | top_name); (case k4 => first | assumption | exact idx_hi (by assumption) (by first | assumption | exact Nat.le_refl _) | top_name); (case k5 => first | assumption | exact idx_fit (by assumption) (by assumption) | top_name); k_whole); intro _)))
local macro_rules | `(tactic| walk_at "call builtin:list.copy") => `(tactic| (k_here; (with_reducible show wpAny _ _ (call (Value.builtin _) [Value.ref _]) _ _ _); k_dflt (refine' copyK ?k1 ?k2 ?k3 ?k4 ?_; (case k1 => k_asm); (case k2 => k_asm); (case k3 => exact News.isList (by k_asm) (by k_mem)); (case k4 => exact ints_size (by l_ints) (by top_name)); k_whole); intro D' h' F' N' l1; (try k_lt l1); (try k_sweep)))
local macro_rules | `(tactic| walk_at "setItem ref int") => `(tactic| (k_here; (with_reducible show wpAny _ _ (setItem (Value.ref _) (Value.int _ _) (Value.int _ _)) _ _ _); k_dflt (refine' ksa_set ?k1 ?k2 ?k3 ?k4 ?k5 ?k6 ?k7 ?_; (case k1 => k_asm); (case k2 => k_asm); (case k3 => k_upd); (case k4 => l_ints); (case k5 => first | assumption | top_name); (case k6 => first | assumption | top_name); (case k7 => first | assumption | top_name); k_whole); intro h' F' N' hi' hl' hs'; clear hs'; (try k_sweep)))
local macro_rules | `(tactic| walk_at "callWith ref") => `(tactic| (k_here; kco_here; k_dflt (refine' kco_callWith ?k1 ?k2 ?k3 ?k4 ?_; (case k1 => k_in); (case k2 => k_inst); (case k3 => rfl); (case k4 => k_is); k_whole)))
local macro_rules | `(tactic| allgen_close_more) => `(tactic| first | k_asm | (refine' cb_drop ?cbN ?cbS; (case cbN => assumption); (case cbS => top_reprB)))
local macro_rules | `(tactic| walk_at "exec For Name Call cons nil") => `(tactic| (k_here; k_dflt (refine For_turns (by k_asm) ?_ (by intro _; with_unfolding_all rfl) (by passes_own)); (try k_fold)))
local macro_rules | `(tactic| walk_at "getItem ref int") => `(tactic| (k_here; (with_reducible show wpAny _ _ (getItem (Value.ref _) (Value.int _ _)) _ _ _); k_dflt (refine' ksa_get ?k1 ?k2 ?k3 ?k4 ?k5 ?k6 ?_; (case k1 => k_asm); (case k2 => k_mem); (case k3 => l_ints); (case k4 => first | assumption | top_name); (case k5 => first | assumption | top_name); (case k6 => first | assumption | top_name); k_whole); intro _))
local macro_rules | `(tactic| walk_at "CompSrc") => `(tactic| (k_here; k_dflt (refine' LCg.CompSrc.ledger ?s1 ?s2 ?s3 ?s4 ?s5 ?_; (case s1 => rfl); (case s2 => k_asm); (case s3 => k_asm); (case s4 => k_mem); (case s5 => exact ints_sizeA (by l_ints) (by first | assumption | top_name)); intro g'; (refine' kcf_list _ (by l_ints) (fun k' t' I' oI' C' oC' D' m' ys' h' tk' E' hk' hC' hx' F' N' off' ne' hMark' => ?_) ?_); (all_goals (try (simp only [LCg.Off3, and_true] at off'))); kcf_last)))
local macro_rules | `(tactic| allgen_close2_more) => `(tactic| first | assumption | exact school_bnd (by assumption) _ _ | exact one_bnd (by assumption) | exact times_bnd (by assumption) _ _ | exact map_bnd (by assumption) _ _ | exact zip_bnd (by assumption) _ _ _ | exact set_bnd (by assumption) (by allgen_close2_more))
local macro_rules | `(tactic| ktr_rel) => `(tactic| ((simp only [List.length_append, List.length_cons, List.length_nil, List.length_map, List.length_set, List.length_zipWith, rangeKs_length, schoolS_length, timesS_length]); omega))
local macro_rules | `(tactic| walk_at "call builtin:all") => `(tactic| (k_here; (with_reducible rename GenOnD _ _ _ _ _ _ _ _ _ => gxX'); k_dflt (refine' all_gx ?k1 ?k2 ?k3 gxX' ?k4 ?k5 ?_; (case k1 => k_asm); (case k2 => k_asm); (case k3 => k_asm); (case k4 => k_asm); (case k5 => k_asm); k_whole); clear gxX'; intro s' F' N' G' hos'))
local macro_rules | `(tactic| walk_at "binaryOp Add int ref") => `(tactic| (k_here; (with_reducible show wpAny _ _ (binaryOp Operator.Add (Value.int _ _) (Value.ref _)) _ _ _); k_dflt (refine' rbin_add ?F ?X ?I ?hC ?hS ?hR ?hF ?h1 ?h2 ?hU ?_; (case F => k_asm); (case X => k_asm); (case I => k_inst); (case hC => k_is); (case hS => k_is); (case hR => k_is); (case hF => k_is); (case h1 => k_is); (case h2 => k_is); (case hU => k_is); k_whole)))
local macro_rules | `(tactic| walk_at "binaryOp Sub int ref") => `(tactic| (k_here; (with_reducible show wpAny _ _ (binaryOp Operator.Sub (Value.int _ _) (Value.ref _)) _ _ _); k_dflt (refine' rbin_sub ?F ?X ?I ?hC ?hS ?hR ?hF ?h1 ?h2 ?hU ?_; (case F => k_asm); (case X => k_asm); (case I => k_inst); (case hC => k_is); (case hS => k_is); (case hR => k_is); (case hF => k_is); (case h1 => k_is); (case h2 => k_is); (case hU => k_is); k_whole)))
local macro_rules | `(tactic| walk_at "binaryOp Mult int ref") => `(tactic| (k_here; (with_reducible show wpAny _ _ (binaryOp Operator.Mult (Value.int _ _) (Value.ref _)) _ _ _); k_dflt (refine' rbin_mul ?F ?X ?I ?hC ?hS ?hR ?hF ?h1 ?h2 ?hU ?_; (case F => k_asm); (case X => k_asm); (case I => k_inst); (case hC => k_is); (case hS => k_is); (case hR => k_is); (case hF => k_is); (case h1 => k_is); (case h2 => k_is); (case hU => k_is); k_whole)))
local macro_rules | `(tactic| walk_at "binaryOp Mult int int") => `(tactic| (k_here; with_reducible refine PyProof.Rows.mul_int ?_ (mulok_mem_r (by assumption) (by assumption) (by assumption))))
local macro_rules | `(tactic| walk_at "binaryOp Sub ref") => `(tactic| (k_here; (with_reducible show wpAny _ _ (binaryOp Operator.Sub (Value.ref _) (Value.ref _)) _ _ _); k_dflt (refine' ksp_binL ?F ?X ?N ?I ?hl ?hC ?hS ?hF ?hR ?hP ?h1 ?h2 ?hU ?_; (case F => k_asm); (case X => k_asm); (case N => k_asm); (case I => k_inst); (case hl => k_mem); (case hS => k_is); (case hF => k_is); (case hC => k_is); (case hR => k_is); (case hP => first | exact .inl rfl | exact .inr ⟨_, rfl⟩); (case h1 => k_is); (case h2 => k_is); (case hU => k_is); k_whole)))
local macro_rules | `(tactic| walk_at "leaving ref") => `(tactic| (k_here; (with_reducible rename KtsDicts _ _ => kdX); (with_reducible show wpAny _ _ (leaving (envOfC _ _ _ _ _) _) _ _ _); first
  | (refine' leave_raiseX ?k1 ?k0 ?k2 ?k3 ?e1 ?e2 ?_; (case k0 => first | assumption | exact Heap.MadeExc.of (by assumption)); (case k2 => assumption); (case k1 => assumption); (case k3 => k_asm); (case e1 => exact rfl); (case e2 => exact rfl); k_whole; intro h' t' S' R' U'; (try dsimp only at S' R' U' ⊢))
  | (refine' leave_onX ?k1 ?k2 ?k3 ?k4 ?e1 ?_; (case k3 => assumption); (case k2 => assumption); (case k1 => assumption); (case k4 => assumption); (case e1 => exact rfl); k_whole; intro h' S' R' U'; (try dsimp only at S' R' U' ⊢))
  | (refine' leave_newX ?k1 ?k0 ?k2 ?k3 ?e1 ?e2 ?_; (case k0 => assumption); (case k2 => assumption); (case k1 => assumption); (case k3 => k_asm); (case e1 => exact rfl); (case e2 => exact rfl); k_whole; intro h' S' R' U'; (try dsimp only at S' R' U' ⊢))
  | (refine' leave_onNX ?k1 ?k2 ?k3 ?k4 ?e1 ?_; (case k3 => assumption); (case k2 => assumption); (case k1 => assumption); (case k4 => assumption); (case e1 => exact rfl); k_whole; intro h' S' R' U'; (try dsimp only at S' R' U' ⊢))))
local macro_rules | `(tactic| walk_at "exec Raise some none") => `(tactic| (k_here; (with_reducible show wpAny _ _ (exec (Stmt.Raise (some (Expr.Call (Expr.Name _ _) (_ :: _) [] _)) none _) _) _ _ _); refine Raise_new rfl ?_))
local macro_rules | `(tactic| walk_at "InitBack") => `(tactic| (dsimp only [InitBack]))
local macro_rules | `(tactic| walk_at "subscriptTail Name Name ref int") => `(tactic| (k_here; (with_reducible show wpAny _ _ (subscriptTail _ _ (Value.ref _) (Value.int _ _)) _ _ _); (with_unfolding_all refine' item_refs ?k1 ?k2 ?k3 ?k4 ?_; (case k1 => k_asm); (case k2 => k_mem); (case k3 => assumption); (case k4 => assumption); k_whole)))
local macro_rules | `(tactic| walk_at "setItem ref int") => `(tactic| (k_here; (with_reducible show wpAny _ _ (setItem (Value.ref _) (Value.int _ _) (Value.ref _)) _ _ _); k_dflt (refine' set_refs ?k1 ?k2 ?k3 ?k4 ?k5 ?_; (case k1 => k_asm); (case k2 => k_asm); (case k3 => k_upd); (case k4 => assumption); (case k5 => assumption); k_whole); intro h' F' N'; (try k_sweep)))
local macro_rules | `(tactic| top_strB) => `(tactic| first | (with_reducible assumption) | (refine off_cons ?bo1 ?bo2; (case bo1 => k_ne); (case bo2 => top_strB)))
local macro_rules | `(tactic| walk_at "execs cons") => `(tactic| ((with_reducible show wpAny _ _ (execs [Stmt.If (Expr.Compare (Expr.Attribute _ _ _) _ _ _) _ _ _, Stmt.For _ _ _ _ _] _) _ _ _); refine stop_elim ?_))
local macro_rules | `(tactic| walk_at "compareOp NotEq ref ref") => `(tactic| (k_here; (with_reducible show wpAny _ _ (compareOp CmpOp.NotEq (Value.ref _) (Value.ref _)) _ _ _); k_dflt (refine' ne_inst (C := 227) (f := 217) ?hu ?F ?X ?I ?J ?q ?hf ?_; (case F => k_asm); (case X => k_asm); (case I => k_inst); (case J => k_inst); (case hu => k_units); (case q => kernel_rfl); (case hf => kernel_rfl); k_whole)))
local macro_rules | `(tactic| walk_at "NeBack") => `(tactic| (refine neBack_bool ?_))
local macro_rules | `(tactic| walk_at "compareOp NotEq bool bool") => `(tactic| (k_here; refine ne_bool_eq ?_ ?_; (focus (first | (with_reducible exact rfl) | ((with_reducible rename (@Eq (List Int) _ (List.flatten _)) => hx9); (simp only [hx9, decide_true, Bool.true_and]; done)) | ((with_reducible rename (Not (@Eq (List Int) _ (List.flatten _))) => hx9); (simp only [hx9, decide_false, Bool.false_and]; done))))))
local macro_rules | `(tactic| walk_at "compareOp Eq bool bool") => `(tactic| (k_here; refine eq_bool_eq ?_ ?_; (focus (first | (with_reducible exact rfl) | ((with_reducible rename (@Eq (List Int) _ (List.flatten _)) => hx9); (simp only [hx9, decide_true, Bool.true_and]; done)) | ((with_reducible rename (Not (@Eq (List Int) _ (List.flatten _))) => hx9); (simp only [hx9, decide_false, Bool.false_and]; done))))))
local macro_rules | `(tactic| walk_at "compareOp Eq int int") => `(tactic| (k_here; with_reducible refine eq_int_same ?_))
section
theorem tail_go {w : World} {h₀ : Heap} {L fa : Addr} {cd : Value} {p : Program} {loose : List Str} {mean : ExcName → Option Value} {mg mb : Str → Option Value} {m : Str → Option Value} {s : Shared}
    {lqual : Str} {body tb : List Stmt} {scope : Scope} {a0 a1 a2 a3 a4 a6 t0 t1 t2 t3 t4 : Stmt} {iter : Expr} {nx : Str} {px fp : Pos}
    {q n : Int} {r H U I D : Addr} {X Y : Nat → Addr} {f : Nat → List Int} {e1 e2 : Nat} {oV oQ oI oD : Obj} {ps1 ps2 : Array Value} {M : Led} {v₀ : Option Value} {tq tn : Tok} {Q : Flow → Shared → Prop} {xb yo lb : Addr} {fo : List Int}
    (hK : LawAt w lqual body scope) (hb : body = [a0, a1, a2, a3, a4, .For (.Name nx px) iter tb [] fp, a6]) (ht : tb = [t0, t1, t2, t3, t4])
    (B : Below callerA h₀ [] h₀) (X₀ : (hd.heap_1 w.params).In h₀) (T : Top p loose mean mg mb h₀) (hq : 2 ≤ q) (hq2 : q < 2 ^ 33) (hn1 : 1 ≤ n) (hn : n ≤ 4)
    (F : Fr h₀ L s.heap m) (N : News h₀ L s.heap ((I, oI) :: (D, oD) :: lawLed L H U X Y e1 e2 oV oQ ps1 ps2 M)) (G : AllBare s.gens) (R : Rows w q n r X Y f M) (A : Apart L H U M)
    (hV : oV.data = .cell v₀) (hQ : oQ.data = .cell (some (.int q tq))) (ht1 : TabAt ⟨33, 19, 33, 48⟩ ps1) (ht2 : TabAt ⟨36, 19, 36, 52⟩ ps2) (offI : LCg.Off1 I ((D, oD) :: lawLed L H U X Y e1 e2 oV oQ ps1 ps2 M)) (offD : LCg.Off1 D (lawLed L H U X Y e1 e2 oV oQ ps1 ps2 M))
    (hm1 : m (Str.ofString "have") = some (.ref H)) (hm2 : m (Str.ofString "due") = some (.ref U)) (hm3 : m (Str.ofString "ring") = some (.ref r)) (hm4 : m (Str.ofString "n") = some (.int n tn))
    (hm5 : m (Str.ofString "before") = some (.ref xb)) (hm6 : m (Str.ofString "old") = some (.ref yo)) (hxb : Poly w M xb r lb fo) (hyo : Ints M yo fo) (hlo : fo.length ≤ 4) {os : OsState} (hos : s.os = os) :
    wpAny (model PySem.Challenge.rw_bn0014_01.row.toRowW.prog w) (callerA.deeper (lawEnv lqual scope L fa cd)) (execs [t3, t4] (lawEnv lqual scope L fa cd))
      (EndG h₀ L os I oI (D, oD) (fun m' news' => LCg.Off1 D news' ∧ LawJ w q n L r H U m' news') Q) (fun _ _ => False) s := by
  refine' lite ?lw ?lx ?le
  case lw =>
    have hKK := hK
    obtain ⟨oc, od, lname, params, dV, kV, doc, pm, an, cdv, ct, osl, hK⟩ := hK
    revert hK X₀
    k_fill
    intro X₀ hK
    refine' lk_elim hK ?hz ?_
    case hz => k_dflt k_is
    intro hE
    cases hE
    cases hb
    cases ht
    clear hK
    obtain ⟨⟨vs, e3, hl, hI⟩, dx, k1, k2, e4, hx, hdx⟩ := hxb
    obtain ⟨us, e5, hy, hJ⟩ := hyo
    replace F := fr_sets (l := [(Str.ofString "have", .ref H), (Str.ofString "due", .ref U), (Str.ofString "ring", .ref r), (Str.ofString "n", .int n tn), (Str.ofString "before", .ref xb), (Str.ofString "old", .ref yo)]) F (by simp [hm1, hm2, hm3, hm4, hm5, hm6])
    unfold lawLed at N
    (try k_fold)
    refine wpAny_execs_cons ?_
    k_steps
    refine' iter_rangeJ (n := 3) (fun i m₁ nw => nw = (I, oI) :: (D, oD) :: lawLed L H U X Y e1 e2 oV oQ ps1 ps2 M ∧ m₁ (Str.ofString "have") = some (.ref H) ∧ m₁ (Str.ofString "due") = some (.ref U) ∧ m₁ (Str.ofString "ring") = some (.ref r) ∧ m₁ (Str.ofString "n") = some (.int n tn)) ?a1 ?a2 ?a3 ?a4 ?a5 ?a6 ?a7 ?a8 ?a9
    (case a1 => exact rfl)
    (case a2 => k_asm)
    (case a3 => decide)
    (case a4 => rfl)
    (case a5 => k_asm)
    (case' a7 => refine' ⟨rfl, rfl, rfl, rfl, rfl⟩)
    (case a6 => k_asm)
    (case a9 =>
      intro m₁ nw h₂ tk₂ ⟨hnw, hm1, hm2, hm3, hm4⟩ F₂ N₂
      subst hnw
      dsimp only
      k_steps
      exact ⟨_, _, F₂, N₂, G, hos, fun p hp => off_all offI p (.tail _ hp), offD, _, _, _, _, _, _, _, _, _, _, _, _, _, rfl, R, A, hV, hQ, ht1, ht2, hm1, hm2, hm3, hm4⟩)
    intro i t m₁ nw h₂ tk₂ I₂ oI₂ hi ⟨hnw, hm1, hm2, hm3, hm4⟩ F₂ N₂ hI₂
    subst hnw
    have q4 : 0 ≤ 0 + ((i : Nat) : Int) * 1 := by omega
    have q5 : 0 + ((i : Nat) : Int) * 1 < 3 := by omega
    have q6 := toNat_lt3 q4 q5
    obtain ⟨l₆, ⟨⟨vs₆, e₆, hl₆, hI₆⟩, dx₆, k₆, k₇, e₇, hx₆, hdx₆⟩⟩ := R.poly _ q6
    obtain ⟨us₆, e₈, hy₆, hJ₆⟩ := R.dues _ q6
    have hl4 : (f (0 + ((i : Nat) : Int) * 1).toNat).length ≤ 4 := by have := R.len _ q6; omega
    have F₃ := fr_sets (l := [(Str.ofString "have", .ref H), (Str.ofString "due", .ref U), (Str.ofString "ring", .ref r), (Str.ofString "n", .int n tn)]) F₂ (by simp [hm1, hm2, hm3, hm4])
    clear F₂
    unfold lawLed at N₂
    (try k_sweep)
    (try k_fold)
    k_steps
    refine' UnrEnd.intro (by k_asm) (by k_asm) _ ?sub ?off ⟨rfl, rfl, rfl, rfl, rfl⟩
    (case sub => unfold lawLed; top_reprB)
    (case off => exact off_all hI₂)
  case lx => intro hk; simpa only using hk (0 : Nat)
  case le => eq_refl
end
section
theorem pair_end {w : World} {h₀ : Heap} {L fa : Addr} {cd : Value} {p : Program} {loose : List Str} {mean : ExcName → Option Value} {mg mb : Str → Option Value} {m : Str → Option Value} {s : Shared}
    {lqual : Str} {body tb : List Stmt} {scope : Scope} {a0 a1 a2 a3 a4 a6 t0 t1 t2 t3 t4 : Stmt} {iter : Expr} {nx : Str} {px fp : Pos}
    {q n : Int} {r H U I D : Addr} {X Y : Nat → Addr} {f : Nat → List Int} {e1 e2 : Nat} {oV oQ oI oD : Obj} {ps1 ps2 : Array Value} {M : Led} {v₀ : Option Value} {tq tn : Tok} {Q : Flow → Shared → Prop} {xb yo lb : Addr} {fo g : List Int} {i : Nat} {u x dx l l2 : Addr} {u1 u2 : Tok} {vs us : List Value} {e8 e9 : Nat} {oT : Obj}
    (hK : LawAt w lqual body scope) (hb : body = [a0, a1, a2, a3, a4, .For (.Name nx px) iter tb [] fp, a6]) (ht : tb = [t0, t1, t2, t3, t4])
    (B : Below callerA h₀ [] h₀) (X₀ : (hd.heap_1 w.params).In h₀) (T : Top p loose mean mg mb h₀) (hq : 2 ≤ q) (hq2 : q < 2 ^ 33) (hn1 : 1 ≤ n) (hn : n ≤ 4)
    (F : Fr h₀ L s.heap m) (N : News h₀ L s.heap ((u, oT) :: (l2, listOf us.toArray e9) :: polyLed w r x dx l u1 u2 vs e8 ((I, oI) :: (D, oD) :: lawLed L H U (upd X i x) (upd Y i l2) e1 e2 oV oQ ps1 ps2 M))) (G : AllBare s.gens) (R : Rows w q n r X Y f M) (A : Apart L H U M)
    (hV : oV.data = .cell v₀) (hQ : oQ.data = .cell (some (.int q tq))) (ht1 : TabAt ⟨33, 19, 33, 48⟩ ps1) (ht2 : TabAt ⟨36, 19, 36, 52⟩ ps2) (offI : LCg.Off1 I ((D, oD) :: lawLed L H U X Y e1 e2 oV oQ ps1 ps2 M)) (offD : LCg.Off1 D (lawLed L H U X Y e1 e2 oV oQ ps1 ps2 M))
    (hm1 : m (Str.ofString "have") = some (.ref H)) (hm2 : m (Str.ofString "due") = some (.ref U)) (hm3 : m (Str.ofString "ring") = some (.ref r)) (hm4 : m (Str.ofString "n") = some (.int n tn))
    (hm5 : m (Str.ofString "before") = some (.ref xb)) (hm6 : m (Str.ofString "old") = some (.ref yo)) (hxb : Poly w M xb r lb fo) (hyo : Ints M yo fo) (hlo : fo.length ≤ 4)
    (hI : IntsAre vs g) (hJ : IntsAre us g) (hg : (g.length : Int) = n) (hgb : ∀ c ∈ g, 0 ≤ c ∧ c < q)
    (o1 : LCg.Off1 x ((I, oI) :: (D, oD) :: lawLed L H U X Y e1 e2 oV oQ ps1 ps2 M)) (o2 : LCg.Off1 dx ((I, oI) :: (D, oD) :: lawLed L H U X Y e1 e2 oV oQ ps1 ps2 M)) (o3 : LCg.Off1 l ((I, oI) :: (D, oD) :: lawLed L H U X Y e1 e2 oV oQ ps1 ps2 M)) (o4 : LCg.Off1 l2 ((I, oI) :: (D, oD) :: lawLed L H U X Y e1 e2 oV oQ ps1 ps2 M)) {os : OsState} (hos : s.os = os) :
    wpAny (model PySem.Challenge.rw_bn0014_01.row.toRowW.prog w) (callerA.deeper (lawEnv lqual scope L fa cd)) (execs [t3, t4] (lawEnv lqual scope L fa cd))
      (EndG h₀ L os I oI (D, oD) (fun m' news' => LCg.Off1 D news' ∧ LawJ w q n L r H U m' news') Q) (fun _ _ => False) s := by
  refine' lite ?lw ?lx ?le
  case lw =>
    obtain ⟨aH, aU, aV, aQ, aZ, aC, al1, al2, al3⟩ := A
    have hs : ∀ p ∈ M, p ∈ (l2, listOf us.toArray e9) :: polyLed w r x dx l u1 u2 vs e8 M := fun p hp => .tail _ (.tail _ (.tail _ (.tail _ hp)))
    refine tail_go (X := upd X i x) (Y := upd Y i l2) (f := upd f i g) (e1 := e1) (e2 := e2) (M := (l2, listOf us.toArray e9) :: polyLed w r x dx l u1 u2 vs e8 M) hK hb ht B X₀ T hq hq2 hn1 hn F ?hN G (R.turn hs ⟨l, ⟨⟨_, _, .tail _ (.tail _ (.tail _ (.head _))), hI⟩, dx, _, _, _, .tail _ (.head _), .tail _ (.tail _ (.head _))⟩⟩ ⟨_, _, .head _, hJ⟩ hg hgb) ⟨?x1, ?x2, ?x3, ?x4, ?x5, ?x6, al1, al2, al3⟩ hV hQ ht1 ht2 ?x7 ?x8 hm1 hm2 hm3 hm4 hm5 hm6 (hxb.mono hs) (hyo.mono hs) hlo hos
    case hN => refine cb_drop N ?_; top_reprB
    all_goals top_strB
  case lx => intro hk; simpa only using hk (0 : Nat)
  case le => eq_refl
end
section
def rowZ (q v : Int) (i : Nat) : List Int := (rangeKs 0 i).map fun k => Int.fmod (Int.fdiv v (q ^ k.toNat)) q
theorem rangeKs_succ (i : Nat) (c : Int) : rangeKs c (i + 1) = rangeKs c i ++ [c + (i : Int)] := by
  unfold rangeKs
  rw [List.range_succ, List.map_append, List.map_singleton]
theorem rowZ_succ (q v : Int) (i : Nat) : rowZ q v (i + 1) = rowZ q v i ++ [Int.fmod (Int.fdiv v (q ^ i)) q] := by
  unfold rowZ
  rw [rangeKs_succ, List.map_append, List.map_singleton]
  congr 3
  show Int.fdiv v (q ^ ((0 : Int) + (i : Int)).toNat) = _
  rw [show ((0 : Int) + (i : Int)).toNat = i by omega]
theorem rowZ_len (q v : Int) (i : Nat) : (rowZ q v i).length = i := by unfold rowZ; rw [List.length_map, rangeKs_length]
theorem rowZ_bnd {q : Int} (hq : 2 ≤ q) (v : Int) (i : Nat) : ∀ c ∈ rowZ q v i, 0 ≤ c ∧ c < q := map_bnd hq _ fun k => Int.fdiv v (q ^ k.toNat)
theorem fdiv_step {q v : Int} (hq : 2 ≤ q) (i : Nat) : Int.fdiv (Int.fdiv v (q ^ i)) q = Int.fdiv v (q ^ (i + 1)) := by
  have h1 : 0 ≤ q ^ i := Int.le_of_lt (pow_pos_q hq i)
  have h2 : 0 ≤ q ^ (i + 1) := Int.le_of_lt (pow_pos_q hq (i + 1))
  rw [Int.fdiv_eq_ediv_of_nonneg _ h1, Int.fdiv_eq_ediv_of_nonneg _ (by omega), Int.fdiv_eq_ediv_of_nonneg _ h2, Int.ediv_ediv_of_nonneg h1, Int.pow_succ]
theorem div_q1 {prog : Program} {w : World} {A : Around} {E : Value → Shared → Prop} {s : Shared} {v q : Int} {t u : Tok} {Q : Value → Shared → Prop} (hq : 2 ≤ q) (hq2 : q < 2 ^ 33) (h : Q (.int (Int.fdiv v q) s.toks) { s with toks := s.toks + 1 }) :
    wpAny (model prog w) A (binaryOp .FloorDiv (.int v t) (.int q u)) Q E s := by
  refine' lite ?lw ?lx ?le
  case lw =>
    refine PyProof.Rows.floordiv_int (by omega) h (Or.inl (PyProof.noPylong_of_log2 ?_))
    have := pow_log (j := 1) hq hq2 (by decide)
    rw [Int.pow_succ, Int.pow_zero, Int.one_mul] at this
    omega
  case lx => intro hk; simpa only using hk (0 : Nat)
  case le => eq_refl
theorem item_refs_upd {prog : Program} {w : World} {A : Around} {E : Value → Shared → Prop} {s : Shared} {h₀ : Heap} {L : Addr} {news : Led} {value slice : Expr} {D x : Addr} {X : Nat → Addr} {n : Nat} {k : Int} {u : Tok} {Q : Value → Shared → Prop} (N : News h₀ L s.heap news) (hm : (D, listOf (refs3 (upd X k.toNat x)).toArray n) ∈ news) (h0 : 0 ≤ k) (h3 : k < 3) (h : Q (.ref x) s)
    (hs : subscripted slice false (.ref D) (.int k u) = operate [.ref D, .int k u] (getItem (.ref D) (.int k u)) := by with_unfolding_all rfl) : wpAny (model prog w) A (subscriptTail value slice (.ref D) (.int k u)) Q E s :=
  item_refs N hm h0 h3 (by rw [upd_same]; exact h) hs
local macro_rules | `(tactic| walk_at "binaryOp FloorDiv int int") => `(tactic| (k_here; (with_reducible refine' div_q1 ?h1 ?h2 ?_); (case h1 => assumption); (case h2 => assumption)))
local macro_rules | `(tactic| walk_at "subscriptTail Name Name ref int") => `(tactic| (k_here; (with_reducible show wpAny _ _ (subscriptTail _ _ (Value.ref _) (Value.int _ _)) _ _ _); (with_unfolding_all refine' item_refs_upd ?k1 ?k2 ?k3 ?k4 ?_; (case k1 => k_asm); (case k2 => k_mem); (case k3 => assumption); (case k4 => assumption); k_whole)))
theorem zero_loop {w : World} {h₀ : Heap} {L fa : Addr} {cd : Value} {p : Program} {loose : List Str} {mean : ExcName → Option Value} {mg mb : Str → Option Value} {m : Str → Option Value} {s : Shared}
    {lqual : Str} {body tb : List Stmt} {scope : Scope} {a0 a1 a2 a3 a4 a6 t0 t1 t2 t3 t4 : Stmt} {iter : Expr} {nx : Str} {px fp : Pos}
    {q n : Int} {r H U I D : Addr} {X Y : Nat → Addr} {f : Nat → List Int} {e1 e2 : Nat} {oV oQ oI oD : Obj} {ps1 ps2 : Array Value} {M : Led} {tq tn : Tok} {Q : Flow → Shared → Prop} {a v : Int} {ta tv : Tok} {xb yo x dx l D2 E : Addr} {u1 u2 : Tok} {us : List Value} {oL : Obj} {e9 : Nat} {c0 : Expr} {z0 z1 z2 z3 z4 : Stmt} {oe : List Stmt} {po : Pos} {Qn : Flow → Shared → Prop}
    (hz : t2 = .If c0 [z0, z1, z2, z3, z4] oe po)
    (hK : LawAt w lqual body scope) (hb : body = [a0, a1, a2, a3, a4, .For (.Name nx px) iter tb [] fp, a6]) (ht : tb = [t0, t1, t2, t3, t4])
    (B : Below callerA h₀ [] h₀) (X₀ : (hd.heap_1 w.params).In h₀) (T : Top p loose mean mg mb h₀) (hq : 2 ≤ q) (hq2 : q < 2 ^ 33) (hn1 : 1 ≤ n) (hn : n ≤ 4)
    (F : Fr h₀ L s.heap m) (N : News h₀ L s.heap ((E, listOf ([] : List Value).toArray 0) :: (D2, listOf us.toArray e9) :: (x, instObj 227 dx) :: (dx, dictOf [⟨PyData.keyHash w.params (Str.ofString "parent"), .str (Str.ofString "parent") u1, .ref r⟩, ⟨PyData.keyHash w.params (Str.ofString "coeffs"), .str (Str.ofString "coeffs") u2, .ref D2⟩] 2) :: (l, oL) :: (I, oI) :: (D, oD) :: lawLed L H U (upd X a.toNat x) (upd Y a.toNat E) e1 e2 oV oQ ps1 ps2 M)) (G : AllBare s.gens) (R : Rows w q n r X Y f M) (A : Apart L H U M)
    (hV : oV.data = .cell (some (.int v tv))) (hQ : oQ.data = .cell (some (.int q tq))) (ht1 : TabAt ⟨33, 19, 33, 48⟩ ps1) (ht2 : TabAt ⟨36, 19, 36, 52⟩ ps2) (offI : LCg.Off1 I ((D, oD) :: lawLed L H U X Y e1 e2 oV oQ ps1 ps2 M)) (offD : LCg.Off1 D (lawLed L H U X Y e1 e2 oV oQ ps1 ps2 M))
    (hm1 : m (Str.ofString "have") = some (.ref H)) (hm2 : m (Str.ofString "due") = some (.ref U)) (hm3 : m (Str.ofString "ring") = some (.ref r)) (hm4 : m (Str.ofString "n") = some (.int n tn))
    (hm5 : m (Str.ofString "before") = some (.ref xb)) (hm6 : m (Str.ofString "old") = some (.ref yo)) (hm8 : m (Str.ofString "a") = some (.int a ta)) (hm9 : m (Str.ofString "made") = some (.ref x)) (ha0 : 0 ≤ a) (ha1 : a < 3)
    (hI : IntsAre us (rowZ q v n.toNat)) (oE : LCg.Off1 E ((D2, listOf us.toArray e9) :: (x, instObj 227 dx) :: (dx, dictOf [⟨PyData.keyHash w.params (Str.ofString "parent"), .str (Str.ofString "parent") u1, .ref r⟩, ⟨PyData.keyHash w.params (Str.ofString "coeffs"), .str (Str.ofString "coeffs") u2, .ref D2⟩] 2) :: (l, oL) :: (I, oI) :: (D, oD) :: lawLed L H U (upd X a.toNat x) Y e1 e2 oV oQ ps1 ps2 M)) (o2 : LCg.Off1 D2 ((l, oL) :: (I, oI) :: (D, oD) :: lawLed L H U X Y e1 e2 oV oQ ps1 ps2 M)) (ox : LCg.Off1 x ((l, oL) :: (I, oI) :: (D, oD) :: lawLed L H U X Y e1 e2 oV oQ ps1 ps2 M)) (od : LCg.Off1 dx ((l, oL) :: (I, oI) :: (D, oD) :: lawLed L H U X Y e1 e2 oV oQ ps1 ps2 M)) (ol : LCg.Off1 l ((I, oI) :: (D, oD) :: lawLed L H U X Y e1 e2 oV oQ ps1 ps2 M)) (n1 : D2 ≠ x) (n2 : D2 ≠ dx) (n3 : x ≠ dx)
    (hQn : ∀ h' tk m₁ ws e' oV' t', Fr h₀ L h' m₁ → News h₀ L h' ((E, listOf ws.toArray e') :: (D2, listOf us.toArray e9) :: (x, instObj 227 dx) :: (dx, dictOf [⟨PyData.keyHash w.params (Str.ofString "parent"), .str (Str.ofString "parent") u1, .ref r⟩, ⟨PyData.keyHash w.params (Str.ofString "coeffs"), .str (Str.ofString "coeffs") u2, .ref D2⟩] 2) :: (l, oL) :: (I, oI) :: (D, oD) :: lawLed L H U (upd X a.toNat x) (upd Y a.toNat E) e1 e2 oV' oQ ps1 ps2 M) → IntsAre ws (rowZ q v n.toNat) → oV'.data = .cell (some (.int (Int.fdiv v (q ^ n.toNat)) t')) → m₁ (Str.ofString "have") = some (.ref H) → m₁ (Str.ofString "due") = some (.ref U) → m₁ (Str.ofString "ring") = some (.ref r) → m₁ (Str.ofString "n") = some (.int n tn) → m₁ (Str.ofString "before") = some (.ref xb) → m₁ (Str.ofString "old") = some (.ref yo) → m₁ (Str.ofString "a") = some (.int a ta) → m₁ (Str.ofString "made") = some (.ref x) → Qn .next { s with heap := h', toks := tk }) :
    wpAny (model PySem.Challenge.rw_bn0014_01.row.toRowW.prog w) (callerA.deeper (lawEnv lqual scope L fa cd)) (execs [z3, z4] (lawEnv lqual scope L fa cd)) Qn (fun _ _ => False) s := by
  refine' lite ?lw ?lx ?le
  case lw =>
    have hKK := hK
    obtain ⟨oc, od, lname, params, dV, kV, doc, pm, an, cdv, ct, osl, hK⟩ := hK
    revert hK X₀
    k_fill
    intro X₀ hK
    refine' lk_elim hK ?hz ?_
    case hz => k_dflt k_is
    intro hE
    cases hE
    cases hb
    cases ht
    cases hz
    clear hK
    obtain ⟨aH, aU, aV, aQ, aZ, aC, al1, al2, al3⟩ := A
    replace F := fr_sets (l := [(Str.ofString "have", .ref H), (Str.ofString "due", .ref U), (Str.ofString "ring", .ref r), (Str.ofString "n", .int n tn), (Str.ofString "before", .ref xb), (Str.ofString "old", .ref yo), (Str.ofString "a", .int a ta), (Str.ofString "made", .ref x)]) F (by simp [hm1, hm2, hm3, hm4, hm5, hm6, hm8, hm9])
    unfold lawLed at N
    (try k_fold)
    k_steps
    have hV0 : oV.data = .cell (some (.int (Int.fdiv v (q ^ 0)) tv)) := by rw [hV, Int.pow_zero, Int.fdiv_one]
    have hW0 : IntsAre [] (rowZ q v 0) := .nil
    refine' iter_rangeJ (n := n.toNat) (fun i m₁ nw => ∃ ws e' oV' t', nw = (E, listOf ws.toArray e') :: (D2, listOf us.toArray e9) :: (x, instObj 227 dx) :: (dx, dictOf [⟨PyData.keyHash w.params (Str.ofString "parent"), .str (Str.ofString "parent") u1, .ref r⟩, ⟨PyData.keyHash w.params (Str.ofString "coeffs"), .str (Str.ofString "coeffs") u2, .ref D2⟩] 2) :: (l, oL) :: (I, oI) :: (D, oD) :: lawLed L H U (upd X a.toNat x) (upd Y a.toNat E) e1 e2 oV' oQ ps1 ps2 M ∧ IntsAre ws (rowZ q v i) ∧ oV'.data = .cell (some (.int (Int.fdiv v (q ^ i)) t')) ∧ m₁ (Str.ofString "have") = some (.ref H) ∧ m₁ (Str.ofString "due") = some (.ref U) ∧ m₁ (Str.ofString "ring") = some (.ref r) ∧ m₁ (Str.ofString "n") = some (.int n tn) ∧ m₁ (Str.ofString "before") = some (.ref xb) ∧ m₁ (Str.ofString "old") = some (.ref yo) ∧ m₁ (Str.ofString "a") = some (.int a ta) ∧ m₁ (Str.ofString "made") = some (.ref x)) ?a1 ?a2 ?a3 ?a4 ?a5 ?a6 ?a7 ?a8 ?a9
    (case a1 => exact rfl)
    (case a2 => k_asm)
    (case a3 => exact b_small (by omega) (by omega) (by omega) (by omega))
    (case a4 => rw [rangeSize_nat] <;> omega)
    (case a5 => k_asm)
    (case' a7 => exact ⟨[], 0, oV, tv, rfl, hW0, hV0, rfl, rfl, rfl, rfl, rfl, rfl, rfl, rfl⟩)
    (case a6 => k_asm)
    (case a9 =>
      intro m₁ nw h₂ tk₂ ⟨ws, e', oV', t', hnw, hW, hV', hm1, hm2, hm3, hm4, hm5, hm6, hm8, hm9⟩ F₂ N₂
      subst hnw
      have F₃ := fr_sets (l := [(Str.ofString "have", .ref H), (Str.ofString "due", .ref U), (Str.ofString "ring", .ref r), (Str.ofString "n", .int n tn), (Str.ofString "before", .ref xb), (Str.ofString "old", .ref yo), (Str.ofString "a", .int a ta), (Str.ofString "made", .ref x)]) F₂ (by simp [hm1, hm2, hm3, hm4, hm5, hm6, hm8, hm9])
      clear F₂
      unfold lawLed at N₂
      have hrl : (rowZ q v n.toNat).length ≤ 4 := by rw [rowZ_len]; omega
      dsimp only
      (try k_sweep)
      k_steps
      exact hQn _ _ _ _ _ _ _ (by k_asm) (by k_asm) hW hV' rfl rfl rfl rfl rfl rfl rfl rfl)
    intro i t m₁ nw h₂ tk₂ I₂ oI₂ hi ⟨ws, e', oV', t', hnw, hW, hV', hm1, hm2, hm3, hm4, hm5, hm6, hm8, hm9⟩ F₂ N₂ hI₂
    subst hnw
    have F₃ := fr_sets (l := [(Str.ofString "have", .ref H), (Str.ofString "due", .ref U), (Str.ofString "ring", .ref r), (Str.ofString "n", .int n tn), (Str.ofString "before", .ref xb), (Str.ofString "old", .ref yo), (Str.ofString "a", .int a ta), (Str.ofString "made", .ref x)]) F₂ (by simp [hm1, hm2, hm3, hm4, hm5, hm6, hm8, hm9])
    clear F₂
    unfold lawLed at N₂
    have hws : ws.toArray.size ≤ sizeLine := by rw [List.size_toArray, hW.length, rowZ_len]; exact sizeLine_small (by omega)
    (try k_sweep)
    (try k_fold)
    k_steps
    rename News _ _ _ _ => N9
    rw [List.push_toArray] at N9
    rename (_ = Data.cell (some (Value.int (Int.fdiv (Int.fdiv _ _) _) _))) => hV9
    rw [fdiv_step hq] at hV9
    refine' UnrEnd.intro (by k_asm) (by k_asm) _ ?sub ?off ⟨_, _, _, _, rfl, ?iw, hV9, rfl, rfl, rfl, rfl, rfl, rfl, rfl, rfl⟩
    (case sub => unfold lawLed; top_reprB)
    (case iw => rw [rowZ_succ]; exact hW.append (.cons _ _ .nil))
    (case off => refine off_all ?_; top_strB)
  case lx => intro hk; simpa only using hk (0 : Nat)
  case le => eq_refl
end
end
section
local macro_rules | `(tactic| k_mem) => `(tactic| ((fail_if_success (with_reducible refine' List.Mem.tail _ ?_)); first | with_reducible assumption | assumption | (refine sub_mem (by assumption) ?_; k_mem)))
local macro_rules | `(tactic| news_mem) => `(tactic| k_mem)
local macro_rules | `(tactic| k_room) => `(tactic| ((simp only [depth_under_make, depth_under_kw, depth_in1, depth_deeper, depth_caller, recursionLimit] at *); omega))
local macro_rules | `(tactic| k_units) => `(tactic| ((have hcL9 := cLine_is); (simp only [units_in1, units_deeper, Around.mark_units, units_caller, cLine] at *); omega))
local macro_rules | `(tactic| allgen_close2_more) => `(tactic| assumption)
local macro_rules | `(tactic| ktr_rel) => `(tactic| ((try simp only [List.length_append, List.length_cons, List.length_nil, List.length_map, List.length_set, List.length_zipWith, rangeKs_length]); first | assumption | omega))
local macro_rules | `(tactic| top_reprB) => `(tactic| first | exact List.forall_mem_nil _ | (refine List.forall_mem_cons.mpr ⟨by k_mem, ?_⟩; top_reprB) | (intro p hp; k_mem))
local macro_rules | `(tactic| k_ne) => `(tactic| (refine neN ?_; (try dsimp only); first | (with_reducible assumption) | exact Ne.symm (by with_reducible assumption) | exact off_ne (by with_reducible assumption) (by k_mem) | exact Ne.symm (off_ne (by with_reducible assumption) (by k_mem)) | omega))
local macro_rules | `(tactic| top_strB) => `(tactic| first | (first | assumption | exact allLt_of (by assumption) | exact And.right (by assumption) | exact And.right (And.right (by assumption)) | exact And.right (And.right (And.right (by assumption))) | exact And.right (And.right (And.right (And.right (by assumption)))) | exact And.right (And.right (And.right (And.right (And.right (by assumption))))) | exact And.right (And.right (And.right (And.right (And.right (And.right (by assumption)))))) | exact And.right (And.right (And.right (And.right (And.right (And.right (And.right (by assumption))))))) | exact And.right (And.right (And.right (And.right (And.right (And.right (And.right (And.right (by assumption)))))))) | exact And.right (And.right (And.right (And.right (And.right (And.right (And.right (And.right (And.right (by assumption))))))))) | exact And.right (And.right (And.right (And.right (And.right (And.right (And.right (And.right (And.right (And.right (by assumption)))))))))) | exact And.right (And.right (And.right (And.right (And.right (And.right (And.right (And.right (And.right (And.right (And.right (by assumption))))))))))) | exact And.right (And.right (And.right (And.right (And.right (And.right (And.right (And.right (And.right (And.right (And.right (And.right (by assumption)))))))))))) | exact And.right (And.right (And.right (And.right (And.right (And.right (And.right (And.right (And.right (And.right (And.right (And.right (And.right (by assumption))))))))))))) | exact And.right (And.right (And.right (And.right (And.right (And.right (And.right (And.right (And.right (And.right (And.right (And.right (And.right (And.right (by assumption)))))))))))))) | exact And.right (And.right (And.right (And.right (And.right (And.right (And.right (And.right (And.right (And.right (And.right (And.right (And.right (And.right (And.right (by assumption))))))))))))))) | exact And.right (And.right (And.right (And.right (And.right (And.right (And.right (And.right (And.right (And.right (And.right (And.right (And.right (And.right (And.right (And.right (by assumption)))))))))))))))) | exact And.right (And.right (And.right (And.right (And.right (And.right (And.right (And.right (And.right (And.right (And.right (And.right (And.right (And.right (And.right (And.right (And.right (by assumption))))))))))))))))) | exact And.right (And.right (And.right (And.right (And.right (And.right (And.right (And.right (And.right (And.right (And.right (And.right (And.right (And.right (And.right (And.right (And.right (And.right (by assumption)))))))))))))))))) | exact And.right (And.right (And.right (And.right (And.right (And.right (And.right (And.right (And.right (And.right (And.right (And.right (And.right (And.right (And.right (And.right (And.right (And.right (And.right (by assumption)))))))))))))))))))) | exact off_sub (by with_reducible assumption) (by top_reprB) | exact off_of_lt (by (first | assumption | exact allLt_of (by assumption) | exact And.right (by assumption) | exact And.right (And.right (by assumption)) | exact And.right (And.right (And.right (by assumption))) | exact And.right (And.right (And.right (And.right (by assumption)))) | exact And.right (And.right (And.right (And.right (And.right (by assumption))))) | exact And.right (And.right (And.right (And.right (And.right (And.right (by assumption)))))) | exact And.right (And.right (And.right (And.right (And.right (And.right (And.right (by assumption))))))) | exact And.right (And.right (And.right (And.right (And.right (And.right (And.right (And.right (by assumption)))))))) | exact And.right (And.right (And.right (And.right (And.right (And.right (And.right (And.right (And.right (by assumption))))))))) | exact And.right (And.right (And.right (And.right (And.right (And.right (And.right (And.right (And.right (And.right (by assumption)))))))))) | exact And.right (And.right (And.right (And.right (And.right (And.right (And.right (And.right (And.right (And.right (And.right (by assumption))))))))))) | exact And.right (And.right (And.right (And.right (And.right (And.right (And.right (And.right (And.right (And.right (And.right (And.right (by assumption)))))))))))) | exact And.right (And.right (And.right (And.right (And.right (And.right (And.right (And.right (And.right (And.right (And.right (And.right (And.right (by assumption))))))))))))) | exact And.right (And.right (And.right (And.right (And.right (And.right (And.right (And.right (And.right (And.right (And.right (And.right (And.right (And.right (by assumption)))))))))))))) | exact And.right (And.right (And.right (And.right (And.right (And.right (And.right (And.right (And.right (And.right (And.right (And.right (And.right (And.right (And.right (by assumption))))))))))))))) | exact And.right (And.right (And.right (And.right (And.right (And.right (And.right (And.right (And.right (And.right (And.right (And.right (And.right (And.right (And.right (And.right (by assumption)))))))))))))))) | exact And.right (And.right (And.right (And.right (And.right (And.right (And.right (And.right (And.right (And.right (And.right (And.right (And.right (And.right (And.right (And.right (And.right (by assumption))))))))))))))))) | exact And.right (And.right (And.right (And.right (And.right (And.right (And.right (And.right (And.right (And.right (And.right (And.right (And.right (And.right (And.right (And.right (And.right (And.right (by assumption)))))))))))))))))) | exact And.right (And.right (And.right (And.right (And.right (And.right (And.right (And.right (And.right (And.right (And.right (And.right (And.right (And.right (And.right (And.right (And.right (And.right (And.right (by assumption))))))))))))))))))))) | exact off_of_lt2 (by (first | assumption | exact allLt_of (by assumption) | exact And.right (by assumption) | exact And.right (And.right (by assumption)) | exact And.right (And.right (And.right (by assumption))) | exact And.right (And.right (And.right (And.right (by assumption)))) | exact And.right (And.right (And.right (And.right (And.right (by assumption))))) | exact And.right (And.right (And.right (And.right (And.right (And.right (by assumption)))))) | exact And.right (And.right (And.right (And.right (And.right (And.right (And.right (by assumption))))))) | exact And.right (And.right (And.right (And.right (And.right (And.right (And.right (And.right (by assumption)))))))) | exact And.right (And.right (And.right (And.right (And.right (And.right (And.right (And.right (And.right (by assumption))))))))) | exact And.right (And.right (And.right (And.right (And.right (And.right (And.right (And.right (And.right (And.right (by assumption)))))))))) | exact And.right (And.right (And.right (And.right (And.right (And.right (And.right (And.right (And.right (And.right (And.right (by assumption))))))))))) | exact And.right (And.right (And.right (And.right (And.right (And.right (And.right (And.right (And.right (And.right (And.right (And.right (by assumption)))))))))))) | exact And.right (And.right (And.right (And.right (And.right (And.right (And.right (And.right (And.right (And.right (And.right (And.right (And.right (by assumption))))))))))))) | exact And.right (And.right (And.right (And.right (And.right (And.right (And.right (And.right (And.right (And.right (And.right (And.right (And.right (And.right (by assumption)))))))))))))) | exact And.right (And.right (And.right (And.right (And.right (And.right (And.right (And.right (And.right (And.right (And.right (And.right (And.right (And.right (And.right (by assumption))))))))))))))) | exact And.right (And.right (And.right (And.right (And.right (And.right (And.right (And.right (And.right (And.right (And.right (And.right (And.right (And.right (And.right (And.right (by assumption)))))))))))))))) | exact And.right (And.right (And.right (And.right (And.right (And.right (And.right (And.right (And.right (And.right (And.right (And.right (And.right (And.right (And.right (And.right (And.right (by assumption))))))))))))))))) | exact And.right (And.right (And.right (And.right (And.right (And.right (And.right (And.right (And.right (And.right (And.right (And.right (And.right (And.right (And.right (And.right (And.right (And.right (by assumption)))))))))))))))))) | exact And.right (And.right (And.right (And.right (And.right (And.right (And.right (And.right (And.right (And.right (And.right (And.right (And.right (And.right (And.right (And.right (And.right (And.right (And.right (by assumption))))))))))))))))))))) (by omega) | exact off_of_base (by assumption) (by omega))
local macro_rules | `(tactic| k_all) => `(tactic| (refine off_all ?_; top_strB))
local macro_rules | `(tactic| walk_at "getMethod ref") => `(tactic| (k_here; k_dflt (refine' kmu_own ?k1 ?k2 ?k3 ?k4 ?k5 ?_; (case k1 => k_asm); (case k2 => k_asm); (case k3 => k_inst); (case k4 => k_is); (case k5 => k_is); k_whole)))
local macro_rules | `(tactic| walk_at "binaryOp Mult int int") => `(tactic| (k_here; with_reducible first | refine PyProof.Rows.mul_int ?_ (mulok_getD (by assumption) (by assumption) (by assumption)) | refine PyProof.Rows.mul_int ?_ (mulok_mem (by assumption) (by assumption) (by assumption))))
local macro_rules | `(tactic| top_name) => `(tactic| (law_purse 40000 => (law_clear; (repeat (with_reducible rename (@Ne Nat _ _) ∧ _ => hne9; clear hne9)); (repeat (with_reducible rename (@LT.lt Nat _ _ _) ∧ _ => hne9; clear hne9)); (repeat (with_reducible rename (@Ne Nat _ _) => hne9; clear hne9)); (try simp only [List.length_append, List.length_cons, List.length_nil, List.length_map, List.length_take, List.length_set, List.length_zipWith, rangeKs_length]); omega)))
local macro_rules | `(tactic| walk_at "subscriptTail Name Name ref int") => `(tactic| ((k_here; (with_reducible show wpAny _ _ (subscriptTail _ _ (Value.ref _) (Value.int _ _)) _ _ _); (with_unfolding_all refine' item_list_ints ?k1 ?k2 ?k3 ?k4 ?k5 ?_; (case k1 => exact News.isList (by k_asm) (by k_mem)); (case k2 => l_ints); (case k3 => first | assumption | top_name); (case k4 => first | assumption | exact idx_hi (by assumption) (by first | assumption | exact Nat.le_refl _) | top_name); (case k5 => first | assumption | exact idx_fit (by assumption) (by assumption) | top_name); k_whole); intro _)))
local macro_rules | `(tactic| walk_at "subscriptTail Name BinOp ref int") => `(tactic| ((k_here; (with_reducible show wpAny _ _ (subscriptTail _ _ (Value.ref _) (Value.int _ _)) _ _ _); (with_unfolding_all refine' item_list_ints ?k1 ?k2 ?k3 ?k4 ?k5 ?_; (case k1 => exact News.isList (by k_asm) (by k_mem)); (case k2 => l_ints); (case k3 => first | assumption | top_name); (case k4 => first | assumption | exact idx_hi (by assumption) (by first | assumption | exact Nat.le_refl _) | top_name); (case k5 => first | assumption | exact idx_fit (by assumption) (by assumption) | top_name); k_whole); intro _)))
local macro_rules | `(tactic| walk_at "call builtin:list.copy") => `(tactic| (k_here; (with_reducible show wpAny _ _ (call (Value.builtin _) [Value.ref _]) _ _ _); k_dflt (refine' copyK ?k1 ?k2 ?k3 ?k4 ?_; (case k1 => k_asm); (case k2 => k_asm); (case k3 => exact News.isList (by k_asm) (by k_mem)); (case k4 => exact ints_size (by l_ints) (by top_name)); k_whole); intro D' h' F' N' l1; (try k_lt l1); (try k_sweep)))
local macro_rules | `(tactic| walk_at "setItem ref int") => `(tactic| (k_here; (with_reducible show wpAny _ _ (setItem (Value.ref _) (Value.int _ _) (Value.int _ _)) _ _ _); k_dflt (refine' ksa_set ?k1 ?k2 ?k3 ?k4 ?k5 ?k6 ?k7 ?_; (case k1 => k_asm); (case k2 => k_asm); (case k3 => k_upd); (case k4 => l_ints); (case k5 => first | assumption | top_name); (case k6 => first | assumption | top_name); (case k7 => first | assumption | top_name); k_whole); intro h' F' N' hi' hl' hs'; clear hs'; (try k_sweep)))
local macro_rules | `(tactic| walk_at "callWith ref") => `(tactic| (k_here; kco_here; k_dflt (refine' kco_callWith ?k1 ?k2 ?k3 ?k4 ?_; (case k1 => k_in); (case k2 => k_inst); (case k3 => rfl); (case k4 => k_is); k_whole)))
local macro_rules | `(tactic| allgen_close_more) => `(tactic| first | k_asm | (refine' cb_drop ?cbN ?cbS; (case cbN => assumption); (case cbS => top_reprB)))
local macro_rules | `(tactic| walk_at "exec For Name Call cons nil") => `(tactic| (k_here; k_dflt (refine For_turns (by k_asm) ?_ (by intro _; with_unfolding_all rfl) (by passes_own)); (try k_fold)))
local macro_rules | `(tactic| walk_at "getItem ref int") => `(tactic| (k_here; (with_reducible show wpAny _ _ (getItem (Value.ref _) (Value.int _ _)) _ _ _); k_dflt (refine' ksa_get ?k1 ?k2 ?k3 ?k4 ?k5 ?k6 ?_; (case k1 => k_asm); (case k2 => k_mem); (case k3 => l_ints); (case k4 => first | assumption | top_name); (case k5 => first | assumption | top_name); (case k6 => first | assumption | top_name); k_whole); intro _))
local macro_rules | `(tactic| walk_at "CompSrc") => `(tactic| (k_here; k_dflt (refine' LCg.CompSrc.ledger ?s1 ?s2 ?s3 ?s4 ?s5 ?_; (case s1 => rfl); (case s2 => k_asm); (case s3 => k_asm); (case s4 => k_mem); (case s5 => exact ints_sizeA (by l_ints) (by first | assumption | top_name)); intro g'; (refine' kcf_list _ (by l_ints) (fun k' t' I' oI' C' oC' D' m' ys' h' tk' E' hk' hC' hx' F' N' off' ne' hMark' => ?_) ?_); (all_goals (try (simp only [LCg.Off3, and_true] at off'))); kcf_last)))
local macro_rules | `(tactic| walk_at "exec Assign cons ListComp") => `(tactic| (k_here; (with_reducible show wpAny _ _ (exec (Stmt.Assign [Expr.Name _ _] (Expr.ListComp _ [⟨Expr.Tuple _ _ _, _, _, _⟩] _ _) _) _) _ _ _); k_dflt (refine' zip_assign ?z1 ?z2 ?z3 ?z4 ?z5 ?_; (case z1 => with_unfolding_all rfl); (case z2 => with_unfolding_all rfl); (case z3 => rfl); (case z4 => decide); (case z5 => intro _; with_unfolding_all rfl))))
local macro_rules | `(tactic| walk_at "eval ListComp") => `(tactic| (k_here; (with_reducible show wpAny _ _ (eval (Expr.ListComp _ [⟨Expr.Tuple _ _ _, _, _, _⟩] _ _) _) _ _ _); k_dflt (refine' zip_eval ?z2 ?z3 ?z4 ?z5 ?_; (case z2 => with_unfolding_all rfl); (case z3 => rfl); (case z4 => decide); (case z5 => intro _; with_unfolding_all rfl))))
section
theorem addP_call {w : World} {N : Led} {x r l : Addr} {q n : Int} {ns : List Int} (hR : Ring w N r q n) (hP : Poly w N x r l ns) (hlen : (ns.length : Int) = n) (hn1 : 1 ≤ n) (hn : n ≤ 4) (hq : 2 ≤ q) (hq2 : q < 2 ^ 33) {y l2 : Addr} {ms : List Int} (hP2 : Poly w N y r l2 ms) (hlen2 : (ms.length : Int) = n) :
   Ctr w 8 137 [.ref x, .ref y] N (ListPost N (List.zipWith (fun a b => Int.fmod (a + b) q) ns ms)) := by
  refine' lite ?lw ?lx ?le
  case lw =>
    unfold Ctr
    k_fill
    intro p loose mean mg mb dp un gd cn cs a ccd cl outer A₀ base h₀ L m s R B F X N₀ T hk hdp hun hret
    obtain ⟨dr, k3, k4, tq, tn, e3, hr, hdr⟩ := hR
    obtain ⟨⟨vs, e1, hl, hI⟩, dx, k1, k2, e2, hx, hdx⟩ := hP
    obtain ⟨⟨us, f1, hm, hJ⟩, dy, j1, j2, f2, hy, hdy⟩ := hP2
    k_dflt (refine' code_defC ?k1 ?k2 ?k3 ?k4 ?k5 ?kA ?kF ?kK ?k6 ?k7 ?k8 ?k9 ?kB ?kD ?_ ?c2 ?c3 ?c4; (case kA => exact rfl); (case kF => exact rfl); (case kK => assumption); (case k1 => k_asm); (case k2 => k_asm); (case k3 => k_asm); (case k4 => k_asm); (case k5 => k_asm); (case k6 => k_is); (case k7 => k_is); (case k8 => k_room); (case k9 => exact BindsTo.of_eq rfl); (case kB => exact rfl); (case kD => decide +kernel); (case c2 => exact rfl); (case c3 => exact rfl); (case c4 => exact rfl); k_whole)
    intro g₁ L₁ h₁ tk₁ cells₁ FG₁ F₁ N₁ Y₁ B₁ X₁ T₁ l₁
    k_cells Y₁
    simp only [List.cons_append, List.nil_append] at N₁
    (try dsimp only)
    (try k_fold)
    k_steps
    k_dflt (refine' zip_at (g := fun a b => Int.fmod (a + b) q) ?z1 ?z2 ?z3 ?z4 ?z5 ?z6 ?z7 ?z8 ?z9 ?zF ?zN ?zm1 ?zm2 ?zI ?zJ ?zl ?zs ?helt ?zfin; (case z1 => rfl); (case z2 => decide); (case z3 => rfl); (case z4 => rfl); (case z5 => rfl); (case z6 => decide); (case z7 => rfl); (case z8 => rfl); (case z9 => rfl); (case zF => k_asm); (case zN => k_asm); (case zm1 => k_mem); (case zm2 => k_mem); (case zI => k_asm); (case zJ => k_asm); (case zl => omega); (case zs => omega))
    (case helt =>
      unfold PairElt
      intro a b ta tb C oC D ys m' M s' E' hC' hx' hy' hM' F' N'
      k_steps
      all_goals first | k_asm | allgen_close_more)
    (case zfin =>
      intro D h₂ tk₂ ys F₂ N₂ o₂ hys
      simp only [LCg.Off1, and_true] at o₂
      (try k_sweep)
      k_steps
      exact hret _ _ _ _ (by k_asm) (by allgen_close_more) ⟨_, _, _, rfl, rfl, by k_asm, by top_strB⟩)
  case lx => intro hk; simpa only using hk (0 : Nat)
  case le => eq_refl
end
section
theorem subP_call {w : World} {N : Led} {x r l : Addr} {q n : Int} {ns : List Int} (hR : Ring w N r q n) (hP : Poly w N x r l ns) (hlen : (ns.length : Int) = n) (hn1 : 1 ≤ n) (hn : n ≤ 4) (hq : 2 ≤ q) (hq2 : q < 2 ^ 33) {y l2 : Addr} {ms : List Int} (hP2 : Poly w N y r l2 ms) (hlen2 : (ms.length : Int) = n) :
   Ctr w 8 163 [.ref x, .ref y] N (ListPost N (List.zipWith (fun a b => Int.fmod (a - b) q) ns ms)) := by
  refine' lite ?lw ?lx ?le
  case lw =>
    unfold Ctr
    k_fill
    intro p loose mean mg mb dp un gd cn cs a ccd cl outer A₀ base h₀ L m s R B F X N₀ T hk hdp hun hret
    obtain ⟨dr, k3, k4, tq, tn, e3, hr, hdr⟩ := hR
    obtain ⟨⟨vs, e1, hl, hI⟩, dx, k1, k2, e2, hx, hdx⟩ := hP
    obtain ⟨⟨us, f1, hm, hJ⟩, dy, j1, j2, f2, hy, hdy⟩ := hP2
    k_dflt (refine' code_defC ?k1 ?k2 ?k3 ?k4 ?k5 ?kA ?kF ?kK ?k6 ?k7 ?k8 ?k9 ?kB ?kD ?_ ?c2 ?c3 ?c4; (case kA => exact rfl); (case kF => exact rfl); (case kK => assumption); (case k1 => k_asm); (case k2 => k_asm); (case k3 => k_asm); (case k4 => k_asm); (case k5 => k_asm); (case k6 => k_is); (case k7 => k_is); (case k8 => k_room); (case k9 => exact BindsTo.of_eq rfl); (case kB => exact rfl); (case kD => decide +kernel); (case c2 => exact rfl); (case c3 => exact rfl); (case c4 => exact rfl); k_whole)
    intro g₁ L₁ h₁ tk₁ cells₁ FG₁ F₁ N₁ Y₁ B₁ X₁ T₁ l₁
    k_cells Y₁
    simp only [List.cons_append, List.nil_append] at N₁
    (try dsimp only)
    (try k_fold)
    k_steps
    k_dflt (refine' zip_at (g := fun a b => Int.fmod (a - b) q) ?z1 ?z2 ?z3 ?z4 ?z5 ?z6 ?z7 ?z8 ?z9 ?zF ?zN ?zm1 ?zm2 ?zI ?zJ ?zl ?zs ?helt ?zfin; (case z1 => rfl); (case z2 => decide); (case z3 => rfl); (case z4 => rfl); (case z5 => rfl); (case z6 => decide); (case z7 => rfl); (case z8 => rfl); (case z9 => rfl); (case zF => k_asm); (case zN => k_asm); (case zm1 => k_mem); (case zm2 => k_mem); (case zI => k_asm); (case zJ => k_asm); (case zl => omega); (case zs => omega))
    (case helt =>
      unfold PairElt
      intro a b ta tb C oC D ys m' M s' E' hC' hx' hy' hM' F' N'
      k_steps
      all_goals first | k_asm | allgen_close_more)
    (case zfin =>
      intro D h₂ tk₂ ys F₂ N₂ o₂ hys
      simp only [LCg.Off1, and_true] at o₂
      (try k_sweep)
      k_steps
      exact hret _ _ _ _ (by k_asm) (by allgen_close_more) ⟨_, _, _, rfl, rfl, by k_asm, by top_strB⟩)
  case lx => intro hk; simpa only using hk (0 : Nat)
  case le => eq_refl
end
end
section
local macro_rules | `(tactic| k_mem) => `(tactic| ((fail_if_success (with_reducible refine' List.Mem.tail _ ?_)); first | with_reducible assumption | assumption | (refine sub_mem (by assumption) ?_; k_mem)))
local macro_rules | `(tactic| news_mem) => `(tactic| k_mem)
local macro_rules | `(tactic| k_room) => `(tactic| ((simp only [depth_under_make, depth_under_kw, depth_in1, depth_deeper, depth_caller, recursionLimit] at *); omega))
local macro_rules | `(tactic| k_units) => `(tactic| ((have hcL9 := cLine_is); (simp only [units_in1, units_deeper, Around.mark_units, units_caller, cLine] at *); omega))
local macro_rules | `(tactic| allgen_close2_more) => `(tactic| assumption)
local macro_rules | `(tactic| ktr_rel) => `(tactic| ((try simp only [List.length_append, List.length_cons, List.length_nil, List.length_map, List.length_set, List.length_zipWith, rangeKs_length]); first | assumption | omega))
local macro_rules | `(tactic| top_reprB) => `(tactic| first | exact List.forall_mem_nil _ | (refine List.forall_mem_cons.mpr ⟨by k_mem, ?_⟩; top_reprB) | (intro p hp; k_mem))
local macro_rules | `(tactic| k_ne) => `(tactic| (refine neN ?_; (try dsimp only); first | (with_reducible assumption) | exact Ne.symm (by with_reducible assumption) | exact off_ne (by with_reducible assumption) (by k_mem) | exact Ne.symm (off_ne (by with_reducible assumption) (by k_mem)) | omega))
local macro_rules | `(tactic| top_strB) => `(tactic| first | (first | assumption | exact allLt_of (by assumption) | exact And.right (by assumption) | exact And.right (And.right (by assumption)) | exact And.right (And.right (And.right (by assumption))) | exact And.right (And.right (And.right (And.right (by assumption)))) | exact And.right (And.right (And.right (And.right (And.right (by assumption))))) | exact And.right (And.right (And.right (And.right (And.right (And.right (by assumption)))))) | exact And.right (And.right (And.right (And.right (And.right (And.right (And.right (by assumption))))))) | exact And.right (And.right (And.right (And.right (And.right (And.right (And.right (And.right (by assumption)))))))) | exact And.right (And.right (And.right (And.right (And.right (And.right (And.right (And.right (And.right (by assumption))))))))) | exact And.right (And.right (And.right (And.right (And.right (And.right (And.right (And.right (And.right (And.right (by assumption)))))))))) | exact And.right (And.right (And.right (And.right (And.right (And.right (And.right (And.right (And.right (And.right (And.right (by assumption))))))))))) | exact And.right (And.right (And.right (And.right (And.right (And.right (And.right (And.right (And.right (And.right (And.right (And.right (by assumption)))))))))))) | exact And.right (And.right (And.right (And.right (And.right (And.right (And.right (And.right (And.right (And.right (And.right (And.right (And.right (by assumption))))))))))))) | exact And.right (And.right (And.right (And.right (And.right (And.right (And.right (And.right (And.right (And.right (And.right (And.right (And.right (And.right (by assumption)))))))))))))) | exact And.right (And.right (And.right (And.right (And.right (And.right (And.right (And.right (And.right (And.right (And.right (And.right (And.right (And.right (And.right (by assumption))))))))))))))) | exact And.right (And.right (And.right (And.right (And.right (And.right (And.right (And.right (And.right (And.right (And.right (And.right (And.right (And.right (And.right (And.right (by assumption)))))))))))))))) | exact And.right (And.right (And.right (And.right (And.right (And.right (And.right (And.right (And.right (And.right (And.right (And.right (And.right (And.right (And.right (And.right (And.right (by assumption))))))))))))))))) | exact And.right (And.right (And.right (And.right (And.right (And.right (And.right (And.right (And.right (And.right (And.right (And.right (And.right (And.right (And.right (And.right (And.right (And.right (by assumption)))))))))))))))))) | exact And.right (And.right (And.right (And.right (And.right (And.right (And.right (And.right (And.right (And.right (And.right (And.right (And.right (And.right (And.right (And.right (And.right (And.right (And.right (by assumption)))))))))))))))))))) | exact off_sub (by with_reducible assumption) (by top_reprB) | exact off_of_lt (by (first | assumption | exact allLt_of (by assumption) | exact And.right (by assumption) | exact And.right (And.right (by assumption)) | exact And.right (And.right (And.right (by assumption))) | exact And.right (And.right (And.right (And.right (by assumption)))) | exact And.right (And.right (And.right (And.right (And.right (by assumption))))) | exact And.right (And.right (And.right (And.right (And.right (And.right (by assumption)))))) | exact And.right (And.right (And.right (And.right (And.right (And.right (And.right (by assumption))))))) | exact And.right (And.right (And.right (And.right (And.right (And.right (And.right (And.right (by assumption)))))))) | exact And.right (And.right (And.right (And.right (And.right (And.right (And.right (And.right (And.right (by assumption))))))))) | exact And.right (And.right (And.right (And.right (And.right (And.right (And.right (And.right (And.right (And.right (by assumption)))))))))) | exact And.right (And.right (And.right (And.right (And.right (And.right (And.right (And.right (And.right (And.right (And.right (by assumption))))))))))) | exact And.right (And.right (And.right (And.right (And.right (And.right (And.right (And.right (And.right (And.right (And.right (And.right (by assumption)))))))))))) | exact And.right (And.right (And.right (And.right (And.right (And.right (And.right (And.right (And.right (And.right (And.right (And.right (And.right (by assumption))))))))))))) | exact And.right (And.right (And.right (And.right (And.right (And.right (And.right (And.right (And.right (And.right (And.right (And.right (And.right (And.right (by assumption)))))))))))))) | exact And.right (And.right (And.right (And.right (And.right (And.right (And.right (And.right (And.right (And.right (And.right (And.right (And.right (And.right (And.right (by assumption))))))))))))))) | exact And.right (And.right (And.right (And.right (And.right (And.right (And.right (And.right (And.right (And.right (And.right (And.right (And.right (And.right (And.right (And.right (by assumption)))))))))))))))) | exact And.right (And.right (And.right (And.right (And.right (And.right (And.right (And.right (And.right (And.right (And.right (And.right (And.right (And.right (And.right (And.right (And.right (by assumption))))))))))))))))) | exact And.right (And.right (And.right (And.right (And.right (And.right (And.right (And.right (And.right (And.right (And.right (And.right (And.right (And.right (And.right (And.right (And.right (And.right (by assumption)))))))))))))))))) | exact And.right (And.right (And.right (And.right (And.right (And.right (And.right (And.right (And.right (And.right (And.right (And.right (And.right (And.right (And.right (And.right (And.right (And.right (And.right (by assumption))))))))))))))))))))) | exact off_of_lt2 (by (first | assumption | exact allLt_of (by assumption) | exact And.right (by assumption) | exact And.right (And.right (by assumption)) | exact And.right (And.right (And.right (by assumption))) | exact And.right (And.right (And.right (And.right (by assumption)))) | exact And.right (And.right (And.right (And.right (And.right (by assumption))))) | exact And.right (And.right (And.right (And.right (And.right (And.right (by assumption)))))) | exact And.right (And.right (And.right (And.right (And.right (And.right (And.right (by assumption))))))) | exact And.right (And.right (And.right (And.right (And.right (And.right (And.right (And.right (by assumption)))))))) | exact And.right (And.right (And.right (And.right (And.right (And.right (And.right (And.right (And.right (by assumption))))))))) | exact And.right (And.right (And.right (And.right (And.right (And.right (And.right (And.right (And.right (And.right (by assumption)))))))))) | exact And.right (And.right (And.right (And.right (And.right (And.right (And.right (And.right (And.right (And.right (And.right (by assumption))))))))))) | exact And.right (And.right (And.right (And.right (And.right (And.right (And.right (And.right (And.right (And.right (And.right (And.right (by assumption)))))))))))) | exact And.right (And.right (And.right (And.right (And.right (And.right (And.right (And.right (And.right (And.right (And.right (And.right (And.right (by assumption))))))))))))) | exact And.right (And.right (And.right (And.right (And.right (And.right (And.right (And.right (And.right (And.right (And.right (And.right (And.right (And.right (by assumption)))))))))))))) | exact And.right (And.right (And.right (And.right (And.right (And.right (And.right (And.right (And.right (And.right (And.right (And.right (And.right (And.right (And.right (by assumption))))))))))))))) | exact And.right (And.right (And.right (And.right (And.right (And.right (And.right (And.right (And.right (And.right (And.right (And.right (And.right (And.right (And.right (And.right (by assumption)))))))))))))))) | exact And.right (And.right (And.right (And.right (And.right (And.right (And.right (And.right (And.right (And.right (And.right (And.right (And.right (And.right (And.right (And.right (And.right (by assumption))))))))))))))))) | exact And.right (And.right (And.right (And.right (And.right (And.right (And.right (And.right (And.right (And.right (And.right (And.right (And.right (And.right (And.right (And.right (And.right (And.right (by assumption)))))))))))))))))) | exact And.right (And.right (And.right (And.right (And.right (And.right (And.right (And.right (And.right (And.right (And.right (And.right (And.right (And.right (And.right (And.right (And.right (And.right (And.right (by assumption))))))))))))))))))))) (by omega) | exact off_of_base (by assumption) (by omega))
local macro_rules | `(tactic| k_all) => `(tactic| (refine off_all ?_; top_strB))
local macro_rules | `(tactic| walk_at "getMethod ref") => `(tactic| (k_here; k_dflt (refine' kmu_own ?k1 ?k2 ?k3 ?k4 ?k5 ?_; (case k1 => k_asm); (case k2 => k_asm); (case k3 => k_inst); (case k4 => k_is); (case k5 => k_is); k_whole)))
local macro_rules | `(tactic| walk_at "binaryOp Mult int int") => `(tactic| (k_here; with_reducible first | refine PyProof.Rows.mul_int ?_ (mulok_getD (by assumption) (by assumption) (by assumption)) | refine PyProof.Rows.mul_int ?_ (mulok_mem (by assumption) (by assumption) (by assumption))))
local macro_rules | `(tactic| top_name) => `(tactic| (law_purse 40000 => (law_clear; (repeat (with_reducible rename (@Ne Nat _ _) ∧ _ => hne9; clear hne9)); (repeat (with_reducible rename (@LT.lt Nat _ _ _) ∧ _ => hne9; clear hne9)); (repeat (with_reducible rename (@Ne Nat _ _) => hne9; clear hne9)); (try simp only [List.length_append, List.length_cons, List.length_nil, List.length_map, List.length_take, List.length_set, List.length_zipWith, rangeKs_length]); omega)))
local macro_rules | `(tactic| walk_at "subscriptTail Name Name ref int") => `(tactic| ((k_here; (with_reducible show wpAny _ _ (subscriptTail _ _ (Value.ref _) (Value.int _ _)) _ _ _); (with_unfolding_all refine' item_list_ints ?k1 ?k2 ?k3 ?k4 ?k5 ?_; (case k1 => exact News.isList (by k_asm) (by k_mem)); (case k2 => l_ints); (case k3 => first | assumption | top_name); (case k4 => first | assumption | exact idx_hi (by assumption) (by first | assumption | exact Nat.le_refl _) | top_name); (case k5 => first | assumption | exact idx_fit (by assumption) (by assumption) | top_name); k_whole); intro _)))
local macro_rules | `(tactic| walk_at "subscriptTail Name BinOp ref int") => `(tactic| ((k_here; (with_reducible show wpAny _ _ (subscriptTail _ _ (Value.ref _) (Value.int _ _)) _ _ _); (with_unfolding_all refine' item_list_ints ?k1 ?k2 ?k3 ?k4 ?k5 ?_; (case k1 => exact News.isList (by k_asm) (by k_mem)); (case k2 => l_ints); (case k3 => first | assumption | top_name); (case k4 => first | assumption | exact idx_hi (by assumption) (by first | assumption | exact Nat.le_refl _) | top_name); (case k5 => first | assumption | exact idx_fit (by assumption) (by assumption) | top_name); k_whole); intro _)))
local macro_rules | `(tactic| walk_at "call builtin:list.copy") => `(tactic| (k_here; (with_reducible show wpAny _ _ (call (Value.builtin _) [Value.ref _]) _ _ _); k_dflt (refine' copyK ?k1 ?k2 ?k3 ?k4 ?_; (case k1 => k_asm); (case k2 => k_asm); (case k3 => exact News.isList (by k_asm) (by k_mem)); (case k4 => exact ints_size (by l_ints) (by top_name)); k_whole); intro D' h' F' N' l1; (try k_lt l1); (try k_sweep)))
local macro_rules | `(tactic| walk_at "setItem ref int") => `(tactic| (k_here; (with_reducible show wpAny _ _ (setItem (Value.ref _) (Value.int _ _) (Value.int _ _)) _ _ _); k_dflt (refine' ksa_set ?k1 ?k2 ?k3 ?k4 ?k5 ?k6 ?k7 ?_; (case k1 => k_asm); (case k2 => k_asm); (case k3 => k_upd); (case k4 => l_ints); (case k5 => first | assumption | top_name); (case k6 => first | assumption | top_name); (case k7 => first | assumption | top_name); k_whole); intro h' F' N' hi' hl' hs'; clear hs'; (try k_sweep)))
local macro_rules | `(tactic| walk_at "callWith ref") => `(tactic| (k_here; kco_here; k_dflt (refine' kco_callWith ?k1 ?k2 ?k3 ?k4 ?_; (case k1 => k_in); (case k2 => k_inst); (case k3 => rfl); (case k4 => k_is); k_whole)))
local macro_rules | `(tactic| allgen_close_more) => `(tactic| first | k_asm | (refine' cb_drop ?cbN ?cbS; (case cbN => assumption); (case cbS => top_reprB)))
local macro_rules | `(tactic| walk_at "exec For Name Call cons nil") => `(tactic| (k_here; k_dflt (refine For_turns (by k_asm) ?_ (by intro _; with_unfolding_all rfl) (by passes_own)); (try k_fold)))
local macro_rules | `(tactic| walk_at "getItem ref int") => `(tactic| (k_here; (with_reducible show wpAny _ _ (getItem (Value.ref _) (Value.int _ _)) _ _ _); k_dflt (refine' ksa_get ?k1 ?k2 ?k3 ?k4 ?k5 ?k6 ?_; (case k1 => k_asm); (case k2 => k_mem); (case k3 => l_ints); (case k4 => first | assumption | top_name); (case k5 => first | assumption | top_name); (case k6 => first | assumption | top_name); k_whole); intro _))
local macro_rules | `(tactic| walk_at "CompSrc") => `(tactic| (k_here; k_dflt (refine' LCg.CompSrc.ledger ?s1 ?s2 ?s3 ?s4 ?s5 ?_; (case s1 => rfl); (case s2 => k_asm); (case s3 => k_asm); (case s4 => k_mem); (case s5 => exact ints_sizeA (by l_ints) (by first | assumption | top_name)); intro g'; (refine' kcf_list _ (by l_ints) (fun k' t' I' oI' C' oC' D' m' ys' h' tk' E' hk' hC' hx' F' N' off' ne' hMark' => ?_) ?_); (all_goals (try (simp only [LCg.Off3, and_true] at off'))); kcf_last)))
local macro_rules | `(tactic| k_enter) => `(tactic| ((with_reducible show codeAny _ _ (Code.call (Value.ref 56) ⟨[Value.ref _, Value.ref _], _⟩) _ _); k_dflt (refine' Ctr.use (ring_call ?c0 ?c1 ?c2 ?c3) ?k1 ?k2 ?k3 ?k4 ?k5 ?kK ?kd ?ku ?_; (case k1 => k_asm); (case k2 => k_asm); (case k3 => k_asm); (case k4 => k_asm); (case k5 => k_asm); (case kK => first | exact rfl | assumption); (case c0 => exact ⟨_, _, _, _, _, _, by k_mem, by k_mem⟩); (case c1 => exact ⟨_, _, by k_mem, by l_ints⟩); (case c2 => ktr_rel); (case c3 => ktr_rel); (case kd => k_room); (case ku => k_units); k_whole; intro v' h' tk' nw' F' N' cP'; obtain ⟨x', d', t1', t2', hv', hn', o1', o2', n1'⟩ := cP'; subst hv'; subst hn'; (try dsimp only); kts_tail; (try k_sweep))))
local macro_rules | `(tactic| walk_at "exec Assign cons ListComp") => `(tactic| (k_here; (with_reducible show wpAny _ _ (exec (Stmt.Assign [Expr.Name _ _] (Expr.ListComp _ [⟨Expr.Tuple _ _ _, _, _, _⟩] _ _) _) _) _ _ _); k_dflt (refine' zip_assign ?z1 ?z2 ?z3 ?z4 ?z5 ?_; (case z1 => with_unfolding_all rfl); (case z2 => with_unfolding_all rfl); (case z3 => rfl); (case z4 => decide); (case z5 => intro _; with_unfolding_all rfl))))
local macro_rules | `(tactic| walk_at "eval ListComp") => `(tactic| (k_here; (with_reducible show wpAny _ _ (eval (Expr.ListComp _ [⟨Expr.Tuple _ _ _, _, _, _⟩] _ _) _) _ _ _); k_dflt (refine' zip_eval ?z2 ?z3 ?z4 ?z5 ?_; (case z2 => with_unfolding_all rfl); (case z3 => rfl); (case z4 => decide); (case z5 => intro _; with_unfolding_all rfl))))
section
local macro_rules | `(tactic| k_enter) => `(tactic| ((with_reducible show codeAny _ _ (Code.call (Value.ref 137) ⟨[Value.ref _, Value.ref _], _⟩) _ _); k_dflt (refine' Ctr.use (addP_call ?c0 ?c1 ?c2 ?c3 ?c4 ?c5 ?c6 ?c7 ?c8) ?k1 ?k2 ?k3 ?k4 ?k5 ?kK ?kd ?ku ?_; (case k1 => k_asm); (case k2 => k_asm); (case k3 => k_asm); (case k4 => k_asm); (case k5 => k_asm); (case kK => first | exact rfl | assumption); (case c0 => exact ⟨_, _, _, _, _, _, by k_mem, by k_mem⟩); (case c1 => (refine' ⟨⟨_, _, ?pa, ?pb⟩, _, _, _, _, ?pc, ?pd⟩; (case pc => k_mem); (case pd => k_mem); (case pa => k_mem); (case pb => l_ints))); (case c2 => ktr_rel); (case c3 => ktr_rel); (case c4 => ktr_rel); (case c5 => ktr_rel); (case c6 => ktr_rel); (case c7 => (refine' ⟨⟨_, _, ?pa, ?pb⟩, _, _, _, _, ?pc, ?pd⟩; (case pc => k_mem); (case pd => k_mem); (case pa => k_mem); (case pb => l_ints))); (case c8 => ktr_rel); (case kd => k_room); (case ku => k_units); k_whole; intro v' h' tk' nw' F' N' cP'; obtain ⟨l', vs', e', hv', hn', hi', o1'⟩ := cP'; subst hv'; subst hn'; (try dsimp only); kts_tail; (try k_sweep))))
theorem add_call {w : World} {N : Led} {x r l : Addr} {q n : Int} {ns : List Int} (hR : Ring w N r q n) (hP : Poly w N x r l ns) (hlen : (ns.length : Int) = n) (hn1 : 1 ≤ n) (hn : n ≤ 4) (hq : 2 ≤ q) (hq2 : q < 2 ^ 33) {y l2 : Addr} {ms : List Int} (hP2 : Poly w N y r l2 ms) (hlen2 : (ms.length : Int) = n) :
   Ctr w 16 144 [.ref x, .ref y] N (PolyPost w N r (List.zipWith (fun a b => Int.fmod (a + b) q) ns ms)) := by
  refine' lite ?lw ?lx ?le
  case lw =>
    unfold Ctr
    k_fill
    intro p loose mean mg mb dp un gd cn cs a ccd cl outer A₀ base h₀ L m s R B F X N₀ T hk hdp hun hret
    obtain ⟨dr, k3, k4, tq, tn, e3, hr, hdr⟩ := hR
    obtain ⟨⟨vs, e1, hl, hI⟩, dx, k1, k2, e2, hx, hdx⟩ := hP
    obtain ⟨⟨us, f1, hm, hJ⟩, dy, j1, j2, f2, hy, hdy⟩ := hP2
    k_dflt (refine' code_def ?k1 ?k2 ?k3 ?k4 ?k5 ?kA ?kF ?kK ?k6 ?k7 ?k8 ?k9 ?kB ?_ ?c2 ?c3 ?c4 ?c5; (case kA => exact rfl); (case kF => exact rfl); (case kK => assumption); (case k1 => k_asm); (case k2 => k_asm); (case k3 => k_asm); (case k4 => k_asm); (case k5 => k_asm); (case k6 => k_is); (case k7 => k_is); (case k8 => k_room); (case k9 => exact BindsTo.of_eq rfl); (case c5 => decide); (case kB => exact locs rfl); (case c2 => exact rfl); (case c3 => exact rfl); (case c4 => exact rfl); k_whole)
    intro g₁ L₁ h₁ FG₁ F₁ N₁ B₁ X₁ T₁
    (try dsimp only)
    (try k_fold)
    k_steps
    exact hret _ _ _ _ (by k_asm) (by allgen_close_more) ⟨_, _, _, _, _, _, _, rfl, rfl, by k_asm, by top_strB, by top_strB, by top_strB, by k_ne, by k_ne, by k_ne⟩
  case lx => intro hk; simpa only using hk (0 : Nat)
  case le => eq_refl
end
section
local macro_rules | `(tactic| k_enter) => `(tactic| ((with_reducible show codeAny _ _ (Code.call (Value.ref 163) ⟨[Value.ref _, Value.ref _], _⟩) _ _); k_dflt (refine' Ctr.use (subP_call ?c0 ?c1 ?c2 ?c3 ?c4 ?c5 ?c6 ?c7 ?c8) ?k1 ?k2 ?k3 ?k4 ?k5 ?kK ?kd ?ku ?_; (case k1 => k_asm); (case k2 => k_asm); (case k3 => k_asm); (case k4 => k_asm); (case k5 => k_asm); (case kK => first | exact rfl | assumption); (case c0 => exact ⟨_, _, _, _, _, _, by k_mem, by k_mem⟩); (case c1 => (refine' ⟨⟨_, _, ?pa, ?pb⟩, _, _, _, _, ?pc, ?pd⟩; (case pc => k_mem); (case pd => k_mem); (case pa => k_mem); (case pb => l_ints))); (case c2 => ktr_rel); (case c3 => ktr_rel); (case c4 => ktr_rel); (case c5 => ktr_rel); (case c6 => ktr_rel); (case c7 => (refine' ⟨⟨_, _, ?pa, ?pb⟩, _, _, _, _, ?pc, ?pd⟩; (case pc => k_mem); (case pd => k_mem); (case pa => k_mem); (case pb => l_ints))); (case c8 => ktr_rel); (case kd => k_room); (case ku => k_units); k_whole; intro v' h' tk' nw' F' N' cP'; obtain ⟨l', vs', e', hv', hn', hi', o1'⟩ := cP'; subst hv'; subst hn'; (try dsimp only); kts_tail; (try k_sweep))))
theorem sub_call {w : World} {N : Led} {x r l : Addr} {q n : Int} {ns : List Int} (hR : Ring w N r q n) (hP : Poly w N x r l ns) (hlen : (ns.length : Int) = n) (hn1 : 1 ≤ n) (hn : n ≤ 4) (hq : 2 ≤ q) (hq2 : q < 2 ^ 33) {y l2 : Addr} {ms : List Int} (hP2 : Poly w N y r l2 ms) (hlen2 : (ms.length : Int) = n) :
   Ctr w 16 170 [.ref x, .ref y] N (PolyPost w N r (List.zipWith (fun a b => Int.fmod (a - b) q) ns ms)) := by
  refine' lite ?lw ?lx ?le
  case lw =>
    unfold Ctr
    k_fill
    intro p loose mean mg mb dp un gd cn cs a ccd cl outer A₀ base h₀ L m s R B F X N₀ T hk hdp hun hret
    obtain ⟨dr, k3, k4, tq, tn, e3, hr, hdr⟩ := hR
    obtain ⟨⟨vs, e1, hl, hI⟩, dx, k1, k2, e2, hx, hdx⟩ := hP
    obtain ⟨⟨us, f1, hm, hJ⟩, dy, j1, j2, f2, hy, hdy⟩ := hP2
    k_dflt (refine' code_def ?k1 ?k2 ?k3 ?k4 ?k5 ?kA ?kF ?kK ?k6 ?k7 ?k8 ?k9 ?kB ?_ ?c2 ?c3 ?c4 ?c5; (case kA => exact rfl); (case kF => exact rfl); (case kK => assumption); (case k1 => k_asm); (case k2 => k_asm); (case k3 => k_asm); (case k4 => k_asm); (case k5 => k_asm); (case k6 => k_is); (case k7 => k_is); (case k8 => k_room); (case k9 => exact BindsTo.of_eq rfl); (case c5 => decide); (case kB => exact locs rfl); (case c2 => exact rfl); (case c3 => exact rfl); (case c4 => exact rfl); k_whole)
    intro g₁ L₁ h₁ FG₁ F₁ N₁ B₁ X₁ T₁
    (try dsimp only)
    (try k_fold)
    k_steps
    exact hret _ _ _ _ (by k_asm) (by allgen_close_more) ⟨_, _, _, _, _, _, _, rfl, rfl, by k_asm, by top_strB, by top_strB, by top_strB, by k_ne, by k_ne, by k_ne⟩
  case lx => intro hk; simpa only using hk (0 : Nat)
  case le => eq_refl
end
section
local macro_rules | `(tactic| k_enter) => `(tactic| ((with_reducible show codeAny _ _ (Code.call (Value.ref 144) ⟨[Value.ref _, Value.ref _], _⟩) _ _); k_dflt (refine' Ctr.use (add_call ?c0 ?c1 ?c2 ?c3 ?c4 ?c5 ?c6 ?c7 ?c8) ?k1 ?k2 ?k3 ?k4 ?k5 ?kK ?kd ?ku ?_; (case k1 => k_asm); (case k2 => k_asm); (case k3 => k_asm); (case k4 => k_asm); (case k5 => k_asm); (case kK => first | exact rfl | assumption); (case c0 => exact ⟨_, _, _, _, _, _, by k_mem, by k_mem⟩); (case c1 => (refine' ⟨⟨_, _, ?pa, ?pb⟩, _, _, _, _, ?pc, ?pd⟩; (case pc => k_mem); (case pd => k_mem); (case pa => k_mem); (case pb => l_ints))); (case c2 => ktr_rel); (case c3 => ktr_rel); (case c4 => ktr_rel); (case c5 => ktr_rel); (case c6 => ktr_rel); (case c7 => (refine' ⟨⟨_, _, ?pa, ?pb⟩, _, _, _, _, ?pc, ?pd⟩; (case pc => k_mem); (case pd => k_mem); (case pa => k_mem); (case pb => l_ints))); (case c8 => ktr_rel); (case kd => k_room); (case ku => k_units); k_whole; intro v' h' tk' nw' F' N' cP'; obtain ⟨x', d', l', t1', t2', vs', e', hv', hn', hi', o1', o2', o3', n1', n2', n3'⟩ := cP'; subst hv'; subst hn'; (try dsimp only); kts_tail; (try k_sweep))))
theorem iadd_call {w : World} {N : Led} {x r l : Addr} {q n : Int} {ns : List Int} (hR : Ring w N r q n) (hP : Poly w N x r l ns) (hlen : (ns.length : Int) = n) (hn1 : 1 ≤ n) (hn : n ≤ 4) (hq : 2 ≤ q) (hq2 : q < 2 ^ 33) {y l2 : Addr} {ms : List Int} (hP2 : Poly w N y r l2 ms) (hlen2 : (ms.length : Int) = n) :
   Ctr w 20 158 [.ref x, .ref y] N (PolyPost w N r (List.zipWith (fun a b => Int.fmod (a + b) q) ns ms)) := by
  refine' lite ?lw ?lx ?le
  case lw =>
    unfold Ctr
    k_fill
    intro p loose mean mg mb dp un gd cn cs a ccd cl outer A₀ base h₀ L m s R B F X N₀ T hk hdp hun hret
    obtain ⟨dr, k3, k4, tq, tn, e3, hr, hdr⟩ := hR
    obtain ⟨⟨vs, e1, hl, hI⟩, dx, k1, k2, e2, hx, hdx⟩ := hP
    obtain ⟨⟨us, f1, hm, hJ⟩, dy, j1, j2, f2, hy, hdy⟩ := hP2
    k_dflt (refine' code_def ?k1 ?k2 ?k3 ?k4 ?k5 ?kA ?kF ?kK ?k6 ?k7 ?k8 ?k9 ?kB ?_ ?c2 ?c3 ?c4 ?c5; (case kA => exact rfl); (case kF => exact rfl); (case kK => assumption); (case k1 => k_asm); (case k2 => k_asm); (case k3 => k_asm); (case k4 => k_asm); (case k5 => k_asm); (case k6 => k_is); (case k7 => k_is); (case k8 => k_room); (case k9 => exact BindsTo.of_eq rfl); (case c5 => decide); (case kB => exact locs rfl); (case c2 => exact rfl); (case c3 => exact rfl); (case c4 => exact rfl); k_whole)
    intro g₁ L₁ h₁ FG₁ F₁ N₁ B₁ X₁ T₁
    (try dsimp only)
    (try k_fold)
    k_steps
    exact hret _ _ _ _ (by k_asm) (by allgen_close_more) ⟨_, _, _, _, _, _, _, rfl, rfl, by k_asm, by top_strB, by top_strB, by top_strB, by k_ne, by k_ne, by k_ne⟩
  case lx => intro hk; simpa only using hk (0 : Nat)
  case le => eq_refl
end
section
local macro_rules | `(tactic| k_enter) => `(tactic| ((with_reducible show codeAny _ _ (Code.call (Value.ref 170) ⟨[Value.ref _, Value.ref _], _⟩) _ _); k_dflt (refine' Ctr.use (sub_call ?c0 ?c1 ?c2 ?c3 ?c4 ?c5 ?c6 ?c7 ?c8) ?k1 ?k2 ?k3 ?k4 ?k5 ?kK ?kd ?ku ?_; (case k1 => k_asm); (case k2 => k_asm); (case k3 => k_asm); (case k4 => k_asm); (case k5 => k_asm); (case kK => first | exact rfl | assumption); (case c0 => exact ⟨_, _, _, _, _, _, by k_mem, by k_mem⟩); (case c1 => (refine' ⟨⟨_, _, ?pa, ?pb⟩, _, _, _, _, ?pc, ?pd⟩; (case pc => k_mem); (case pd => k_mem); (case pa => k_mem); (case pb => l_ints))); (case c2 => ktr_rel); (case c3 => ktr_rel); (case c4 => ktr_rel); (case c5 => ktr_rel); (case c6 => ktr_rel); (case c7 => (refine' ⟨⟨_, _, ?pa, ?pb⟩, _, _, _, _, ?pc, ?pd⟩; (case pc => k_mem); (case pd => k_mem); (case pa => k_mem); (case pb => l_ints))); (case c8 => ktr_rel); (case kd => k_room); (case ku => k_units); k_whole; intro v' h' tk' nw' F' N' cP'; obtain ⟨x', d', l', t1', t2', vs', e', hv', hn', hi', o1', o2', o3', n1', n2', n3'⟩ := cP'; subst hv'; subst hn'; (try dsimp only); kts_tail; (try k_sweep))))
theorem isub_call {w : World} {N : Led} {x r l : Addr} {q n : Int} {ns : List Int} (hR : Ring w N r q n) (hP : Poly w N x r l ns) (hlen : (ns.length : Int) = n) (hn1 : 1 ≤ n) (hn : n ≤ 4) (hq : 2 ≤ q) (hq2 : q < 2 ^ 33) {y l2 : Addr} {ms : List Int} (hP2 : Poly w N y r l2 ms) (hlen2 : (ms.length : Int) = n) :
   Ctr w 20 184 [.ref x, .ref y] N (PolyPost w N r (List.zipWith (fun a b => Int.fmod (a - b) q) ns ms)) := by
  refine' lite ?lw ?lx ?le
  case lw =>
    unfold Ctr
    k_fill
    intro p loose mean mg mb dp un gd cn cs a ccd cl outer A₀ base h₀ L m s R B F X N₀ T hk hdp hun hret
    obtain ⟨dr, k3, k4, tq, tn, e3, hr, hdr⟩ := hR
    obtain ⟨⟨vs, e1, hl, hI⟩, dx, k1, k2, e2, hx, hdx⟩ := hP
    obtain ⟨⟨us, f1, hm, hJ⟩, dy, j1, j2, f2, hy, hdy⟩ := hP2
    k_dflt (refine' code_def ?k1 ?k2 ?k3 ?k4 ?k5 ?kA ?kF ?kK ?k6 ?k7 ?k8 ?k9 ?kB ?_ ?c2 ?c3 ?c4 ?c5; (case kA => exact rfl); (case kF => exact rfl); (case kK => assumption); (case k1 => k_asm); (case k2 => k_asm); (case k3 => k_asm); (case k4 => k_asm); (case k5 => k_asm); (case k6 => k_is); (case k7 => k_is); (case k8 => k_room); (case k9 => exact BindsTo.of_eq rfl); (case c5 => decide); (case kB => exact locs rfl); (case c2 => exact rfl); (case c3 => exact rfl); (case c4 => exact rfl); k_whole)
    intro g₁ L₁ h₁ FG₁ F₁ N₁ B₁ X₁ T₁
    (try dsimp only)
    (try k_fold)
    k_steps
    exact hret _ _ _ _ (by k_asm) (by allgen_close_more) ⟨_, _, _, _, _, _, _, rfl, rfl, by k_asm, by top_strB, by top_strB, by top_strB, by k_ne, by k_ne, by k_ne⟩
  case lx => intro hk; simpa only using hk (0 : Nat)
  case le => eq_refl
end
end
section
local macro_rules | `(tactic| k_mem) => `(tactic| ((fail_if_success (with_reducible refine' List.Mem.tail _ ?_)); first | with_reducible assumption | assumption | (refine sub_mem (by assumption) ?_; k_mem)))
local macro_rules | `(tactic| news_mem) => `(tactic| k_mem)
local macro_rules | `(tactic| k_room) => `(tactic| ((simp only [depth_under_make, depth_under_kw, depth_in1, depth_deeper, depth_caller, recursionLimit] at *); omega))
local macro_rules | `(tactic| k_units) => `(tactic| ((have hcL9 := cLine_is); (simp only [units_in1, units_deeper, Around.mark_units, units_caller, cLine] at *); omega))
local macro_rules | `(tactic| allgen_close2_more) => `(tactic| assumption)
local macro_rules | `(tactic| ktr_rel) => `(tactic| ((try simp only [List.length_append, List.length_cons, List.length_nil, List.length_map, List.length_set, List.length_zipWith, rangeKs_length]); first | assumption | omega))
local macro_rules | `(tactic| top_reprB) => `(tactic| first | exact List.forall_mem_nil _ | (refine List.forall_mem_cons.mpr ⟨by k_mem, ?_⟩; top_reprB) | (intro p hp; k_mem))
local macro_rules | `(tactic| k_ne) => `(tactic| (refine neN ?_; (try dsimp only); first | (with_reducible assumption) | exact Ne.symm (by with_reducible assumption) | exact off_ne (by with_reducible assumption) (by k_mem) | exact Ne.symm (off_ne (by with_reducible assumption) (by k_mem)) | omega))
local macro_rules | `(tactic| top_strB) => `(tactic| first | (first | assumption | exact allLt_of (by assumption) | exact And.right (by assumption) | exact And.right (And.right (by assumption)) | exact And.right (And.right (And.right (by assumption))) | exact And.right (And.right (And.right (And.right (by assumption)))) | exact And.right (And.right (And.right (And.right (And.right (by assumption))))) | exact And.right (And.right (And.right (And.right (And.right (And.right (by assumption)))))) | exact And.right (And.right (And.right (And.right (And.right (And.right (And.right (by assumption))))))) | exact And.right (And.right (And.right (And.right (And.right (And.right (And.right (And.right (by assumption)))))))) | exact And.right (And.right (And.right (And.right (And.right (And.right (And.right (And.right (And.right (by assumption))))))))) | exact And.right (And.right (And.right (And.right (And.right (And.right (And.right (And.right (And.right (And.right (by assumption)))))))))) | exact And.right (And.right (And.right (And.right (And.right (And.right (And.right (And.right (And.right (And.right (And.right (by assumption))))))))))) | exact And.right (And.right (And.right (And.right (And.right (And.right (And.right (And.right (And.right (And.right (And.right (And.right (by assumption)))))))))))) | exact And.right (And.right (And.right (And.right (And.right (And.right (And.right (And.right (And.right (And.right (And.right (And.right (And.right (by assumption))))))))))))) | exact And.right (And.right (And.right (And.right (And.right (And.right (And.right (And.right (And.right (And.right (And.right (And.right (And.right (And.right (by assumption)))))))))))))) | exact And.right (And.right (And.right (And.right (And.right (And.right (And.right (And.right (And.right (And.right (And.right (And.right (And.right (And.right (And.right (by assumption))))))))))))))) | exact And.right (And.right (And.right (And.right (And.right (And.right (And.right (And.right (And.right (And.right (And.right (And.right (And.right (And.right (And.right (And.right (by assumption)))))))))))))))) | exact And.right (And.right (And.right (And.right (And.right (And.right (And.right (And.right (And.right (And.right (And.right (And.right (And.right (And.right (And.right (And.right (And.right (by assumption))))))))))))))))) | exact And.right (And.right (And.right (And.right (And.right (And.right (And.right (And.right (And.right (And.right (And.right (And.right (And.right (And.right (And.right (And.right (And.right (And.right (by assumption)))))))))))))))))) | exact And.right (And.right (And.right (And.right (And.right (And.right (And.right (And.right (And.right (And.right (And.right (And.right (And.right (And.right (And.right (And.right (And.right (And.right (And.right (by assumption)))))))))))))))))))) | exact off_sub (by with_reducible assumption) (by top_reprB) | exact off_of_lt (by (first | assumption | exact allLt_of (by assumption) | exact And.right (by assumption) | exact And.right (And.right (by assumption)) | exact And.right (And.right (And.right (by assumption))) | exact And.right (And.right (And.right (And.right (by assumption)))) | exact And.right (And.right (And.right (And.right (And.right (by assumption))))) | exact And.right (And.right (And.right (And.right (And.right (And.right (by assumption)))))) | exact And.right (And.right (And.right (And.right (And.right (And.right (And.right (by assumption))))))) | exact And.right (And.right (And.right (And.right (And.right (And.right (And.right (And.right (by assumption)))))))) | exact And.right (And.right (And.right (And.right (And.right (And.right (And.right (And.right (And.right (by assumption))))))))) | exact And.right (And.right (And.right (And.right (And.right (And.right (And.right (And.right (And.right (And.right (by assumption)))))))))) | exact And.right (And.right (And.right (And.right (And.right (And.right (And.right (And.right (And.right (And.right (And.right (by assumption))))))))))) | exact And.right (And.right (And.right (And.right (And.right (And.right (And.right (And.right (And.right (And.right (And.right (And.right (by assumption)))))))))))) | exact And.right (And.right (And.right (And.right (And.right (And.right (And.right (And.right (And.right (And.right (And.right (And.right (And.right (by assumption))))))))))))) | exact And.right (And.right (And.right (And.right (And.right (And.right (And.right (And.right (And.right (And.right (And.right (And.right (And.right (And.right (by assumption)))))))))))))) | exact And.right (And.right (And.right (And.right (And.right (And.right (And.right (And.right (And.right (And.right (And.right (And.right (And.right (And.right (And.right (by assumption))))))))))))))) | exact And.right (And.right (And.right (And.right (And.right (And.right (And.right (And.right (And.right (And.right (And.right (And.right (And.right (And.right (And.right (And.right (by assumption)))))))))))))))) | exact And.right (And.right (And.right (And.right (And.right (And.right (And.right (And.right (And.right (And.right (And.right (And.right (And.right (And.right (And.right (And.right (And.right (by assumption))))))))))))))))) | exact And.right (And.right (And.right (And.right (And.right (And.right (And.right (And.right (And.right (And.right (And.right (And.right (And.right (And.right (And.right (And.right (And.right (And.right (by assumption)))))))))))))))))) | exact And.right (And.right (And.right (And.right (And.right (And.right (And.right (And.right (And.right (And.right (And.right (And.right (And.right (And.right (And.right (And.right (And.right (And.right (And.right (by assumption))))))))))))))))))))) | exact off_of_lt2 (by (first | assumption | exact allLt_of (by assumption) | exact And.right (by assumption) | exact And.right (And.right (by assumption)) | exact And.right (And.right (And.right (by assumption))) | exact And.right (And.right (And.right (And.right (by assumption)))) | exact And.right (And.right (And.right (And.right (And.right (by assumption))))) | exact And.right (And.right (And.right (And.right (And.right (And.right (by assumption)))))) | exact And.right (And.right (And.right (And.right (And.right (And.right (And.right (by assumption))))))) | exact And.right (And.right (And.right (And.right (And.right (And.right (And.right (And.right (by assumption)))))))) | exact And.right (And.right (And.right (And.right (And.right (And.right (And.right (And.right (And.right (by assumption))))))))) | exact And.right (And.right (And.right (And.right (And.right (And.right (And.right (And.right (And.right (And.right (by assumption)))))))))) | exact And.right (And.right (And.right (And.right (And.right (And.right (And.right (And.right (And.right (And.right (And.right (by assumption))))))))))) | exact And.right (And.right (And.right (And.right (And.right (And.right (And.right (And.right (And.right (And.right (And.right (And.right (by assumption)))))))))))) | exact And.right (And.right (And.right (And.right (And.right (And.right (And.right (And.right (And.right (And.right (And.right (And.right (And.right (by assumption))))))))))))) | exact And.right (And.right (And.right (And.right (And.right (And.right (And.right (And.right (And.right (And.right (And.right (And.right (And.right (And.right (by assumption)))))))))))))) | exact And.right (And.right (And.right (And.right (And.right (And.right (And.right (And.right (And.right (And.right (And.right (And.right (And.right (And.right (And.right (by assumption))))))))))))))) | exact And.right (And.right (And.right (And.right (And.right (And.right (And.right (And.right (And.right (And.right (And.right (And.right (And.right (And.right (And.right (And.right (by assumption)))))))))))))))) | exact And.right (And.right (And.right (And.right (And.right (And.right (And.right (And.right (And.right (And.right (And.right (And.right (And.right (And.right (And.right (And.right (And.right (by assumption))))))))))))))))) | exact And.right (And.right (And.right (And.right (And.right (And.right (And.right (And.right (And.right (And.right (And.right (And.right (And.right (And.right (And.right (And.right (And.right (And.right (by assumption)))))))))))))))))) | exact And.right (And.right (And.right (And.right (And.right (And.right (And.right (And.right (And.right (And.right (And.right (And.right (And.right (And.right (And.right (And.right (And.right (And.right (And.right (by assumption))))))))))))))))))))) (by omega) | exact off_of_base (by assumption) (by omega))
local macro_rules | `(tactic| k_all) => `(tactic| (refine off_all ?_; top_strB))
local macro_rules | `(tactic| walk_at "getMethod ref") => `(tactic| (k_here; k_dflt (refine' kmu_own ?k1 ?k2 ?k3 ?k4 ?k5 ?_; (case k1 => k_asm); (case k2 => k_asm); (case k3 => k_inst); (case k4 => k_is); (case k5 => k_is); k_whole)))
local macro_rules | `(tactic| walk_at "binaryOp Mult int int") => `(tactic| (k_here; with_reducible first | refine PyProof.Rows.mul_int ?_ (mulok_getD (by assumption) (by assumption) (by assumption)) | refine PyProof.Rows.mul_int ?_ (mulok_mem (by assumption) (by assumption) (by assumption))))
local macro_rules | `(tactic| top_name) => `(tactic| (law_purse 40000 => (law_clear; (repeat (with_reducible rename (@Ne Nat _ _) ∧ _ => hne9; clear hne9)); (repeat (with_reducible rename (@LT.lt Nat _ _ _) ∧ _ => hne9; clear hne9)); (repeat (with_reducible rename (@Ne Nat _ _) => hne9; clear hne9)); (try simp only [List.length_append, List.length_cons, List.length_nil, List.length_map, List.length_take, List.length_set, List.length_zipWith, rangeKs_length]); omega)))
local macro_rules | `(tactic| walk_at "subscriptTail Name Name ref int") => `(tactic| ((k_here; (with_reducible show wpAny _ _ (subscriptTail _ _ (Value.ref _) (Value.int _ _)) _ _ _); (with_unfolding_all refine' item_list_ints ?k1 ?k2 ?k3 ?k4 ?k5 ?_; (case k1 => exact News.isList (by k_asm) (by k_mem)); (case k2 => l_ints); (case k3 => first | assumption | top_name); (case k4 => first | assumption | exact idx_hi (by assumption) (by first | assumption | exact Nat.le_refl _) | top_name); (case k5 => first | assumption | exact idx_fit (by assumption) (by assumption) | top_name); k_whole); intro _)))
local macro_rules | `(tactic| walk_at "subscriptTail Name BinOp ref int") => `(tactic| ((k_here; (with_reducible show wpAny _ _ (subscriptTail _ _ (Value.ref _) (Value.int _ _)) _ _ _); (with_unfolding_all refine' item_list_ints ?k1 ?k2 ?k3 ?k4 ?k5 ?_; (case k1 => exact News.isList (by k_asm) (by k_mem)); (case k2 => l_ints); (case k3 => first | assumption | top_name); (case k4 => first | assumption | exact idx_hi (by assumption) (by first | assumption | exact Nat.le_refl _) | top_name); (case k5 => first | assumption | exact idx_fit (by assumption) (by assumption) | top_name); k_whole); intro _)))
local macro_rules | `(tactic| walk_at "call builtin:list.copy") => `(tactic| (k_here; (with_reducible show wpAny _ _ (call (Value.builtin _) [Value.ref _]) _ _ _); k_dflt (refine' copyK ?k1 ?k2 ?k3 ?k4 ?_; (case k1 => k_asm); (case k2 => k_asm); (case k3 => exact News.isList (by k_asm) (by k_mem)); (case k4 => exact ints_size (by l_ints) (by top_name)); k_whole); intro D' h' F' N' l1; (try k_lt l1); (try k_sweep)))
local macro_rules | `(tactic| walk_at "setItem ref int") => `(tactic| (k_here; (with_reducible show wpAny _ _ (setItem (Value.ref _) (Value.int _ _) (Value.int _ _)) _ _ _); k_dflt (refine' ksa_set ?k1 ?k2 ?k3 ?k4 ?k5 ?k6 ?k7 ?_; (case k1 => k_asm); (case k2 => k_asm); (case k3 => k_upd); (case k4 => l_ints); (case k5 => first | assumption | top_name); (case k6 => first | assumption | top_name); (case k7 => first | assumption | top_name); k_whole); intro h' F' N' hi' hl' hs'; clear hs'; (try k_sweep)))
local macro_rules | `(tactic| walk_at "callWith ref") => `(tactic| (k_here; kco_here; k_dflt (refine' kco_callWith ?k1 ?k2 ?k3 ?k4 ?_; (case k1 => k_in); (case k2 => k_inst); (case k3 => rfl); (case k4 => k_is); k_whole)))
local macro_rules | `(tactic| allgen_close_more) => `(tactic| first | k_asm | (refine' cb_drop ?cbN ?cbS; (case cbN => assumption); (case cbS => top_reprB)))
local macro_rules | `(tactic| walk_at "exec For Name Call cons nil") => `(tactic| (k_here; k_dflt (refine For_turns (by k_asm) ?_ (by intro _; with_unfolding_all rfl) (by passes_own)); (try k_fold)))
local macro_rules | `(tactic| walk_at "getItem ref int") => `(tactic| (k_here; (with_reducible show wpAny _ _ (getItem (Value.ref _) (Value.int _ _)) _ _ _); k_dflt (refine' ksa_get ?k1 ?k2 ?k3 ?k4 ?k5 ?k6 ?_; (case k1 => k_asm); (case k2 => k_mem); (case k3 => l_ints); (case k4 => first | assumption | top_name); (case k5 => first | assumption | top_name); (case k6 => first | assumption | top_name); k_whole); intro _))
local macro_rules | `(tactic| walk_at "CompSrc") => `(tactic| (k_here; k_dflt (refine' LCg.CompSrc.ledger ?s1 ?s2 ?s3 ?s4 ?s5 ?_; (case s1 => rfl); (case s2 => k_asm); (case s3 => k_asm); (case s4 => k_mem); (case s5 => exact ints_sizeA (by l_ints) (by first | assumption | top_name)); intro g'; (refine' kcf_list _ (by l_ints) (fun k' t' I' oI' C' oC' D' m' ys' h' tk' E' hk' hC' hx' F' N' off' ne' hMark' => ?_) ?_); (all_goals (try (simp only [LCg.Off3, and_true] at off'))); kcf_last)))
local macro_rules | `(tactic| allgen_close2_more) => `(tactic| first | assumption | exact school_bnd (by assumption) _ _ | exact one_bnd (by assumption) | exact times_bnd (by assumption) _ _ | exact map_bnd (by assumption) _ _ | exact zip_bnd (by assumption) _ _ _ | exact set_bnd (by assumption) (by allgen_close2_more))
local macro_rules | `(tactic| ktr_rel) => `(tactic| ((simp only [List.length_append, List.length_cons, List.length_nil, List.length_map, List.length_set, List.length_zipWith, rangeKs_length, schoolS_length, timesS_length]); omega))
local macro_rules | `(tactic| k_enter) => `(tactic| ((with_reducible show codeAny _ _ (Code.call (Value.ref 56) ⟨[Value.ref _, Value.ref _], _⟩) _ _); k_dflt (refine' Ctr.use (ring_call ?c0 ?c1 ?c2 ?c3) ?k1 ?k2 ?k3 ?k4 ?k5 ?kK ?kd ?ku ?_; (case k1 => k_asm); (case k2 => k_asm); (case k3 => k_asm); (case k4 => k_asm); (case k5 => k_asm); (case kK => first | exact rfl | assumption); (case c0 => exact ⟨_, _, _, _, _, _, by k_mem, by k_mem⟩); (case c1 => exact ⟨_, _, by k_mem, by l_ints⟩); (case c2 => ktr_rel); (case c3 => ktr_rel); (case kd => k_room); (case ku => k_units); k_whole; intro v' h' tk' nw' F' N' cP'; obtain ⟨x', d', t1', t2', hv', hn', o1', o2', n1'⟩ := cP'; subst hv'; subst hn'; (try dsimp only); kts_tail; (try k_sweep))))
local macro_rules | `(tactic| walk_at "exec Assign cons ListComp") => `(tactic| (k_here; (with_reducible show wpAny _ _ (exec (Stmt.Assign [Expr.Name _ _] (Expr.ListComp _ [⟨Expr.Tuple _ _ _, _, _, _⟩] _ _) _) _) _ _ _); k_dflt (refine' zip_assign ?z1 ?z2 ?z3 ?z4 ?z5 ?_; (case z1 => with_unfolding_all rfl); (case z2 => with_unfolding_all rfl); (case z3 => rfl); (case z4 => decide); (case z5 => intro _; with_unfolding_all rfl))))
local macro_rules | `(tactic| walk_at "eval ListComp") => `(tactic| (k_here; (with_reducible show wpAny _ _ (eval (Expr.ListComp _ [⟨Expr.Tuple _ _ _, _, _, _⟩] _ _) _) _ _ _); k_dflt (refine' zip_eval ?z2 ?z3 ?z4 ?z5 ?_; (case z2 => with_unfolding_all rfl); (case z3 => rfl); (case z4 => decide); (case z5 => intro _; with_unfolding_all rfl))))
section
local macro_rules | `(tactic| k_enter) => `(tactic| ((with_reducible show codeAny _ _ (Code.call (Value.ref 144) ⟨[Value.ref _, Value.ref _], _⟩) _ _); k_dflt (refine' Ctr.use (add_call ?c0 ?c1 ?c2 ?c3 ?c4 ?c5 ?c6 ?c7 ?c8) ?k1 ?k2 ?k3 ?k4 ?k5 ?kK ?kd ?ku ?_; (case k1 => k_asm); (case k2 => k_asm); (case k3 => k_asm); (case k4 => k_asm); (case k5 => k_asm); (case kK => first | exact rfl | assumption); (case c0 => exact ⟨_, _, _, _, _, _, by k_mem, by k_mem⟩); (case c1 => (refine' ⟨⟨_, _, ?pa, ?pb⟩, _, _, _, _, ?pc, ?pd⟩; (case pc => k_mem); (case pd => k_mem); (case pa => k_mem); (case pb => l_ints))); (case c2 => ktr_rel); (case c3 => ktr_rel); (case c4 => ktr_rel); (case c5 => ktr_rel); (case c6 => ktr_rel); (case c7 => (refine' ⟨⟨_, _, ?pa, ?pb⟩, _, _, _, _, ?pc, ?pd⟩; (case pc => k_mem); (case pd => k_mem); (case pa => k_mem); (case pb => l_ints))); (case c8 => ktr_rel); (case kd => k_room); (case ku => k_units); k_whole; intro v' h' tk' nw' F' N' cP'; obtain ⟨x', d', l', t1', t2', vs', e', hv', hn', hi', o1', o2', o3', n1', n2', n3'⟩ := cP'; subst hv'; subst hn'; (try dsimp only); kts_tail; (try k_sweep))))
theorem pair1_call {w : World} {N : Led} {x r l : Addr} {q n : Int} {ns : List Int} (hR : Ring w N r q n) (hP : Poly w N x r l ns) (hlen : (ns.length : Int) = n) (hn1 : 1 ≤ n) (hn : n ≤ 4) (hq : 2 ≤ q) (hq2 : q < 2 ^ 33) {y l2 : Addr} {ms : List Int} (hP2 : Poly w N y r l2 ms) (hlen2 : (ms.length : Int) = n) {f g : Addr} {fs gs : List Int} (hf : Ints N f fs) (hg : Ints N g gs) (hlf : (fs.length : Int) = n) (hlg : (gs.length : Int) = n) (hb : ∀ c ∈ ns, 0 ≤ c ∧ c < q) (hb2 : ∀ c ∈ ms, 0 ≤ c ∧ c < q) (hbf : ∀ c ∈ fs, 0 ≤ c ∧ c < q) (hbg : ∀ c ∈ gs, 0 ≤ c ∧ c < q) {tk tq' : Tok} :
   Ctr w 24 255 [.int 1 tk, .ref x, .ref y, .ref f, .ref g, .int q tq'] N (PairPost w N r (List.zipWith (fun a b => Int.fmod (a + b) q) ns ms) (List.zipWith (fun a b => Int.fmod (a + b) q) fs gs)) := by
  refine' lite ?lw ?lx ?le
  case lw =>
    unfold Ctr
    k_fill
    intro p loose mean mg mb dp un gd cn cs a ccd cl outer A₀ base h₀ L m s R B F X N₀ T hk hdp hun hret
    obtain ⟨dr, k3, k4, tq, tn, e3, hr, hdr⟩ := hR
    obtain ⟨⟨vs, e1, hl, hI⟩, dx, k1, k2, e2, hx, hdx⟩ := hP
    obtain ⟨⟨us, f1, hm, hJ⟩, dy, j1, j2, f2, hy, hdy⟩ := hP2
    obtain ⟨ws, w1, hfm, hfI⟩ := hf
    obtain ⟨zs, w2, hgm, hgI⟩ := hg
    k_dflt (refine' code_defC ?k1 ?k2 ?k3 ?k4 ?k5 ?kA ?kF ?kK ?k6 ?k7 ?k8 ?k9 ?kB ?kD ?_ ?c2 ?c3 ?c4; (case kA => exact rfl); (case kF => exact rfl); (case kK => assumption); (case k1 => k_asm); (case k2 => k_asm); (case k3 => k_asm); (case k4 => k_asm); (case k5 => k_asm); (case k6 => k_is); (case k7 => k_is); (case k8 => k_room); (case k9 => exact BindsTo.of_eq rfl); (case kB => exact rfl); (case kD => decide +kernel); (case c2 => exact rfl); (case c3 => exact rfl); (case c4 => exact rfl); k_whole)
    intro g₁ L₁ h₁ tk₁ cells₁ FG₁ F₁ N₁ Y₁ B₁ X₁ T₁ l₁
    k_cells Y₁
    simp only [List.cons_append, List.nil_append] at N₁
    (try dsimp only)
    (try k_fold)
    k_steps
    k_dflt (refine' zip_atE (g := fun a b => Int.fmod (a + b) q) ?z1 ?z2 ?z3 ?z4 ?z5 ?z6 ?z9 ?zF ?zN ?zm1 ?zm2 ?zI ?zJ ?zl ?zs ?helt ?zfin; (case z1 => rfl); (case z2 => decide); (case z3 => rfl); (case z4 => rfl); (case z5 => rfl); (case z6 => decide); (case z9 => rfl); (case zF => k_asm); (case zN => k_asm); (case zm1 => k_mem); (case zm2 => k_mem); (case zI => k_asm); (case zJ => k_asm); (case zl => omega); (case zs => omega))
    (case helt =>
      unfold PairElt
      intro a b ta tb C oC D ys m' M s' E' hC' hx' hy' hM' F' N'
      k_steps
      all_goals first | k_asm | allgen_close_more)
    (case zfin =>
      intro D h₂ tk₂ ys F₂ N₂ o₂ hys
      (try k_sweep)
      k_steps
      exact hret _ _ _ _ (by k_asm) (by allgen_close_more) ⟨_, _, _, _, _, _, _, _, _, _, _, rfl, rfl, by k_asm, by k_asm, by top_strB, by top_strB, by top_strB, by top_strB, by top_strB⟩)
  case lx => intro hk; simpa only using hk (0 : Nat)
  case le => eq_refl
end
section
local macro_rules | `(tactic| k_enter) => `(tactic| ((with_reducible show codeAny _ _ (Code.call (Value.ref 170) ⟨[Value.ref _, Value.ref _], _⟩) _ _); k_dflt (refine' Ctr.use (sub_call ?c0 ?c1 ?c2 ?c3 ?c4 ?c5 ?c6 ?c7 ?c8) ?k1 ?k2 ?k3 ?k4 ?k5 ?kK ?kd ?ku ?_; (case k1 => k_asm); (case k2 => k_asm); (case k3 => k_asm); (case k4 => k_asm); (case k5 => k_asm); (case kK => first | exact rfl | assumption); (case c0 => exact ⟨_, _, _, _, _, _, by k_mem, by k_mem⟩); (case c1 => (refine' ⟨⟨_, _, ?pa, ?pb⟩, _, _, _, _, ?pc, ?pd⟩; (case pc => k_mem); (case pd => k_mem); (case pa => k_mem); (case pb => l_ints))); (case c2 => ktr_rel); (case c3 => ktr_rel); (case c4 => ktr_rel); (case c5 => ktr_rel); (case c6 => ktr_rel); (case c7 => (refine' ⟨⟨_, _, ?pa, ?pb⟩, _, _, _, _, ?pc, ?pd⟩; (case pc => k_mem); (case pd => k_mem); (case pa => k_mem); (case pb => l_ints))); (case c8 => ktr_rel); (case kd => k_room); (case ku => k_units); k_whole; intro v' h' tk' nw' F' N' cP'; obtain ⟨x', d', l', t1', t2', vs', e', hv', hn', hi', o1', o2', o3', n1', n2', n3'⟩ := cP'; subst hv'; subst hn'; (try dsimp only); kts_tail; (try k_sweep))))
theorem pair2_call {w : World} {N : Led} {x r l : Addr} {q n : Int} {ns : List Int} (hR : Ring w N r q n) (hP : Poly w N x r l ns) (hlen : (ns.length : Int) = n) (hn1 : 1 ≤ n) (hn : n ≤ 4) (hq : 2 ≤ q) (hq2 : q < 2 ^ 33) {y l2 : Addr} {ms : List Int} (hP2 : Poly w N y r l2 ms) (hlen2 : (ms.length : Int) = n) {f g : Addr} {fs gs : List Int} (hf : Ints N f fs) (hg : Ints N g gs) (hlf : (fs.length : Int) = n) (hlg : (gs.length : Int) = n) (hb : ∀ c ∈ ns, 0 ≤ c ∧ c < q) (hb2 : ∀ c ∈ ms, 0 ≤ c ∧ c < q) (hbf : ∀ c ∈ fs, 0 ≤ c ∧ c < q) (hbg : ∀ c ∈ gs, 0 ≤ c ∧ c < q) {tk tq' : Tok} :
   Ctr w 24 255 [.int 2 tk, .ref x, .ref y, .ref f, .ref g, .int q tq'] N (PairPost w N r (List.zipWith (fun a b => Int.fmod (a - b) q) ns ms) (List.zipWith (fun a b => Int.fmod (a - b) q) fs gs)) := by
  refine' lite ?lw ?lx ?le
  case lw =>
    unfold Ctr
    k_fill
    intro p loose mean mg mb dp un gd cn cs a ccd cl outer A₀ base h₀ L m s R B F X N₀ T hk hdp hun hret
    obtain ⟨dr, k3, k4, tq, tn, e3, hr, hdr⟩ := hR
    obtain ⟨⟨vs, e1, hl, hI⟩, dx, k1, k2, e2, hx, hdx⟩ := hP
    obtain ⟨⟨us, f1, hm, hJ⟩, dy, j1, j2, f2, hy, hdy⟩ := hP2
    obtain ⟨ws, w1, hfm, hfI⟩ := hf
    obtain ⟨zs, w2, hgm, hgI⟩ := hg
    k_dflt (refine' code_defC ?k1 ?k2 ?k3 ?k4 ?k5 ?kA ?kF ?kK ?k6 ?k7 ?k8 ?k9 ?kB ?kD ?_ ?c2 ?c3 ?c4; (case kA => exact rfl); (case kF => exact rfl); (case kK => assumption); (case k1 => k_asm); (case k2 => k_asm); (case k3 => k_asm); (case k4 => k_asm); (case k5 => k_asm); (case k6 => k_is); (case k7 => k_is); (case k8 => k_room); (case k9 => exact BindsTo.of_eq rfl); (case kB => exact rfl); (case kD => decide +kernel); (case c2 => exact rfl); (case c3 => exact rfl); (case c4 => exact rfl); k_whole)
    intro g₁ L₁ h₁ tk₁ cells₁ FG₁ F₁ N₁ Y₁ B₁ X₁ T₁ l₁
    k_cells Y₁
    simp only [List.cons_append, List.nil_append] at N₁
    (try dsimp only)
    (try k_fold)
    k_steps
    k_dflt (refine' zip_atE (g := fun a b => Int.fmod (a - b) q) ?z1 ?z2 ?z3 ?z4 ?z5 ?z6 ?z9 ?zF ?zN ?zm1 ?zm2 ?zI ?zJ ?zl ?zs ?helt ?zfin; (case z1 => rfl); (case z2 => decide); (case z3 => rfl); (case z4 => rfl); (case z5 => rfl); (case z6 => decide); (case z9 => rfl); (case zF => k_asm); (case zN => k_asm); (case zm1 => k_mem); (case zm2 => k_mem); (case zI => k_asm); (case zJ => k_asm); (case zl => omega); (case zs => omega))
    (case helt =>
      unfold PairElt
      intro a b ta tb C oC D ys m' M s' E' hC' hx' hy' hM' F' N'
      k_steps
      all_goals first | k_asm | allgen_close_more)
    (case zfin =>
      intro D h₂ tk₂ ys F₂ N₂ o₂ hys
      (try k_sweep)
      k_steps
      exact hret _ _ _ _ (by k_asm) (by allgen_close_more) ⟨_, _, _, _, _, _, _, _, _, _, _, rfl, rfl, by k_asm, by k_asm, by top_strB, by top_strB, by top_strB, by top_strB, by top_strB⟩)
  case lx => intro hk; simpa only using hk (0 : Nat)
  case le => eq_refl
end
section
local macro_rules | `(tactic| k_enter) => `(tactic| ((with_reducible show codeAny _ _ (Code.call (Value.ref 158) ⟨[Value.ref _, Value.ref _], _⟩) _ _); k_dflt (refine' Ctr.use (iadd_call ?c0 ?c1 ?c2 ?c3 ?c4 ?c5 ?c6 ?c7 ?c8) ?k1 ?k2 ?k3 ?k4 ?k5 ?kK ?kd ?ku ?_; (case k1 => k_asm); (case k2 => k_asm); (case k3 => k_asm); (case k4 => k_asm); (case k5 => k_asm); (case kK => first | exact rfl | assumption); (case c0 => exact ⟨_, _, _, _, _, _, by k_mem, by k_mem⟩); (case c1 => (refine' ⟨⟨_, _, ?pa, ?pb⟩, _, _, _, _, ?pc, ?pd⟩; (case pc => k_mem); (case pd => k_mem); (case pa => k_mem); (case pb => l_ints))); (case c2 => ktr_rel); (case c3 => ktr_rel); (case c4 => ktr_rel); (case c5 => ktr_rel); (case c6 => ktr_rel); (case c7 => (refine' ⟨⟨_, _, ?pa, ?pb⟩, _, _, _, _, ?pc, ?pd⟩; (case pc => k_mem); (case pd => k_mem); (case pa => k_mem); (case pb => l_ints))); (case c8 => ktr_rel); (case kd => k_room); (case ku => k_units); k_whole; intro v' h' tk' nw' F' N' cP'; obtain ⟨x', d', l', t1', t2', vs', e', hv', hn', hi', o1', o2', o3', n1', n2', n3'⟩ := cP'; subst hv'; subst hn'; (try dsimp only); kts_tail; (try k_sweep))))
theorem onward0_call {w : World} {N : Led} {x r l : Addr} {q n : Int} {ns : List Int} (hR : Ring w N r q n) (hP : Poly w N x r l ns) (hlen : (ns.length : Int) = n) (hn1 : 1 ≤ n) (hn : n ≤ 4) (hq : 2 ≤ q) (hq2 : q < 2 ^ 33) {y l2 : Addr} {ms : List Int} (hP2 : Poly w N y r l2 ms) (hlen2 : (ms.length : Int) = n) {f g : Addr} {fs gs : List Int} (hf : Ints N f fs) (hg : Ints N g gs) (hlf : (fs.length : Int) = n) (hlg : (gs.length : Int) = n) (hb : ∀ c ∈ ns, 0 ≤ c ∧ c < q) (hb2 : ∀ c ∈ ms, 0 ≤ c ∧ c < q) (hbf : ∀ c ∈ fs, 0 ≤ c ∧ c < q) (hbg : ∀ c ∈ gs, 0 ≤ c ∧ c < q) {tk tq' : Tok} :
   Ctr w 28 260 [.int 0 tk, .ref x, .ref y, .ref f, .ref g, .int q tq'] N (PairPost w N r (List.zipWith (fun a b => Int.fmod (a + b) q) ns ms) (List.zipWith (fun a b => Int.fmod (a + b) q) fs gs)) := by
  refine' lite ?lw ?lx ?le
  case lw =>
    unfold Ctr
    k_fill
    intro p loose mean mg mb dp un gd cn cs a ccd cl outer A₀ base h₀ L m s R B F X N₀ T hk hdp hun hret
    obtain ⟨dr, k3, k4, tq, tn, e3, hr, hdr⟩ := hR
    obtain ⟨⟨vs, e1, hl, hI⟩, dx, k1, k2, e2, hx, hdx⟩ := hP
    obtain ⟨⟨us, f1, hm, hJ⟩, dy, j1, j2, f2, hy, hdy⟩ := hP2
    obtain ⟨ws, w1, hfm, hfI⟩ := hf
    obtain ⟨zs, w2, hgm, hgI⟩ := hg
    k_dflt (refine' code_defC ?k1 ?k2 ?k3 ?k4 ?k5 ?kA ?kF ?kK ?k6 ?k7 ?k8 ?k9 ?kB ?kD ?_ ?c2 ?c3 ?c4; (case kA => exact rfl); (case kF => exact rfl); (case kK => assumption); (case k1 => k_asm); (case k2 => k_asm); (case k3 => k_asm); (case k4 => k_asm); (case k5 => k_asm); (case k6 => k_is); (case k7 => k_is); (case k8 => k_room); (case k9 => exact BindsTo.of_eq rfl); (case kB => exact rfl); (case kD => decide +kernel); (case c2 => exact rfl); (case c3 => exact rfl); (case c4 => exact rfl); k_whole)
    intro g₁ L₁ h₁ tk₁ cells₁ FG₁ F₁ N₁ Y₁ B₁ X₁ T₁ l₁
    k_cells Y₁
    simp only [List.cons_append, List.nil_append] at N₁
    (try dsimp only)
    (try k_fold)
    k_steps
    k_dflt (refine' zip_atE (g := fun a b => Int.fmod (a + b) q) ?z1 ?z2 ?z3 ?z4 ?z5 ?z6 ?z9 ?zF ?zN ?zm1 ?zm2 ?zI ?zJ ?zl ?zs ?helt ?zfin; (case z1 => rfl); (case z2 => decide); (case z3 => rfl); (case z4 => rfl); (case z5 => rfl); (case z6 => decide); (case z9 => rfl); (case zF => k_asm); (case zN => k_asm); (case zm1 => k_mem); (case zm2 => k_mem); (case zI => k_asm); (case zJ => k_asm); (case zl => omega); (case zs => omega))
    (case helt =>
      unfold PairElt
      intro a b ta tb C oC D ys m' M s' E' hC' hx' hy' hM' F' N'
      k_steps
      all_goals first | k_asm | allgen_close_more)
    (case zfin =>
      intro D h₂ tk₂ ys F₂ N₂ o₂ hys
      (try k_sweep)
      k_steps
      exact hret _ _ _ _ (by k_asm) (by allgen_close_more) ⟨_, _, _, _, _, _, _, _, _, _, _, rfl, rfl, by k_asm, by k_asm, by top_strB, by top_strB, by top_strB, by top_strB, by top_strB⟩)
  case lx => intro hk; simpa only using hk (0 : Nat)
  case le => eq_refl
end
section
local macro_rules | `(tactic| k_enter) => `(tactic| ((with_reducible show codeAny _ _ (Code.call (Value.ref 184) ⟨[Value.ref _, Value.ref _], _⟩) _ _); k_dflt (refine' Ctr.use (isub_call ?c0 ?c1 ?c2 ?c3 ?c4 ?c5 ?c6 ?c7 ?c8) ?k1 ?k2 ?k3 ?k4 ?k5 ?kK ?kd ?ku ?_; (case k1 => k_asm); (case k2 => k_asm); (case k3 => k_asm); (case k4 => k_asm); (case k5 => k_asm); (case kK => first | exact rfl | assumption); (case c0 => exact ⟨_, _, _, _, _, _, by k_mem, by k_mem⟩); (case c1 => (refine' ⟨⟨_, _, ?pa, ?pb⟩, _, _, _, _, ?pc, ?pd⟩; (case pc => k_mem); (case pd => k_mem); (case pa => k_mem); (case pb => l_ints))); (case c2 => ktr_rel); (case c3 => ktr_rel); (case c4 => ktr_rel); (case c5 => ktr_rel); (case c6 => ktr_rel); (case c7 => (refine' ⟨⟨_, _, ?pa, ?pb⟩, _, _, _, _, ?pc, ?pd⟩; (case pc => k_mem); (case pd => k_mem); (case pa => k_mem); (case pb => l_ints))); (case c8 => ktr_rel); (case kd => k_room); (case ku => k_units); k_whole; intro v' h' tk' nw' F' N' cP'; obtain ⟨x', d', l', t1', t2', vs', e', hv', hn', hi', o1', o2', o3', n1', n2', n3'⟩ := cP'; subst hv'; subst hn'; (try dsimp only); kts_tail; (try k_sweep))))
theorem onward1_call {w : World} {N : Led} {x r l : Addr} {q n : Int} {ns : List Int} (hR : Ring w N r q n) (hP : Poly w N x r l ns) (hlen : (ns.length : Int) = n) (hn1 : 1 ≤ n) (hn : n ≤ 4) (hq : 2 ≤ q) (hq2 : q < 2 ^ 33) {y l2 : Addr} {ms : List Int} (hP2 : Poly w N y r l2 ms) (hlen2 : (ms.length : Int) = n) {f g : Addr} {fs gs : List Int} (hf : Ints N f fs) (hg : Ints N g gs) (hlf : (fs.length : Int) = n) (hlg : (gs.length : Int) = n) (hb : ∀ c ∈ ns, 0 ≤ c ∧ c < q) (hb2 : ∀ c ∈ ms, 0 ≤ c ∧ c < q) (hbf : ∀ c ∈ fs, 0 ≤ c ∧ c < q) (hbg : ∀ c ∈ gs, 0 ≤ c ∧ c < q) {tk tq' : Tok} :
   Ctr w 28 260 [.int 1 tk, .ref x, .ref y, .ref f, .ref g, .int q tq'] N (PairPost w N r (List.zipWith (fun a b => Int.fmod (a - b) q) ns ms) (List.zipWith (fun a b => Int.fmod (a - b) q) fs gs)) := by
  refine' lite ?lw ?lx ?le
  case lw =>
    unfold Ctr
    k_fill
    intro p loose mean mg mb dp un gd cn cs a ccd cl outer A₀ base h₀ L m s R B F X N₀ T hk hdp hun hret
    obtain ⟨dr, k3, k4, tq, tn, e3, hr, hdr⟩ := hR
    obtain ⟨⟨vs, e1, hl, hI⟩, dx, k1, k2, e2, hx, hdx⟩ := hP
    obtain ⟨⟨us, f1, hm, hJ⟩, dy, j1, j2, f2, hy, hdy⟩ := hP2
    obtain ⟨ws, w1, hfm, hfI⟩ := hf
    obtain ⟨zs, w2, hgm, hgI⟩ := hg
    k_dflt (refine' code_defC ?k1 ?k2 ?k3 ?k4 ?k5 ?kA ?kF ?kK ?k6 ?k7 ?k8 ?k9 ?kB ?kD ?_ ?c2 ?c3 ?c4; (case kA => exact rfl); (case kF => exact rfl); (case kK => assumption); (case k1 => k_asm); (case k2 => k_asm); (case k3 => k_asm); (case k4 => k_asm); (case k5 => k_asm); (case k6 => k_is); (case k7 => k_is); (case k8 => k_room); (case k9 => exact BindsTo.of_eq rfl); (case kB => exact rfl); (case kD => decide +kernel); (case c2 => exact rfl); (case c3 => exact rfl); (case c4 => exact rfl); k_whole)
    intro g₁ L₁ h₁ tk₁ cells₁ FG₁ F₁ N₁ Y₁ B₁ X₁ T₁ l₁
    k_cells Y₁
    simp only [List.cons_append, List.nil_append] at N₁
    (try dsimp only)
    (try k_fold)
    k_steps
    k_dflt (refine' zip_atE (g := fun a b => Int.fmod (a - b) q) ?z1 ?z2 ?z3 ?z4 ?z5 ?z6 ?z9 ?zF ?zN ?zm1 ?zm2 ?zI ?zJ ?zl ?zs ?helt ?zfin; (case z1 => rfl); (case z2 => decide); (case z3 => rfl); (case z4 => rfl); (case z5 => rfl); (case z6 => decide); (case z9 => rfl); (case zF => k_asm); (case zN => k_asm); (case zm1 => k_mem); (case zm2 => k_mem); (case zI => k_asm); (case zJ => k_asm); (case zl => omega); (case zs => omega))
    (case helt =>
      unfold PairElt
      intro a b ta tb C oC D ys m' M s' E' hC' hx' hy' hM' F' N'
      k_steps
      all_goals first | k_asm | allgen_close_more)
    (case zfin =>
      intro D h₂ tk₂ ys F₂ N₂ o₂ hys
      (try k_sweep)
      k_steps
      exact hret _ _ _ _ (by k_asm) (by allgen_close_more) ⟨_, _, _, _, _, _, _, _, _, _, _, rfl, rfl, by k_asm, by k_asm, by top_strB, by top_strB, by top_strB, by top_strB, by top_strB⟩)
  case lx => intro hk; simpa only using hk (0 : Nat)
  case le => eq_refl
end
end
section
local macro_rules | `(tactic| k_mem) => `(tactic| ((fail_if_success (with_reducible refine' List.Mem.tail _ ?_)); first | with_reducible assumption | assumption | (refine sub_mem (by assumption) ?_; k_mem)))
local macro_rules | `(tactic| news_mem) => `(tactic| k_mem)
local macro_rules | `(tactic| k_room) => `(tactic| ((simp only [depth_under_make, depth_under_kw, depth_in1, depth_deeper, depth_caller, recursionLimit] at *); omega))
local macro_rules | `(tactic| k_units) => `(tactic| ((have hcL9 := cLine_is); (simp only [units_in1, units_deeper, Around.mark_units, units_caller, cLine] at *); omega))
local macro_rules | `(tactic| allgen_close2_more) => `(tactic| assumption)
local macro_rules | `(tactic| ktr_rel) => `(tactic| ((try simp only [List.length_append, List.length_cons, List.length_nil, List.length_map, List.length_set, List.length_zipWith, rangeKs_length]); first | assumption | omega))
local macro_rules | `(tactic| top_reprB) => `(tactic| first | exact List.forall_mem_nil _ | (refine List.forall_mem_cons.mpr ⟨by k_mem, ?_⟩; top_reprB) | (intro p hp; k_mem))
local macro_rules | `(tactic| k_ne) => `(tactic| (refine neN ?_; (try dsimp only); first | (with_reducible assumption) | exact Ne.symm (by with_reducible assumption) | exact off_ne (by with_reducible assumption) (by k_mem) | exact Ne.symm (off_ne (by with_reducible assumption) (by k_mem)) | omega))
local macro_rules | `(tactic| top_strB) => `(tactic| first | (first | assumption | exact allLt_of (by assumption) | exact And.right (by assumption) | exact And.right (And.right (by assumption)) | exact And.right (And.right (And.right (by assumption))) | exact And.right (And.right (And.right (And.right (by assumption)))) | exact And.right (And.right (And.right (And.right (And.right (by assumption))))) | exact And.right (And.right (And.right (And.right (And.right (And.right (by assumption)))))) | exact And.right (And.right (And.right (And.right (And.right (And.right (And.right (by assumption))))))) | exact And.right (And.right (And.right (And.right (And.right (And.right (And.right (And.right (by assumption)))))))) | exact And.right (And.right (And.right (And.right (And.right (And.right (And.right (And.right (And.right (by assumption))))))))) | exact And.right (And.right (And.right (And.right (And.right (And.right (And.right (And.right (And.right (And.right (by assumption)))))))))) | exact And.right (And.right (And.right (And.right (And.right (And.right (And.right (And.right (And.right (And.right (And.right (by assumption))))))))))) | exact And.right (And.right (And.right (And.right (And.right (And.right (And.right (And.right (And.right (And.right (And.right (And.right (by assumption)))))))))))) | exact And.right (And.right (And.right (And.right (And.right (And.right (And.right (And.right (And.right (And.right (And.right (And.right (And.right (by assumption))))))))))))) | exact And.right (And.right (And.right (And.right (And.right (And.right (And.right (And.right (And.right (And.right (And.right (And.right (And.right (And.right (by assumption)))))))))))))) | exact And.right (And.right (And.right (And.right (And.right (And.right (And.right (And.right (And.right (And.right (And.right (And.right (And.right (And.right (And.right (by assumption))))))))))))))) | exact And.right (And.right (And.right (And.right (And.right (And.right (And.right (And.right (And.right (And.right (And.right (And.right (And.right (And.right (And.right (And.right (by assumption)))))))))))))))) | exact And.right (And.right (And.right (And.right (And.right (And.right (And.right (And.right (And.right (And.right (And.right (And.right (And.right (And.right (And.right (And.right (And.right (by assumption))))))))))))))))) | exact And.right (And.right (And.right (And.right (And.right (And.right (And.right (And.right (And.right (And.right (And.right (And.right (And.right (And.right (And.right (And.right (And.right (And.right (by assumption)))))))))))))))))) | exact And.right (And.right (And.right (And.right (And.right (And.right (And.right (And.right (And.right (And.right (And.right (And.right (And.right (And.right (And.right (And.right (And.right (And.right (And.right (by assumption)))))))))))))))))))) | exact off_sub (by with_reducible assumption) (by top_reprB) | exact off_of_lt (by (first | assumption | exact allLt_of (by assumption) | exact And.right (by assumption) | exact And.right (And.right (by assumption)) | exact And.right (And.right (And.right (by assumption))) | exact And.right (And.right (And.right (And.right (by assumption)))) | exact And.right (And.right (And.right (And.right (And.right (by assumption))))) | exact And.right (And.right (And.right (And.right (And.right (And.right (by assumption)))))) | exact And.right (And.right (And.right (And.right (And.right (And.right (And.right (by assumption))))))) | exact And.right (And.right (And.right (And.right (And.right (And.right (And.right (And.right (by assumption)))))))) | exact And.right (And.right (And.right (And.right (And.right (And.right (And.right (And.right (And.right (by assumption))))))))) | exact And.right (And.right (And.right (And.right (And.right (And.right (And.right (And.right (And.right (And.right (by assumption)))))))))) | exact And.right (And.right (And.right (And.right (And.right (And.right (And.right (And.right (And.right (And.right (And.right (by assumption))))))))))) | exact And.right (And.right (And.right (And.right (And.right (And.right (And.right (And.right (And.right (And.right (And.right (And.right (by assumption)))))))))))) | exact And.right (And.right (And.right (And.right (And.right (And.right (And.right (And.right (And.right (And.right (And.right (And.right (And.right (by assumption))))))))))))) | exact And.right (And.right (And.right (And.right (And.right (And.right (And.right (And.right (And.right (And.right (And.right (And.right (And.right (And.right (by assumption)))))))))))))) | exact And.right (And.right (And.right (And.right (And.right (And.right (And.right (And.right (And.right (And.right (And.right (And.right (And.right (And.right (And.right (by assumption))))))))))))))) | exact And.right (And.right (And.right (And.right (And.right (And.right (And.right (And.right (And.right (And.right (And.right (And.right (And.right (And.right (And.right (And.right (by assumption)))))))))))))))) | exact And.right (And.right (And.right (And.right (And.right (And.right (And.right (And.right (And.right (And.right (And.right (And.right (And.right (And.right (And.right (And.right (And.right (by assumption))))))))))))))))) | exact And.right (And.right (And.right (And.right (And.right (And.right (And.right (And.right (And.right (And.right (And.right (And.right (And.right (And.right (And.right (And.right (And.right (And.right (by assumption)))))))))))))))))) | exact And.right (And.right (And.right (And.right (And.right (And.right (And.right (And.right (And.right (And.right (And.right (And.right (And.right (And.right (And.right (And.right (And.right (And.right (And.right (by assumption))))))))))))))))))))) | exact off_of_lt2 (by (first | assumption | exact allLt_of (by assumption) | exact And.right (by assumption) | exact And.right (And.right (by assumption)) | exact And.right (And.right (And.right (by assumption))) | exact And.right (And.right (And.right (And.right (by assumption)))) | exact And.right (And.right (And.right (And.right (And.right (by assumption))))) | exact And.right (And.right (And.right (And.right (And.right (And.right (by assumption)))))) | exact And.right (And.right (And.right (And.right (And.right (And.right (And.right (by assumption))))))) | exact And.right (And.right (And.right (And.right (And.right (And.right (And.right (And.right (by assumption)))))))) | exact And.right (And.right (And.right (And.right (And.right (And.right (And.right (And.right (And.right (by assumption))))))))) | exact And.right (And.right (And.right (And.right (And.right (And.right (And.right (And.right (And.right (And.right (by assumption)))))))))) | exact And.right (And.right (And.right (And.right (And.right (And.right (And.right (And.right (And.right (And.right (And.right (by assumption))))))))))) | exact And.right (And.right (And.right (And.right (And.right (And.right (And.right (And.right (And.right (And.right (And.right (And.right (by assumption)))))))))))) | exact And.right (And.right (And.right (And.right (And.right (And.right (And.right (And.right (And.right (And.right (And.right (And.right (And.right (by assumption))))))))))))) | exact And.right (And.right (And.right (And.right (And.right (And.right (And.right (And.right (And.right (And.right (And.right (And.right (And.right (And.right (by assumption)))))))))))))) | exact And.right (And.right (And.right (And.right (And.right (And.right (And.right (And.right (And.right (And.right (And.right (And.right (And.right (And.right (And.right (by assumption))))))))))))))) | exact And.right (And.right (And.right (And.right (And.right (And.right (And.right (And.right (And.right (And.right (And.right (And.right (And.right (And.right (And.right (And.right (by assumption)))))))))))))))) | exact And.right (And.right (And.right (And.right (And.right (And.right (And.right (And.right (And.right (And.right (And.right (And.right (And.right (And.right (And.right (And.right (And.right (by assumption))))))))))))))))) | exact And.right (And.right (And.right (And.right (And.right (And.right (And.right (And.right (And.right (And.right (And.right (And.right (And.right (And.right (And.right (And.right (And.right (And.right (by assumption)))))))))))))))))) | exact And.right (And.right (And.right (And.right (And.right (And.right (And.right (And.right (And.right (And.right (And.right (And.right (And.right (And.right (And.right (And.right (And.right (And.right (And.right (by assumption))))))))))))))))))))) (by omega) | exact off_of_base (by assumption) (by omega))
local macro_rules | `(tactic| k_all) => `(tactic| (refine off_all ?_; top_strB))
local macro_rules | `(tactic| walk_at "getMethod ref") => `(tactic| (k_here; k_dflt (refine' kmu_own ?k1 ?k2 ?k3 ?k4 ?k5 ?_; (case k1 => k_asm); (case k2 => k_asm); (case k3 => k_inst); (case k4 => k_is); (case k5 => k_is); k_whole)))
local macro_rules | `(tactic| walk_at "binaryOp Mult int int") => `(tactic| (k_here; with_reducible first | refine PyProof.Rows.mul_int ?_ (mulok_getD (by assumption) (by assumption) (by assumption)) | refine PyProof.Rows.mul_int ?_ (mulok_mem (by assumption) (by assumption) (by assumption))))
local macro_rules | `(tactic| top_name) => `(tactic| (law_purse 40000 => (law_clear; (repeat (with_reducible rename (@Ne Nat _ _) ∧ _ => hne9; clear hne9)); (repeat (with_reducible rename (@LT.lt Nat _ _ _) ∧ _ => hne9; clear hne9)); (repeat (with_reducible rename (@Ne Nat _ _) => hne9; clear hne9)); (try simp only [List.length_append, List.length_cons, List.length_nil, List.length_map, List.length_take, List.length_set, List.length_zipWith, rangeKs_length]); omega)))
local macro_rules | `(tactic| walk_at "subscriptTail Name Name ref int") => `(tactic| ((k_here; (with_reducible show wpAny _ _ (subscriptTail _ _ (Value.ref _) (Value.int _ _)) _ _ _); (with_unfolding_all refine' item_list_ints ?k1 ?k2 ?k3 ?k4 ?k5 ?_; (case k1 => exact News.isList (by k_asm) (by k_mem)); (case k2 => l_ints); (case k3 => first | assumption | top_name); (case k4 => first | assumption | exact idx_hi (by assumption) (by first | assumption | exact Nat.le_refl _) | top_name); (case k5 => first | assumption | exact idx_fit (by assumption) (by assumption) | top_name); k_whole); intro _)))
local macro_rules | `(tactic| walk_at "subscriptTail Name BinOp ref int") => `(tactic| ((k_here; (with_reducible show wpAny _ _ (subscriptTail _ _ (Value.ref _) (Value.int _ _)) _ _ _); (with_unfolding_all refine' item_list_ints ?k1 ?k2 ?k3 ?k4 ?k5 ?_; (case k1 => exact News.isList (by k_asm) (by k_mem)); (case k2 => l_ints); (case k3 => first | assumption | top_name); (case k4 => first | assumption | exact idx_hi (by assumption) (by first | assumption | exact Nat.le_refl _) | top_name); (case k5 => first | assumption | exact idx_fit (by assumption) (by assumption) | top_name); k_whole); intro _)))
local macro_rules | `(tactic| walk_at "call builtin:list.copy") => `(tactic| (k_here; (with_reducible show wpAny _ _ (call (Value.builtin _) [Value.ref _]) _ _ _); k_dflt (refine' copyK ?k1 ?k2 ?k3 ?k4 ?_; (case k1 => k_asm); (case k2 => k_asm); (case k3 => exact News.isList (by k_asm) (by k_mem)); (case k4 => exact ints_size (by l_ints) (by top_name)); k_whole); intro D' h' F' N' l1; (try k_lt l1); (try k_sweep)))
local macro_rules | `(tactic| walk_at "setItem ref int") => `(tactic| (k_here; (with_reducible show wpAny _ _ (setItem (Value.ref _) (Value.int _ _) (Value.int _ _)) _ _ _); k_dflt (refine' ksa_set ?k1 ?k2 ?k3 ?k4 ?k5 ?k6 ?k7 ?_; (case k1 => k_asm); (case k2 => k_asm); (case k3 => k_upd); (case k4 => l_ints); (case k5 => first | assumption | top_name); (case k6 => first | assumption | top_name); (case k7 => first | assumption | top_name); k_whole); intro h' F' N' hi' hl' hs'; clear hs'; (try k_sweep)))
local macro_rules | `(tactic| walk_at "callWith ref") => `(tactic| (k_here; kco_here; k_dflt (refine' kco_callWith ?k1 ?k2 ?k3 ?k4 ?_; (case k1 => k_in); (case k2 => k_inst); (case k3 => rfl); (case k4 => k_is); k_whole)))
local macro_rules | `(tactic| allgen_close_more) => `(tactic| first | k_asm | (refine' cb_drop ?cbN ?cbS; (case cbN => assumption); (case cbS => top_reprB)))
local macro_rules | `(tactic| walk_at "exec For Name Call cons nil") => `(tactic| (k_here; k_dflt (refine For_turns (by k_asm) ?_ (by intro _; with_unfolding_all rfl) (by passes_own)); (try k_fold)))
local macro_rules | `(tactic| walk_at "getItem ref int") => `(tactic| (k_here; (with_reducible show wpAny _ _ (getItem (Value.ref _) (Value.int _ _)) _ _ _); k_dflt (refine' ksa_get ?k1 ?k2 ?k3 ?k4 ?k5 ?k6 ?_; (case k1 => k_asm); (case k2 => k_mem); (case k3 => l_ints); (case k4 => first | assumption | top_name); (case k5 => first | assumption | top_name); (case k6 => first | assumption | top_name); k_whole); intro _))
local macro_rules | `(tactic| walk_at "CompSrc") => `(tactic| (k_here; k_dflt (refine' LCg.CompSrc.ledger ?s1 ?s2 ?s3 ?s4 ?s5 ?_; (case s1 => rfl); (case s2 => k_asm); (case s3 => k_asm); (case s4 => k_mem); (case s5 => exact ints_sizeA (by l_ints) (by first | assumption | top_name)); intro g'; (refine' kcf_list _ (by l_ints) (fun k' t' I' oI' C' oC' D' m' ys' h' tk' E' hk' hC' hx' F' N' off' ne' hMark' => ?_) ?_); (all_goals (try (simp only [LCg.Off3, and_true] at off'))); kcf_last)))
local macro_rules | `(tactic| k_enter) => `(tactic| ((with_reducible show codeAny _ _ (Code.call (Value.ref 56) ⟨[Value.ref _, Value.ref _], _⟩) _ _); k_dflt (refine' Ctr.use (ring_call ?c0 ?c1 ?c2 ?c3) ?k1 ?k2 ?k3 ?k4 ?k5 ?kK ?kd ?ku ?_; (case k1 => k_asm); (case k2 => k_asm); (case k3 => k_asm); (case k4 => k_asm); (case k5 => k_asm); (case kK => first | exact rfl | assumption); (case c0 => exact ⟨_, _, _, _, _, _, by k_mem, by k_mem⟩); (case c1 => exact ⟨_, _, by k_mem, by l_ints⟩); (case c2 => ktr_rel); (case c3 => ktr_rel); (case kd => k_room); (case ku => k_units); k_whole; intro v' h' tk' nw' F' N' cP'; obtain ⟨x', d', t1', t2', hv', hn', o1', o2', n1'⟩ := cP'; subst hv'; subst hn'; (try dsimp only); kts_tail; (try k_sweep))))
section
local macro_rules | `(tactic| k_enter) => `(tactic| ((with_reducible show codeAny _ _ (Code.call (Value.ref 127) ⟨[Value.ref _, Value.ref _], _⟩) _ _); k_dflt (refine' Ctr.use (school_call ?c0 ?c1 ?c2 ?c3 ?c4 ?c5 ?c6 ?c7 ?c8 ?c9 ?c10) ?k1 ?k2 ?k3 ?k4 ?k5 ?kK ?kd ?ku ?_; (case k1 => k_asm); (case k2 => k_asm); (case k3 => k_asm); (case k4 => k_asm); (case k5 => k_asm); (case kK => first | exact rfl | assumption); (case c0 => exact ⟨_, _, _, _, _, _, by k_mem, by k_mem⟩); (case c1 => (refine' ⟨⟨_, _, ?pa, ?pb⟩, _, _, _, _, ?pc, ?pd⟩; (case pc => k_mem); (case pd => k_mem); (case pa => k_mem); (case pb => l_ints))); (case c2 => ktr_rel); (case c3 => ktr_rel); (case c4 => ktr_rel); (case c5 => ktr_rel); (case c6 => ktr_rel); (case c7 => (refine' ⟨⟨_, _, ?pa, ?pb⟩, _, _, _, _, ?pc, ?pd⟩; (case pc => k_mem); (case pd => k_mem); (case pa => k_mem); (case pb => l_ints))); (case c8 => ktr_rel); (case c9 => first | assumption | allgen_close2_more); (case c10 => first | assumption | allgen_close2_more); (case kd => k_room); (case ku => k_units); k_whole; intro v' h' tk' nw' F' N' cP'; obtain ⟨l', vs', e', hv', hn', hi', o1'⟩ := cP'; subst hv'; subst hn'; (try dsimp only); kts_tail; (try k_sweep))))
theorem mul_call {w : World} {N : Led} {x r l : Addr} {q n : Int} {ns : List Int} (hR : Ring w N r q n) (hP : Poly w N x r l ns) (hlen : (ns.length : Int) = n) (hn1 : 1 ≤ n) (hn : n ≤ 4) (hq : 2 ≤ q) (hq2 : q < 2 ^ 33) {y l2 : Addr} {ms : List Int} (hP2 : Poly w N y r l2 ms) (hlen2 : (ms.length : Int) = n) (hb : ∀ c ∈ ns, 0 ≤ c ∧ c < q) (hb2 : ∀ c ∈ ms, 0 ≤ c ∧ c < q) :
   Ctr w 16 189 [.ref x, .ref y] N (PolyPost w N r (schoolS q n ns ms)) := by
  refine' lite ?lw ?lx ?le
  case lw =>
    unfold Ctr
    k_fill
    intro p loose mean mg mb dp un gd cn cs a ccd cl outer A₀ base h₀ L m s R B F X N₀ T hk hdp hun hret
    obtain ⟨dr, k3, k4, tq, tn, e3, hr, hdr⟩ := hR
    obtain ⟨⟨vs, e1, hl, hI⟩, dx, k1, k2, e2, hx, hdx⟩ := hP
    obtain ⟨⟨us, f1, hm, hJ⟩, dy, j1, j2, f2, hy, hdy⟩ := hP2
    k_dflt (refine' code_defC ?k1 ?k2 ?k3 ?k4 ?k5 ?kA ?kF ?kK ?k6 ?k7 ?k8 ?k9 ?kB ?kD ?_ ?c2 ?c3 ?c4; (case kA => exact rfl); (case kF => exact rfl); (case kK => assumption); (case k1 => k_asm); (case k2 => k_asm); (case k3 => k_asm); (case k4 => k_asm); (case k5 => k_asm); (case k6 => k_is); (case k7 => k_is); (case k8 => k_room); (case k9 => exact BindsTo.of_eq rfl); (case kB => exact rfl); (case kD => decide +kernel); (case c2 => exact rfl); (case c3 => exact rfl); (case c4 => exact rfl); k_whole)
    intro g₁ L₁ h₁ tk₁ cells₁ FG₁ F₁ N₁ Y₁ B₁ X₁ T₁ l₁
    k_cells Y₁
    simp only [List.cons_append, List.nil_append] at N₁
    (try dsimp only)
    (try k_fold)
    have hlo : (schoolS q n ns ms).length = n.toNat := by unfold schoolS; rw [List.length_map, outB_length]
    k_steps
    exact hret _ _ _ _ (by k_asm) (by allgen_close_more) ⟨_, _, _, _, _, _, _, rfl, rfl, by k_asm, by top_strB, by top_strB, by top_strB, by k_ne, by k_ne, by k_ne⟩
  case lx => intro hk; simpa only using hk (0 : Nat)
  case le => eq_refl
end
section
local macro_rules | `(tactic| k_enter) => `(tactic| ((with_reducible show codeAny _ _ (Code.call (Value.ref 189) ⟨[Value.ref _, Value.ref _], _⟩) _ _); k_dflt (refine' Ctr.use (mul_call ?c0 ?c1 ?c2 ?c3 ?c4 ?c5 ?c6 ?c7 ?c8 ?c9 ?c10) ?k1 ?k2 ?k3 ?k4 ?k5 ?kK ?kd ?ku ?_; (case k1 => k_asm); (case k2 => k_asm); (case k3 => k_asm); (case k4 => k_asm); (case k5 => k_asm); (case kK => first | exact rfl | assumption); (case c0 => exact ⟨_, _, _, _, _, _, by k_mem, by k_mem⟩); (case c1 => (refine' ⟨⟨_, _, ?pa, ?pb⟩, _, _, _, _, ?pc, ?pd⟩; (case pc => k_mem); (case pd => k_mem); (case pa => k_mem); (case pb => l_ints))); (case c2 => ktr_rel); (case c3 => ktr_rel); (case c4 => ktr_rel); (case c5 => ktr_rel); (case c6 => ktr_rel); (case c7 => (refine' ⟨⟨_, _, ?pa, ?pb⟩, _, _, _, _, ?pc, ?pd⟩; (case pc => k_mem); (case pd => k_mem); (case pa => k_mem); (case pb => l_ints))); (case c8 => ktr_rel); (case c9 => first | assumption | allgen_close2_more); (case c10 => first | assumption | allgen_close2_more); (case kd => k_room); (case ku => k_units); k_whole; intro v' h' tk' nw' F' N' cP'; obtain ⟨x', d', l', t1', t2', vs', e', hv', hn', hi', o1', o2', o3', n1', n2', n3'⟩ := cP'; subst hv'; subst hn'; (try dsimp only); kts_tail; (try k_sweep))))
theorem imul_call {w : World} {N : Led} {x r l : Addr} {q n : Int} {ns : List Int} (hR : Ring w N r q n) (hP : Poly w N x r l ns) (hlen : (ns.length : Int) = n) (hn1 : 1 ≤ n) (hn : n ≤ 4) (hq : 2 ≤ q) (hq2 : q < 2 ^ 33) {y l2 : Addr} {ms : List Int} (hP2 : Poly w N y r l2 ms) (hlen2 : (ms.length : Int) = n) (hb : ∀ c ∈ ns, 0 ≤ c ∧ c < q) (hb2 : ∀ c ∈ ms, 0 ≤ c ∧ c < q) :
   Ctr w 20 203 [.ref x, .ref y] N (PolyPost w N r (schoolS q n ns ms)) := by
  refine' lite ?lw ?lx ?le
  case lw =>
    unfold Ctr
    k_fill
    intro p loose mean mg mb dp un gd cn cs a ccd cl outer A₀ base h₀ L m s R B F X N₀ T hk hdp hun hret
    obtain ⟨dr, k3, k4, tq, tn, e3, hr, hdr⟩ := hR
    obtain ⟨⟨vs, e1, hl, hI⟩, dx, k1, k2, e2, hx, hdx⟩ := hP
    obtain ⟨⟨us, f1, hm, hJ⟩, dy, j1, j2, f2, hy, hdy⟩ := hP2
    k_dflt (refine' code_def ?k1 ?k2 ?k3 ?k4 ?k5 ?kA ?kF ?kK ?k6 ?k7 ?k8 ?k9 ?kB ?_ ?c2 ?c3 ?c4 ?c5; (case kA => exact rfl); (case kF => exact rfl); (case kK => assumption); (case k1 => k_asm); (case k2 => k_asm); (case k3 => k_asm); (case k4 => k_asm); (case k5 => k_asm); (case k6 => k_is); (case k7 => k_is); (case k8 => k_room); (case k9 => exact BindsTo.of_eq rfl); (case c5 => decide); (case kB => exact locs rfl); (case c2 => exact rfl); (case c3 => exact rfl); (case c4 => exact rfl); k_whole)
    intro g₁ L₁ h₁ FG₁ F₁ N₁ B₁ X₁ T₁
    (try dsimp only)
    (try k_fold)
    k_steps
    exact hret _ _ _ _ (by k_asm) (by allgen_close_more) ⟨_, _, _, _, _, _, _, rfl, rfl, by k_asm, by top_strB, by top_strB, by top_strB, by k_ne, by k_ne, by k_ne⟩
  case lx => intro hk; simpa only using hk (0 : Nat)
  case le => eq_refl
end
section
local macro_rules | `(tactic| k_enter) => `(tactic| ((with_reducible show codeAny _ _ (Code.call (Value.ref 137) ⟨[Value.ref _, Value.int _ _], _⟩) _ _); k_dflt (refine' Ctr.use (addI_call ?c0 ?c1 ?c2 ?c3 ?c4 ?c5 ?c6) ?k1 ?k2 ?k3 ?k4 ?k5 ?kK ?kd ?ku ?_; (case k1 => k_asm); (case k2 => k_asm); (case k3 => k_asm); (case k4 => k_asm); (case k5 => k_asm); (case kK => first | exact rfl | assumption); (case c0 => exact ⟨_, _, _, _, _, _, by k_mem, by k_mem⟩); (case c1 => (refine' ⟨⟨_, _, ?pa, ?pb⟩, _, _, _, _, ?pc, ?pd⟩; (case pc => k_mem); (case pd => k_mem); (case pa => k_mem); (case pb => l_ints))); (case c2 => ktr_rel); (case c3 => ktr_rel); (case c4 => ktr_rel); (case c5 => ktr_rel); (case c6 => ktr_rel); (case kd => k_room); (case ku => k_units); k_whole; intro v' h' tk' nw' F' N' cP'; obtain ⟨l', vs', e', hv', hn', hi', o1'⟩ := cP'; subst hv'; subst hn'; (try dsimp only); kts_tail; (try k_sweep))))
theorem addN_call {w : World} {N : Led} {x r l : Addr} {q n : Int} {ns : List Int} (hR : Ring w N r q n) (hP : Poly w N x r l ns) (hlen : (ns.length : Int) = n) (hn1 : 1 ≤ n) (hn : n ≤ 4) (hq : 2 ≤ q) (hq2 : q < 2 ^ 33) {v : Int} {t : Tok} :
   Ctr w 16 144 [.ref x, .int v t] N (PolyPost w N r (ns.set (0 : Int).toNat (Int.fmod (ns.getD (0 : Int).toNat 0 + v) q))) := by
  refine' lite ?lw ?lx ?le
  case lw =>
    unfold Ctr
    k_fill
    intro p loose mean mg mb dp un gd cn cs a ccd cl outer A₀ base h₀ L m s R B F X N₀ T hk hdp hun hret
    obtain ⟨dr, k3, k4, tq, tn, e3, hr, hdr⟩ := hR
    obtain ⟨⟨vs, e1, hl, hI⟩, dx, k1, k2, e2, hx, hdx⟩ := hP
    k_dflt (refine' code_def ?k1 ?k2 ?k3 ?k4 ?k5 ?kA ?kF ?kK ?k6 ?k7 ?k8 ?k9 ?kB ?_ ?c2 ?c3 ?c4 ?c5; (case kA => exact rfl); (case kF => exact rfl); (case kK => assumption); (case k1 => k_asm); (case k2 => k_asm); (case k3 => k_asm); (case k4 => k_asm); (case k5 => k_asm); (case k6 => k_is); (case k7 => k_is); (case k8 => k_room); (case k9 => exact BindsTo.of_eq rfl); (case c5 => decide); (case kB => exact locs rfl); (case c2 => exact rfl); (case c3 => exact rfl); (case c4 => exact rfl); k_whole)
    intro g₁ L₁ h₁ FG₁ F₁ N₁ B₁ X₁ T₁
    (try dsimp only)
    (try k_fold)
    k_steps
    exact hret _ _ _ _ (by k_asm) (by allgen_close_more) ⟨_, _, _, _, _, _, _, rfl, rfl, by k_asm, by top_strB, by top_strB, by top_strB, by k_ne, by k_ne, by k_ne⟩
  case lx => intro hk; simpa only using hk (0 : Nat)
  case le => eq_refl
end
section
local macro_rules | `(tactic| k_enter) => `(tactic| ((with_reducible show codeAny _ _ (Code.call (Value.ref 144) ⟨[Value.ref _, Value.int _ _], _⟩) _ _); k_dflt (refine' Ctr.use (addN_call ?c0 ?c1 ?c2 ?c3 ?c4 ?c5 ?c6) ?k1 ?k2 ?k3 ?k4 ?k5 ?kK ?kd ?ku ?_; (case k1 => k_asm); (case k2 => k_asm); (case k3 => k_asm); (case k4 => k_asm); (case k5 => k_asm); (case kK => first | exact rfl | assumption); (case c0 => exact ⟨_, _, _, _, _, _, by k_mem, by k_mem⟩); (case c1 => (refine' ⟨⟨_, _, ?pa, ?pb⟩, _, _, _, _, ?pc, ?pd⟩; (case pc => k_mem); (case pd => k_mem); (case pa => k_mem); (case pb => l_ints))); (case c2 => ktr_rel); (case c3 => ktr_rel); (case c4 => ktr_rel); (case c5 => ktr_rel); (case c6 => ktr_rel); (case kd => k_room); (case ku => k_units); k_whole; intro v' h' tk' nw' F' N' cP'; obtain ⟨x', d', l', t1', t2', vs', e', hv', hn', hi', o1', o2', o3', n1', n2', n3'⟩ := cP'; subst hv'; subst hn'; (try dsimp only); kts_tail; (try k_sweep))))
theorem radd_call {w : World} {N : Led} {x r l : Addr} {q n : Int} {ns : List Int} (hR : Ring w N r q n) (hP : Poly w N x r l ns) (hlen : (ns.length : Int) = n) (hn1 : 1 ≤ n) (hn : n ≤ 4) (hq : 2 ≤ q) (hq2 : q < 2 ^ 33) {v : Int} {t : Tok} :
   Ctr w 20 151 [.ref x, .int v t] N (PolyPost w N r (ns.set (0 : Int).toNat (Int.fmod (ns.getD (0 : Int).toNat 0 + v) q))) := by
  refine' lite ?lw ?lx ?le
  case lw =>
    unfold Ctr
    k_fill
    intro p loose mean mg mb dp un gd cn cs a ccd cl outer A₀ base h₀ L m s R B F X N₀ T hk hdp hun hret
    obtain ⟨dr, k3, k4, tq, tn, e3, hr, hdr⟩ := hR
    obtain ⟨⟨vs, e1, hl, hI⟩, dx, k1, k2, e2, hx, hdx⟩ := hP
    k_dflt (refine' code_def ?k1 ?k2 ?k3 ?k4 ?k5 ?kA ?kF ?kK ?k6 ?k7 ?k8 ?k9 ?kB ?_ ?c2 ?c3 ?c4 ?c5; (case kA => exact rfl); (case kF => exact rfl); (case kK => assumption); (case k1 => k_asm); (case k2 => k_asm); (case k3 => k_asm); (case k4 => k_asm); (case k5 => k_asm); (case k6 => k_is); (case k7 => k_is); (case k8 => k_room); (case k9 => exact BindsTo.of_eq rfl); (case c5 => decide); (case kB => exact locs rfl); (case c2 => exact rfl); (case c3 => exact rfl); (case c4 => exact rfl); k_whole)
    intro g₁ L₁ h₁ FG₁ F₁ N₁ B₁ X₁ T₁
    (try dsimp only)
    (try k_fold)
    k_steps
    exact hret _ _ _ _ (by k_asm) (by allgen_close_more) ⟨_, _, _, _, _, _, _, rfl, rfl, by k_asm, by top_strB, by top_strB, by top_strB, by k_ne, by k_ne, by k_ne⟩
  case lx => intro hk; simpa only using hk (0 : Nat)
  case le => eq_refl
end
section
local macro_rules | `(tactic| k_enter) => `(tactic| ((with_reducible show codeAny _ _ (Code.call (Value.ref 163) ⟨[Value.ref _, Value.int _ _], _⟩) _ _); k_dflt (refine' Ctr.use (subI_call ?c0 ?c1 ?c2 ?c3 ?c4 ?c5 ?c6) ?k1 ?k2 ?k3 ?k4 ?k5 ?kK ?kd ?ku ?_; (case k1 => k_asm); (case k2 => k_asm); (case k3 => k_asm); (case k4 => k_asm); (case k5 => k_asm); (case kK => first | exact rfl | assumption); (case c0 => exact ⟨_, _, _, _, _, _, by k_mem, by k_mem⟩); (case c1 => (refine' ⟨⟨_, _, ?pa, ?pb⟩, _, _, _, _, ?pc, ?pd⟩; (case pc => k_mem); (case pd => k_mem); (case pa => k_mem); (case pb => l_ints))); (case c2 => ktr_rel); (case c3 => ktr_rel); (case c4 => ktr_rel); (case c5 => ktr_rel); (case c6 => ktr_rel); (case kd => k_room); (case ku => k_units); k_whole; intro v' h' tk' nw' F' N' cP'; obtain ⟨l', vs', e', hv', hn', hi', o1'⟩ := cP'; subst hv'; subst hn'; (try dsimp only); kts_tail; (try k_sweep))))
theorem subN_call {w : World} {N : Led} {x r l : Addr} {q n : Int} {ns : List Int} (hR : Ring w N r q n) (hP : Poly w N x r l ns) (hlen : (ns.length : Int) = n) (hn1 : 1 ≤ n) (hn : n ≤ 4) (hq : 2 ≤ q) (hq2 : q < 2 ^ 33) {v : Int} {t : Tok} :
   Ctr w 16 170 [.ref x, .int v t] N (PolyPost w N r (ns.set (0 : Int).toNat (Int.fmod (ns.getD (0 : Int).toNat 0 - v) q))) := by
  refine' lite ?lw ?lx ?le
  case lw =>
    unfold Ctr
    k_fill
    intro p loose mean mg mb dp un gd cn cs a ccd cl outer A₀ base h₀ L m s R B F X N₀ T hk hdp hun hret
    obtain ⟨dr, k3, k4, tq, tn, e3, hr, hdr⟩ := hR
    obtain ⟨⟨vs, e1, hl, hI⟩, dx, k1, k2, e2, hx, hdx⟩ := hP
    k_dflt (refine' code_def ?k1 ?k2 ?k3 ?k4 ?k5 ?kA ?kF ?kK ?k6 ?k7 ?k8 ?k9 ?kB ?_ ?c2 ?c3 ?c4 ?c5; (case kA => exact rfl); (case kF => exact rfl); (case kK => assumption); (case k1 => k_asm); (case k2 => k_asm); (case k3 => k_asm); (case k4 => k_asm); (case k5 => k_asm); (case k6 => k_is); (case k7 => k_is); (case k8 => k_room); (case k9 => exact BindsTo.of_eq rfl); (case c5 => decide); (case kB => exact locs rfl); (case c2 => exact rfl); (case c3 => exact rfl); (case c4 => exact rfl); k_whole)
    intro g₁ L₁ h₁ FG₁ F₁ N₁ B₁ X₁ T₁
    (try dsimp only)
    (try k_fold)
    k_steps
    exact hret _ _ _ _ (by k_asm) (by allgen_close_more) ⟨_, _, _, _, _, _, _, rfl, rfl, by k_asm, by top_strB, by top_strB, by top_strB, by k_ne, by k_ne, by k_ne⟩
  case lx => intro hk; simpa only using hk (0 : Nat)
  case le => eq_refl
end
section
local macro_rules | `(tactic| k_enter) => `(tactic| ((with_reducible show codeAny _ _ (Code.call (Value.ref 170) ⟨[Value.ref _, Value.int _ _], _⟩) _ _); k_dflt (refine' Ctr.use (subN_call ?c0 ?c1 ?c2 ?c3 ?c4 ?c5 ?c6) ?k1 ?k2 ?k3 ?k4 ?k5 ?kK ?kd ?ku ?_; (case k1 => k_asm); (case k2 => k_asm); (case k3 => k_asm); (case k4 => k_asm); (case k5 => k_asm); (case kK => first | exact rfl | assumption); (case c0 => exact ⟨_, _, _, _, _, _, by k_mem, by k_mem⟩); (case c1 => (refine' ⟨⟨_, _, ?pa, ?pb⟩, _, _, _, _, ?pc, ?pd⟩; (case pc => k_mem); (case pd => k_mem); (case pa => k_mem); (case pb => l_ints))); (case c2 => ktr_rel); (case c3 => ktr_rel); (case c4 => ktr_rel); (case c5 => ktr_rel); (case c6 => ktr_rel); (case kd => k_room); (case ku => k_units); k_whole; intro v' h' tk' nw' F' N' cP'; obtain ⟨x', d', l', t1', t2', vs', e', hv', hn', hi', o1', o2', o3', n1', n2', n3'⟩ := cP'; subst hv'; subst hn'; (try dsimp only); kts_tail; (try k_sweep))))
local macro_rules | `(tactic| k_enter) => `(tactic| ((with_reducible show codeAny _ _ (Code.call (Value.ref 132) ⟨[Value.ref _], _⟩) _ _); k_dflt (refine' Ctr.use (neg_call ?c0 ?c1 ?c2 ?c3 ?c4) ?k1 ?k2 ?k3 ?k4 ?k5 ?kK ?kd ?ku ?_; (case k1 => k_asm); (case k2 => k_asm); (case k3 => k_asm); (case k4 => k_asm); (case k5 => k_asm); (case kK => first | exact rfl | assumption); (case c0 => exact ⟨_, _, _, _, _, _, by k_mem, by k_mem⟩); (case c1 => (refine' ⟨⟨_, _, ?pa, ?pb⟩, _, _, _, _, ?pc, ?pd⟩; (case pc => k_mem); (case pd => k_mem); (case pa => k_mem); (case pb => l_ints))); (case c2 => ktr_rel); (case c3 => ktr_rel); (case c4 => ktr_rel); (case kd => k_room); (case ku => k_units); k_whole; intro v' h' tk' nw' F' N' cP'; obtain ⟨x', d', l', t1', t2', vs', e', hv', hn', hi', o1', o2', o3', n1', n2', n3'⟩ := cP'; subst hv'; subst hn'; (try dsimp only); kts_tail; (try k_sweep))))
theorem rsub_call {w : World} {N : Led} {x r l : Addr} {q n : Int} {ns : List Int} (hR : Ring w N r q n) (hP : Poly w N x r l ns) (hlen : (ns.length : Int) = n) (hn1 : 1 ≤ n) (hn : n ≤ 4) (hq : 2 ≤ q) (hq2 : q < 2 ^ 33) {v : Int} {t : Tok} :
   Ctr w 20 177 [.ref x, .int v t] N (PolyPost w N r ((ns.set (0 : Int).toNat (Int.fmod (ns.getD (0 : Int).toNat 0 - v) q)).map fun c => Int.fmod (-c) q)) := by
  refine' lite ?lw ?lx ?le
  case lw =>
    unfold Ctr
    k_fill
    intro p loose mean mg mb dp un gd cn cs a ccd cl outer A₀ base h₀ L m s R B F X N₀ T hk hdp hun hret
    obtain ⟨dr, k3, k4, tq, tn, e3, hr, hdr⟩ := hR
    obtain ⟨⟨vs, e1, hl, hI⟩, dx, k1, k2, e2, hx, hdx⟩ := hP
    k_dflt (refine' code_def ?k1 ?k2 ?k3 ?k4 ?k5 ?kA ?kF ?kK ?k6 ?k7 ?k8 ?k9 ?kB ?_ ?c2 ?c3 ?c4 ?c5; (case kA => exact rfl); (case kF => exact rfl); (case kK => assumption); (case k1 => k_asm); (case k2 => k_asm); (case k3 => k_asm); (case k4 => k_asm); (case k5 => k_asm); (case k6 => k_is); (case k7 => k_is); (case k8 => k_room); (case k9 => exact BindsTo.of_eq rfl); (case c5 => decide); (case kB => exact locs rfl); (case c2 => exact rfl); (case c3 => exact rfl); (case c4 => exact rfl); k_whole)
    intro g₁ L₁ h₁ FG₁ F₁ N₁ B₁ X₁ T₁
    (try dsimp only)
    (try k_fold)
    k_steps
    exact hret _ _ _ _ (by k_asm) (by allgen_close_more) ⟨_, _, _, _, _, _, _, rfl, rfl, by k_asm, by top_strB, by top_strB, by top_strB, by k_ne, by k_ne, by k_ne⟩
  case lx => intro hk; simpa only using hk (0 : Nat)
  case le => eq_refl
end
section
theorem mulI_call {w : World} {N : Led} {x r l : Addr} {q n : Int} {ns : List Int} (hR : Ring w N r q n) (hP : Poly w N x r l ns) (hlen : (ns.length : Int) = n) (hn1 : 1 ≤ n) (hn : n ≤ 4) (hq : 2 ≤ q) (hq2 : q < 2 ^ 33) {v : Int} {t : Tok} (hb : ∀ c ∈ ns, 0 ≤ c ∧ c < q) :
   Ctr w 16 189 [.ref x, .int v t] N (PolyPost w N r (ns.map fun c => Int.fmod (c * v) q)) := by
  refine' lite ?lw ?lx ?le
  case lw =>
    unfold Ctr
    k_fill
    intro p loose mean mg mb dp un gd cn cs a ccd cl outer A₀ base h₀ L m s R B F X N₀ T hk hdp hun hret
    obtain ⟨dr, k3, k4, tq, tn, e3, hr, hdr⟩ := hR
    obtain ⟨⟨vs, e1, hl, hI⟩, dx, k1, k2, e2, hx, hdx⟩ := hP
    k_dflt (refine' code_defC ?k1 ?k2 ?k3 ?k4 ?k5 ?kA ?kF ?kK ?k6 ?k7 ?k8 ?k9 ?kB ?kD ?_ ?c2 ?c3 ?c4; (case kA => exact rfl); (case kF => exact rfl); (case kK => assumption); (case k1 => k_asm); (case k2 => k_asm); (case k3 => k_asm); (case k4 => k_asm); (case k5 => k_asm); (case k6 => k_is); (case k7 => k_is); (case k8 => k_room); (case k9 => exact BindsTo.of_eq rfl); (case kB => exact rfl); (case kD => decide +kernel); (case c2 => exact rfl); (case c3 => exact rfl); (case c4 => exact rfl); k_whole)
    intro g₁ L₁ h₁ tk₁ cells₁ FG₁ F₁ N₁ Y₁ B₁ X₁ T₁ l₁
    k_cells Y₁
    simp only [List.cons_append, List.nil_append] at N₁
    (try dsimp only)
    (try k_fold)
    k_steps
    exact hret _ _ _ _ (by k_asm) (by allgen_close_more) ⟨_, _, _, _, _, _, _, rfl, rfl, by k_asm, by top_strB, by top_strB, by top_strB, by k_ne, by k_ne, by k_ne⟩
  case lx => intro hk; simpa only using hk (0 : Nat)
  case le => eq_refl
end
section
local macro_rules | `(tactic| k_enter) => `(tactic| ((with_reducible show codeAny _ _ (Code.call (Value.ref 189) ⟨[Value.ref _, Value.int _ _], _⟩) _ _); k_dflt (refine' Ctr.use (mulI_call ?c0 ?c1 ?c2 ?c3 ?c4 ?c5 ?c6 ?c7) ?k1 ?k2 ?k3 ?k4 ?k5 ?kK ?kd ?ku ?_; (case k1 => k_asm); (case k2 => k_asm); (case k3 => k_asm); (case k4 => k_asm); (case k5 => k_asm); (case kK => first | exact rfl | assumption); (case c0 => exact ⟨_, _, _, _, _, _, by k_mem, by k_mem⟩); (case c1 => (refine' ⟨⟨_, _, ?pa, ?pb⟩, _, _, _, _, ?pc, ?pd⟩; (case pc => k_mem); (case pd => k_mem); (case pa => k_mem); (case pb => l_ints))); (case c2 => ktr_rel); (case c3 => ktr_rel); (case c4 => ktr_rel); (case c5 => ktr_rel); (case c6 => ktr_rel); (case c7 => first | assumption | allgen_close2_more); (case kd => k_room); (case ku => k_units); k_whole; intro v' h' tk' nw' F' N' cP'; obtain ⟨x', d', l', t1', t2', vs', e', hv', hn', hi', o1', o2', o3', n1', n2', n3'⟩ := cP'; subst hv'; subst hn'; (try dsimp only); kts_tail; (try k_sweep))))
theorem rmul_call {w : World} {N : Led} {x r l : Addr} {q n : Int} {ns : List Int} (hR : Ring w N r q n) (hP : Poly w N x r l ns) (hlen : (ns.length : Int) = n) (hn1 : 1 ≤ n) (hn : n ≤ 4) (hq : 2 ≤ q) (hq2 : q < 2 ^ 33) (hb : ∀ c ∈ ns, 0 ≤ c ∧ c < q) {v : Int} {t : Tok} :
   Ctr w 20 196 [.ref x, .int v t] N (PolyPost w N r (ns.map fun c => Int.fmod (c * v) q)) := by
  refine' lite ?lw ?lx ?le
  case lw =>
    unfold Ctr
    k_fill
    intro p loose mean mg mb dp un gd cn cs a ccd cl outer A₀ base h₀ L m s R B F X N₀ T hk hdp hun hret
    obtain ⟨dr, k3, k4, tq, tn, e3, hr, hdr⟩ := hR
    obtain ⟨⟨vs, e1, hl, hI⟩, dx, k1, k2, e2, hx, hdx⟩ := hP
    k_dflt (refine' code_def ?k1 ?k2 ?k3 ?k4 ?k5 ?kA ?kF ?kK ?k6 ?k7 ?k8 ?k9 ?kB ?_ ?c2 ?c3 ?c4 ?c5; (case kA => exact rfl); (case kF => exact rfl); (case kK => assumption); (case k1 => k_asm); (case k2 => k_asm); (case k3 => k_asm); (case k4 => k_asm); (case k5 => k_asm); (case k6 => k_is); (case k7 => k_is); (case k8 => k_room); (case k9 => exact BindsTo.of_eq rfl); (case c5 => decide); (case kB => exact locs rfl); (case c2 => exact rfl); (case c3 => exact rfl); (case c4 => exact rfl); k_whole)
    intro g₁ L₁ h₁ FG₁ F₁ N₁ B₁ X₁ T₁
    (try dsimp only)
    (try k_fold)
    k_steps
    exact hret _ _ _ _ (by k_asm) (by allgen_close_more) ⟨_, _, _, _, _, _, _, rfl, rfl, by k_asm, by top_strB, by top_strB, by top_strB, by k_ne, by k_ne, by k_ne⟩
  case lx => intro hk; simpa only using hk (0 : Nat)
  case le => eq_refl
end
end
section
local macro_rules | `(tactic| k_mem) => `(tactic| ((fail_if_success (with_reducible refine' List.Mem.tail _ ?_)); first | with_reducible assumption | assumption | (refine sub_mem (by assumption) ?_; k_mem)))
local macro_rules | `(tactic| news_mem) => `(tactic| k_mem)
local macro_rules | `(tactic| k_room) => `(tactic| ((simp only [depth_under_make, depth_under_kw, depth_in1, depth_deeper, depth_caller, recursionLimit] at *); omega))
local macro_rules | `(tactic| k_units) => `(tactic| ((have hcL9 := cLine_is); (simp only [units_in1, units_deeper, Around.mark_units, units_caller, cLine] at *); omega))
local macro_rules | `(tactic| allgen_close2_more) => `(tactic| assumption)
local macro_rules | `(tactic| ktr_rel) => `(tactic| ((try simp only [List.length_append, List.length_cons, List.length_nil, List.length_map, List.length_set, List.length_zipWith, rangeKs_length]); first | assumption | omega))
local macro_rules | `(tactic| top_reprB) => `(tactic| first | exact List.forall_mem_nil _ | (refine List.forall_mem_cons.mpr ⟨by k_mem, ?_⟩; top_reprB) | (intro p hp; k_mem))
local macro_rules | `(tactic| k_ne) => `(tactic| (refine neN ?_; (try dsimp only); first | (with_reducible assumption) | exact Ne.symm (by with_reducible assumption) | exact off_ne (by with_reducible assumption) (by k_mem) | exact Ne.symm (off_ne (by with_reducible assumption) (by k_mem)) | omega))
local macro_rules | `(tactic| top_strB) => `(tactic| first | (first | assumption | exact allLt_of (by assumption) | exact And.right (by assumption) | exact And.right (And.right (by assumption)) | exact And.right (And.right (And.right (by assumption))) | exact And.right (And.right (And.right (And.right (by assumption)))) | exact And.right (And.right (And.right (And.right (And.right (by assumption))))) | exact And.right (And.right (And.right (And.right (And.right (And.right (by assumption)))))) | exact And.right (And.right (And.right (And.right (And.right (And.right (And.right (by assumption))))))) | exact And.right (And.right (And.right (And.right (And.right (And.right (And.right (And.right (by assumption)))))))) | exact And.right (And.right (And.right (And.right (And.right (And.right (And.right (And.right (And.right (by assumption))))))))) | exact And.right (And.right (And.right (And.right (And.right (And.right (And.right (And.right (And.right (And.right (by assumption)))))))))) | exact And.right (And.right (And.right (And.right (And.right (And.right (And.right (And.right (And.right (And.right (And.right (by assumption))))))))))) | exact And.right (And.right (And.right (And.right (And.right (And.right (And.right (And.right (And.right (And.right (And.right (And.right (by assumption)))))))))))) | exact And.right (And.right (And.right (And.right (And.right (And.right (And.right (And.right (And.right (And.right (And.right (And.right (And.right (by assumption))))))))))))) | exact And.right (And.right (And.right (And.right (And.right (And.right (And.right (And.right (And.right (And.right (And.right (And.right (And.right (And.right (by assumption)))))))))))))) | exact And.right (And.right (And.right (And.right (And.right (And.right (And.right (And.right (And.right (And.right (And.right (And.right (And.right (And.right (And.right (by assumption))))))))))))))) | exact And.right (And.right (And.right (And.right (And.right (And.right (And.right (And.right (And.right (And.right (And.right (And.right (And.right (And.right (And.right (And.right (by assumption)))))))))))))))) | exact And.right (And.right (And.right (And.right (And.right (And.right (And.right (And.right (And.right (And.right (And.right (And.right (And.right (And.right (And.right (And.right (And.right (by assumption))))))))))))))))) | exact And.right (And.right (And.right (And.right (And.right (And.right (And.right (And.right (And.right (And.right (And.right (And.right (And.right (And.right (And.right (And.right (And.right (And.right (by assumption)))))))))))))))))) | exact And.right (And.right (And.right (And.right (And.right (And.right (And.right (And.right (And.right (And.right (And.right (And.right (And.right (And.right (And.right (And.right (And.right (And.right (And.right (by assumption)))))))))))))))))))) | exact off_sub (by with_reducible assumption) (by top_reprB) | exact off_of_lt (by (first | assumption | exact allLt_of (by assumption) | exact And.right (by assumption) | exact And.right (And.right (by assumption)) | exact And.right (And.right (And.right (by assumption))) | exact And.right (And.right (And.right (And.right (by assumption)))) | exact And.right (And.right (And.right (And.right (And.right (by assumption))))) | exact And.right (And.right (And.right (And.right (And.right (And.right (by assumption)))))) | exact And.right (And.right (And.right (And.right (And.right (And.right (And.right (by assumption))))))) | exact And.right (And.right (And.right (And.right (And.right (And.right (And.right (And.right (by assumption)))))))) | exact And.right (And.right (And.right (And.right (And.right (And.right (And.right (And.right (And.right (by assumption))))))))) | exact And.right (And.right (And.right (And.right (And.right (And.right (And.right (And.right (And.right (And.right (by assumption)))))))))) | exact And.right (And.right (And.right (And.right (And.right (And.right (And.right (And.right (And.right (And.right (And.right (by assumption))))))))))) | exact And.right (And.right (And.right (And.right (And.right (And.right (And.right (And.right (And.right (And.right (And.right (And.right (by assumption)))))))))))) | exact And.right (And.right (And.right (And.right (And.right (And.right (And.right (And.right (And.right (And.right (And.right (And.right (And.right (by assumption))))))))))))) | exact And.right (And.right (And.right (And.right (And.right (And.right (And.right (And.right (And.right (And.right (And.right (And.right (And.right (And.right (by assumption)))))))))))))) | exact And.right (And.right (And.right (And.right (And.right (And.right (And.right (And.right (And.right (And.right (And.right (And.right (And.right (And.right (And.right (by assumption))))))))))))))) | exact And.right (And.right (And.right (And.right (And.right (And.right (And.right (And.right (And.right (And.right (And.right (And.right (And.right (And.right (And.right (And.right (by assumption)))))))))))))))) | exact And.right (And.right (And.right (And.right (And.right (And.right (And.right (And.right (And.right (And.right (And.right (And.right (And.right (And.right (And.right (And.right (And.right (by assumption))))))))))))))))) | exact And.right (And.right (And.right (And.right (And.right (And.right (And.right (And.right (And.right (And.right (And.right (And.right (And.right (And.right (And.right (And.right (And.right (And.right (by assumption)))))))))))))))))) | exact And.right (And.right (And.right (And.right (And.right (And.right (And.right (And.right (And.right (And.right (And.right (And.right (And.right (And.right (And.right (And.right (And.right (And.right (And.right (by assumption))))))))))))))))))))) | exact off_of_lt2 (by (first | assumption | exact allLt_of (by assumption) | exact And.right (by assumption) | exact And.right (And.right (by assumption)) | exact And.right (And.right (And.right (by assumption))) | exact And.right (And.right (And.right (And.right (by assumption)))) | exact And.right (And.right (And.right (And.right (And.right (by assumption))))) | exact And.right (And.right (And.right (And.right (And.right (And.right (by assumption)))))) | exact And.right (And.right (And.right (And.right (And.right (And.right (And.right (by assumption))))))) | exact And.right (And.right (And.right (And.right (And.right (And.right (And.right (And.right (by assumption)))))))) | exact And.right (And.right (And.right (And.right (And.right (And.right (And.right (And.right (And.right (by assumption))))))))) | exact And.right (And.right (And.right (And.right (And.right (And.right (And.right (And.right (And.right (And.right (by assumption)))))))))) | exact And.right (And.right (And.right (And.right (And.right (And.right (And.right (And.right (And.right (And.right (And.right (by assumption))))))))))) | exact And.right (And.right (And.right (And.right (And.right (And.right (And.right (And.right (And.right (And.right (And.right (And.right (by assumption)))))))))))) | exact And.right (And.right (And.right (And.right (And.right (And.right (And.right (And.right (And.right (And.right (And.right (And.right (And.right (by assumption))))))))))))) | exact And.right (And.right (And.right (And.right (And.right (And.right (And.right (And.right (And.right (And.right (And.right (And.right (And.right (And.right (by assumption)))))))))))))) | exact And.right (And.right (And.right (And.right (And.right (And.right (And.right (And.right (And.right (And.right (And.right (And.right (And.right (And.right (And.right (by assumption))))))))))))))) | exact And.right (And.right (And.right (And.right (And.right (And.right (And.right (And.right (And.right (And.right (And.right (And.right (And.right (And.right (And.right (And.right (by assumption)))))))))))))))) | exact And.right (And.right (And.right (And.right (And.right (And.right (And.right (And.right (And.right (And.right (And.right (And.right (And.right (And.right (And.right (And.right (And.right (by assumption))))))))))))))))) | exact And.right (And.right (And.right (And.right (And.right (And.right (And.right (And.right (And.right (And.right (And.right (And.right (And.right (And.right (And.right (And.right (And.right (And.right (by assumption)))))))))))))))))) | exact And.right (And.right (And.right (And.right (And.right (And.right (And.right (And.right (And.right (And.right (And.right (And.right (And.right (And.right (And.right (And.right (And.right (And.right (And.right (by assumption))))))))))))))))))))) (by omega) | exact off_of_base (by assumption) (by omega))
local macro_rules | `(tactic| k_all) => `(tactic| (refine off_all ?_; top_strB))
local macro_rules | `(tactic| walk_at "getMethod ref") => `(tactic| (k_here; k_dflt (refine' kmu_own ?k1 ?k2 ?k3 ?k4 ?k5 ?_; (case k1 => k_asm); (case k2 => k_asm); (case k3 => k_inst); (case k4 => k_is); (case k5 => k_is); k_whole)))
local macro_rules | `(tactic| walk_at "binaryOp Mult int int") => `(tactic| (k_here; with_reducible first | refine PyProof.Rows.mul_int ?_ (mulok_getD (by assumption) (by assumption) (by assumption)) | refine PyProof.Rows.mul_int ?_ (mulok_mem (by assumption) (by assumption) (by assumption))))
local macro_rules | `(tactic| top_name) => `(tactic| (law_purse 40000 => (law_clear; (repeat (with_reducible rename (@Ne Nat _ _) ∧ _ => hne9; clear hne9)); (repeat (with_reducible rename (@LT.lt Nat _ _ _) ∧ _ => hne9; clear hne9)); (repeat (with_reducible rename (@Ne Nat _ _) => hne9; clear hne9)); (try simp only [List.length_append, List.length_cons, List.length_nil, List.length_map, List.length_take, List.length_set, List.length_zipWith, rangeKs_length]); omega)))
local macro_rules | `(tactic| walk_at "subscriptTail Name Name ref int") => `(tactic| ((k_here; (with_reducible show wpAny _ _ (subscriptTail _ _ (Value.ref _) (Value.int _ _)) _ _ _); (with_unfolding_all refine' item_list_ints ?k1 ?k2 ?k3 ?k4 ?k5 ?_; (case k1 => exact News.isList (by k_asm) (by k_mem)); (case k2 => l_ints); (case k3 => first | assumption | top_name); (case k4 => first | assumption | exact idx_hi (by assumption) (by first | assumption | exact Nat.le_refl _) | top_name); (case k5 => first | assumption | exact idx_fit (by assumption) (by assumption) | top_name); k_whole); intro _)))
local macro_rules | `(tactic| walk_at "subscriptTail Name BinOp ref int") => `(tactic| ((k_here; (with_reducible show wpAny _ _ (subscriptTail _ _ (Value.ref _) (Value.int _ _)) _ _ _); (with_unfolding_all refine' item_list_ints ?k1 ?k2 ?k3 ?k4 ?k5 ?_; (case k1 => exact News.isList (by k_asm) (by k_mem)); (case k2 => l_ints); (case k3 => first | assumption | top_name); (case k4 => first | assumption | exact idx_hi (by assumption) (by first | assumption | exact Nat.le_refl _) | top_name); (case k5 => first | assumption | exact idx_fit (by assumption) (by assumption) | top_name); k_whole); intro _)))
local macro_rules | `(tactic| walk_at "call builtin:list.copy") => `(tactic| (k_here; (with_reducible show wpAny _ _ (call (Value.builtin _) [Value.ref _]) _ _ _); k_dflt (refine' copyK ?k1 ?k2 ?k3 ?k4 ?_; (case k1 => k_asm); (case k2 => k_asm); (case k3 => exact News.isList (by k_asm) (by k_mem)); (case k4 => exact ints_size (by l_ints) (by top_name)); k_whole); intro D' h' F' N' l1; (try k_lt l1); (try k_sweep)))
local macro_rules | `(tactic| walk_at "setItem ref int") => `(tactic| (k_here; (with_reducible show wpAny _ _ (setItem (Value.ref _) (Value.int _ _) (Value.int _ _)) _ _ _); k_dflt (refine' ksa_set ?k1 ?k2 ?k3 ?k4 ?k5 ?k6 ?k7 ?_; (case k1 => k_asm); (case k2 => k_asm); (case k3 => k_upd); (case k4 => l_ints); (case k5 => first | assumption | top_name); (case k6 => first | assumption | top_name); (case k7 => first | assumption | top_name); k_whole); intro h' F' N' hi' hl' hs'; clear hs'; (try k_sweep)))
local macro_rules | `(tactic| walk_at "callWith ref") => `(tactic| (k_here; kco_here; k_dflt (refine' kco_callWith ?k1 ?k2 ?k3 ?k4 ?_; (case k1 => k_in); (case k2 => k_inst); (case k3 => rfl); (case k4 => k_is); k_whole)))
local macro_rules | `(tactic| allgen_close_more) => `(tactic| first | k_asm | (refine' cb_drop ?cbN ?cbS; (case cbN => assumption); (case cbS => top_reprB)))
local macro_rules | `(tactic| walk_at "exec For Name Call cons nil") => `(tactic| (k_here; k_dflt (refine For_turns (by k_asm) ?_ (by intro _; with_unfolding_all rfl) (by passes_own)); (try k_fold)))
local macro_rules | `(tactic| walk_at "getItem ref int") => `(tactic| (k_here; (with_reducible show wpAny _ _ (getItem (Value.ref _) (Value.int _ _)) _ _ _); k_dflt (refine' ksa_get ?k1 ?k2 ?k3 ?k4 ?k5 ?k6 ?_; (case k1 => k_asm); (case k2 => k_mem); (case k3 => l_ints); (case k4 => first | assumption | top_name); (case k5 => first | assumption | top_name); (case k6 => first | assumption | top_name); k_whole); intro _))
local macro_rules | `(tactic| walk_at "CompSrc") => `(tactic| (k_here; k_dflt (refine' LCg.CompSrc.ledger ?s1 ?s2 ?s3 ?s4 ?s5 ?_; (case s1 => rfl); (case s2 => k_asm); (case s3 => k_asm); (case s4 => k_mem); (case s5 => exact ints_sizeA (by l_ints) (by first | assumption | top_name)); intro g'; (refine' kcf_list _ (by l_ints) (fun k' t' I' oI' C' oC' D' m' ys' h' tk' E' hk' hC' hx' F' N' off' ne' hMark' => ?_) ?_); (all_goals (try (simp only [LCg.Off3, and_true] at off'))); kcf_last)))
local macro_rules | `(tactic| allgen_close2_more) => `(tactic| first | assumption | exact school_bnd (by assumption) _ _ | exact one_bnd (by assumption) | exact times_bnd (by assumption) _ _ | exact map_bnd (by assumption) _ _ | exact zip_bnd (by assumption) _ _ _ | exact set_bnd (by assumption) (by allgen_close2_more))
local macro_rules | `(tactic| ktr_rel) => `(tactic| ((simp only [List.length_append, List.length_cons, List.length_nil, List.length_map, List.length_set, List.length_zipWith, rangeKs_length, schoolS_length, timesS_length]); omega))
local macro_rules | `(tactic| k_enter) => `(tactic| ((with_reducible show codeAny _ _ (Code.call (Value.ref 56) ⟨[Value.ref _, Value.ref _], _⟩) _ _); k_dflt (refine' Ctr.use (ring_call ?c0 ?c1 ?c2 ?c3) ?k1 ?k2 ?k3 ?k4 ?k5 ?kK ?kd ?ku ?_; (case k1 => k_asm); (case k2 => k_asm); (case k3 => k_asm); (case k4 => k_asm); (case k5 => k_asm); (case kK => first | exact rfl | assumption); (case c0 => exact ⟨_, _, _, _, _, _, by k_mem, by k_mem⟩); (case c1 => exact ⟨_, _, by k_mem, by l_ints⟩); (case c2 => ktr_rel); (case c3 => ktr_rel); (case kd => k_room); (case ku => k_units); k_whole; intro v' h' tk' nw' F' N' cP'; obtain ⟨x', d', t1', t2', hv', hn', o1', o2', n1'⟩ := cP'; subst hv'; subst hn'; (try dsimp only); kts_tail; (try k_sweep))))
section
local macro_rules | `(tactic| k_enter) => `(tactic| ((with_reducible show codeAny _ _ (Code.call (Value.ref 189) ⟨[Value.ref _, Value.ref _], _⟩) _ _); k_dflt (refine' Ctr.use (mul_call ?c0 ?c1 ?c2 ?c3 ?c4 ?c5 ?c6 ?c7 ?c8 ?c9 ?c10) ?k1 ?k2 ?k3 ?k4 ?k5 ?kK ?kd ?ku ?_; (case k1 => k_asm); (case k2 => k_asm); (case k3 => k_asm); (case k4 => k_asm); (case k5 => k_asm); (case kK => first | exact rfl | assumption); (case c0 => exact ⟨_, _, _, _, _, _, by k_mem, by k_mem⟩); (case c1 => (refine' ⟨⟨_, _, ?pa, ?pb⟩, _, _, _, _, ?pc, ?pd⟩; (case pc => k_mem); (case pd => k_mem); (case pa => k_mem); (case pb => l_ints))); (case c2 => ktr_rel); (case c3 => ktr_rel); (case c4 => ktr_rel); (case c5 => ktr_rel); (case c6 => ktr_rel); (case c7 => (refine' ⟨⟨_, _, ?pa, ?pb⟩, _, _, _, _, ?pc, ?pd⟩; (case pc => k_mem); (case pd => k_mem); (case pa => k_mem); (case pb => l_ints))); (case c8 => ktr_rel); (case c9 => first | assumption | allgen_close2_more); (case c10 => first | assumption | allgen_close2_more); (case kd => k_room); (case ku => k_units); k_whole; intro v' h' tk' nw' F' N' cP'; obtain ⟨x', d', l', t1', t2', vs', e', hv', hn', hi', o1', o2', o3', n1', n2', n3'⟩ := cP'; subst hv'; subst hn'; (try dsimp only); kts_tail; (try k_sweep))))
local macro_rules | `(tactic| k_enter) => `(tactic| ((with_reducible show codeAny _ _ (Code.call (Value.ref 243) ⟨_, _⟩) _ _); k_dflt (refine' Ctr.use (times_call ?c0 ?c1 ?c2 ?c3 ?c4 ?c5 ?c6 ?c7 ?c8 _) ?k1 ?k2 ?k3 ?k4 ?k5 ?kK ?kd ?ku ?_; (case k1 => k_asm); (case k2 => k_asm); (case k3 => k_asm); (case k4 => k_asm); (case k5 => k_asm); (case kK => first | exact rfl | assumption); (case c0 => assumption); (case c1 => assumption); (case c2 => first | assumption | ktr_rel); (case c3 => first | assumption | ktr_rel); (case c4 => exact ⟨_, _, by k_mem, by l_ints⟩); (case c5 => exact ⟨_, _, by k_mem, by l_ints⟩); (case c6 => first | assumption | ktr_rel); (case c7 => first | assumption | allgen_close2_more); (case c8 => first | assumption | allgen_close2_more); (case kd => k_room); (case ku => k_units); k_whole; intro v' h' tk' nw' F' N' cP'; obtain ⟨l', vs', e', hv', hn', hi', o1'⟩ := cP'; subst hv'; subst hn'; (try dsimp only); kts_tail; (try k_sweep))))
theorem pair3_call {w : World} {N : Led} {x r l : Addr} {q n : Int} {ns : List Int} (hR : Ring w N r q n) (hP : Poly w N x r l ns) (hlen : (ns.length : Int) = n) (hn1 : 1 ≤ n) (hn : n ≤ 4) (hq : 2 ≤ q) (hq2 : q < 2 ^ 33) {y l2 : Addr} {ms : List Int} (hP2 : Poly w N y r l2 ms) (hlen2 : (ms.length : Int) = n) {f g : Addr} {fs gs : List Int} (hf : Ints N f fs) (hg : Ints N g gs) (hlf : (fs.length : Int) = n) (hlg : (gs.length : Int) = n) (hb : ∀ c ∈ ns, 0 ≤ c ∧ c < q) (hb2 : ∀ c ∈ ms, 0 ≤ c ∧ c < q) (hbf : ∀ c ∈ fs, 0 ≤ c ∧ c < q) (hbg : ∀ c ∈ gs, 0 ≤ c ∧ c < q) {tk tq' : Tok} :
   Ctr w 24 255 [.int 3 tk, .ref x, .ref y, .ref f, .ref g, .int q tq'] N (PairPost w N r (schoolS q n ns ms) (timesS q fs gs)) := by
  refine' lite ?lw ?lx ?le
  case lw =>
    unfold Ctr
    k_fill
    intro p loose mean mg mb dp un gd cn cs a ccd cl outer A₀ base h₀ L m s R B F X N₀ T hk hdp hun hret
    obtain ⟨dr, k3, k4, tq, tn, e3, hr, hdr⟩ := hR
    obtain ⟨⟨vs, e1, hl, hI⟩, dx, k1, k2, e2, hx, hdx⟩ := hP
    obtain ⟨⟨us, f1, hm, hJ⟩, dy, j1, j2, f2, hy, hdy⟩ := hP2
    obtain ⟨ws, w1, hfm, hfI⟩ := hf
    obtain ⟨zs, w2, hgm, hgI⟩ := hg
    k_dflt (refine' code_defC ?k1 ?k2 ?k3 ?k4 ?k5 ?kA ?kF ?kK ?k6 ?k7 ?k8 ?k9 ?kB ?kD ?_ ?c2 ?c3 ?c4; (case kA => exact rfl); (case kF => exact rfl); (case kK => assumption); (case k1 => k_asm); (case k2 => k_asm); (case k3 => k_asm); (case k4 => k_asm); (case k5 => k_asm); (case k6 => k_is); (case k7 => k_is); (case k8 => k_room); (case k9 => exact BindsTo.of_eq rfl); (case kB => exact rfl); (case kD => decide +kernel); (case c2 => exact rfl); (case c3 => exact rfl); (case c4 => exact rfl); k_whole)
    intro g₁ L₁ h₁ tk₁ cells₁ FG₁ F₁ N₁ Y₁ B₁ X₁ T₁ l₁
    k_cells Y₁
    simp only [List.cons_append, List.nil_append] at N₁
    (try dsimp only)
    (try k_fold)
    have hf1 : 1 ≤ fs.length := by omega
    have hf2 : fs.length ≤ 4 := by omega
    have hf3 : gs.length = fs.length := by omega
    k_steps
    exact hret _ _ _ _ (by k_asm) (by allgen_close_more) ⟨_, _, _, _, _, _, _, _, _, _, _, rfl, rfl, by k_asm, by k_asm, by top_strB, by top_strB, by top_strB, by top_strB, by top_strB⟩
  case lx => intro hk; simpa only using hk (0 : Nat)
  case le => eq_refl
end
section
local macro_rules | `(tactic| k_enter) => `(tactic| ((with_reducible show codeAny _ _ (Code.call (Value.ref 203) ⟨[Value.ref _, Value.ref _], _⟩) _ _); k_dflt (refine' Ctr.use (imul_call ?c0 ?c1 ?c2 ?c3 ?c4 ?c5 ?c6 ?c7 ?c8 ?c9 ?c10) ?k1 ?k2 ?k3 ?k4 ?k5 ?kK ?kd ?ku ?_; (case k1 => k_asm); (case k2 => k_asm); (case k3 => k_asm); (case k4 => k_asm); (case k5 => k_asm); (case kK => first | exact rfl | assumption); (case c0 => exact ⟨_, _, _, _, _, _, by k_mem, by k_mem⟩); (case c1 => (refine' ⟨⟨_, _, ?pa, ?pb⟩, _, _, _, _, ?pc, ?pd⟩; (case pc => k_mem); (case pd => k_mem); (case pa => k_mem); (case pb => l_ints))); (case c2 => ktr_rel); (case c3 => ktr_rel); (case c4 => ktr_rel); (case c5 => ktr_rel); (case c6 => ktr_rel); (case c7 => (refine' ⟨⟨_, _, ?pa, ?pb⟩, _, _, _, _, ?pc, ?pd⟩; (case pc => k_mem); (case pd => k_mem); (case pa => k_mem); (case pb => l_ints))); (case c8 => ktr_rel); (case c9 => first | assumption | allgen_close2_more); (case c10 => first | assumption | allgen_close2_more); (case kd => k_room); (case ku => k_units); k_whole; intro v' h' tk' nw' F' N' cP'; obtain ⟨x', d', l', t1', t2', vs', e', hv', hn', hi', o1', o2', o3', n1', n2', n3'⟩ := cP'; subst hv'; subst hn'; (try dsimp only); kts_tail; (try k_sweep))))
local macro_rules | `(tactic| k_enter) => `(tactic| ((with_reducible show codeAny _ _ (Code.call (Value.ref 243) ⟨_, _⟩) _ _); k_dflt (refine' Ctr.use (times_call ?c0 ?c1 ?c2 ?c3 ?c4 ?c5 ?c6 ?c7 ?c8 _) ?k1 ?k2 ?k3 ?k4 ?k5 ?kK ?kd ?ku ?_; (case k1 => k_asm); (case k2 => k_asm); (case k3 => k_asm); (case k4 => k_asm); (case k5 => k_asm); (case kK => first | exact rfl | assumption); (case c0 => assumption); (case c1 => assumption); (case c2 => first | assumption | ktr_rel); (case c3 => first | assumption | ktr_rel); (case c4 => exact ⟨_, _, by k_mem, by l_ints⟩); (case c5 => exact ⟨_, _, by k_mem, by l_ints⟩); (case c6 => first | assumption | ktr_rel); (case c7 => first | assumption | allgen_close2_more); (case c8 => first | assumption | allgen_close2_more); (case kd => k_room); (case ku => k_units); k_whole; intro v' h' tk' nw' F' N' cP'; obtain ⟨l', vs', e', hv', hn', hi', o1'⟩ := cP'; subst hv'; subst hn'; (try dsimp only); kts_tail; (try k_sweep))))
theorem onward2_call {w : World} {N : Led} {x r l : Addr} {q n : Int} {ns : List Int} (hR : Ring w N r q n) (hP : Poly w N x r l ns) (hlen : (ns.length : Int) = n) (hn1 : 1 ≤ n) (hn : n ≤ 4) (hq : 2 ≤ q) (hq2 : q < 2 ^ 33) {y l2 : Addr} {ms : List Int} (hP2 : Poly w N y r l2 ms) (hlen2 : (ms.length : Int) = n) {f g : Addr} {fs gs : List Int} (hf : Ints N f fs) (hg : Ints N g gs) (hlf : (fs.length : Int) = n) (hlg : (gs.length : Int) = n) (hb : ∀ c ∈ ns, 0 ≤ c ∧ c < q) (hb2 : ∀ c ∈ ms, 0 ≤ c ∧ c < q) (hbf : ∀ c ∈ fs, 0 ≤ c ∧ c < q) (hbg : ∀ c ∈ gs, 0 ≤ c ∧ c < q) {tk tq' : Tok} :
   Ctr w 28 260 [.int 2 tk, .ref x, .ref y, .ref f, .ref g, .int q tq'] N (PairPost w N r (schoolS q n ns ms) (timesS q fs gs)) := by
  refine' lite ?lw ?lx ?le
  case lw =>
    unfold Ctr
    k_fill
    intro p loose mean mg mb dp un gd cn cs a ccd cl outer A₀ base h₀ L m s R B F X N₀ T hk hdp hun hret
    obtain ⟨dr, k3, k4, tq, tn, e3, hr, hdr⟩ := hR
    obtain ⟨⟨vs, e1, hl, hI⟩, dx, k1, k2, e2, hx, hdx⟩ := hP
    obtain ⟨⟨us, f1, hm, hJ⟩, dy, j1, j2, f2, hy, hdy⟩ := hP2
    obtain ⟨ws, w1, hfm, hfI⟩ := hf
    obtain ⟨zs, w2, hgm, hgI⟩ := hg
    k_dflt (refine' code_defC ?k1 ?k2 ?k3 ?k4 ?k5 ?kA ?kF ?kK ?k6 ?k7 ?k8 ?k9 ?kB ?kD ?_ ?c2 ?c3 ?c4; (case kA => exact rfl); (case kF => exact rfl); (case kK => assumption); (case k1 => k_asm); (case k2 => k_asm); (case k3 => k_asm); (case k4 => k_asm); (case k5 => k_asm); (case k6 => k_is); (case k7 => k_is); (case k8 => k_room); (case k9 => exact BindsTo.of_eq rfl); (case kB => exact rfl); (case kD => decide +kernel); (case c2 => exact rfl); (case c3 => exact rfl); (case c4 => exact rfl); k_whole)
    intro g₁ L₁ h₁ tk₁ cells₁ FG₁ F₁ N₁ Y₁ B₁ X₁ T₁ l₁
    k_cells Y₁
    simp only [List.cons_append, List.nil_append] at N₁
    (try dsimp only)
    (try k_fold)
    have hf1 : 1 ≤ fs.length := by omega
    have hf2 : fs.length ≤ 4 := by omega
    have hf3 : gs.length = fs.length := by omega
    k_steps
    exact hret _ _ _ _ (by k_asm) (by allgen_close_more) ⟨_, _, _, _, _, _, _, _, _, _, _, rfl, rfl, by k_asm, by k_asm, by top_strB, by top_strB, by top_strB, by top_strB, by top_strB⟩
  case lx => intro hk; simpa only using hk (0 : Nat)
  case le => eq_refl
end
section
local macro_rules | `(tactic| k_enter) => `(tactic| ((with_reducible show codeAny _ _ (Code.call (Value.ref 189) ⟨[Value.ref _, Value.ref _], _⟩) _ _); k_dflt (refine' Ctr.use (mul_call ?c0 ?c1 ?c2 ?c3 ?c4 ?c5 ?c6 ?c7 ?c8 ?c9 ?c10) ?k1 ?k2 ?k3 ?k4 ?k5 ?kK ?kd ?ku ?_; (case k1 => k_asm); (case k2 => k_asm); (case k3 => k_asm); (case k4 => k_asm); (case k5 => k_asm); (case kK => first | exact rfl | assumption); (case c0 => exact ⟨_, _, _, _, _, _, by k_mem, by k_mem⟩); (case c1 => (refine' ⟨⟨_, _, ?pa, ?pb⟩, _, _, _, _, ?pc, ?pd⟩; (case pc => k_mem); (case pd => k_mem); (case pa => k_mem); (case pb => l_ints))); (case c2 => ktr_rel); (case c3 => ktr_rel); (case c4 => ktr_rel); (case c5 => ktr_rel); (case c6 => ktr_rel); (case c7 => (refine' ⟨⟨_, _, ?pa, ?pb⟩, _, _, _, _, ?pc, ?pd⟩; (case pc => k_mem); (case pd => k_mem); (case pa => k_mem); (case pb => l_ints))); (case c8 => ktr_rel); (case c9 => first | assumption | allgen_close2_more); (case c10 => first | assumption | allgen_close2_more); (case kd => k_room); (case ku => k_units); k_whole; intro v' h' tk' nw' F' N' cP'; obtain ⟨x', d', l', t1', t2', vs', e', hv', hn', hi', o1', o2', o3', n1', n2', n3'⟩ := cP'; subst hv'; subst hn'; (try dsimp only); kts_tail; (try k_sweep))))
local macro_rules | `(tactic| k_enter) => `(tactic| ((with_reducible show codeAny _ _ (Code.call (Value.ref 56) ⟨[Value.ref _, Value.int _ _], _⟩) _ _); k_dflt (refine' Ctr.use (ringI_call ?c0 ?c1 ?c2) ?k1 ?k2 ?k3 ?k4 ?k5 ?kK ?kd ?ku ?_; (case k1 => k_asm); (case k2 => k_asm); (case k3 => k_asm); (case k4 => k_asm); (case k5 => k_asm); (case kK => first | exact rfl | assumption); (case c0 => exact ⟨_, _, _, _, _, _, by k_mem, by k_mem⟩); (case c1 => ktr_rel); (case c2 => ktr_rel); (case kd => k_room); (case ku => k_units); k_whole; intro v' h' tk' nw' F' N' cP'; obtain ⟨x', d', l', t1', t2', vs', e', hv', hn', hi', o1', o2', o3', n1', n2', n3'⟩ := cP'; subst hv'; subst hn'; (try dsimp only); kts_tail; (try k_sweep))))
theorem pow_c0 {w : World} {N : Led} {x r l : Addr} {q n : Int} {ns : List Int} (hR : Ring w N r q n) (hP : Poly w N x r l ns) (hlen : (ns.length : Int) = n) (hn1 : 1 ≤ n) (hn : n ≤ 4) (hq : 2 ≤ q) (hq2 : q < 2 ^ 33) (hb : ∀ c ∈ ns, 0 ≤ c ∧ c < q) {t : Tok} :
   Ctr w 24 210 [.ref x, .int 0 t] N (PolyPost w N r ([1] ++ (rangeKs 0 (n - 1 - 0).toNat).map fun _ => (0 : Int))) := by
  refine' lite ?lw ?lx ?le
  case lw =>
    unfold Ctr
    k_fill
    intro p loose mean mg mb dp un gd cn cs a ccd cl outer A₀ base h₀ L m s R B F X N₀ T hk hdp hun hret
    obtain ⟨dr, k3, k4, tq, tn, e3, hr, hdr⟩ := hR
    obtain ⟨⟨vs, e1, hl, hI⟩, dx, k1, k2, e2, hx, hdx⟩ := hP
    k_dflt (refine' code_def ?k1 ?k2 ?k3 ?k4 ?k5 ?kA ?kF ?kK ?k6 ?k7 ?k8 ?k9 ?kB ?_ ?c2 ?c3 ?c4 ?c5; (case kA => exact rfl); (case kF => exact rfl); (case kK => assumption); (case k1 => k_asm); (case k2 => k_asm); (case k3 => k_asm); (case k4 => k_asm); (case k5 => k_asm); (case k6 => k_is); (case k7 => k_is); (case k8 => k_room); (case k9 => exact BindsTo.of_eq rfl); (case c5 => decide); (case kB => exact locs rfl); (case c2 => exact rfl); (case c3 => exact rfl); (case c4 => exact rfl); k_whole)
    intro g₁ L₁ h₁ FG₁ F₁ N₁ B₁ X₁ T₁
    (try dsimp only)
    (try k_fold)
    k_steps
    exact hret _ _ _ _ (by k_asm) (cb_drop (by k_asm) (List.forall_mem_cons.mpr ⟨.head _, List.forall_mem_cons.mpr ⟨.tail _ (.head _), List.forall_mem_cons.mpr ⟨.tail _ (.tail _ (.head _)), by intro p hp; k_mem⟩⟩⟩)) ⟨_, _, _, _, _, _, _, rfl, rfl, by k_asm, by top_strB, by top_strB, by top_strB, by k_ne, by k_ne, by k_ne⟩
  case lx => intro hk; simpa only using hk (0 : Nat)
  case le => eq_refl
theorem pow_c1 {w : World} {N : Led} {x r l : Addr} {q n : Int} {ns : List Int} (hR : Ring w N r q n) (hP : Poly w N x r l ns) (hlen : (ns.length : Int) = n) (hn1 : 1 ≤ n) (hn : n ≤ 4) (hq : 2 ≤ q) (hq2 : q < 2 ^ 33) (hb : ∀ c ∈ ns, 0 ≤ c ∧ c < q) {t : Tok} :
   Ctr w 24 210 [.ref x, .int 1 t] N (PolyPost w N r (schoolS q n ([1] ++ (rangeKs 0 (n - 1 - 0).toNat).map fun _ => (0 : Int)) ns)) := by
  refine' lite ?lw ?lx ?le
  case lw =>
    unfold Ctr
    k_fill
    intro p loose mean mg mb dp un gd cn cs a ccd cl outer A₀ base h₀ L m s R B F X N₀ T hk hdp hun hret
    obtain ⟨dr, k3, k4, tq, tn, e3, hr, hdr⟩ := hR
    obtain ⟨⟨vs, e1, hl, hI⟩, dx, k1, k2, e2, hx, hdx⟩ := hP
    k_dflt (refine' code_def ?k1 ?k2 ?k3 ?k4 ?k5 ?kA ?kF ?kK ?k6 ?k7 ?k8 ?k9 ?kB ?_ ?c2 ?c3 ?c4 ?c5; (case kA => exact rfl); (case kF => exact rfl); (case kK => assumption); (case k1 => k_asm); (case k2 => k_asm); (case k3 => k_asm); (case k4 => k_asm); (case k5 => k_asm); (case k6 => k_is); (case k7 => k_is); (case k8 => k_room); (case k9 => exact BindsTo.of_eq rfl); (case c5 => decide); (case kB => exact locs rfl); (case c2 => exact rfl); (case c3 => exact rfl); (case c4 => exact rfl); k_whole)
    intro g₁ L₁ h₁ FG₁ F₁ N₁ B₁ X₁ T₁
    (try dsimp only)
    (try k_fold)
    k_steps
    exact hret _ _ _ _ (by k_asm) (cb_drop (by k_asm) (List.forall_mem_cons.mpr ⟨.tail _ (.tail _ (.tail _ (.head _))), List.forall_mem_cons.mpr ⟨.tail _ (.tail _ (.tail _ (.tail _ (.head _)))), List.forall_mem_cons.mpr ⟨.tail _ (.tail _ (.tail _ (.tail _ (.tail _ (.head _))))), by intro p hp; k_mem⟩⟩⟩)) ⟨_, _, _, _, _, _, _, rfl, rfl, by k_asm, by top_strB, by top_strB, by top_strB, by k_ne, by k_ne, by k_ne⟩
  case lx => intro hk; simpa only using hk (0 : Nat)
  case le => eq_refl
theorem pow_c2 {w : World} {N : Led} {x r l : Addr} {q n : Int} {ns : List Int} (hR : Ring w N r q n) (hP : Poly w N x r l ns) (hlen : (ns.length : Int) = n) (hn1 : 1 ≤ n) (hn : n ≤ 4) (hq : 2 ≤ q) (hq2 : q < 2 ^ 33) (hb : ∀ c ∈ ns, 0 ≤ c ∧ c < q) {t : Tok} :
   Ctr w 24 210 [.ref x, .int 2 t] N (PolyPost w N r (schoolS q n ([1] ++ (rangeKs 0 (n - 1 - 0).toNat).map fun _ => (0 : Int)) (schoolS q n ns ns))) := by
  refine' lite ?lw ?lx ?le
  case lw =>
    unfold Ctr
    k_fill
    intro p loose mean mg mb dp un gd cn cs a ccd cl outer A₀ base h₀ L m s R B F X N₀ T hk hdp hun hret
    obtain ⟨dr, k3, k4, tq, tn, e3, hr, hdr⟩ := hR
    obtain ⟨⟨vs, e1, hl, hI⟩, dx, k1, k2, e2, hx, hdx⟩ := hP
    k_dflt (refine' code_def ?k1 ?k2 ?k3 ?k4 ?k5 ?kA ?kF ?kK ?k6 ?k7 ?k8 ?k9 ?kB ?_ ?c2 ?c3 ?c4 ?c5; (case kA => exact rfl); (case kF => exact rfl); (case kK => assumption); (case k1 => k_asm); (case k2 => k_asm); (case k3 => k_asm); (case k4 => k_asm); (case k5 => k_asm); (case k6 => k_is); (case k7 => k_is); (case k8 => k_room); (case k9 => exact BindsTo.of_eq rfl); (case c5 => decide); (case kB => exact locs rfl); (case c2 => exact rfl); (case c3 => exact rfl); (case c4 => exact rfl); k_whole)
    intro g₁ L₁ h₁ FG₁ F₁ N₁ B₁ X₁ T₁
    (try dsimp only)
    (try k_fold)
    k_steps
    exact hret _ _ _ _ (by k_asm) (cb_drop (by k_asm) (List.forall_mem_cons.mpr ⟨.tail _ (.tail _ (.tail _ (.head _))), List.forall_mem_cons.mpr ⟨.tail _ (.tail _ (.tail _ (.tail _ (.head _)))), List.forall_mem_cons.mpr ⟨.tail _ (.tail _ (.tail _ (.tail _ (.tail _ (.head _))))), by intro p hp; k_mem⟩⟩⟩)) ⟨_, _, _, _, _, _, _, rfl, rfl, by k_asm, by top_strB, by top_strB, by top_strB, by k_ne, by k_ne, by k_ne⟩
  case lx => intro hk; simpa only using hk (0 : Nat)
  case le => eq_refl
theorem pow_c3 {w : World} {N : Led} {x r l : Addr} {q n : Int} {ns : List Int} (hR : Ring w N r q n) (hP : Poly w N x r l ns) (hlen : (ns.length : Int) = n) (hn1 : 1 ≤ n) (hn : n ≤ 4) (hq : 2 ≤ q) (hq2 : q < 2 ^ 33) (hb : ∀ c ∈ ns, 0 ≤ c ∧ c < q) {t : Tok} :
   Ctr w 24 210 [.ref x, .int 3 t] N (PolyPost w N r (schoolS q n (schoolS q n ([1] ++ (rangeKs 0 (n - 1 - 0).toNat).map fun _ => (0 : Int)) ns) (schoolS q n ns ns))) := by
  refine' lite ?lw ?lx ?le
  case lw =>
    unfold Ctr
    k_fill
    intro p loose mean mg mb dp un gd cn cs a ccd cl outer A₀ base h₀ L m s R B F X N₀ T hk hdp hun hret
    obtain ⟨dr, k3, k4, tq, tn, e3, hr, hdr⟩ := hR
    obtain ⟨⟨vs, e1, hl, hI⟩, dx, k1, k2, e2, hx, hdx⟩ := hP
    k_dflt (refine' code_def ?k1 ?k2 ?k3 ?k4 ?k5 ?kA ?kF ?kK ?k6 ?k7 ?k8 ?k9 ?kB ?_ ?c2 ?c3 ?c4 ?c5; (case kA => exact rfl); (case kF => exact rfl); (case kK => assumption); (case k1 => k_asm); (case k2 => k_asm); (case k3 => k_asm); (case k4 => k_asm); (case k5 => k_asm); (case k6 => k_is); (case k7 => k_is); (case k8 => k_room); (case k9 => exact BindsTo.of_eq rfl); (case c5 => decide); (case kB => exact locs rfl); (case c2 => exact rfl); (case c3 => exact rfl); (case c4 => exact rfl); k_whole)
    intro g₁ L₁ h₁ FG₁ F₁ N₁ B₁ X₁ T₁
    (try dsimp only)
    (try k_fold)
    k_steps
    exact hret _ _ _ _ (by k_asm) (cb_drop (by k_asm) (List.forall_mem_cons.mpr ⟨.tail _ (.tail _ (.tail _ (.head _))), List.forall_mem_cons.mpr ⟨.tail _ (.tail _ (.tail _ (.tail _ (.head _)))), List.forall_mem_cons.mpr ⟨.tail _ (.tail _ (.tail _ (.tail _ (.tail _ (.head _))))), by intro p hp; k_mem⟩⟩⟩)) ⟨_, _, _, _, _, _, _, rfl, rfl, by k_asm, by top_strB, by top_strB, by top_strB, by k_ne, by k_ne, by k_ne⟩
  case lx => intro hk; simpa only using hk (0 : Nat)
  case le => eq_refl
theorem pow_c4 {w : World} {N : Led} {x r l : Addr} {q n : Int} {ns : List Int} (hR : Ring w N r q n) (hP : Poly w N x r l ns) (hlen : (ns.length : Int) = n) (hn1 : 1 ≤ n) (hn : n ≤ 4) (hq : 2 ≤ q) (hq2 : q < 2 ^ 33) (hb : ∀ c ∈ ns, 0 ≤ c ∧ c < q) {t : Tok} :
   Ctr w 24 210 [.ref x, .int 4 t] N (PolyPost w N r (schoolS q n ([1] ++ (rangeKs 0 (n - 1 - 0).toNat).map fun _ => (0 : Int)) (schoolS q n (schoolS q n ns ns) (schoolS q n ns ns)))) := by
  refine' lite ?lw ?lx ?le
  case lw =>
    unfold Ctr
    k_fill
    intro p loose mean mg mb dp un gd cn cs a ccd cl outer A₀ base h₀ L m s R B F X N₀ T hk hdp hun hret
    obtain ⟨dr, k3, k4, tq, tn, e3, hr, hdr⟩ := hR
    obtain ⟨⟨vs, e1, hl, hI⟩, dx, k1, k2, e2, hx, hdx⟩ := hP
    k_dflt (refine' code_def ?k1 ?k2 ?k3 ?k4 ?k5 ?kA ?kF ?kK ?k6 ?k7 ?k8 ?k9 ?kB ?_ ?c2 ?c3 ?c4 ?c5; (case kA => exact rfl); (case kF => exact rfl); (case kK => assumption); (case k1 => k_asm); (case k2 => k_asm); (case k3 => k_asm); (case k4 => k_asm); (case k5 => k_asm); (case k6 => k_is); (case k7 => k_is); (case k8 => k_room); (case k9 => exact BindsTo.of_eq rfl); (case c5 => decide); (case kB => exact locs rfl); (case c2 => exact rfl); (case c3 => exact rfl); (case c4 => exact rfl); k_whole)
    intro g₁ L₁ h₁ FG₁ F₁ N₁ B₁ X₁ T₁
    (try dsimp only)
    (try k_fold)
    k_steps
    exact hret _ _ _ _ (by k_asm) (cb_drop (by k_asm) (List.forall_mem_cons.mpr ⟨.tail _ (.tail _ (.tail _ (.head _))), List.forall_mem_cons.mpr ⟨.tail _ (.tail _ (.tail _ (.tail _ (.head _)))), List.forall_mem_cons.mpr ⟨.tail _ (.tail _ (.tail _ (.tail _ (.tail _ (.head _))))), by intro p hp; k_mem⟩⟩⟩)) ⟨_, _, _, _, _, _, _, rfl, rfl, by k_asm, by top_strB, by top_strB, by top_strB, by k_ne, by k_ne, by k_ne⟩
  case lx => intro hk; simpa only using hk (0 : Nat)
  case le => eq_refl
theorem pow_c5 {w : World} {N : Led} {x r l : Addr} {q n : Int} {ns : List Int} (hR : Ring w N r q n) (hP : Poly w N x r l ns) (hlen : (ns.length : Int) = n) (hn1 : 1 ≤ n) (hn : n ≤ 4) (hq : 2 ≤ q) (hq2 : q < 2 ^ 33) (hb : ∀ c ∈ ns, 0 ≤ c ∧ c < q) {t : Tok} :
   Ctr w 24 210 [.ref x, .int 5 t] N (PolyPost w N r (schoolS q n (schoolS q n ([1] ++ (rangeKs 0 (n - 1 - 0).toNat).map fun _ => (0 : Int)) ns) (schoolS q n (schoolS q n ns ns) (schoolS q n ns ns)))) := by
  refine' lite ?lw ?lx ?le
  case lw =>
    unfold Ctr
    k_fill
    intro p loose mean mg mb dp un gd cn cs a ccd cl outer A₀ base h₀ L m s R B F X N₀ T hk hdp hun hret
    obtain ⟨dr, k3, k4, tq, tn, e3, hr, hdr⟩ := hR
    obtain ⟨⟨vs, e1, hl, hI⟩, dx, k1, k2, e2, hx, hdx⟩ := hP
    k_dflt (refine' code_def ?k1 ?k2 ?k3 ?k4 ?k5 ?kA ?kF ?kK ?k6 ?k7 ?k8 ?k9 ?kB ?_ ?c2 ?c3 ?c4 ?c5; (case kA => exact rfl); (case kF => exact rfl); (case kK => assumption); (case k1 => k_asm); (case k2 => k_asm); (case k3 => k_asm); (case k4 => k_asm); (case k5 => k_asm); (case k6 => k_is); (case k7 => k_is); (case k8 => k_room); (case k9 => exact BindsTo.of_eq rfl); (case c5 => decide); (case kB => exact locs rfl); (case c2 => exact rfl); (case c3 => exact rfl); (case c4 => exact rfl); k_whole)
    intro g₁ L₁ h₁ FG₁ F₁ N₁ B₁ X₁ T₁
    (try dsimp only)
    (try k_fold)
    k_steps
    exact hret _ _ _ _ (by k_asm) (cb_drop (by k_asm) (List.forall_mem_cons.mpr ⟨.tail _ (.tail _ (.tail _ (.head _))), List.forall_mem_cons.mpr ⟨.tail _ (.tail _ (.tail _ (.tail _ (.head _)))), List.forall_mem_cons.mpr ⟨.tail _ (.tail _ (.tail _ (.tail _ (.tail _ (.head _))))), by intro p hp; k_mem⟩⟩⟩)) ⟨_, _, _, _, _, _, _, rfl, rfl, by k_asm, by top_strB, by top_strB, by top_strB, by k_ne, by k_ne, by k_ne⟩
  case lx => intro hk; simpa only using hk (0 : Nat)
  case le => eq_refl
theorem pow_call {w : World} {N : Led} {x r l : Addr} {q n : Int} {ns : List Int} (hR : Ring w N r q n) (hP : Poly w N x r l ns) (hlen : (ns.length : Int) = n) (hn1 : 1 ≤ n) (hn : n ≤ 4) (hq : 2 ≤ q) (hq2 : q < 2 ^ 33) (hb : ∀ c ∈ ns, 0 ≤ c ∧ c < q) {v : Int} {t : Tok} (hv : 0 ≤ v ∧ v ≤ 5) :
   Ctr w 24 210 [.ref x, .int v t] N (PolyPost w N r (powS q n ns v)) := by
  refine' lite ?lw ?lx ?le
  case lw =>
    have h0 := pow_c0 (w := w) (t := t) hR hP hlen hn1 hn hq hq2 hb
    have h1 := pow_c1 (w := w) (t := t) hR hP hlen hn1 hn hq hq2 hb
    have h2 := pow_c2 (w := w) (t := t) hR hP hlen hn1 hn hq hq2 hb
    have h3 := pow_c3 (w := w) (t := t) hR hP hlen hn1 hn hq hq2 hb
    have h4 := pow_c4 (w := w) (t := t) hR hP hlen hn1 hn hq hq2 hb
    have h5 := pow_c5 (w := w) (t := t) hR hP hlen hn1 hn hq hq2 hb
    obtain rfl | rfl | rfl | rfl | rfl | rfl : v = 0 ∨ v = 1 ∨ v = 2 ∨ v = 3 ∨ v = 4 ∨ v = 5 := by omega
    · have e : powS q n ns 0 = ([1] ++ (rangeKs 0 (n - 1 - 0).toNat).map fun _ => (0 : Int)) := by simp [powS, powG, oneS]
      rw [e]; exact h0
    · have e : powS q n ns 1 = (schoolS q n ([1] ++ (rangeKs 0 (n - 1 - 0).toNat).map fun _ => (0 : Int)) ns) := by simp [powS, powG, oneS]
      rw [e]; exact h1
    · have e : powS q n ns 2 = (schoolS q n ([1] ++ (rangeKs 0 (n - 1 - 0).toNat).map fun _ => (0 : Int)) (schoolS q n ns ns)) := by simp [powS, powG, oneS]
      rw [e]; exact h2
    · have e : powS q n ns 3 = (schoolS q n (schoolS q n ([1] ++ (rangeKs 0 (n - 1 - 0).toNat).map fun _ => (0 : Int)) ns) (schoolS q n ns ns)) := by simp [powS, powG, oneS]
      rw [e]; exact h3
    · have e : powS q n ns 4 = (schoolS q n ([1] ++ (rangeKs 0 (n - 1 - 0).toNat).map fun _ => (0 : Int)) (schoolS q n (schoolS q n ns ns) (schoolS q n ns ns))) := by simp [powS, powG, oneS]
      rw [e]; exact h4
    · have e : powS q n ns 5 = (schoolS q n (schoolS q n ([1] ++ (rangeKs 0 (n - 1 - 0).toNat).map fun _ => (0 : Int)) ns) (schoolS q n (schoolS q n ns ns) (schoolS q n ns ns))) := by simp [powS, powG, oneS]
      rw [e]; exact h5
  case lx => intro hk; simpa only using hk (0 : Nat)
  case le => eq_refl
end
end
section
local macro_rules | `(tactic| k_mem) => `(tactic| ((fail_if_success (with_reducible refine' List.Mem.tail _ ?_)); first | with_reducible assumption | assumption | (refine sub_mem (by assumption) ?_; k_mem)))
local macro_rules | `(tactic| news_mem) => `(tactic| k_mem)
local macro_rules | `(tactic| k_room) => `(tactic| ((simp only [depth_under_make, depth_under_kw, depth_in1, depth_deeper, depth_caller, recursionLimit] at *); omega))
local macro_rules | `(tactic| k_units) => `(tactic| ((have hcL9 := cLine_is); (simp only [units_in1, units_deeper, Around.mark_units, units_caller, cLine] at *); omega))
local macro_rules | `(tactic| allgen_close2_more) => `(tactic| assumption)
local macro_rules | `(tactic| ktr_rel) => `(tactic| ((try simp only [List.length_append, List.length_cons, List.length_nil, List.length_map, List.length_set, List.length_zipWith, rangeKs_length]); first | assumption | omega))
local macro_rules | `(tactic| top_reprB) => `(tactic| first | exact List.forall_mem_nil _ | (refine List.forall_mem_cons.mpr ⟨by k_mem, ?_⟩; top_reprB) | (intro p hp; k_mem))
local macro_rules | `(tactic| k_ne) => `(tactic| (refine neN ?_; (try dsimp only); first | (with_reducible assumption) | exact Ne.symm (by with_reducible assumption) | exact off_ne (by with_reducible assumption) (by k_mem) | exact Ne.symm (off_ne (by with_reducible assumption) (by k_mem)) | omega))
local macro_rules | `(tactic| top_strB) => `(tactic| first | (first | assumption | exact allLt_of (by assumption) | exact And.right (by assumption) | exact And.right (And.right (by assumption)) | exact And.right (And.right (And.right (by assumption))) | exact And.right (And.right (And.right (And.right (by assumption)))) | exact And.right (And.right (And.right (And.right (And.right (by assumption))))) | exact And.right (And.right (And.right (And.right (And.right (And.right (by assumption)))))) | exact And.right (And.right (And.right (And.right (And.right (And.right (And.right (by assumption))))))) | exact And.right (And.right (And.right (And.right (And.right (And.right (And.right (And.right (by assumption)))))))) | exact And.right (And.right (And.right (And.right (And.right (And.right (And.right (And.right (And.right (by assumption))))))))) | exact And.right (And.right (And.right (And.right (And.right (And.right (And.right (And.right (And.right (And.right (by assumption)))))))))) | exact And.right (And.right (And.right (And.right (And.right (And.right (And.right (And.right (And.right (And.right (And.right (by assumption))))))))))) | exact And.right (And.right (And.right (And.right (And.right (And.right (And.right (And.right (And.right (And.right (And.right (And.right (by assumption)))))))))))) | exact And.right (And.right (And.right (And.right (And.right (And.right (And.right (And.right (And.right (And.right (And.right (And.right (And.right (by assumption))))))))))))) | exact And.right (And.right (And.right (And.right (And.right (And.right (And.right (And.right (And.right (And.right (And.right (And.right (And.right (And.right (by assumption)))))))))))))) | exact And.right (And.right (And.right (And.right (And.right (And.right (And.right (And.right (And.right (And.right (And.right (And.right (And.right (And.right (And.right (by assumption))))))))))))))) | exact And.right (And.right (And.right (And.right (And.right (And.right (And.right (And.right (And.right (And.right (And.right (And.right (And.right (And.right (And.right (And.right (by assumption)))))))))))))))) | exact And.right (And.right (And.right (And.right (And.right (And.right (And.right (And.right (And.right (And.right (And.right (And.right (And.right (And.right (And.right (And.right (And.right (by assumption))))))))))))))))) | exact And.right (And.right (And.right (And.right (And.right (And.right (And.right (And.right (And.right (And.right (And.right (And.right (And.right (And.right (And.right (And.right (And.right (And.right (by assumption)))))))))))))))))) | exact And.right (And.right (And.right (And.right (And.right (And.right (And.right (And.right (And.right (And.right (And.right (And.right (And.right (And.right (And.right (And.right (And.right (And.right (And.right (by assumption)))))))))))))))))))) | exact off_sub (by with_reducible assumption) (by top_reprB) | exact off_of_lt (by (first | assumption | exact allLt_of (by assumption) | exact And.right (by assumption) | exact And.right (And.right (by assumption)) | exact And.right (And.right (And.right (by assumption))) | exact And.right (And.right (And.right (And.right (by assumption)))) | exact And.right (And.right (And.right (And.right (And.right (by assumption))))) | exact And.right (And.right (And.right (And.right (And.right (And.right (by assumption)))))) | exact And.right (And.right (And.right (And.right (And.right (And.right (And.right (by assumption))))))) | exact And.right (And.right (And.right (And.right (And.right (And.right (And.right (And.right (by assumption)))))))) | exact And.right (And.right (And.right (And.right (And.right (And.right (And.right (And.right (And.right (by assumption))))))))) | exact And.right (And.right (And.right (And.right (And.right (And.right (And.right (And.right (And.right (And.right (by assumption)))))))))) | exact And.right (And.right (And.right (And.right (And.right (And.right (And.right (And.right (And.right (And.right (And.right (by assumption))))))))))) | exact And.right (And.right (And.right (And.right (And.right (And.right (And.right (And.right (And.right (And.right (And.right (And.right (by assumption)))))))))))) | exact And.right (And.right (And.right (And.right (And.right (And.right (And.right (And.right (And.right (And.right (And.right (And.right (And.right (by assumption))))))))))))) | exact And.right (And.right (And.right (And.right (And.right (And.right (And.right (And.right (And.right (And.right (And.right (And.right (And.right (And.right (by assumption)))))))))))))) | exact And.right (And.right (And.right (And.right (And.right (And.right (And.right (And.right (And.right (And.right (And.right (And.right (And.right (And.right (And.right (by assumption))))))))))))))) | exact And.right (And.right (And.right (And.right (And.right (And.right (And.right (And.right (And.right (And.right (And.right (And.right (And.right (And.right (And.right (And.right (by assumption)))))))))))))))) | exact And.right (And.right (And.right (And.right (And.right (And.right (And.right (And.right (And.right (And.right (And.right (And.right (And.right (And.right (And.right (And.right (And.right (by assumption))))))))))))))))) | exact And.right (And.right (And.right (And.right (And.right (And.right (And.right (And.right (And.right (And.right (And.right (And.right (And.right (And.right (And.right (And.right (And.right (And.right (by assumption)))))))))))))))))) | exact And.right (And.right (And.right (And.right (And.right (And.right (And.right (And.right (And.right (And.right (And.right (And.right (And.right (And.right (And.right (And.right (And.right (And.right (And.right (by assumption))))))))))))))))))))) | exact off_of_lt2 (by (first | assumption | exact allLt_of (by assumption) | exact And.right (by assumption) | exact And.right (And.right (by assumption)) | exact And.right (And.right (And.right (by assumption))) | exact And.right (And.right (And.right (And.right (by assumption)))) | exact And.right (And.right (And.right (And.right (And.right (by assumption))))) | exact And.right (And.right (And.right (And.right (And.right (And.right (by assumption)))))) | exact And.right (And.right (And.right (And.right (And.right (And.right (And.right (by assumption))))))) | exact And.right (And.right (And.right (And.right (And.right (And.right (And.right (And.right (by assumption)))))))) | exact And.right (And.right (And.right (And.right (And.right (And.right (And.right (And.right (And.right (by assumption))))))))) | exact And.right (And.right (And.right (And.right (And.right (And.right (And.right (And.right (And.right (And.right (by assumption)))))))))) | exact And.right (And.right (And.right (And.right (And.right (And.right (And.right (And.right (And.right (And.right (And.right (by assumption))))))))))) | exact And.right (And.right (And.right (And.right (And.right (And.right (And.right (And.right (And.right (And.right (And.right (And.right (by assumption)))))))))))) | exact And.right (And.right (And.right (And.right (And.right (And.right (And.right (And.right (And.right (And.right (And.right (And.right (And.right (by assumption))))))))))))) | exact And.right (And.right (And.right (And.right (And.right (And.right (And.right (And.right (And.right (And.right (And.right (And.right (And.right (And.right (by assumption)))))))))))))) | exact And.right (And.right (And.right (And.right (And.right (And.right (And.right (And.right (And.right (And.right (And.right (And.right (And.right (And.right (And.right (by assumption))))))))))))))) | exact And.right (And.right (And.right (And.right (And.right (And.right (And.right (And.right (And.right (And.right (And.right (And.right (And.right (And.right (And.right (And.right (by assumption)))))))))))))))) | exact And.right (And.right (And.right (And.right (And.right (And.right (And.right (And.right (And.right (And.right (And.right (And.right (And.right (And.right (And.right (And.right (And.right (by assumption))))))))))))))))) | exact And.right (And.right (And.right (And.right (And.right (And.right (And.right (And.right (And.right (And.right (And.right (And.right (And.right (And.right (And.right (And.right (And.right (And.right (by assumption)))))))))))))))))) | exact And.right (And.right (And.right (And.right (And.right (And.right (And.right (And.right (And.right (And.right (And.right (And.right (And.right (And.right (And.right (And.right (And.right (And.right (And.right (by assumption))))))))))))))))))))) (by omega) | exact off_of_base (by assumption) (by omega))
local macro_rules | `(tactic| k_all) => `(tactic| (refine off_all ?_; top_strB))
local macro_rules | `(tactic| walk_at "getMethod ref") => `(tactic| (k_here; k_dflt (refine' kmu_own ?k1 ?k2 ?k3 ?k4 ?k5 ?_; (case k1 => k_asm); (case k2 => k_asm); (case k3 => k_inst); (case k4 => k_is); (case k5 => k_is); k_whole)))
local macro_rules | `(tactic| walk_at "binaryOp Mult int int") => `(tactic| (k_here; with_reducible first | refine PyProof.Rows.mul_int ?_ (mulok_getD (by assumption) (by assumption) (by assumption)) | refine PyProof.Rows.mul_int ?_ (mulok_mem (by assumption) (by assumption) (by assumption))))
local macro_rules | `(tactic| top_name) => `(tactic| (law_purse 40000 => (law_clear; (repeat (with_reducible rename (@Ne Nat _ _) ∧ _ => hne9; clear hne9)); (repeat (with_reducible rename (@LT.lt Nat _ _ _) ∧ _ => hne9; clear hne9)); (repeat (with_reducible rename (@Ne Nat _ _) => hne9; clear hne9)); (try simp only [List.length_append, List.length_cons, List.length_nil, List.length_map, List.length_take, List.length_set, List.length_zipWith, rangeKs_length]); omega)))
local macro_rules | `(tactic| walk_at "subscriptTail Name Name ref int") => `(tactic| ((k_here; (with_reducible show wpAny _ _ (subscriptTail _ _ (Value.ref _) (Value.int _ _)) _ _ _); (with_unfolding_all refine' item_list_ints ?k1 ?k2 ?k3 ?k4 ?k5 ?_; (case k1 => exact News.isList (by k_asm) (by k_mem)); (case k2 => l_ints); (case k3 => first | assumption | top_name); (case k4 => first | assumption | exact idx_hi (by assumption) (by first | assumption | exact Nat.le_refl _) | top_name); (case k5 => first | assumption | exact idx_fit (by assumption) (by assumption) | top_name); k_whole); intro _)))
local macro_rules | `(tactic| walk_at "subscriptTail Name BinOp ref int") => `(tactic| ((k_here; (with_reducible show wpAny _ _ (subscriptTail _ _ (Value.ref _) (Value.int _ _)) _ _ _); (with_unfolding_all refine' item_list_ints ?k1 ?k2 ?k3 ?k4 ?k5 ?_; (case k1 => exact News.isList (by k_asm) (by k_mem)); (case k2 => l_ints); (case k3 => first | assumption | top_name); (case k4 => first | assumption | exact idx_hi (by assumption) (by first | assumption | exact Nat.le_refl _) | top_name); (case k5 => first | assumption | exact idx_fit (by assumption) (by assumption) | top_name); k_whole); intro _)))
local macro_rules | `(tactic| walk_at "call builtin:list.copy") => `(tactic| (k_here; (with_reducible show wpAny _ _ (call (Value.builtin _) [Value.ref _]) _ _ _); k_dflt (refine' copyK ?k1 ?k2 ?k3 ?k4 ?_; (case k1 => k_asm); (case k2 => k_asm); (case k3 => exact News.isList (by k_asm) (by k_mem)); (case k4 => exact ints_size (by l_ints) (by top_name)); k_whole); intro D' h' F' N' l1; (try k_lt l1); (try k_sweep)))
local macro_rules | `(tactic| walk_at "setItem ref int") => `(tactic| (k_here; (with_reducible show wpAny _ _ (setItem (Value.ref _) (Value.int _ _) (Value.int _ _)) _ _ _); k_dflt (refine' ksa_set ?k1 ?k2 ?k3 ?k4 ?k5 ?k6 ?k7 ?_; (case k1 => k_asm); (case k2 => k_asm); (case k3 => k_upd); (case k4 => l_ints); (case k5 => first | assumption | top_name); (case k6 => first | assumption | top_name); (case k7 => first | assumption | top_name); k_whole); intro h' F' N' hi' hl' hs'; clear hs'; (try k_sweep)))
local macro_rules | `(tactic| walk_at "callWith ref") => `(tactic| (k_here; kco_here; k_dflt (refine' kco_callWith ?k1 ?k2 ?k3 ?k4 ?_; (case k1 => k_in); (case k2 => k_inst); (case k3 => rfl); (case k4 => k_is); k_whole)))
local macro_rules | `(tactic| allgen_close_more) => `(tactic| first | k_asm | (refine' cb_drop ?cbN ?cbS; (case cbN => assumption); (case cbS => top_reprB)))
local macro_rules | `(tactic| walk_at "exec For Name Call cons nil") => `(tactic| (k_here; k_dflt (refine For_turns (by k_asm) ?_ (by intro _; with_unfolding_all rfl) (by passes_own)); (try k_fold)))
local macro_rules | `(tactic| walk_at "getItem ref int") => `(tactic| (k_here; (with_reducible show wpAny _ _ (getItem (Value.ref _) (Value.int _ _)) _ _ _); k_dflt (refine' ksa_get ?k1 ?k2 ?k3 ?k4 ?k5 ?k6 ?_; (case k1 => k_asm); (case k2 => k_mem); (case k3 => l_ints); (case k4 => first | assumption | top_name); (case k5 => first | assumption | top_name); (case k6 => first | assumption | top_name); k_whole); intro _))
local macro_rules | `(tactic| walk_at "CompSrc") => `(tactic| (k_here; k_dflt (refine' LCg.CompSrc.ledger ?s1 ?s2 ?s3 ?s4 ?s5 ?_; (case s1 => rfl); (case s2 => k_asm); (case s3 => k_asm); (case s4 => k_mem); (case s5 => exact ints_sizeA (by l_ints) (by first | assumption | top_name)); intro g'; (refine' kcf_list _ (by l_ints) (fun k' t' I' oI' C' oC' D' m' ys' h' tk' E' hk' hC' hx' F' N' off' ne' hMark' => ?_) ?_); (all_goals (try (simp only [LCg.Off3, and_true] at off'))); kcf_last)))
local macro_rules | `(tactic| allgen_close2_more) => `(tactic| first | assumption | exact school_bnd (by assumption) _ _ | exact one_bnd (by assumption) | exact times_bnd (by assumption) _ _ | exact map_bnd (by assumption) _ _ | exact zip_bnd (by assumption) _ _ _ | exact set_bnd (by assumption) (by allgen_close2_more))
local macro_rules | `(tactic| ktr_rel) => `(tactic| ((simp only [List.length_append, List.length_cons, List.length_nil, List.length_map, List.length_set, List.length_zipWith, rangeKs_length, schoolS_length, timesS_length]); omega))
local macro_rules | `(tactic| walk_at "binaryOp Add int ref") => `(tactic| (k_here; (with_reducible show wpAny _ _ (binaryOp Operator.Add (Value.int _ _) (Value.ref _)) _ _ _); k_dflt (refine' rbin_add ?F ?X ?I ?hC ?hS ?hR ?hF ?h1 ?h2 ?hU ?_; (case F => k_asm); (case X => k_asm); (case I => k_inst); (case hC => k_is); (case hS => k_is); (case hR => k_is); (case hF => k_is); (case h1 => k_is); (case h2 => k_is); (case hU => k_is); k_whole)))
local macro_rules | `(tactic| walk_at "binaryOp Sub int ref") => `(tactic| (k_here; (with_reducible show wpAny _ _ (binaryOp Operator.Sub (Value.int _ _) (Value.ref _)) _ _ _); k_dflt (refine' rbin_sub ?F ?X ?I ?hC ?hS ?hR ?hF ?h1 ?h2 ?hU ?_; (case F => k_asm); (case X => k_asm); (case I => k_inst); (case hC => k_is); (case hS => k_is); (case hR => k_is); (case hF => k_is); (case h1 => k_is); (case h2 => k_is); (case hU => k_is); k_whole)))
local macro_rules | `(tactic| walk_at "binaryOp Mult int ref") => `(tactic| (k_here; (with_reducible show wpAny _ _ (binaryOp Operator.Mult (Value.int _ _) (Value.ref _)) _ _ _); k_dflt (refine' rbin_mul ?F ?X ?I ?hC ?hS ?hR ?hF ?h1 ?h2 ?hU ?_; (case F => k_asm); (case X => k_asm); (case I => k_inst); (case hC => k_is); (case hS => k_is); (case hR => k_is); (case hF => k_is); (case h1 => k_is); (case h2 => k_is); (case hU => k_is); k_whole)))
local macro_rules | `(tactic| walk_at "binaryOp Mult int int") => `(tactic| (k_here; with_reducible refine PyProof.Rows.mul_int ?_ (mulok_mem_r (by assumption) (by assumption) (by assumption))))
local macro_rules | `(tactic| k_enter) => `(tactic| ((with_reducible show codeAny _ _ (Code.call (Value.ref 56) ⟨[Value.ref _, Value.ref _], _⟩) _ _); k_dflt (refine' Ctr.use (ring_call ?c0 ?c1 ?c2 ?c3) ?k1 ?k2 ?k3 ?k4 ?k5 ?kK ?kd ?ku ?_; (case k1 => k_asm); (case k2 => k_asm); (case k3 => k_asm); (case k4 => k_asm); (case k5 => k_asm); (case kK => first | exact rfl | assumption); (case c0 => exact ⟨_, _, _, _, _, _, by k_mem, by k_mem⟩); (case c1 => exact ⟨_, _, by k_mem, by l_ints⟩); (case c2 => ktr_rel); (case c3 => ktr_rel); (case kd => k_room); (case ku => k_units); k_whole; intro v' h' tk' nw' F' N' cP'; obtain ⟨x', d', t1', t2', hv', hn', o1', o2', n1'⟩ := cP'; subst hv'; subst hn'; (try dsimp only); kts_tail; (try k_sweep))))
local macro_rules | `(tactic| walk_at "exec Assign cons ListComp") => `(tactic| (k_here; (with_reducible show wpAny _ _ (exec (Stmt.Assign [Expr.Name _ _] (Expr.ListComp _ [⟨Expr.Tuple _ _ _, _, _, _⟩] _ _) _) _) _ _ _); k_dflt (refine' zip_assign ?z1 ?z2 ?z3 ?z4 ?z5 ?_; (case z1 => with_unfolding_all rfl); (case z2 => with_unfolding_all rfl); (case z3 => rfl); (case z4 => decide); (case z5 => intro _; with_unfolding_all rfl))))
local macro_rules | `(tactic| walk_at "eval ListComp") => `(tactic| (k_here; (with_reducible show wpAny _ _ (eval (Expr.ListComp _ [⟨Expr.Tuple _ _ _, _, _, _⟩] _ _) _) _ _ _); k_dflt (refine' zip_eval ?z2 ?z3 ?z4 ?z5 ?_; (case z2 => with_unfolding_all rfl); (case z3 => rfl); (case z4 => decide); (case z5 => intro _; with_unfolding_all rfl))))
section
local macro_rules | `(tactic| k_enter) => `(tactic| ((with_reducible show codeAny _ _ (Code.call (Value.ref 151) ⟨[Value.ref _, Value.int _ _], _⟩) _ _); k_dflt (refine' Ctr.use (radd_call ?c0 ?c1 ?c2 ?c3 ?c4 ?c5 ?c6) ?k1 ?k2 ?k3 ?k4 ?k5 ?kK ?kd ?ku ?_; (case k1 => k_asm); (case k2 => k_asm); (case k3 => k_asm); (case k4 => k_asm); (case k5 => k_asm); (case kK => first | exact rfl | assumption); (case c0 => exact ⟨_, _, _, _, _, _, by k_mem, by k_mem⟩); (case c1 => (refine' ⟨⟨_, _, ?pa, ?pb⟩, _, _, _, _, ?pc, ?pd⟩; (case pc => k_mem); (case pd => k_mem); (case pa => k_mem); (case pb => l_ints))); (case c2 => ktr_rel); (case c3 => ktr_rel); (case c4 => ktr_rel); (case c5 => ktr_rel); (case c6 => ktr_rel); (case kd => k_room); (case ku => k_units); k_whole; intro v' h' tk' nw' F' N' cP'; obtain ⟨x', d', l', t1', t2', vs', e', hv', hn', hi', o1', o2', o3', n1', n2', n3'⟩ := cP'; subst hv'; subst hn'; (try dsimp only); kts_tail; (try k_sweep))))
local macro_rules | `(tactic| walk_at "eval ListComp") => `(tactic| (k_here; (with_reducible show wpAny _ _ (eval (Expr.ListComp _ [⟨Expr.Name _ _, Expr.Subscript _ _ _, _, _⟩] _ _) _) _ _ _); k_dflt (refine LCg.ListComp_U (F₀ := by k_asm) (by with_unfolding_all rfl) (by decide) (by rfl) (by decide) (by rfl) ?_)))
theorem mx6l_call {w : World} {N : Led} {x r l : Addr} {q n : Int} {ns : List Int} (hR : Ring w N r q n) (hP : Poly w N x r l ns) (hlen : (ns.length : Int) = n) (hn1 : 1 ≤ n) (hn : n ≤ 4) (hq : 2 ≤ q) (hq2 : q < 2 ^ 33) {f : Addr} {fs : List Int} (hf : Ints N f fs) (hlf : (fs.length : Int) = n) (hb : ∀ c ∈ ns, 0 ≤ c ∧ c < q) (hbf : ∀ c ∈ fs, 0 ≤ c ∧ c < q) {v : Int} {tk tv tq' : Tok} :
   Ctr w 28 265 [.int 6 tk, .bool true, .ref x, .ref f, .int v tv, .int q tq'] N (PairPost w N r (ns.set (0 : Int).toNat (Int.fmod (ns.getD (0 : Int).toNat 0 + v) q)) ([Int.fmod (fs.getD (0 : Int).toNat 0 + v) q] ++ fs.drop 1)) := by
  refine' lite ?lw ?lx ?le
  case lw =>
    unfold Ctr
    k_fill
    intro p loose mean mg mb dp un gd cn cs a ccd cl outer A₀ base h₀ L m s R B F X N₀ T hk hdp hun hret
    obtain ⟨dr, k3, k4, tq, tn, e3, hr, hdr⟩ := hR
    obtain ⟨⟨vs, e1, hl, hI⟩, dx, k1, k2, e2, hx, hdx⟩ := hP
    obtain ⟨ws, w1, hfm, hfI⟩ := hf
    k_dflt (refine' code_defC ?k1 ?k2 ?k3 ?k4 ?k5 ?kA ?kF ?kK ?k6 ?k7 ?k8 ?k9 ?kB ?kD ?_ ?c2 ?c3 ?c4; (case kA => exact rfl); (case kF => exact rfl); (case kK => assumption); (case k1 => k_asm); (case k2 => k_asm); (case k3 => k_asm); (case k4 => k_asm); (case k5 => k_asm); (case k6 => k_is); (case k7 => k_is); (case k8 => k_room); (case k9 => exact BindsTo.of_eq rfl); (case kB => exact rfl); (case kD => decide +kernel); (case c2 => exact rfl); (case c3 => exact rfl); (case c4 => exact rfl); k_whole)
    intro g₁ L₁ h₁ tk₁ cells₁ FG₁ F₁ N₁ Y₁ B₁ X₁ T₁ l₁
    k_cells Y₁
    simp only [List.cons_append, List.nil_append] at N₁
    (try dsimp only)
    (try k_fold)
    k_steps
    exact hret _ _ _ _ (by k_asm) (by allgen_close_more) ⟨_, _, _, _, _, _, _, _, _, _, _, rfl, rfl, by k_asm, by k_asm, by top_strB, by top_strB, by top_strB, by top_strB, by top_strB⟩
  case lx => intro hk; simpa only using hk (0 : Nat)
  case le => eq_refl
end
section
local macro_rules | `(tactic| k_enter) => `(tactic| ((with_reducible show codeAny _ _ (Code.call (Value.ref 144) ⟨[Value.ref _, Value.int _ _], _⟩) _ _); k_dflt (refine' Ctr.use (addN_call ?c0 ?c1 ?c2 ?c3 ?c4 ?c5 ?c6) ?k1 ?k2 ?k3 ?k4 ?k5 ?kK ?kd ?ku ?_; (case k1 => k_asm); (case k2 => k_asm); (case k3 => k_asm); (case k4 => k_asm); (case k5 => k_asm); (case kK => first | exact rfl | assumption); (case c0 => exact ⟨_, _, _, _, _, _, by k_mem, by k_mem⟩); (case c1 => (refine' ⟨⟨_, _, ?pa, ?pb⟩, _, _, _, _, ?pc, ?pd⟩; (case pc => k_mem); (case pd => k_mem); (case pa => k_mem); (case pb => l_ints))); (case c2 => ktr_rel); (case c3 => ktr_rel); (case c4 => ktr_rel); (case c5 => ktr_rel); (case c6 => ktr_rel); (case kd => k_room); (case ku => k_units); k_whole; intro v' h' tk' nw' F' N' cP'; obtain ⟨x', d', l', t1', t2', vs', e', hv', hn', hi', o1', o2', o3', n1', n2', n3'⟩ := cP'; subst hv'; subst hn'; (try dsimp only); kts_tail; (try k_sweep))))
local macro_rules | `(tactic| walk_at "eval ListComp") => `(tactic| (k_here; (with_reducible show wpAny _ _ (eval (Expr.ListComp _ [⟨Expr.Name _ _, Expr.Subscript _ _ _, _, _⟩] _ _) _) _ _ _); k_dflt (refine LCg.ListComp_U (F₀ := by k_asm) (by with_unfolding_all rfl) (by decide) (by rfl) (by decide) (by rfl) ?_)))
theorem mx6r_call {w : World} {N : Led} {x r l : Addr} {q n : Int} {ns : List Int} (hR : Ring w N r q n) (hP : Poly w N x r l ns) (hlen : (ns.length : Int) = n) (hn1 : 1 ≤ n) (hn : n ≤ 4) (hq : 2 ≤ q) (hq2 : q < 2 ^ 33) {f : Addr} {fs : List Int} (hf : Ints N f fs) (hlf : (fs.length : Int) = n) (hb : ∀ c ∈ ns, 0 ≤ c ∧ c < q) (hbf : ∀ c ∈ fs, 0 ≤ c ∧ c < q) {v : Int} {tk tv tq' : Tok} :
   Ctr w 28 265 [.int 6 tk, .bool false, .ref x, .ref f, .int v tv, .int q tq'] N (PairPost w N r (ns.set (0 : Int).toNat (Int.fmod (ns.getD (0 : Int).toNat 0 + v) q)) ([Int.fmod (fs.getD (0 : Int).toNat 0 + v) q] ++ fs.drop 1)) := by
  refine' lite ?lw ?lx ?le
  case lw =>
    unfold Ctr
    k_fill
    intro p loose mean mg mb dp un gd cn cs a ccd cl outer A₀ base h₀ L m s R B F X N₀ T hk hdp hun hret
    obtain ⟨dr, k3, k4, tq, tn, e3, hr, hdr⟩ := hR
    obtain ⟨⟨vs, e1, hl, hI⟩, dx, k1, k2, e2, hx, hdx⟩ := hP
    obtain ⟨ws, w1, hfm, hfI⟩ := hf
    k_dflt (refine' code_defC ?k1 ?k2 ?k3 ?k4 ?k5 ?kA ?kF ?kK ?k6 ?k7 ?k8 ?k9 ?kB ?kD ?_ ?c2 ?c3 ?c4; (case kA => exact rfl); (case kF => exact rfl); (case kK => assumption); (case k1 => k_asm); (case k2 => k_asm); (case k3 => k_asm); (case k4 => k_asm); (case k5 => k_asm); (case k6 => k_is); (case k7 => k_is); (case k8 => k_room); (case k9 => exact BindsTo.of_eq rfl); (case kB => exact rfl); (case kD => decide +kernel); (case c2 => exact rfl); (case c3 => exact rfl); (case c4 => exact rfl); k_whole)
    intro g₁ L₁ h₁ tk₁ cells₁ FG₁ F₁ N₁ Y₁ B₁ X₁ T₁ l₁
    k_cells Y₁
    simp only [List.cons_append, List.nil_append] at N₁
    (try dsimp only)
    (try k_fold)
    k_steps
    exact hret _ _ _ _ (by k_asm) (by allgen_close_more) ⟨_, _, _, _, _, _, _, _, _, _, _, rfl, rfl, by k_asm, by k_asm, by top_strB, by top_strB, by top_strB, by top_strB, by top_strB⟩
  case lx => intro hk; simpa only using hk (0 : Nat)
  case le => eq_refl
end
section
local macro_rules | `(tactic| k_enter) => `(tactic| ((with_reducible show codeAny _ _ (Code.call (Value.ref 177) ⟨[Value.ref _, Value.int _ _], _⟩) _ _); k_dflt (refine' Ctr.use (rsub_call ?c0 ?c1 ?c2 ?c3 ?c4 ?c5 ?c6) ?k1 ?k2 ?k3 ?k4 ?k5 ?kK ?kd ?ku ?_; (case k1 => k_asm); (case k2 => k_asm); (case k3 => k_asm); (case k4 => k_asm); (case k5 => k_asm); (case kK => first | exact rfl | assumption); (case c0 => exact ⟨_, _, _, _, _, _, by k_mem, by k_mem⟩); (case c1 => (refine' ⟨⟨_, _, ?pa, ?pb⟩, _, _, _, _, ?pc, ?pd⟩; (case pc => k_mem); (case pd => k_mem); (case pa => k_mem); (case pb => l_ints))); (case c2 => ktr_rel); (case c3 => ktr_rel); (case c4 => ktr_rel); (case c5 => ktr_rel); (case c6 => ktr_rel); (case kd => k_room); (case ku => k_units); k_whole; intro v' h' tk' nw' F' N' cP'; obtain ⟨x', d', l', t1', t2', vs', e', hv', hn', hi', o1', o2', o3', n1', n2', n3'⟩ := cP'; subst hv'; subst hn'; (try dsimp only); kts_tail; (try k_sweep))))
local macro_rules | `(tactic| walk_at "eval ListComp") => `(tactic| (k_here; (with_reducible show wpAny _ _ (eval (Expr.ListComp _ [⟨Expr.Name _ _, Expr.Subscript _ _ _, _, _⟩] _ _) _) _ _ _); k_dflt (refine LCg.ListComp_U (F₀ := by k_asm) (by with_unfolding_all rfl) (by decide) (by rfl) (by decide) (by rfl) ?_)))
theorem mx7l_call {w : World} {N : Led} {x r l : Addr} {q n : Int} {ns : List Int} (hR : Ring w N r q n) (hP : Poly w N x r l ns) (hlen : (ns.length : Int) = n) (hn1 : 1 ≤ n) (hn : n ≤ 4) (hq : 2 ≤ q) (hq2 : q < 2 ^ 33) {f : Addr} {fs : List Int} (hf : Ints N f fs) (hlf : (fs.length : Int) = n) (hb : ∀ c ∈ ns, 0 ≤ c ∧ c < q) (hbf : ∀ c ∈ fs, 0 ≤ c ∧ c < q) {v : Int} {tk tv tq' : Tok} :
   Ctr w 28 265 [.int 7 tk, .bool true, .ref x, .ref f, .int v tv, .int q tq'] N (PairPost w N r ((ns.set (0 : Int).toNat (Int.fmod (ns.getD (0 : Int).toNat 0 - v) q)).map fun c => Int.fmod (-c) q) ([Int.fmod (v - fs.getD (0 : Int).toNat 0) q] ++ ((fs.drop 1).map fun x => Int.fmod (-x) q))) := by
  refine' lite ?lw ?lx ?le
  case lw =>
    unfold Ctr
    k_fill
    intro p loose mean mg mb dp un gd cn cs a ccd cl outer A₀ base h₀ L m s R B F X N₀ T hk hdp hun hret
    obtain ⟨dr, k3, k4, tq, tn, e3, hr, hdr⟩ := hR
    obtain ⟨⟨vs, e1, hl, hI⟩, dx, k1, k2, e2, hx, hdx⟩ := hP
    obtain ⟨ws, w1, hfm, hfI⟩ := hf
    k_dflt (refine' code_defC ?k1 ?k2 ?k3 ?k4 ?k5 ?kA ?kF ?kK ?k6 ?k7 ?k8 ?k9 ?kB ?kD ?_ ?c2 ?c3 ?c4; (case kA => exact rfl); (case kF => exact rfl); (case kK => assumption); (case k1 => k_asm); (case k2 => k_asm); (case k3 => k_asm); (case k4 => k_asm); (case k5 => k_asm); (case k6 => k_is); (case k7 => k_is); (case k8 => k_room); (case k9 => exact BindsTo.of_eq rfl); (case kB => exact rfl); (case kD => decide +kernel); (case c2 => exact rfl); (case c3 => exact rfl); (case c4 => exact rfl); k_whole)
    intro g₁ L₁ h₁ tk₁ cells₁ FG₁ F₁ N₁ Y₁ B₁ X₁ T₁ l₁
    k_cells Y₁
    simp only [List.cons_append, List.nil_append] at N₁
    (try dsimp only)
    (try k_fold)
    k_steps
    exact hret _ _ _ _ (by k_asm) (by allgen_close_more) ⟨_, _, _, _, _, _, _, _, _, _, _, rfl, rfl, by k_asm, by k_asm, by top_strB, by top_strB, by top_strB, by top_strB, by top_strB⟩
  case lx => intro hk; simpa only using hk (0 : Nat)
  case le => eq_refl
end
section
local macro_rules | `(tactic| k_enter) => `(tactic| ((with_reducible show codeAny _ _ (Code.call (Value.ref 170) ⟨[Value.ref _, Value.int _ _], _⟩) _ _); k_dflt (refine' Ctr.use (subN_call ?c0 ?c1 ?c2 ?c3 ?c4 ?c5 ?c6) ?k1 ?k2 ?k3 ?k4 ?k5 ?kK ?kd ?ku ?_; (case k1 => k_asm); (case k2 => k_asm); (case k3 => k_asm); (case k4 => k_asm); (case k5 => k_asm); (case kK => first | exact rfl | assumption); (case c0 => exact ⟨_, _, _, _, _, _, by k_mem, by k_mem⟩); (case c1 => (refine' ⟨⟨_, _, ?pa, ?pb⟩, _, _, _, _, ?pc, ?pd⟩; (case pc => k_mem); (case pd => k_mem); (case pa => k_mem); (case pb => l_ints))); (case c2 => ktr_rel); (case c3 => ktr_rel); (case c4 => ktr_rel); (case c5 => ktr_rel); (case c6 => ktr_rel); (case kd => k_room); (case ku => k_units); k_whole; intro v' h' tk' nw' F' N' cP'; obtain ⟨x', d', l', t1', t2', vs', e', hv', hn', hi', o1', o2', o3', n1', n2', n3'⟩ := cP'; subst hv'; subst hn'; (try dsimp only); kts_tail; (try k_sweep))))
local macro_rules | `(tactic| walk_at "eval ListComp") => `(tactic| (k_here; (with_reducible show wpAny _ _ (eval (Expr.ListComp _ [⟨Expr.Name _ _, Expr.Subscript _ _ _, _, _⟩] _ _) _) _ _ _); k_dflt (refine LCg.ListComp_U (F₀ := by k_asm) (by with_unfolding_all rfl) (by decide) (by rfl) (by decide) (by rfl) ?_)))
theorem mx7r_call {w : World} {N : Led} {x r l : Addr} {q n : Int} {ns : List Int} (hR : Ring w N r q n) (hP : Poly w N x r l ns) (hlen : (ns.length : Int) = n) (hn1 : 1 ≤ n) (hn : n ≤ 4) (hq : 2 ≤ q) (hq2 : q < 2 ^ 33) {f : Addr} {fs : List Int} (hf : Ints N f fs) (hlf : (fs.length : Int) = n) (hb : ∀ c ∈ ns, 0 ≤ c ∧ c < q) (hbf : ∀ c ∈ fs, 0 ≤ c ∧ c < q) {v : Int} {tk tv tq' : Tok} :
   Ctr w 28 265 [.int 7 tk, .bool false, .ref x, .ref f, .int v tv, .int q tq'] N (PairPost w N r (ns.set (0 : Int).toNat (Int.fmod (ns.getD (0 : Int).toNat 0 - v) q)) ([Int.fmod (fs.getD (0 : Int).toNat 0 - v) q] ++ fs.drop 1)) := by
  refine' lite ?lw ?lx ?le
  case lw =>
    unfold Ctr
    k_fill
    intro p loose mean mg mb dp un gd cn cs a ccd cl outer A₀ base h₀ L m s R B F X N₀ T hk hdp hun hret
    obtain ⟨dr, k3, k4, tq, tn, e3, hr, hdr⟩ := hR
    obtain ⟨⟨vs, e1, hl, hI⟩, dx, k1, k2, e2, hx, hdx⟩ := hP
    obtain ⟨ws, w1, hfm, hfI⟩ := hf
    k_dflt (refine' code_defC ?k1 ?k2 ?k3 ?k4 ?k5 ?kA ?kF ?kK ?k6 ?k7 ?k8 ?k9 ?kB ?kD ?_ ?c2 ?c3 ?c4; (case kA => exact rfl); (case kF => exact rfl); (case kK => assumption); (case k1 => k_asm); (case k2 => k_asm); (case k3 => k_asm); (case k4 => k_asm); (case k5 => k_asm); (case k6 => k_is); (case k7 => k_is); (case k8 => k_room); (case k9 => exact BindsTo.of_eq rfl); (case kB => exact rfl); (case kD => decide +kernel); (case c2 => exact rfl); (case c3 => exact rfl); (case c4 => exact rfl); k_whole)
    intro g₁ L₁ h₁ tk₁ cells₁ FG₁ F₁ N₁ Y₁ B₁ X₁ T₁ l₁
    k_cells Y₁
    simp only [List.cons_append, List.nil_append] at N₁
    (try dsimp only)
    (try k_fold)
    k_steps
    exact hret _ _ _ _ (by k_asm) (by allgen_close_more) ⟨_, _, _, _, _, _, _, _, _, _, _, rfl, rfl, by k_asm, by k_asm, by top_strB, by top_strB, by top_strB, by top_strB, by top_strB⟩
  case lx => intro hk; simpa only using hk (0 : Nat)
  case le => eq_refl
end
section
local macro_rules | `(tactic| k_enter) => `(tactic| ((with_reducible show codeAny _ _ (Code.call (Value.ref 196) ⟨[Value.ref _, Value.int _ _], _⟩) _ _); k_dflt (refine' Ctr.use (rmul_call ?c0 ?c1 ?c2 ?c3 ?c4 ?c5 ?c6 ?c7) ?k1 ?k2 ?k3 ?k4 ?k5 ?kK ?kd ?ku ?_; (case k1 => k_asm); (case k2 => k_asm); (case k3 => k_asm); (case k4 => k_asm); (case k5 => k_asm); (case kK => first | exact rfl | assumption); (case c0 => exact ⟨_, _, _, _, _, _, by k_mem, by k_mem⟩); (case c1 => (refine' ⟨⟨_, _, ?pa, ?pb⟩, _, _, _, _, ?pc, ?pd⟩; (case pc => k_mem); (case pd => k_mem); (case pa => k_mem); (case pb => l_ints))); (case c2 => ktr_rel); (case c3 => ktr_rel); (case c4 => ktr_rel); (case c5 => ktr_rel); (case c6 => ktr_rel); (case c7 => first | assumption | allgen_close2_more); (case kd => k_room); (case ku => k_units); k_whole; intro v' h' tk' nw' F' N' cP'; obtain ⟨x', d', l', t1', t2', vs', e', hv', hn', hi', o1', o2', o3', n1', n2', n3'⟩ := cP'; subst hv'; subst hn'; (try dsimp only); kts_tail; (try k_sweep))))
local macro_rules | `(tactic| walk_at "eval ListComp") => `(tactic| (k_here; (with_reducible show wpAny _ _ (eval (Expr.ListComp _ [⟨Expr.Name _ _, Expr.Subscript _ _ _, _, _⟩] _ _) _) _ _ _); k_dflt (refine LCg.ListComp_U (F₀ := by k_asm) (by with_unfolding_all rfl) (by decide) (by rfl) (by decide) (by rfl) ?_)))
theorem mx8l_call {w : World} {N : Led} {x r l : Addr} {q n : Int} {ns : List Int} (hR : Ring w N r q n) (hP : Poly w N x r l ns) (hlen : (ns.length : Int) = n) (hn1 : 1 ≤ n) (hn : n ≤ 4) (hq : 2 ≤ q) (hq2 : q < 2 ^ 33) {f : Addr} {fs : List Int} (hf : Ints N f fs) (hlf : (fs.length : Int) = n) (hb : ∀ c ∈ ns, 0 ≤ c ∧ c < q) (hbf : ∀ c ∈ fs, 0 ≤ c ∧ c < q) {v : Int} {tk tv tq' : Tok} :
   Ctr w 28 265 [.int 8 tk, .bool true, .ref x, .ref f, .int v tv, .int q tq'] N (PairPost w N r (ns.map fun c => Int.fmod (c * v) q) (fs.map fun x => Int.fmod (v * x) q)) := by
  refine' lite ?lw ?lx ?le
  case lw =>
    unfold Ctr
    k_fill
    intro p loose mean mg mb dp un gd cn cs a ccd cl outer A₀ base h₀ L m s R B F X N₀ T hk hdp hun hret
    obtain ⟨dr, k3, k4, tq, tn, e3, hr, hdr⟩ := hR
    obtain ⟨⟨vs, e1, hl, hI⟩, dx, k1, k2, e2, hx, hdx⟩ := hP
    obtain ⟨ws, w1, hfm, hfI⟩ := hf
    k_dflt (refine' code_defC ?k1 ?k2 ?k3 ?k4 ?k5 ?kA ?kF ?kK ?k6 ?k7 ?k8 ?k9 ?kB ?kD ?_ ?c2 ?c3 ?c4; (case kA => exact rfl); (case kF => exact rfl); (case kK => assumption); (case k1 => k_asm); (case k2 => k_asm); (case k3 => k_asm); (case k4 => k_asm); (case k5 => k_asm); (case k6 => k_is); (case k7 => k_is); (case k8 => k_room); (case k9 => exact BindsTo.of_eq rfl); (case kB => exact rfl); (case kD => decide +kernel); (case c2 => exact rfl); (case c3 => exact rfl); (case c4 => exact rfl); k_whole)
    intro g₁ L₁ h₁ tk₁ cells₁ FG₁ F₁ N₁ Y₁ B₁ X₁ T₁ l₁
    k_cells Y₁
    simp only [List.cons_append, List.nil_append] at N₁
    (try dsimp only)
    (try k_fold)
    k_steps
    exact hret _ _ _ _ (by k_asm) (by allgen_close_more) ⟨_, _, _, _, _, _, _, _, _, _, _, rfl, rfl, by k_asm, by k_asm, by top_strB, by top_strB, by top_strB, by top_strB, by top_strB⟩
  case lx => intro hk; simpa only using hk (0 : Nat)
  case le => eq_refl
end
section
local macro_rules | `(tactic| k_enter) => `(tactic| ((with_reducible show codeAny _ _ (Code.call (Value.ref 189) ⟨[Value.ref _, Value.int _ _], _⟩) _ _); k_dflt (refine' Ctr.use (mulI_call ?c0 ?c1 ?c2 ?c3 ?c4 ?c5 ?c6 ?c7) ?k1 ?k2 ?k3 ?k4 ?k5 ?kK ?kd ?ku ?_; (case k1 => k_asm); (case k2 => k_asm); (case k3 => k_asm); (case k4 => k_asm); (case k5 => k_asm); (case kK => first | exact rfl | assumption); (case c0 => exact ⟨_, _, _, _, _, _, by k_mem, by k_mem⟩); (case c1 => (refine' ⟨⟨_, _, ?pa, ?pb⟩, _, _, _, _, ?pc, ?pd⟩; (case pc => k_mem); (case pd => k_mem); (case pa => k_mem); (case pb => l_ints))); (case c2 => ktr_rel); (case c3 => ktr_rel); (case c4 => ktr_rel); (case c5 => ktr_rel); (case c6 => ktr_rel); (case c7 => first | assumption | allgen_close2_more); (case kd => k_room); (case ku => k_units); k_whole; intro v' h' tk' nw' F' N' cP'; obtain ⟨x', d', l', t1', t2', vs', e', hv', hn', hi', o1', o2', o3', n1', n2', n3'⟩ := cP'; subst hv'; subst hn'; (try dsimp only); kts_tail; (try k_sweep))))
local macro_rules | `(tactic| walk_at "eval ListComp") => `(tactic| (k_here; (with_reducible show wpAny _ _ (eval (Expr.ListComp _ [⟨Expr.Name _ _, Expr.Subscript _ _ _, _, _⟩] _ _) _) _ _ _); k_dflt (refine LCg.ListComp_U (F₀ := by k_asm) (by with_unfolding_all rfl) (by decide) (by rfl) (by decide) (by rfl) ?_)))
theorem mx8r_call {w : World} {N : Led} {x r l : Addr} {q n : Int} {ns : List Int} (hR : Ring w N r q n) (hP : Poly w N x r l ns) (hlen : (ns.length : Int) = n) (hn1 : 1 ≤ n) (hn : n ≤ 4) (hq : 2 ≤ q) (hq2 : q < 2 ^ 33) {f : Addr} {fs : List Int} (hf : Ints N f fs) (hlf : (fs.length : Int) = n) (hb : ∀ c ∈ ns, 0 ≤ c ∧ c < q) (hbf : ∀ c ∈ fs, 0 ≤ c ∧ c < q) {v : Int} {tk tv tq' : Tok} :
   Ctr w 28 265 [.int 8 tk, .bool false, .ref x, .ref f, .int v tv, .int q tq'] N (PairPost w N r (ns.map fun c => Int.fmod (c * v) q) (fs.map fun x => Int.fmod (v * x) q)) := by
  refine' lite ?lw ?lx ?le
  case lw =>
    unfold Ctr
    k_fill
    intro p loose mean mg mb dp un gd cn cs a ccd cl outer A₀ base h₀ L m s R B F X N₀ T hk hdp hun hret
    obtain ⟨dr, k3, k4, tq, tn, e3, hr, hdr⟩ := hR
    obtain ⟨⟨vs, e1, hl, hI⟩, dx, k1, k2, e2, hx, hdx⟩ := hP
    obtain ⟨ws, w1, hfm, hfI⟩ := hf
    k_dflt (refine' code_defC ?k1 ?k2 ?k3 ?k4 ?k5 ?kA ?kF ?kK ?k6 ?k7 ?k8 ?k9 ?kB ?kD ?_ ?c2 ?c3 ?c4; (case kA => exact rfl); (case kF => exact rfl); (case kK => assumption); (case k1 => k_asm); (case k2 => k_asm); (case k3 => k_asm); (case k4 => k_asm); (case k5 => k_asm); (case k6 => k_is); (case k7 => k_is); (case k8 => k_room); (case k9 => exact BindsTo.of_eq rfl); (case kB => exact rfl); (case kD => decide +kernel); (case c2 => exact rfl); (case c3 => exact rfl); (case c4 => exact rfl); k_whole)
    intro g₁ L₁ h₁ tk₁ cells₁ FG₁ F₁ N₁ Y₁ B₁ X₁ T₁ l₁
    k_cells Y₁
    simp only [List.cons_append, List.nil_append] at N₁
    (try dsimp only)
    (try k_fold)
    k_steps
    exact hret _ _ _ _ (by k_asm) (by allgen_close_more) ⟨_, _, _, _, _, _, _, _, _, _, _, rfl, rfl, by k_asm, by k_asm, by top_strB, by top_strB, by top_strB, by top_strB, by top_strB⟩
  case lx => intro hk; simpa only using hk (0 : Nat)
  case le => eq_refl
end
end
section
local macro_rules | `(tactic| k_mem) => `(tactic| ((fail_if_success (with_reducible refine' List.Mem.tail _ ?_)); first | with_reducible assumption | assumption | (refine sub_mem (by assumption) ?_; k_mem)))
local macro_rules | `(tactic| news_mem) => `(tactic| k_mem)
local macro_rules | `(tactic| k_room) => `(tactic| ((simp only [depth_under_make, depth_under_kw, depth_in1, depth_deeper, depth_caller, recursionLimit] at *); omega))
local macro_rules | `(tactic| k_units) => `(tactic| ((have hcL9 := cLine_is); (simp only [units_in1, units_deeper, Around.mark_units, units_caller, cLine] at *); omega))
local macro_rules | `(tactic| allgen_close2_more) => `(tactic| assumption)
local macro_rules | `(tactic| ktr_rel) => `(tactic| ((try simp only [List.length_append, List.length_cons, List.length_nil, List.length_map, List.length_set, List.length_zipWith, rangeKs_length]); first | assumption | omega))
local macro_rules | `(tactic| top_reprB) => `(tactic| first | exact List.forall_mem_nil _ | (refine List.forall_mem_cons.mpr ⟨by k_mem, ?_⟩; top_reprB) | (intro p hp; k_mem))
local macro_rules | `(tactic| k_ne) => `(tactic| (refine neN ?_; (try dsimp only); first | (with_reducible assumption) | exact Ne.symm (by with_reducible assumption) | exact off_ne (by with_reducible assumption) (by k_mem) | exact Ne.symm (off_ne (by with_reducible assumption) (by k_mem)) | omega))
local macro_rules | `(tactic| top_strB) => `(tactic| first | (first | assumption | exact allLt_of (by assumption) | exact And.right (by assumption) | exact And.right (And.right (by assumption)) | exact And.right (And.right (And.right (by assumption))) | exact And.right (And.right (And.right (And.right (by assumption)))) | exact And.right (And.right (And.right (And.right (And.right (by assumption))))) | exact And.right (And.right (And.right (And.right (And.right (And.right (by assumption)))))) | exact And.right (And.right (And.right (And.right (And.right (And.right (And.right (by assumption))))))) | exact And.right (And.right (And.right (And.right (And.right (And.right (And.right (And.right (by assumption)))))))) | exact And.right (And.right (And.right (And.right (And.right (And.right (And.right (And.right (And.right (by assumption))))))))) | exact And.right (And.right (And.right (And.right (And.right (And.right (And.right (And.right (And.right (And.right (by assumption)))))))))) | exact And.right (And.right (And.right (And.right (And.right (And.right (And.right (And.right (And.right (And.right (And.right (by assumption))))))))))) | exact And.right (And.right (And.right (And.right (And.right (And.right (And.right (And.right (And.right (And.right (And.right (And.right (by assumption)))))))))))) | exact And.right (And.right (And.right (And.right (And.right (And.right (And.right (And.right (And.right (And.right (And.right (And.right (And.right (by assumption))))))))))))) | exact And.right (And.right (And.right (And.right (And.right (And.right (And.right (And.right (And.right (And.right (And.right (And.right (And.right (And.right (by assumption)))))))))))))) | exact And.right (And.right (And.right (And.right (And.right (And.right (And.right (And.right (And.right (And.right (And.right (And.right (And.right (And.right (And.right (by assumption))))))))))))))) | exact And.right (And.right (And.right (And.right (And.right (And.right (And.right (And.right (And.right (And.right (And.right (And.right (And.right (And.right (And.right (And.right (by assumption)))))))))))))))) | exact And.right (And.right (And.right (And.right (And.right (And.right (And.right (And.right (And.right (And.right (And.right (And.right (And.right (And.right (And.right (And.right (And.right (by assumption))))))))))))))))) | exact And.right (And.right (And.right (And.right (And.right (And.right (And.right (And.right (And.right (And.right (And.right (And.right (And.right (And.right (And.right (And.right (And.right (And.right (by assumption)))))))))))))))))) | exact And.right (And.right (And.right (And.right (And.right (And.right (And.right (And.right (And.right (And.right (And.right (And.right (And.right (And.right (And.right (And.right (And.right (And.right (And.right (by assumption)))))))))))))))))))) | exact off_sub (by with_reducible assumption) (by top_reprB) | exact off_of_lt (by (first | assumption | exact allLt_of (by assumption) | exact And.right (by assumption) | exact And.right (And.right (by assumption)) | exact And.right (And.right (And.right (by assumption))) | exact And.right (And.right (And.right (And.right (by assumption)))) | exact And.right (And.right (And.right (And.right (And.right (by assumption))))) | exact And.right (And.right (And.right (And.right (And.right (And.right (by assumption)))))) | exact And.right (And.right (And.right (And.right (And.right (And.right (And.right (by assumption))))))) | exact And.right (And.right (And.right (And.right (And.right (And.right (And.right (And.right (by assumption)))))))) | exact And.right (And.right (And.right (And.right (And.right (And.right (And.right (And.right (And.right (by assumption))))))))) | exact And.right (And.right (And.right (And.right (And.right (And.right (And.right (And.right (And.right (And.right (by assumption)))))))))) | exact And.right (And.right (And.right (And.right (And.right (And.right (And.right (And.right (And.right (And.right (And.right (by assumption))))))))))) | exact And.right (And.right (And.right (And.right (And.right (And.right (And.right (And.right (And.right (And.right (And.right (And.right (by assumption)))))))))))) | exact And.right (And.right (And.right (And.right (And.right (And.right (And.right (And.right (And.right (And.right (And.right (And.right (And.right (by assumption))))))))))))) | exact And.right (And.right (And.right (And.right (And.right (And.right (And.right (And.right (And.right (And.right (And.right (And.right (And.right (And.right (by assumption)))))))))))))) | exact And.right (And.right (And.right (And.right (And.right (And.right (And.right (And.right (And.right (And.right (And.right (And.right (And.right (And.right (And.right (by assumption))))))))))))))) | exact And.right (And.right (And.right (And.right (And.right (And.right (And.right (And.right (And.right (And.right (And.right (And.right (And.right (And.right (And.right (And.right (by assumption)))))))))))))))) | exact And.right (And.right (And.right (And.right (And.right (And.right (And.right (And.right (And.right (And.right (And.right (And.right (And.right (And.right (And.right (And.right (And.right (by assumption))))))))))))))))) | exact And.right (And.right (And.right (And.right (And.right (And.right (And.right (And.right (And.right (And.right (And.right (And.right (And.right (And.right (And.right (And.right (And.right (And.right (by assumption)))))))))))))))))) | exact And.right (And.right (And.right (And.right (And.right (And.right (And.right (And.right (And.right (And.right (And.right (And.right (And.right (And.right (And.right (And.right (And.right (And.right (And.right (by assumption))))))))))))))))))))) | exact off_of_lt2 (by (first | assumption | exact allLt_of (by assumption) | exact And.right (by assumption) | exact And.right (And.right (by assumption)) | exact And.right (And.right (And.right (by assumption))) | exact And.right (And.right (And.right (And.right (by assumption)))) | exact And.right (And.right (And.right (And.right (And.right (by assumption))))) | exact And.right (And.right (And.right (And.right (And.right (And.right (by assumption)))))) | exact And.right (And.right (And.right (And.right (And.right (And.right (And.right (by assumption))))))) | exact And.right (And.right (And.right (And.right (And.right (And.right (And.right (And.right (by assumption)))))))) | exact And.right (And.right (And.right (And.right (And.right (And.right (And.right (And.right (And.right (by assumption))))))))) | exact And.right (And.right (And.right (And.right (And.right (And.right (And.right (And.right (And.right (And.right (by assumption)))))))))) | exact And.right (And.right (And.right (And.right (And.right (And.right (And.right (And.right (And.right (And.right (And.right (by assumption))))))))))) | exact And.right (And.right (And.right (And.right (And.right (And.right (And.right (And.right (And.right (And.right (And.right (And.right (by assumption)))))))))))) | exact And.right (And.right (And.right (And.right (And.right (And.right (And.right (And.right (And.right (And.right (And.right (And.right (And.right (by assumption))))))))))))) | exact And.right (And.right (And.right (And.right (And.right (And.right (And.right (And.right (And.right (And.right (And.right (And.right (And.right (And.right (by assumption)))))))))))))) | exact And.right (And.right (And.right (And.right (And.right (And.right (And.right (And.right (And.right (And.right (And.right (And.right (And.right (And.right (And.right (by assumption))))))))))))))) | exact And.right (And.right (And.right (And.right (And.right (And.right (And.right (And.right (And.right (And.right (And.right (And.right (And.right (And.right (And.right (And.right (by assumption)))))))))))))))) | exact And.right (And.right (And.right (And.right (And.right (And.right (And.right (And.right (And.right (And.right (And.right (And.right (And.right (And.right (And.right (And.right (And.right (by assumption))))))))))))))))) | exact And.right (And.right (And.right (And.right (And.right (And.right (And.right (And.right (And.right (And.right (And.right (And.right (And.right (And.right (And.right (And.right (And.right (And.right (by assumption)))))))))))))))))) | exact And.right (And.right (And.right (And.right (And.right (And.right (And.right (And.right (And.right (And.right (And.right (And.right (And.right (And.right (And.right (And.right (And.right (And.right (And.right (by assumption))))))))))))))))))))) (by omega) | exact off_of_base (by assumption) (by omega))
local macro_rules | `(tactic| k_all) => `(tactic| (refine off_all ?_; top_strB))
local macro_rules | `(tactic| walk_at "getMethod ref") => `(tactic| (k_here; k_dflt (refine' kmu_own ?k1 ?k2 ?k3 ?k4 ?k5 ?_; (case k1 => k_asm); (case k2 => k_asm); (case k3 => k_inst); (case k4 => k_is); (case k5 => k_is); k_whole)))
local macro_rules | `(tactic| walk_at "binaryOp Mult int int") => `(tactic| (k_here; with_reducible first | refine PyProof.Rows.mul_int ?_ (mulok_getD (by assumption) (by assumption) (by assumption)) | refine PyProof.Rows.mul_int ?_ (mulok_mem (by assumption) (by assumption) (by assumption))))
local macro_rules | `(tactic| top_name) => `(tactic| (law_purse 40000 => (law_clear; (repeat (with_reducible rename (@Ne Nat _ _) ∧ _ => hne9; clear hne9)); (repeat (with_reducible rename (@LT.lt Nat _ _ _) ∧ _ => hne9; clear hne9)); (repeat (with_reducible rename (@Ne Nat _ _) => hne9; clear hne9)); (try simp only [List.length_append, List.length_cons, List.length_nil, List.length_map, List.length_take, List.length_set, List.length_zipWith, rangeKs_length]); omega)))
local macro_rules | `(tactic| walk_at "subscriptTail Name Name ref int") => `(tactic| ((k_here; (with_reducible show wpAny _ _ (subscriptTail _ _ (Value.ref _) (Value.int _ _)) _ _ _); (with_unfolding_all refine' item_list_ints ?k1 ?k2 ?k3 ?k4 ?k5 ?_; (case k1 => exact News.isList (by k_asm) (by k_mem)); (case k2 => l_ints); (case k3 => first | assumption | top_name); (case k4 => first | assumption | exact idx_hi (by assumption) (by first | assumption | exact Nat.le_refl _) | top_name); (case k5 => first | assumption | exact idx_fit (by assumption) (by assumption) | top_name); k_whole); intro _)))
local macro_rules | `(tactic| walk_at "subscriptTail Name BinOp ref int") => `(tactic| ((k_here; (with_reducible show wpAny _ _ (subscriptTail _ _ (Value.ref _) (Value.int _ _)) _ _ _); (with_unfolding_all refine' item_list_ints ?k1 ?k2 ?k3 ?k4 ?k5 ?_; (case k1 => exact News.isList (by k_asm) (by k_mem)); (case k2 => l_ints); (case k3 => first | assumption | top_name); (case k4 => first | assumption | exact idx_hi (by assumption) (by first | assumption | exact Nat.le_refl _) | top_name); (case k5 => first | assumption | exact idx_fit (by assumption) (by assumption) | top_name); k_whole); intro _)))
local macro_rules | `(tactic| walk_at "call builtin:list.copy") => `(tactic| (k_here; (with_reducible show wpAny _ _ (call (Value.builtin _) [Value.ref _]) _ _ _); k_dflt (refine' copyK ?k1 ?k2 ?k3 ?k4 ?_; (case k1 => k_asm); (case k2 => k_asm); (case k3 => exact News.isList (by k_asm) (by k_mem)); (case k4 => exact ints_size (by l_ints) (by top_name)); k_whole); intro D' h' F' N' l1; (try k_lt l1); (try k_sweep)))
local macro_rules | `(tactic| walk_at "setItem ref int") => `(tactic| (k_here; (with_reducible show wpAny _ _ (setItem (Value.ref _) (Value.int _ _) (Value.int _ _)) _ _ _); k_dflt (refine' ksa_set ?k1 ?k2 ?k3 ?k4 ?k5 ?k6 ?k7 ?_; (case k1 => k_asm); (case k2 => k_asm); (case k3 => k_upd); (case k4 => l_ints); (case k5 => first | assumption | top_name); (case k6 => first | assumption | top_name); (case k7 => first | assumption | top_name); k_whole); intro h' F' N' hi' hl' hs'; clear hs'; (try k_sweep)))
local macro_rules | `(tactic| walk_at "callWith ref") => `(tactic| (k_here; kco_here; k_dflt (refine' kco_callWith ?k1 ?k2 ?k3 ?k4 ?_; (case k1 => k_in); (case k2 => k_inst); (case k3 => rfl); (case k4 => k_is); k_whole)))
local macro_rules | `(tactic| allgen_close_more) => `(tactic| first | k_asm | (refine' cb_drop ?cbN ?cbS; (case cbN => assumption); (case cbS => top_reprB)))
local macro_rules | `(tactic| walk_at "exec For Name Call cons nil") => `(tactic| (k_here; k_dflt (refine For_turns (by k_asm) ?_ (by intro _; with_unfolding_all rfl) (by passes_own)); (try k_fold)))
local macro_rules | `(tactic| walk_at "getItem ref int") => `(tactic| (k_here; (with_reducible show wpAny _ _ (getItem (Value.ref _) (Value.int _ _)) _ _ _); k_dflt (refine' ksa_get ?k1 ?k2 ?k3 ?k4 ?k5 ?k6 ?_; (case k1 => k_asm); (case k2 => k_mem); (case k3 => l_ints); (case k4 => first | assumption | top_name); (case k5 => first | assumption | top_name); (case k6 => first | assumption | top_name); k_whole); intro _))
local macro_rules | `(tactic| walk_at "CompSrc") => `(tactic| (k_here; k_dflt (refine' LCg.CompSrc.ledger ?s1 ?s2 ?s3 ?s4 ?s5 ?_; (case s1 => rfl); (case s2 => k_asm); (case s3 => k_asm); (case s4 => k_mem); (case s5 => exact ints_sizeA (by l_ints) (by first | assumption | top_name)); intro g'; (refine' kcf_list _ (by l_ints) (fun k' t' I' oI' C' oC' D' m' ys' h' tk' E' hk' hC' hx' F' N' off' ne' hMark' => ?_) ?_); (all_goals (try (simp only [LCg.Off3, and_true] at off'))); kcf_last)))
local macro_rules | `(tactic| allgen_close2_more) => `(tactic| first | assumption | exact school_bnd (by assumption) _ _ | exact one_bnd (by assumption) | exact times_bnd (by assumption) _ _ | exact map_bnd (by assumption) _ _ | exact zip_bnd (by assumption) _ _ _ | exact set_bnd (by assumption) (by allgen_close2_more))
local macro_rules | `(tactic| ktr_rel) => `(tactic| ((simp only [List.length_append, List.length_cons, List.length_nil, List.length_map, List.length_set, List.length_zipWith, rangeKs_length, schoolS_length, timesS_length]); omega))
local macro_rules | `(tactic| walk_at "binaryOp Add int ref") => `(tactic| (k_here; (with_reducible show wpAny _ _ (binaryOp Operator.Add (Value.int _ _) (Value.ref _)) _ _ _); k_dflt (refine' rbin_add ?F ?X ?I ?hC ?hS ?hR ?hF ?h1 ?h2 ?hU ?_; (case F => k_asm); (case X => k_asm); (case I => k_inst); (case hC => k_is); (case hS => k_is); (case hR => k_is); (case hF => k_is); (case h1 => k_is); (case h2 => k_is); (case hU => k_is); k_whole)))
local macro_rules | `(tactic| walk_at "binaryOp Sub int ref") => `(tactic| (k_here; (with_reducible show wpAny _ _ (binaryOp Operator.Sub (Value.int _ _) (Value.ref _)) _ _ _); k_dflt (refine' rbin_sub ?F ?X ?I ?hC ?hS ?hR ?hF ?h1 ?h2 ?hU ?_; (case F => k_asm); (case X => k_asm); (case I => k_inst); (case hC => k_is); (case hS => k_is); (case hR => k_is); (case hF => k_is); (case h1 => k_is); (case h2 => k_is); (case hU => k_is); k_whole)))
local macro_rules | `(tactic| walk_at "binaryOp Mult int ref") => `(tactic| (k_here; (with_reducible show wpAny _ _ (binaryOp Operator.Mult (Value.int _ _) (Value.ref _)) _ _ _); k_dflt (refine' rbin_mul ?F ?X ?I ?hC ?hS ?hR ?hF ?h1 ?h2 ?hU ?_; (case F => k_asm); (case X => k_asm); (case I => k_inst); (case hC => k_is); (case hS => k_is); (case hR => k_is); (case hF => k_is); (case h1 => k_is); (case h2 => k_is); (case hU => k_is); k_whole)))
local macro_rules | `(tactic| walk_at "binaryOp Mult int int") => `(tactic| (k_here; with_reducible refine PyProof.Rows.mul_int ?_ (mulok_mem_r (by assumption) (by assumption) (by assumption))))
local macro_rules | `(tactic| walk_at "binaryOp Sub ref") => `(tactic| (k_here; (with_reducible show wpAny _ _ (binaryOp Operator.Sub (Value.ref _) (Value.ref _)) _ _ _); k_dflt (refine' ksp_binL ?F ?X ?N ?I ?hl ?hC ?hS ?hF ?hR ?hP ?h1 ?h2 ?hU ?_; (case F => k_asm); (case X => k_asm); (case N => k_asm); (case I => k_inst); (case hl => k_mem); (case hS => k_is); (case hF => k_is); (case hC => k_is); (case hR => k_is); (case hP => first | exact .inl rfl | exact .inr ⟨_, rfl⟩); (case h1 => k_is); (case h2 => k_is); (case hU => k_is); k_whole)))
local macro_rules | `(tactic| walk_at "leaving ref") => `(tactic| (k_here; (with_reducible rename KtsDicts _ _ => kdX); (with_reducible show wpAny _ _ (leaving (envOfC _ _ _ _ _) _) _ _ _); first
  | (refine' leave_raiseX ?k1 ?k0 ?k2 ?k3 ?e1 ?e2 ?_; (case k0 => first | assumption | exact Heap.MadeExc.of (by assumption)); (case k2 => assumption); (case k1 => assumption); (case k3 => k_asm); (case e1 => exact rfl); (case e2 => exact rfl); k_whole; intro h' t' S' R' U'; (try dsimp only at S' R' U' ⊢))
  | (refine' leave_onX ?k1 ?k2 ?k3 ?k4 ?e1 ?_; (case k3 => assumption); (case k2 => assumption); (case k1 => assumption); (case k4 => assumption); (case e1 => exact rfl); k_whole; intro h' S' R' U'; (try dsimp only at S' R' U' ⊢))
  | (refine' leave_newX ?k1 ?k0 ?k2 ?k3 ?e1 ?e2 ?_; (case k0 => assumption); (case k2 => assumption); (case k1 => assumption); (case k3 => k_asm); (case e1 => exact rfl); (case e2 => exact rfl); k_whole; intro h' S' R' U'; (try dsimp only at S' R' U' ⊢))
  | (refine' leave_onNX ?k1 ?k2 ?k3 ?k4 ?e1 ?_; (case k3 => assumption); (case k2 => assumption); (case k1 => assumption); (case k4 => assumption); (case e1 => exact rfl); k_whole; intro h' S' R' U'; (try dsimp only at S' R' U' ⊢))))
local macro_rules | `(tactic| walk_at "exec Raise some none") => `(tactic| (k_here; (with_reducible show wpAny _ _ (exec (Stmt.Raise (some (Expr.Call (Expr.Name _ _) (_ :: _) [] _)) none _) _) _ _ _); refine Raise_new rfl ?_))
local macro_rules | `(tactic| walk_at "InitBack") => `(tactic| (dsimp only [InitBack]))
section
theorem refused0_call {w : World} {N : Led} {x r l : Addr} {q n : Int} {ns : List Int} (hR : Ring w N r q n) (hP : Poly w N x r l ns) (hlen : (ns.length : Int) = n) (hn1 : 1 ≤ n) (hn : n ≤ 4) (hq : 2 ≤ q) (hq2 : q < 2 ^ 33) {v : Int} {tk tv : Tok} (hv1 : -(2 ^ 160) < v) (hv2 : v < 2 ^ 160) :
   CtrT w 28 286 [.int 0 tk, .ref r, .ref x, .int v tv] N (fun u N' => ∃ t, u = .int 1 t ∧ N' = N) := by
  refine' lite ?lw ?lx ?le
  case lw =>
    unfold CtrT
    k_fill
    intro p loose mean mg mb dp un gd cn cs a ccd cl A₀ h₀ L m s R B F X N₀ T hk hdp hun hret
    obtain ⟨dr, k3, k4, tq, tn, e3, hr, hdr⟩ := hR
    obtain ⟨⟨vs, e1, hl, hI⟩, dx, k1, k2, e2, hx, hdx⟩ := hP
    k_dflt (refine' code_defX0 ?k1 ?k2 ?k3 ?k4 ?k5 ?kA ?kF ?kK ?k6 ?k7 ?k8 ?k9 ?kB ?_ ?c2 ?c3 ?c4 ?c5; (case kA => exact rfl); (case kF => exact rfl); (case kK => assumption); (case k1 => k_asm); (case k2 => k_asm); (case k3 => k_asm); (case k4 => k_asm); (case k5 => k_asm); (case k6 => k_is); (case k7 => k_is); (case k8 => k_room); (case k9 => exact BindsTo.of_eq rfl); (case c5 => decide); (case kB => exact locs rfl); (case c2 => exact rfl); (case c3 => exact rfl); (case c4 => exact rfl); k_whole)
    intro g₁ L₁ h₁ FG₁ F₁ N₁ B₁ X₁ T₁ D₁
    (try dsimp only)
    (try k_fold)
    have hfl : (((List.replicate (n + 1).toNat [(0 : Int)]).flatten.length : Nat) : Int) = n + 1 := by simp; omega
    k_steps
    exact hret _ _ _ _ (by k_asm) (by allgen_close_more) ⟨_, rfl, rfl⟩
  case lx => intro hk; simpa only using hk (0 : Nat)
  case le => eq_refl
end
section
theorem refused1_call {w : World} {N : Led} {x r l : Addr} {q n : Int} {ns : List Int} (hR : Ring w N r q n) (hP : Poly w N x r l ns) (hlen : (ns.length : Int) = n) (hn1 : 1 ≤ n) (hn : n ≤ 4) (hq : 2 ≤ q) (hq2 : q < 2 ^ 33) {v : Int} {tk tv : Tok} (hv1 : -(2 ^ 160) < v) (hv2 : v < 2 ^ 160) :
   CtrT w 28 286 [.int 1 tk, .ref r, .ref x, .int v tv] N (fun u N' => ∃ t, u = .int 2 t ∧ N' = N) := by
  refine' lite ?lw ?lx ?le
  case lw =>
    unfold CtrT
    k_fill
    intro p loose mean mg mb dp un gd cn cs a ccd cl A₀ h₀ L m s R B F X N₀ T hk hdp hun hret
    obtain ⟨dr, k3, k4, tq, tn, e3, hr, hdr⟩ := hR
    obtain ⟨⟨vs, e1, hl, hI⟩, dx, k1, k2, e2, hx, hdx⟩ := hP
    k_dflt (refine' code_defX0 ?k1 ?k2 ?k3 ?k4 ?k5 ?kA ?kF ?kK ?k6 ?k7 ?k8 ?k9 ?kB ?_ ?c2 ?c3 ?c4 ?c5; (case kA => exact rfl); (case kF => exact rfl); (case kK => assumption); (case k1 => k_asm); (case k2 => k_asm); (case k3 => k_asm); (case k4 => k_asm); (case k5 => k_asm); (case k6 => k_is); (case k7 => k_is); (case k8 => k_room); (case k9 => exact BindsTo.of_eq rfl); (case c5 => decide); (case kB => exact locs rfl); (case c2 => exact rfl); (case c3 => exact rfl); (case c4 => exact rfl); k_whole)
    intro g₁ L₁ h₁ FG₁ F₁ N₁ B₁ X₁ T₁ D₁
    (try dsimp only)
    (try k_fold)
    k_steps
    exact hret _ _ _ _ (by k_asm) (by allgen_close_more) ⟨_, rfl, rfl⟩
  case lx => intro hk; simpa only using hk (0 : Nat)
  case le => eq_refl
end
section
theorem refused2_call {w : World} {N : Led} {x r l : Addr} {q n : Int} {ns : List Int} (hR : Ring w N r q n) (hP : Poly w N x r l ns) (hlen : (ns.length : Int) = n) (hn1 : 1 ≤ n) (hn : n ≤ 4) (hq : 2 ≤ q) (hq2 : q < 2 ^ 33) {v : Int} {tk tv : Tok} (hv1 : -(2 ^ 160) < v) (hv2 : v < 2 ^ 160) :
   CtrT w 28 286 [.int 2 tk, .ref r, .ref x, .int v tv] N (fun u N' => ∃ t, u = .int 1 t ∧ N' = N) := by
  refine' lite ?lw ?lx ?le
  case lw =>
    unfold CtrT
    k_fill
    intro p loose mean mg mb dp un gd cn cs a ccd cl A₀ h₀ L m s R B F X N₀ T hk hdp hun hret
    obtain ⟨dr, k3, k4, tq, tn, e3, hr, hdr⟩ := hR
    obtain ⟨⟨vs, e1, hl, hI⟩, dx, k1, k2, e2, hx, hdx⟩ := hP
    k_dflt (refine' code_defX0 ?k1 ?k2 ?k3 ?k4 ?k5 ?kA ?kF ?kK ?k6 ?k7 ?k8 ?k9 ?kB ?_ ?c2 ?c3 ?c4 ?c5; (case kA => exact rfl); (case kF => exact rfl); (case kK => assumption); (case k1 => k_asm); (case k2 => k_asm); (case k3 => k_asm); (case k4 => k_asm); (case k5 => k_asm); (case k6 => k_is); (case k7 => k_is); (case k8 => k_room); (case k9 => exact BindsTo.of_eq rfl); (case c5 => decide); (case kB => exact locs rfl); (case c2 => exact rfl); (case c3 => exact rfl); (case c4 => exact rfl); k_whole)
    intro g₁ L₁ h₁ FG₁ F₁ N₁ B₁ X₁ T₁ D₁
    (try dsimp only)
    (try k_fold)
    k_steps
    exact hret _ _ _ _ (by k_asm) (by allgen_close_more) ⟨_, rfl, rfl⟩
  case lx => intro hk; simpa only using hk (0 : Nat)
  case le => eq_refl
end
section
theorem refused3_call {w : World} {N : Led} {x r l : Addr} {q n : Int} {ns : List Int} (hR : Ring w N r q n) (hP : Poly w N x r l ns) (hlen : (ns.length : Int) = n) (hn1 : 1 ≤ n) (hn : n ≤ 4) (hq : 2 ≤ q) (hq2 : q < 2 ^ 33) {v : Int} {tk tv : Tok} (hv1 : -(2 ^ 160) < v) (hv2 : v < 2 ^ 160) :
   CtrT w 28 286 [.int 3 tk, .ref r, .ref x, .int v tv] N (fun u N' => ∃ t, u = .int 2 t ∧ N' = N) := by
  refine' lite ?lw ?lx ?le
  case lw =>
    unfold CtrT
    k_fill
    intro p loose mean mg mb dp un gd cn cs a ccd cl A₀ h₀ L m s R B F X N₀ T hk hdp hun hret
    obtain ⟨dr, k3, k4, tq, tn, e3, hr, hdr⟩ := hR
    obtain ⟨⟨vs, e1, hl, hI⟩, dx, k1, k2, e2, hx, hdx⟩ := hP
    k_dflt (refine' code_defX0 ?k1 ?k2 ?k3 ?k4 ?k5 ?kA ?kF ?kK ?k6 ?k7 ?k8 ?k9 ?kB ?_ ?c2 ?c3 ?c4 ?c5; (case kA => exact rfl); (case kF => exact rfl); (case kK => assumption); (case k1 => k_asm); (case k2 => k_asm); (case k3 => k_asm); (case k4 => k_asm); (case k5 => k_asm); (case k6 => k_is); (case k7 => k_is); (case k8 => k_room); (case k9 => exact BindsTo.of_eq rfl); (case c5 => decide); (case kB => exact locs rfl); (case c2 => exact rfl); (case c3 => exact rfl); (case c4 => exact rfl); k_whole)
    intro g₁ L₁ h₁ FG₁ F₁ N₁ B₁ X₁ T₁ D₁
    (try dsimp only)
    (try k_fold)
    k_steps
    exact hret _ _ _ _ (by k_asm) (by allgen_close_more) ⟨_, rfl, rfl⟩
  case lx => intro hk; simpa only using hk (0 : Nat)
  case le => eq_refl
end
section
theorem refused4_call {w : World} {N : Led} {x r l : Addr} {q n : Int} {ns : List Int} (hR : Ring w N r q n) (hP : Poly w N x r l ns) (hlen : (ns.length : Int) = n) (hn1 : 1 ≤ n) (hn : n ≤ 4) (hq : 2 ≤ q) (hq2 : q < 2 ^ 33) {v : Int} {tk tv : Tok} (hv1 : -(2 ^ 160) < v) (hv2 : v < 2 ^ 160) :
   CtrT w 28 286 [.int 4 tk, .ref r, .ref x, .int v tv] N (fun u N' => ∃ t, u = .int 3 t ∧ N' = N) := by
  refine' lite ?lw ?lx ?le
  case lw =>
    unfold CtrT
    k_fill
    intro p loose mean mg mb dp un gd cn cs a ccd cl A₀ h₀ L m s R B F X N₀ T hk hdp hun hret
    obtain ⟨dr, k3, k4, tq, tn, e3, hr, hdr⟩ := hR
    obtain ⟨⟨vs, e1, hl, hI⟩, dx, k1, k2, e2, hx, hdx⟩ := hP
    k_dflt (refine' code_defX0 ?k1 ?k2 ?k3 ?k4 ?k5 ?kA ?kF ?kK ?k6 ?k7 ?k8 ?k9 ?kB ?_ ?c2 ?c3 ?c4 ?c5; (case kA => exact rfl); (case kF => exact rfl); (case kK => assumption); (case k1 => k_asm); (case k2 => k_asm); (case k3 => k_asm); (case k4 => k_asm); (case k5 => k_asm); (case k6 => k_is); (case k7 => k_is); (case k8 => k_room); (case k9 => exact BindsTo.of_eq rfl); (case c5 => decide); (case kB => exact locs rfl); (case c2 => exact rfl); (case c3 => exact rfl); (case c4 => exact rfl); k_whole)
    intro g₁ L₁ h₁ FG₁ F₁ N₁ B₁ X₁ T₁ D₁
    (try dsimp only)
    (try k_fold)
    k_steps
    exact hret _ _ _ _ (by k_asm) (by allgen_close_more) ⟨_, rfl, rfl⟩
  case lx => intro hk; simpa only using hk (0 : Nat)
  case le => eq_refl
end
section
theorem refused5_call {w : World} {N : Led} {x r l : Addr} {q n : Int} {ns : List Int} (hR : Ring w N r q n) (hP : Poly w N x r l ns) (hlen : (ns.length : Int) = n) (hn1 : 1 ≤ n) (hn : n ≤ 4) (hq : 2 ≤ q) (hq2 : q < 2 ^ 33) {v : Int} {tk tv : Tok} (hv1 : -(2 ^ 160) < v) (hv2 : v < 2 ^ 160) :
   CtrT w 28 286 [.int 5 tk, .ref r, .ref x, .int v tv] N (fun u N' => ∃ t, u = .int 3 t ∧ N' = N) := by
  refine' lite ?lw ?lx ?le
  case lw =>
    unfold CtrT
    k_fill
    intro p loose mean mg mb dp un gd cn cs a ccd cl A₀ h₀ L m s R B F X N₀ T hk hdp hun hret
    obtain ⟨dr, k3, k4, tq, tn, e3, hr, hdr⟩ := hR
    obtain ⟨⟨vs, e1, hl, hI⟩, dx, k1, k2, e2, hx, hdx⟩ := hP
    k_dflt (refine' code_defX0 ?k1 ?k2 ?k3 ?k4 ?k5 ?kA ?kF ?kK ?k6 ?k7 ?k8 ?k9 ?kB ?_ ?c2 ?c3 ?c4 ?c5; (case kA => exact rfl); (case kF => exact rfl); (case kK => assumption); (case k1 => k_asm); (case k2 => k_asm); (case k3 => k_asm); (case k4 => k_asm); (case k5 => k_asm); (case k6 => k_is); (case k7 => k_is); (case k8 => k_room); (case k9 => exact BindsTo.of_eq rfl); (case c5 => decide); (case kB => exact locs rfl); (case c2 => exact rfl); (case c3 => exact rfl); (case c4 => exact rfl); k_whole)
    intro g₁ L₁ h₁ FG₁ F₁ N₁ B₁ X₁ T₁ D₁
    (try dsimp only)
    (try k_fold)
    k_steps
    exact hret _ _ _ _ (by k_asm) (by allgen_close_more) ⟨_, rfl, rfl⟩
  case lx => intro hk; simpa only using hk (0 : Nat)
  case le => eq_refl
end
section
theorem refused6_call {w : World} {N : Led} {x r l : Addr} {q n : Int} {ns : List Int} (hR : Ring w N r q n) (hP : Poly w N x r l ns) (hlen : (ns.length : Int) = n) (hn1 : 1 ≤ n) (hn : n ≤ 4) (hq : 2 ≤ q) (hq2 : q < 2 ^ 33) {v : Int} {tk tv : Tok} (hv1 : -(2 ^ 160) < v) (hv2 : v < 2 ^ 160) :
   CtrT w 28 286 [.int 6 tk, .ref r, .ref x, .int v tv] N (fun u N' => ∃ t, u = .int 3 t ∧ N' = N) := by
  refine' lite ?lw ?lx ?le
  case lw =>
    unfold CtrT
    k_fill
    intro p loose mean mg mb dp un gd cn cs a ccd cl A₀ h₀ L m s R B F X N₀ T hk hdp hun hret
    obtain ⟨dr, k3, k4, tq, tn, e3, hr, hdr⟩ := hR
    obtain ⟨⟨vs, e1, hl, hI⟩, dx, k1, k2, e2, hx, hdx⟩ := hP
    k_dflt (refine' code_defX0 ?k1 ?k2 ?k3 ?k4 ?k5 ?kA ?kF ?kK ?k6 ?k7 ?k8 ?k9 ?kB ?_ ?c2 ?c3 ?c4 ?c5; (case kA => exact rfl); (case kF => exact rfl); (case kK => assumption); (case k1 => k_asm); (case k2 => k_asm); (case k3 => k_asm); (case k4 => k_asm); (case k5 => k_asm); (case k6 => k_is); (case k7 => k_is); (case k8 => k_room); (case k9 => exact BindsTo.of_eq rfl); (case c5 => decide); (case kB => exact locs rfl); (case c2 => exact rfl); (case c3 => exact rfl); (case c4 => exact rfl); k_whole)
    intro g₁ L₁ h₁ FG₁ F₁ N₁ B₁ X₁ T₁ D₁
    (try dsimp only)
    (try k_fold)
    k_steps
    exact hret _ _ _ _ (by k_asm) (by allgen_close_more) ⟨_, rfl, rfl⟩
  case lx => intro hk; simpa only using hk (0 : Nat)
  case le => eq_refl
end
end
section
local macro_rules | `(tactic| k_mem) => `(tactic| ((fail_if_success (with_reducible refine' List.Mem.tail _ ?_)); first | with_reducible assumption | assumption | (refine sub_mem (by assumption) ?_; k_mem)))
local macro_rules | `(tactic| news_mem) => `(tactic| k_mem)
local macro_rules | `(tactic| k_room) => `(tactic| ((simp only [depth_under_make, depth_under_kw, depth_in1, depth_deeper, depth_caller, recursionLimit] at *); omega))
local macro_rules | `(tactic| k_units) => `(tactic| ((have hcL9 := cLine_is); (simp only [units_in1, units_deeper, Around.mark_units, units_caller, cLine] at *); omega))
local macro_rules | `(tactic| allgen_close2_more) => `(tactic| assumption)
local macro_rules | `(tactic| ktr_rel) => `(tactic| ((try simp only [List.length_append, List.length_cons, List.length_nil, List.length_map, List.length_set, List.length_zipWith, rangeKs_length]); first | assumption | omega))
local macro_rules | `(tactic| top_reprB) => `(tactic| first | exact List.forall_mem_nil _ | (refine List.forall_mem_cons.mpr ⟨by k_mem, ?_⟩; top_reprB) | (intro p hp; k_mem))
local macro_rules | `(tactic| k_ne) => `(tactic| (refine neN ?_; (try dsimp only); first | (with_reducible assumption) | exact Ne.symm (by with_reducible assumption) | exact off_ne (by with_reducible assumption) (by k_mem) | exact Ne.symm (off_ne (by with_reducible assumption) (by k_mem)) | omega))
local macro_rules | `(tactic| top_strB) => `(tactic| first | (first | assumption | exact allLt_of (by assumption) | exact And.right (by assumption) | exact And.right (And.right (by assumption)) | exact And.right (And.right (And.right (by assumption))) | exact And.right (And.right (And.right (And.right (by assumption)))) | exact And.right (And.right (And.right (And.right (And.right (by assumption))))) | exact And.right (And.right (And.right (And.right (And.right (And.right (by assumption)))))) | exact And.right (And.right (And.right (And.right (And.right (And.right (And.right (by assumption))))))) | exact And.right (And.right (And.right (And.right (And.right (And.right (And.right (And.right (by assumption)))))))) | exact And.right (And.right (And.right (And.right (And.right (And.right (And.right (And.right (And.right (by assumption))))))))) | exact And.right (And.right (And.right (And.right (And.right (And.right (And.right (And.right (And.right (And.right (by assumption)))))))))) | exact And.right (And.right (And.right (And.right (And.right (And.right (And.right (And.right (And.right (And.right (And.right (by assumption))))))))))) | exact And.right (And.right (And.right (And.right (And.right (And.right (And.right (And.right (And.right (And.right (And.right (And.right (by assumption)))))))))))) | exact And.right (And.right (And.right (And.right (And.right (And.right (And.right (And.right (And.right (And.right (And.right (And.right (And.right (by assumption))))))))))))) | exact And.right (And.right (And.right (And.right (And.right (And.right (And.right (And.right (And.right (And.right (And.right (And.right (And.right (And.right (by assumption)))))))))))))) | exact And.right (And.right (And.right (And.right (And.right (And.right (And.right (And.right (And.right (And.right (And.right (And.right (And.right (And.right (And.right (by assumption))))))))))))))) | exact And.right (And.right (And.right (And.right (And.right (And.right (And.right (And.right (And.right (And.right (And.right (And.right (And.right (And.right (And.right (And.right (by assumption)))))))))))))))) | exact And.right (And.right (And.right (And.right (And.right (And.right (And.right (And.right (And.right (And.right (And.right (And.right (And.right (And.right (And.right (And.right (And.right (by assumption))))))))))))))))) | exact And.right (And.right (And.right (And.right (And.right (And.right (And.right (And.right (And.right (And.right (And.right (And.right (And.right (And.right (And.right (And.right (And.right (And.right (by assumption)))))))))))))))))) | exact And.right (And.right (And.right (And.right (And.right (And.right (And.right (And.right (And.right (And.right (And.right (And.right (And.right (And.right (And.right (And.right (And.right (And.right (And.right (by assumption)))))))))))))))))))) | exact off_sub (by with_reducible assumption) (by top_reprB) | exact off_of_lt (by (first | assumption | exact allLt_of (by assumption) | exact And.right (by assumption) | exact And.right (And.right (by assumption)) | exact And.right (And.right (And.right (by assumption))) | exact And.right (And.right (And.right (And.right (by assumption)))) | exact And.right (And.right (And.right (And.right (And.right (by assumption))))) | exact And.right (And.right (And.right (And.right (And.right (And.right (by assumption)))))) | exact And.right (And.right (And.right (And.right (And.right (And.right (And.right (by assumption))))))) | exact And.right (And.right (And.right (And.right (And.right (And.right (And.right (And.right (by assumption)))))))) | exact And.right (And.right (And.right (And.right (And.right (And.right (And.right (And.right (And.right (by assumption))))))))) | exact And.right (And.right (And.right (And.right (And.right (And.right (And.right (And.right (And.right (And.right (by assumption)))))))))) | exact And.right (And.right (And.right (And.right (And.right (And.right (And.right (And.right (And.right (And.right (And.right (by assumption))))))))))) | exact And.right (And.right (And.right (And.right (And.right (And.right (And.right (And.right (And.right (And.right (And.right (And.right (by assumption)))))))))))) | exact And.right (And.right (And.right (And.right (And.right (And.right (And.right (And.right (And.right (And.right (And.right (And.right (And.right (by assumption))))))))))))) | exact And.right (And.right (And.right (And.right (And.right (And.right (And.right (And.right (And.right (And.right (And.right (And.right (And.right (And.right (by assumption)))))))))))))) | exact And.right (And.right (And.right (And.right (And.right (And.right (And.right (And.right (And.right (And.right (And.right (And.right (And.right (And.right (And.right (by assumption))))))))))))))) | exact And.right (And.right (And.right (And.right (And.right (And.right (And.right (And.right (And.right (And.right (And.right (And.right (And.right (And.right (And.right (And.right (by assumption)))))))))))))))) | exact And.right (And.right (And.right (And.right (And.right (And.right (And.right (And.right (And.right (And.right (And.right (And.right (And.right (And.right (And.right (And.right (And.right (by assumption))))))))))))))))) | exact And.right (And.right (And.right (And.right (And.right (And.right (And.right (And.right (And.right (And.right (And.right (And.right (And.right (And.right (And.right (And.right (And.right (And.right (by assumption)))))))))))))))))) | exact And.right (And.right (And.right (And.right (And.right (And.right (And.right (And.right (And.right (And.right (And.right (And.right (And.right (And.right (And.right (And.right (And.right (And.right (And.right (by assumption))))))))))))))))))))) | exact off_of_lt2 (by (first | assumption | exact allLt_of (by assumption) | exact And.right (by assumption) | exact And.right (And.right (by assumption)) | exact And.right (And.right (And.right (by assumption))) | exact And.right (And.right (And.right (And.right (by assumption)))) | exact And.right (And.right (And.right (And.right (And.right (by assumption))))) | exact And.right (And.right (And.right (And.right (And.right (And.right (by assumption)))))) | exact And.right (And.right (And.right (And.right (And.right (And.right (And.right (by assumption))))))) | exact And.right (And.right (And.right (And.right (And.right (And.right (And.right (And.right (by assumption)))))))) | exact And.right (And.right (And.right (And.right (And.right (And.right (And.right (And.right (And.right (by assumption))))))))) | exact And.right (And.right (And.right (And.right (And.right (And.right (And.right (And.right (And.right (And.right (by assumption)))))))))) | exact And.right (And.right (And.right (And.right (And.right (And.right (And.right (And.right (And.right (And.right (And.right (by assumption))))))))))) | exact And.right (And.right (And.right (And.right (And.right (And.right (And.right (And.right (And.right (And.right (And.right (And.right (by assumption)))))))))))) | exact And.right (And.right (And.right (And.right (And.right (And.right (And.right (And.right (And.right (And.right (And.right (And.right (And.right (by assumption))))))))))))) | exact And.right (And.right (And.right (And.right (And.right (And.right (And.right (And.right (And.right (And.right (And.right (And.right (And.right (And.right (by assumption)))))))))))))) | exact And.right (And.right (And.right (And.right (And.right (And.right (And.right (And.right (And.right (And.right (And.right (And.right (And.right (And.right (And.right (by assumption))))))))))))))) | exact And.right (And.right (And.right (And.right (And.right (And.right (And.right (And.right (And.right (And.right (And.right (And.right (And.right (And.right (And.right (And.right (by assumption)))))))))))))))) | exact And.right (And.right (And.right (And.right (And.right (And.right (And.right (And.right (And.right (And.right (And.right (And.right (And.right (And.right (And.right (And.right (And.right (by assumption))))))))))))))))) | exact And.right (And.right (And.right (And.right (And.right (And.right (And.right (And.right (And.right (And.right (And.right (And.right (And.right (And.right (And.right (And.right (And.right (And.right (by assumption)))))))))))))))))) | exact And.right (And.right (And.right (And.right (And.right (And.right (And.right (And.right (And.right (And.right (And.right (And.right (And.right (And.right (And.right (And.right (And.right (And.right (And.right (by assumption))))))))))))))))))))) (by omega) | exact off_of_base (by assumption) (by omega))
local macro_rules | `(tactic| k_all) => `(tactic| (refine off_all ?_; top_strB))
local macro_rules | `(tactic| walk_at "getMethod ref") => `(tactic| (k_here; k_dflt (refine' kmu_own ?k1 ?k2 ?k3 ?k4 ?k5 ?_; (case k1 => k_asm); (case k2 => k_asm); (case k3 => k_inst); (case k4 => k_is); (case k5 => k_is); k_whole)))
local macro_rules | `(tactic| walk_at "binaryOp Mult int int") => `(tactic| (k_here; with_reducible first | refine PyProof.Rows.mul_int ?_ (mulok_getD (by assumption) (by assumption) (by assumption)) | refine PyProof.Rows.mul_int ?_ (mulok_mem (by assumption) (by assumption) (by assumption))))
local macro_rules | `(tactic| top_name) => `(tactic| (law_purse 40000 => (law_clear; (repeat (with_reducible rename (@Ne Nat _ _) ∧ _ => hne9; clear hne9)); (repeat (with_reducible rename (@LT.lt Nat _ _ _) ∧ _ => hne9; clear hne9)); (repeat (with_reducible rename (@Ne Nat _ _) => hne9; clear hne9)); (try simp only [List.length_append, List.length_cons, List.length_nil, List.length_map, List.length_take, List.length_set, List.length_zipWith, rangeKs_length]); omega)))
local macro_rules | `(tactic| walk_at "subscriptTail Name Name ref int") => `(tactic| ((k_here; (with_reducible show wpAny _ _ (subscriptTail _ _ (Value.ref _) (Value.int _ _)) _ _ _); (with_unfolding_all refine' item_list_ints ?k1 ?k2 ?k3 ?k4 ?k5 ?_; (case k1 => exact News.isList (by k_asm) (by k_mem)); (case k2 => l_ints); (case k3 => first | assumption | top_name); (case k4 => first | assumption | exact idx_hi (by assumption) (by first | assumption | exact Nat.le_refl _) | top_name); (case k5 => first | assumption | exact idx_fit (by assumption) (by assumption) | top_name); k_whole); intro _)))
local macro_rules | `(tactic| walk_at "subscriptTail Name BinOp ref int") => `(tactic| ((k_here; (with_reducible show wpAny _ _ (subscriptTail _ _ (Value.ref _) (Value.int _ _)) _ _ _); (with_unfolding_all refine' item_list_ints ?k1 ?k2 ?k3 ?k4 ?k5 ?_; (case k1 => exact News.isList (by k_asm) (by k_mem)); (case k2 => l_ints); (case k3 => first | assumption | top_name); (case k4 => first | assumption | exact idx_hi (by assumption) (by first | assumption | exact Nat.le_refl _) | top_name); (case k5 => first | assumption | exact idx_fit (by assumption) (by assumption) | top_name); k_whole); intro _)))
local macro_rules | `(tactic| walk_at "call builtin:list.copy") => `(tactic| (k_here; (with_reducible show wpAny _ _ (call (Value.builtin _) [Value.ref _]) _ _ _); k_dflt (refine' copyK ?k1 ?k2 ?k3 ?k4 ?_; (case k1 => k_asm); (case k2 => k_asm); (case k3 => exact News.isList (by k_asm) (by k_mem)); (case k4 => exact ints_size (by l_ints) (by top_name)); k_whole); intro D' h' F' N' l1; (try k_lt l1); (try k_sweep)))
local macro_rules | `(tactic| walk_at "setItem ref int") => `(tactic| (k_here; (with_reducible show wpAny _ _ (setItem (Value.ref _) (Value.int _ _) (Value.int _ _)) _ _ _); k_dflt (refine' ksa_set ?k1 ?k2 ?k3 ?k4 ?k5 ?k6 ?k7 ?_; (case k1 => k_asm); (case k2 => k_asm); (case k3 => k_upd); (case k4 => l_ints); (case k5 => first | assumption | top_name); (case k6 => first | assumption | top_name); (case k7 => first | assumption | top_name); k_whole); intro h' F' N' hi' hl' hs'; clear hs'; (try k_sweep)))
local macro_rules | `(tactic| walk_at "callWith ref") => `(tactic| (k_here; kco_here; k_dflt (refine' kco_callWith ?k1 ?k2 ?k3 ?k4 ?_; (case k1 => k_in); (case k2 => k_inst); (case k3 => rfl); (case k4 => k_is); k_whole)))
local macro_rules | `(tactic| allgen_close_more) => `(tactic| first | k_asm | (refine' cb_drop ?cbN ?cbS; (case cbN => assumption); (case cbS => top_reprB)))
local macro_rules | `(tactic| walk_at "exec For Name Call cons nil") => `(tactic| (k_here; k_dflt (refine For_turns (by k_asm) ?_ (by intro _; with_unfolding_all rfl) (by passes_own)); (try k_fold)))
local macro_rules | `(tactic| walk_at "getItem ref int") => `(tactic| (k_here; (with_reducible show wpAny _ _ (getItem (Value.ref _) (Value.int _ _)) _ _ _); k_dflt (refine' ksa_get ?k1 ?k2 ?k3 ?k4 ?k5 ?k6 ?_; (case k1 => k_asm); (case k2 => k_mem); (case k3 => l_ints); (case k4 => first | assumption | top_name); (case k5 => first | assumption | top_name); (case k6 => first | assumption | top_name); k_whole); intro _))
local macro_rules | `(tactic| walk_at "CompSrc") => `(tactic| (k_here; k_dflt (refine' LCg.CompSrc.ledger ?s1 ?s2 ?s3 ?s4 ?s5 ?_; (case s1 => rfl); (case s2 => k_asm); (case s3 => k_asm); (case s4 => k_mem); (case s5 => exact ints_sizeA (by l_ints) (by first | assumption | top_name)); intro g'; (refine' kcf_list _ (by l_ints) (fun k' t' I' oI' C' oC' D' m' ys' h' tk' E' hk' hC' hx' F' N' off' ne' hMark' => ?_) ?_); (all_goals (try (simp only [LCg.Off3, and_true] at off'))); kcf_last)))
local macro_rules | `(tactic| allgen_close2_more) => `(tactic| first | assumption | exact school_bnd (by assumption) _ _ | exact one_bnd (by assumption) | exact times_bnd (by assumption) _ _ | exact map_bnd (by assumption) _ _ | exact zip_bnd (by assumption) _ _ _ | exact set_bnd (by assumption) (by allgen_close2_more))
local macro_rules | `(tactic| ktr_rel) => `(tactic| ((simp only [List.length_append, List.length_cons, List.length_nil, List.length_map, List.length_set, List.length_zipWith, rangeKs_length, schoolS_length, timesS_length]); omega))
local macro_rules | `(tactic| walk_at "binaryOp Add int ref") => `(tactic| (k_here; (with_reducible show wpAny _ _ (binaryOp Operator.Add (Value.int _ _) (Value.ref _)) _ _ _); k_dflt (refine' rbin_add ?F ?X ?I ?hC ?hS ?hR ?hF ?h1 ?h2 ?hU ?_; (case F => k_asm); (case X => k_asm); (case I => k_inst); (case hC => k_is); (case hS => k_is); (case hR => k_is); (case hF => k_is); (case h1 => k_is); (case h2 => k_is); (case hU => k_is); k_whole)))
local macro_rules | `(tactic| walk_at "binaryOp Sub int ref") => `(tactic| (k_here; (with_reducible show wpAny _ _ (binaryOp Operator.Sub (Value.int _ _) (Value.ref _)) _ _ _); k_dflt (refine' rbin_sub ?F ?X ?I ?hC ?hS ?hR ?hF ?h1 ?h2 ?hU ?_; (case F => k_asm); (case X => k_asm); (case I => k_inst); (case hC => k_is); (case hS => k_is); (case hR => k_is); (case hF => k_is); (case h1 => k_is); (case h2 => k_is); (case hU => k_is); k_whole)))
local macro_rules | `(tactic| walk_at "binaryOp Mult int ref") => `(tactic| (k_here; (with_reducible show wpAny _ _ (binaryOp Operator.Mult (Value.int _ _) (Value.ref _)) _ _ _); k_dflt (refine' rbin_mul ?F ?X ?I ?hC ?hS ?hR ?hF ?h1 ?h2 ?hU ?_; (case F => k_asm); (case X => k_asm); (case I => k_inst); (case hC => k_is); (case hS => k_is); (case hR => k_is); (case hF => k_is); (case h1 => k_is); (case h2 => k_is); (case hU => k_is); k_whole)))
local macro_rules | `(tactic| walk_at "binaryOp Mult int int") => `(tactic| (k_here; with_reducible refine PyProof.Rows.mul_int ?_ (mulok_mem_r (by assumption) (by assumption) (by assumption))))
local macro_rules | `(tactic| walk_at "binaryOp Sub ref") => `(tactic| (k_here; (with_reducible show wpAny _ _ (binaryOp Operator.Sub (Value.ref _) (Value.ref _)) _ _ _); k_dflt (refine' ksp_binL ?F ?X ?N ?I ?hl ?hC ?hS ?hF ?hR ?hP ?h1 ?h2 ?hU ?_; (case F => k_asm); (case X => k_asm); (case N => k_asm); (case I => k_inst); (case hl => k_mem); (case hS => k_is); (case hF => k_is); (case hC => k_is); (case hR => k_is); (case hP => first | exact .inl rfl | exact .inr ⟨_, rfl⟩); (case h1 => k_is); (case h2 => k_is); (case hU => k_is); k_whole)))
local macro_rules | `(tactic| walk_at "leaving ref") => `(tactic| (k_here; (with_reducible rename KtsDicts _ _ => kdX); (with_reducible show wpAny _ _ (leaving (envOfC _ _ _ _ _) _) _ _ _); first
  | (refine' leave_raiseX ?k1 ?k0 ?k2 ?k3 ?e1 ?e2 ?_; (case k0 => first | assumption | exact Heap.MadeExc.of (by assumption)); (case k2 => assumption); (case k1 => assumption); (case k3 => k_asm); (case e1 => exact rfl); (case e2 => exact rfl); k_whole; intro h' t' S' R' U'; (try dsimp only at S' R' U' ⊢))
  | (refine' leave_onX ?k1 ?k2 ?k3 ?k4 ?e1 ?_; (case k3 => assumption); (case k2 => assumption); (case k1 => assumption); (case k4 => assumption); (case e1 => exact rfl); k_whole; intro h' S' R' U'; (try dsimp only at S' R' U' ⊢))
  | (refine' leave_newX ?k1 ?k0 ?k2 ?k3 ?e1 ?e2 ?_; (case k0 => assumption); (case k2 => assumption); (case k1 => assumption); (case k3 => k_asm); (case e1 => exact rfl); (case e2 => exact rfl); k_whole; intro h' S' R' U'; (try dsimp only at S' R' U' ⊢))
  | (refine' leave_onNX ?k1 ?k2 ?k3 ?k4 ?e1 ?_; (case k3 => assumption); (case k2 => assumption); (case k1 => assumption); (case k4 => assumption); (case e1 => exact rfl); k_whole; intro h' S' R' U'; (try dsimp only at S' R' U' ⊢))))
local macro_rules | `(tactic| walk_at "exec Raise some none") => `(tactic| (k_here; (with_reducible show wpAny _ _ (exec (Stmt.Raise (some (Expr.Call (Expr.Name _ _) (_ :: _) [] _)) none _) _) _ _ _); refine Raise_new rfl ?_))
local macro_rules | `(tactic| walk_at "InitBack") => `(tactic| (dsimp only [InitBack]))
local macro_rules | `(tactic| k_enter) => `(tactic| ((with_reducible show codeAny _ _ (Code.call (Value.ref 56) ⟨[Value.ref _, Value.ref _], _⟩) _ _); k_dflt (refine' Ctr.use (ring_call ?c0 ?c1 ?c2 ?c3) ?k1 ?k2 ?k3 ?k4 ?k5 ?kK ?kd ?ku ?_; (case k1 => k_asm); (case k2 => k_asm); (case k3 => k_asm); (case k4 => k_asm); (case k5 => k_asm); (case kK => first | exact rfl | assumption); (case c0 => exact ⟨_, _, _, _, _, _, by k_mem, by k_mem⟩); (case c1 => exact ⟨_, _, by k_mem, by l_ints⟩); (case c2 => ktr_rel); (case c3 => ktr_rel); (case kd => k_room); (case ku => k_units); k_whole; intro v' h' tk' nw' F' N' cP'; obtain ⟨x', d', t1', t2', hv', hn', o1', o2', n1'⟩ := cP'; subst hv'; subst hn'; (try dsimp only); kts_tail; (try k_sweep))))
local macro_rules | `(tactic| walk_at "exec Assign cons ListComp") => `(tactic| (k_here; (with_reducible show wpAny _ _ (exec (Stmt.Assign [Expr.Name _ _] (Expr.ListComp _ [⟨Expr.Tuple _ _ _, _, _, _⟩] _ _) _) _) _ _ _); k_dflt (refine' zip_assign ?z1 ?z2 ?z3 ?z4 ?z5 ?_; (case z1 => with_unfolding_all rfl); (case z2 => with_unfolding_all rfl); (case z3 => rfl); (case z4 => decide); (case z5 => intro _; with_unfolding_all rfl))))
local macro_rules | `(tactic| walk_at "eval ListComp") => `(tactic| (k_here; (with_reducible show wpAny _ _ (eval (Expr.ListComp _ [⟨Expr.Tuple _ _ _, _, _, _⟩] _ _) _) _ _ _); k_dflt (refine' zip_eval ?z2 ?z3 ?z4 ?z5 ?_; (case z2 => with_unfolding_all rfl); (case z3 => rfl); (case z4 => decide); (case z5 => intro _; with_unfolding_all rfl))))
section
theorem ctr_rows {w : World} {N : Led} {d : Nat} {f r : Addr} {as : List Value} {cs ds es fs : List Int} (C : Ctr w d f as N (PairPost w N r cs ds)) (h1 : cs = es) (h2 : ds = fs) : Ctr w d f as N (PairPost w N r es fs) := by
  subst h1; subst h2; exact C
def pairS (k q : Int) (f g : List Int) : List Int := if k = 1 then List.zipWith (fun a b => Int.fmod (a + b) q) f g else if k = 2 then List.zipWith (fun a b => Int.fmod (a - b) q) f g else timesS q f g
theorem pairS_len {k q n : Int} {f g : List Int} (hf : (f.length : Int) = n) (hg : (g.length : Int) = n) : ((pairS k q f g).length : Int) = n := by
  unfold pairS
  split
  · rw [List.length_zipWith]; omega
  · split
    · rw [List.length_zipWith]; omega
    · rw [timesS_length]; exact hf
theorem pairS_bnd {k q : Int} {f g : List Int} (hq : 2 ≤ q) : ∀ c ∈ pairS k q f g, 0 ≤ c ∧ c < q := by
  unfold pairS
  split
  · exact zip_bnd hq _ _ _
  · split
    · exact zip_bnd hq _ _ _
    · exact times_bnd hq _ _
theorem pair_call {w : World} {N : Led} {x r l : Addr} {q n : Int} {ns : List Int} (hR : Ring w N r q n) (hP : Poly w N x r l ns) (hlen : (ns.length : Int) = n) (hn1 : 1 ≤ n) (hn : n ≤ 4) (hq : 2 ≤ q) (hq2 : q < 2 ^ 33) {y l2 : Addr} {ms : List Int} (hP2 : Poly w N y r l2 ms) (hlen2 : (ms.length : Int) = n) {f g : Addr} (hf : Ints N f ns) (hg : Ints N g ms) (hb : ∀ c ∈ ns, 0 ≤ c ∧ c < q) (hb2 : ∀ c ∈ ms, 0 ≤ c ∧ c < q) {k : Int} {tk tq' : Tok} (hk1 : 1 ≤ k) (hk3 : k ≤ 3) :
   Ctr w 24 255 [.int k tk, .ref x, .ref y, .ref f, .ref g, .int q tq'] N (PairPost w N r (pairS k q ns ms) (pairS k q ns ms)) := by
  obtain rfl | rfl | rfl : k = 1 ∨ k = 2 ∨ k = 3 := by omega
  · exact pair1_call hR hP hlen hn1 hn hq hq2 hP2 hlen2 hf hg hlen hlen2 hb hb2 hb hb2
  · exact pair2_call hR hP hlen hn1 hn hq hq2 hP2 hlen2 hf hg hlen hlen2 hb hb2 hb hb2
  · exact ctr_rows (pair3_call hR hP hlen hn1 hn hq hq2 hP2 hlen2 hf hg hlen hlen2 hb hb2 hb hb2) (school_times hn1 hn hlen hlen2) rfl
theorem onward_call {w : World} {N : Led} {x r l : Addr} {q n : Int} {ns : List Int} (hR : Ring w N r q n) (hP : Poly w N x r l ns) (hlen : (ns.length : Int) = n) (hn1 : 1 ≤ n) (hn : n ≤ 4) (hq : 2 ≤ q) (hq2 : q < 2 ^ 33) {y l2 : Addr} {ms : List Int} (hP2 : Poly w N y r l2 ms) (hlen2 : (ms.length : Int) = n) {f g : Addr} (hf : Ints N f ns) (hg : Ints N g ms) (hb : ∀ c ∈ ns, 0 ≤ c ∧ c < q) (hb2 : ∀ c ∈ ms, 0 ≤ c ∧ c < q) {k : Int} {tk tq' : Tok} (hk1 : 0 ≤ k) (hk3 : k < 3) :
   Ctr w 28 260 [.int k tk, .ref x, .ref y, .ref f, .ref g, .int q tq'] N (PairPost w N r (pairS (k + 1) q ns ms) (pairS (k + 1) q ns ms)) := by
  obtain rfl | rfl | rfl : k = 0 ∨ k = 1 ∨ k = 2 := by omega
  · exact onward0_call hR hP hlen hn1 hn hq hq2 hP2 hlen2 hf hg hlen hlen2 hb hb2 hb hb2
  · exact onward1_call hR hP hlen hn1 hn hq hq2 hP2 hlen2 hf hg hlen hlen2 hb hb2 hb hb2
  · exact ctr_rows (onward2_call hR hP hlen hn1 hn hq hq2 hP2 hlen2 hf hg hlen hlen2 hb hb2 hb hb2) (school_times hn1 hn hlen hlen2) rfl
def mixedS (k : Int) (left : Bool) (q v : Int) (f : List Int) : List Int :=
  if k = 6 then [Int.fmod (f.getD (0 : Int).toNat 0 + v) q] ++ f.drop 1 else if k = 8 then f.map fun x => Int.fmod (v * x) q else
  if left then [Int.fmod (v - f.getD (0 : Int).toNat 0) q] ++ ((f.drop 1).map fun x => Int.fmod (-x) q) else [Int.fmod (f.getD (0 : Int).toNat 0 - v) q] ++ f.drop 1
theorem mixedS_len {k q v n : Int} {left : Bool} {f : List Int} (hf : (f.length : Int) = n) (hn1 : 1 ≤ n) : ((mixedS k left q v f).length : Int) = n := by
  unfold mixedS
  split
  · simp only [List.length_append, List.length_singleton, List.length_drop]; omega
  · split
    · rw [List.length_map]; exact hf
    · split
      · simp only [List.length_append, List.length_singleton, List.length_drop, List.length_map]; omega
      · simp only [List.length_append, List.length_singleton, List.length_drop]; omega
theorem app_bnd {q x : Int} {l : List Int} (hq : 2 ≤ q) (h : ∀ c ∈ l, 0 ≤ c ∧ c < q) : ∀ c ∈ [Int.fmod x q] ++ l, 0 ≤ c ∧ c < q := by
  intro c hc
  rcases List.mem_append.mp hc with e | e
  · rw [List.mem_singleton.mp e]; exact fmod_bnd _ hq
  · exact h c e
theorem mixedS_bnd {k q v : Int} {left : Bool} {f : List Int} (hq : 2 ≤ q) (h : ∀ c ∈ f, 0 ≤ c ∧ c < q) : ∀ c ∈ mixedS k left q v f, 0 ≤ c ∧ c < q := by
  have hd : ∀ c ∈ f.drop 1, 0 ≤ c ∧ c < q := fun c hc => h c (List.mem_of_mem_drop hc)
  unfold mixedS
  split
  · exact app_bnd hq hd
  · split
    · exact map_bnd hq _ fun x => v * x
    · split
      · exact app_bnd hq (map_bnd hq _ fun x => -x)
      · exact app_bnd hq hd
theorem mixed_call {w : World} {N : Led} {x r l : Addr} {q n : Int} {ns : List Int} (hR : Ring w N r q n) (hP : Poly w N x r l ns) (hlen : (ns.length : Int) = n) (hn1 : 1 ≤ n) (hn : n ≤ 4) (hq : 2 ≤ q) (hq2 : q < 2 ^ 33) {f : Addr} (hf : Ints N f ns) (hb : ∀ c ∈ ns, 0 ≤ c ∧ c < q) {k v : Int} {left : Bool} {tk tv tq' : Tok} (hk1 : 6 ≤ k) (hk3 : k ≤ 8) :
   Ctr w 28 265 [.int k tk, .bool left, .ref x, .ref f, .int v tv, .int q tq'] N (PairPost w N r (mixedS k left q v ns) (mixedS k left q v ns)) := by
  have hl : 1 ≤ ns.length := by omega
  obtain rfl | rfl | rfl : k = 6 ∨ k = 7 ∨ k = 8 := by omega
  · cases left
    · exact ctr_rows (mx6r_call hR hP hlen hn1 hn hq hq2 hf hlen hb hb) (set0_eq hl _) rfl
    · exact ctr_rows (mx6l_call hR hP hlen hn1 hn hq hq2 hf hlen hb hb) (set0_eq hl _) rfl
  · cases left
    · exact ctr_rows (mx7r_call hR hP hlen hn1 hn hq hq2 hf hlen hb hb) (set0_eq hl _) rfl
    · exact ctr_rows (mx7l_call hR hP hlen hn1 hn hq hq2 hf hlen hb hb) (set0_neg hl) rfl
  · cases left
    · exact ctr_rows (mx8r_call hR hP hlen hn1 hn hq hq2 hf hlen hb hb) (mul_comm_map _ _ _) rfl
    · exact ctr_rows (mx8l_call hR hP hlen hn1 hn hq hq2 hf hlen hb hb) (mul_comm_map _ _ _) rfl
def wantS (k : Int) : Int := ([1, 2, 1, 2, 3, 3, 3] : List Int).getD k.toNat 0
theorem refused_call {w : World} {N : Led} {x r l : Addr} {q n : Int} {ns : List Int} (hR : Ring w N r q n) (hP : Poly w N x r l ns) (hlen : (ns.length : Int) = n) (hn1 : 1 ≤ n) (hn : n ≤ 4) (hq : 2 ≤ q) (hq2 : q < 2 ^ 33) {k v : Int} {tk tv : Tok} (hv1 : -(2 ^ 160) < v) (hv2 : v < 2 ^ 160) (hk1 : 0 ≤ k) (hk3 : k < 7) :
   CtrT w 28 286 [.int k tk, .ref r, .ref x, .int v tv] N (fun u N' => ∃ t, u = .int (wantS k) t ∧ N' = N) := by
  refine' lite ?lw ?lx ?le
  case lw =>
    obtain rfl | rfl | rfl | rfl | rfl | rfl | rfl : k = 0 ∨ k = 1 ∨ k = 2 ∨ k = 3 ∨ k = 4 ∨ k = 5 ∨ k = 6 := by omega
    · exact refused0_call hR hP hlen hn1 hn hq hq2 hv1 hv2
    · exact refused1_call hR hP hlen hn1 hn hq hq2 hv1 hv2
    · exact refused2_call hR hP hlen hn1 hn hq hq2 hv1 hv2
    · exact refused3_call hR hP hlen hn1 hn hq hq2 hv1 hv2
    · exact refused4_call hR hP hlen hn1 hn hq hq2 hv1 hv2
    · exact refused5_call hR hP hlen hn1 hn hq hq2 hv1 hv2
    · exact refused6_call hR hP hlen hn1 hn hq hq2 hv1 hv2
  case lx => intro hk; simpa only using hk (0 : Nat)
  case le => eq_refl
end
end
section
local macro_rules | `(tactic| k_mem) => `(tactic| ((fail_if_success (with_reducible refine' List.Mem.tail _ ?_)); first | with_reducible assumption | assumption | (refine sub_mem (by assumption) ?_; k_mem)))
local macro_rules | `(tactic| news_mem) => `(tactic| k_mem)
local macro_rules | `(tactic| k_room) => `(tactic| ((simp only [depth_under_make, depth_under_kw, depth_in1, depth_deeper, depth_caller, recursionLimit] at *); omega))
local macro_rules | `(tactic| k_units) => `(tactic| ((have hcL9 := cLine_is); (simp only [units_in1, units_deeper, Around.mark_units, units_caller, cLine] at *); omega))
local macro_rules | `(tactic| allgen_close2_more) => `(tactic| assumption)
local macro_rules | `(tactic| ktr_rel) => `(tactic| ((try simp only [List.length_append, List.length_cons, List.length_nil, List.length_map, List.length_set, List.length_zipWith, rangeKs_length]); first | assumption | omega))
local macro_rules | `(tactic| top_reprB) => `(tactic| first | exact List.forall_mem_nil _ | (refine List.forall_mem_cons.mpr ⟨by k_mem, ?_⟩; top_reprB) | (intro p hp; k_mem))
local macro_rules | `(tactic| k_ne) => `(tactic| (refine neN ?_; (try dsimp only); first | (with_reducible assumption) | exact Ne.symm (by with_reducible assumption) | exact off_ne (by with_reducible assumption) (by k_mem) | exact Ne.symm (off_ne (by with_reducible assumption) (by k_mem)) | omega))
local macro_rules | `(tactic| top_strB) => `(tactic| first | (first | assumption | exact allLt_of (by assumption) | exact And.right (by assumption) | exact And.right (And.right (by assumption)) | exact And.right (And.right (And.right (by assumption))) | exact And.right (And.right (And.right (And.right (by assumption)))) | exact And.right (And.right (And.right (And.right (And.right (by assumption))))) | exact And.right (And.right (And.right (And.right (And.right (And.right (by assumption)))))) | exact And.right (And.right (And.right (And.right (And.right (And.right (And.right (by assumption))))))) | exact And.right (And.right (And.right (And.right (And.right (And.right (And.right (And.right (by assumption)))))))) | exact And.right (And.right (And.right (And.right (And.right (And.right (And.right (And.right (And.right (by assumption))))))))) | exact And.right (And.right (And.right (And.right (And.right (And.right (And.right (And.right (And.right (And.right (by assumption)))))))))) | exact And.right (And.right (And.right (And.right (And.right (And.right (And.right (And.right (And.right (And.right (And.right (by assumption))))))))))) | exact And.right (And.right (And.right (And.right (And.right (And.right (And.right (And.right (And.right (And.right (And.right (And.right (by assumption)))))))))))) | exact And.right (And.right (And.right (And.right (And.right (And.right (And.right (And.right (And.right (And.right (And.right (And.right (And.right (by assumption))))))))))))) | exact And.right (And.right (And.right (And.right (And.right (And.right (And.right (And.right (And.right (And.right (And.right (And.right (And.right (And.right (by assumption)))))))))))))) | exact And.right (And.right (And.right (And.right (And.right (And.right (And.right (And.right (And.right (And.right (And.right (And.right (And.right (And.right (And.right (by assumption))))))))))))))) | exact And.right (And.right (And.right (And.right (And.right (And.right (And.right (And.right (And.right (And.right (And.right (And.right (And.right (And.right (And.right (And.right (by assumption)))))))))))))))) | exact And.right (And.right (And.right (And.right (And.right (And.right (And.right (And.right (And.right (And.right (And.right (And.right (And.right (And.right (And.right (And.right (And.right (by assumption))))))))))))))))) | exact And.right (And.right (And.right (And.right (And.right (And.right (And.right (And.right (And.right (And.right (And.right (And.right (And.right (And.right (And.right (And.right (And.right (And.right (by assumption)))))))))))))))))) | exact And.right (And.right (And.right (And.right (And.right (And.right (And.right (And.right (And.right (And.right (And.right (And.right (And.right (And.right (And.right (And.right (And.right (And.right (And.right (by assumption)))))))))))))))))))) | exact off_sub (by with_reducible assumption) (by top_reprB) | exact off_of_lt (by (first | assumption | exact allLt_of (by assumption) | exact And.right (by assumption) | exact And.right (And.right (by assumption)) | exact And.right (And.right (And.right (by assumption))) | exact And.right (And.right (And.right (And.right (by assumption)))) | exact And.right (And.right (And.right (And.right (And.right (by assumption))))) | exact And.right (And.right (And.right (And.right (And.right (And.right (by assumption)))))) | exact And.right (And.right (And.right (And.right (And.right (And.right (And.right (by assumption))))))) | exact And.right (And.right (And.right (And.right (And.right (And.right (And.right (And.right (by assumption)))))))) | exact And.right (And.right (And.right (And.right (And.right (And.right (And.right (And.right (And.right (by assumption))))))))) | exact And.right (And.right (And.right (And.right (And.right (And.right (And.right (And.right (And.right (And.right (by assumption)))))))))) | exact And.right (And.right (And.right (And.right (And.right (And.right (And.right (And.right (And.right (And.right (And.right (by assumption))))))))))) | exact And.right (And.right (And.right (And.right (And.right (And.right (And.right (And.right (And.right (And.right (And.right (And.right (by assumption)))))))))))) | exact And.right (And.right (And.right (And.right (And.right (And.right (And.right (And.right (And.right (And.right (And.right (And.right (And.right (by assumption))))))))))))) | exact And.right (And.right (And.right (And.right (And.right (And.right (And.right (And.right (And.right (And.right (And.right (And.right (And.right (And.right (by assumption)))))))))))))) | exact And.right (And.right (And.right (And.right (And.right (And.right (And.right (And.right (And.right (And.right (And.right (And.right (And.right (And.right (And.right (by assumption))))))))))))))) | exact And.right (And.right (And.right (And.right (And.right (And.right (And.right (And.right (And.right (And.right (And.right (And.right (And.right (And.right (And.right (And.right (by assumption)))))))))))))))) | exact And.right (And.right (And.right (And.right (And.right (And.right (And.right (And.right (And.right (And.right (And.right (And.right (And.right (And.right (And.right (And.right (And.right (by assumption))))))))))))))))) | exact And.right (And.right (And.right (And.right (And.right (And.right (And.right (And.right (And.right (And.right (And.right (And.right (And.right (And.right (And.right (And.right (And.right (And.right (by assumption)))))))))))))))))) | exact And.right (And.right (And.right (And.right (And.right (And.right (And.right (And.right (And.right (And.right (And.right (And.right (And.right (And.right (And.right (And.right (And.right (And.right (And.right (by assumption))))))))))))))))))))) | exact off_of_lt2 (by (first | assumption | exact allLt_of (by assumption) | exact And.right (by assumption) | exact And.right (And.right (by assumption)) | exact And.right (And.right (And.right (by assumption))) | exact And.right (And.right (And.right (And.right (by assumption)))) | exact And.right (And.right (And.right (And.right (And.right (by assumption))))) | exact And.right (And.right (And.right (And.right (And.right (And.right (by assumption)))))) | exact And.right (And.right (And.right (And.right (And.right (And.right (And.right (by assumption))))))) | exact And.right (And.right (And.right (And.right (And.right (And.right (And.right (And.right (by assumption)))))))) | exact And.right (And.right (And.right (And.right (And.right (And.right (And.right (And.right (And.right (by assumption))))))))) | exact And.right (And.right (And.right (And.right (And.right (And.right (And.right (And.right (And.right (And.right (by assumption)))))))))) | exact And.right (And.right (And.right (And.right (And.right (And.right (And.right (And.right (And.right (And.right (And.right (by assumption))))))))))) | exact And.right (And.right (And.right (And.right (And.right (And.right (And.right (And.right (And.right (And.right (And.right (And.right (by assumption)))))))))))) | exact And.right (And.right (And.right (And.right (And.right (And.right (And.right (And.right (And.right (And.right (And.right (And.right (And.right (by assumption))))))))))))) | exact And.right (And.right (And.right (And.right (And.right (And.right (And.right (And.right (And.right (And.right (And.right (And.right (And.right (And.right (by assumption)))))))))))))) | exact And.right (And.right (And.right (And.right (And.right (And.right (And.right (And.right (And.right (And.right (And.right (And.right (And.right (And.right (And.right (by assumption))))))))))))))) | exact And.right (And.right (And.right (And.right (And.right (And.right (And.right (And.right (And.right (And.right (And.right (And.right (And.right (And.right (And.right (And.right (by assumption)))))))))))))))) | exact And.right (And.right (And.right (And.right (And.right (And.right (And.right (And.right (And.right (And.right (And.right (And.right (And.right (And.right (And.right (And.right (And.right (by assumption))))))))))))))))) | exact And.right (And.right (And.right (And.right (And.right (And.right (And.right (And.right (And.right (And.right (And.right (And.right (And.right (And.right (And.right (And.right (And.right (And.right (by assumption)))))))))))))))))) | exact And.right (And.right (And.right (And.right (And.right (And.right (And.right (And.right (And.right (And.right (And.right (And.right (And.right (And.right (And.right (And.right (And.right (And.right (And.right (by assumption))))))))))))))))))))) (by omega) | exact off_of_base (by assumption) (by omega))
local macro_rules | `(tactic| k_all) => `(tactic| (refine off_all ?_; top_strB))
local macro_rules | `(tactic| walk_at "getMethod ref") => `(tactic| (k_here; k_dflt (refine' kmu_own ?k1 ?k2 ?k3 ?k4 ?k5 ?_; (case k1 => k_asm); (case k2 => k_asm); (case k3 => k_inst); (case k4 => k_is); (case k5 => k_is); k_whole)))
local macro_rules | `(tactic| walk_at "binaryOp Mult int int") => `(tactic| (k_here; with_reducible first | refine PyProof.Rows.mul_int ?_ (mulok_getD (by assumption) (by assumption) (by assumption)) | refine PyProof.Rows.mul_int ?_ (mulok_mem (by assumption) (by assumption) (by assumption))))
local macro_rules | `(tactic| top_name) => `(tactic| (law_purse 40000 => (law_clear; (repeat (with_reducible rename (@Ne Nat _ _) ∧ _ => hne9; clear hne9)); (repeat (with_reducible rename (@LT.lt Nat _ _ _) ∧ _ => hne9; clear hne9)); (repeat (with_reducible rename (@Ne Nat _ _) => hne9; clear hne9)); (try simp only [List.length_append, List.length_cons, List.length_nil, List.length_map, List.length_take, List.length_set, List.length_zipWith, rangeKs_length]); omega)))
local macro_rules | `(tactic| walk_at "subscriptTail Name Name ref int") => `(tactic| ((k_here; (with_reducible show wpAny _ _ (subscriptTail _ _ (Value.ref _) (Value.int _ _)) _ _ _); (with_unfolding_all refine' item_list_ints ?k1 ?k2 ?k3 ?k4 ?k5 ?_; (case k1 => exact News.isList (by k_asm) (by k_mem)); (case k2 => l_ints); (case k3 => first | assumption | top_name); (case k4 => first | assumption | exact idx_hi (by assumption) (by first | assumption | exact Nat.le_refl _) | top_name); (case k5 => first | assumption | exact idx_fit (by assumption) (by assumption) | top_name); k_whole); intro _)))
local macro_rules | `(tactic| walk_at "subscriptTail Name BinOp ref int") => `(tactic| ((k_here; (with_reducible show wpAny _ _ (subscriptTail _ _ (Value.ref _) (Value.int _ _)) _ _ _); (with_unfolding_all refine' item_list_ints ?k1 ?k2 ?k3 ?k4 ?k5 ?_; (case k1 => exact News.isList (by k_asm) (by k_mem)); (case k2 => l_ints); (case k3 => first | assumption | top_name); (case k4 => first | assumption | exact idx_hi (by assumption) (by first | assumption | exact Nat.le_refl _) | top_name); (case k5 => first | assumption | exact idx_fit (by assumption) (by assumption) | top_name); k_whole); intro _)))
local macro_rules | `(tactic| walk_at "call builtin:list.copy") => `(tactic| (k_here; (with_reducible show wpAny _ _ (call (Value.builtin _) [Value.ref _]) _ _ _); k_dflt (refine' copyK ?k1 ?k2 ?k3 ?k4 ?_; (case k1 => k_asm); (case k2 => k_asm); (case k3 => exact News.isList (by k_asm) (by k_mem)); (case k4 => exact ints_size (by l_ints) (by top_name)); k_whole); intro D' h' F' N' l1; (try k_lt l1); (try k_sweep)))
local macro_rules | `(tactic| walk_at "setItem ref int") => `(tactic| (k_here; (with_reducible show wpAny _ _ (setItem (Value.ref _) (Value.int _ _) (Value.int _ _)) _ _ _); k_dflt (refine' ksa_set ?k1 ?k2 ?k3 ?k4 ?k5 ?k6 ?k7 ?_; (case k1 => k_asm); (case k2 => k_asm); (case k3 => k_upd); (case k4 => l_ints); (case k5 => first | assumption | top_name); (case k6 => first | assumption | top_name); (case k7 => first | assumption | top_name); k_whole); intro h' F' N' hi' hl' hs'; clear hs'; (try k_sweep)))
local macro_rules | `(tactic| walk_at "callWith ref") => `(tactic| (k_here; kco_here; k_dflt (refine' kco_callWith ?k1 ?k2 ?k3 ?k4 ?_; (case k1 => k_in); (case k2 => k_inst); (case k3 => rfl); (case k4 => k_is); k_whole)))
local macro_rules | `(tactic| allgen_close_more) => `(tactic| first | k_asm | (refine' cb_drop ?cbN ?cbS; (case cbN => assumption); (case cbS => top_reprB)))
local macro_rules | `(tactic| walk_at "exec For Name Call cons nil") => `(tactic| (k_here; k_dflt (refine For_turns (by k_asm) ?_ (by intro _; with_unfolding_all rfl) (by passes_own)); (try k_fold)))
local macro_rules | `(tactic| walk_at "getItem ref int") => `(tactic| (k_here; (with_reducible show wpAny _ _ (getItem (Value.ref _) (Value.int _ _)) _ _ _); k_dflt (refine' ksa_get ?k1 ?k2 ?k3 ?k4 ?k5 ?k6 ?_; (case k1 => k_asm); (case k2 => k_mem); (case k3 => l_ints); (case k4 => first | assumption | top_name); (case k5 => first | assumption | top_name); (case k6 => first | assumption | top_name); k_whole); intro _))
local macro_rules | `(tactic| walk_at "CompSrc") => `(tactic| (k_here; k_dflt (refine' LCg.CompSrc.ledger ?s1 ?s2 ?s3 ?s4 ?s5 ?_; (case s1 => rfl); (case s2 => k_asm); (case s3 => k_asm); (case s4 => k_mem); (case s5 => exact ints_sizeA (by l_ints) (by first | assumption | top_name)); intro g'; (refine' kcf_list _ (by l_ints) (fun k' t' I' oI' C' oC' D' m' ys' h' tk' E' hk' hC' hx' F' N' off' ne' hMark' => ?_) ?_); (all_goals (try (simp only [LCg.Off3, and_true] at off'))); kcf_last)))
local macro_rules | `(tactic| allgen_close2_more) => `(tactic| first | assumption | exact school_bnd (by assumption) _ _ | exact one_bnd (by assumption) | exact times_bnd (by assumption) _ _ | exact map_bnd (by assumption) _ _ | exact zip_bnd (by assumption) _ _ _ | exact set_bnd (by assumption) (by allgen_close2_more))
local macro_rules | `(tactic| ktr_rel) => `(tactic| ((simp only [List.length_append, List.length_cons, List.length_nil, List.length_map, List.length_set, List.length_zipWith, rangeKs_length, schoolS_length, timesS_length]); omega))
local macro_rules | `(tactic| walk_at "call builtin:all") => `(tactic| (k_here; (with_reducible rename GenOnD _ _ _ _ _ _ _ _ _ => gxX'); k_dflt (refine' all_gx ?k1 ?k2 ?k3 gxX' ?k4 ?k5 ?_; (case k1 => k_asm); (case k2 => k_asm); (case k3 => k_asm); (case k4 => k_asm); (case k5 => k_asm); k_whole); clear gxX'; intro s' F' N' G' hos'))
local macro_rules | `(tactic| walk_at "binaryOp Add int ref") => `(tactic| (k_here; (with_reducible show wpAny _ _ (binaryOp Operator.Add (Value.int _ _) (Value.ref _)) _ _ _); k_dflt (refine' rbin_add ?F ?X ?I ?hC ?hS ?hR ?hF ?h1 ?h2 ?hU ?_; (case F => k_asm); (case X => k_asm); (case I => k_inst); (case hC => k_is); (case hS => k_is); (case hR => k_is); (case hF => k_is); (case h1 => k_is); (case h2 => k_is); (case hU => k_is); k_whole)))
local macro_rules | `(tactic| walk_at "binaryOp Sub int ref") => `(tactic| (k_here; (with_reducible show wpAny _ _ (binaryOp Operator.Sub (Value.int _ _) (Value.ref _)) _ _ _); k_dflt (refine' rbin_sub ?F ?X ?I ?hC ?hS ?hR ?hF ?h1 ?h2 ?hU ?_; (case F => k_asm); (case X => k_asm); (case I => k_inst); (case hC => k_is); (case hS => k_is); (case hR => k_is); (case hF => k_is); (case h1 => k_is); (case h2 => k_is); (case hU => k_is); k_whole)))
local macro_rules | `(tactic| walk_at "binaryOp Mult int ref") => `(tactic| (k_here; (with_reducible show wpAny _ _ (binaryOp Operator.Mult (Value.int _ _) (Value.ref _)) _ _ _); k_dflt (refine' rbin_mul ?F ?X ?I ?hC ?hS ?hR ?hF ?h1 ?h2 ?hU ?_; (case F => k_asm); (case X => k_asm); (case I => k_inst); (case hC => k_is); (case hS => k_is); (case hR => k_is); (case hF => k_is); (case h1 => k_is); (case h2 => k_is); (case hU => k_is); k_whole)))
local macro_rules | `(tactic| walk_at "binaryOp Mult int int") => `(tactic| (k_here; with_reducible refine PyProof.Rows.mul_int ?_ (mulok_mem_r (by assumption) (by assumption) (by assumption))))
local macro_rules | `(tactic| walk_at "binaryOp Sub ref") => `(tactic| (k_here; (with_reducible show wpAny _ _ (binaryOp Operator.Sub (Value.ref _) (Value.ref _)) _ _ _); k_dflt (refine' ksp_binL ?F ?X ?N ?I ?hl ?hC ?hS ?hF ?hR ?hP ?h1 ?h2 ?hU ?_; (case F => k_asm); (case X => k_asm); (case N => k_asm); (case I => k_inst); (case hl => k_mem); (case hS => k_is); (case hF => k_is); (case hC => k_is); (case hR => k_is); (case hP => first | exact .inl rfl | exact .inr ⟨_, rfl⟩); (case h1 => k_is); (case h2 => k_is); (case hU => k_is); k_whole)))
local macro_rules | `(tactic| walk_at "leaving ref") => `(tactic| (k_here; (with_reducible rename KtsDicts _ _ => kdX); (with_reducible show wpAny _ _ (leaving (envOfC _ _ _ _ _) _) _ _ _); first
  | (refine' leave_raiseX ?k1 ?k0 ?k2 ?k3 ?e1 ?e2 ?_; (case k0 => first | assumption | exact Heap.MadeExc.of (by assumption)); (case k2 => assumption); (case k1 => assumption); (case k3 => k_asm); (case e1 => exact rfl); (case e2 => exact rfl); k_whole; intro h' t' S' R' U'; (try dsimp only at S' R' U' ⊢))
  | (refine' leave_onX ?k1 ?k2 ?k3 ?k4 ?e1 ?_; (case k3 => assumption); (case k2 => assumption); (case k1 => assumption); (case k4 => assumption); (case e1 => exact rfl); k_whole; intro h' S' R' U'; (try dsimp only at S' R' U' ⊢))
  | (refine' leave_newX ?k1 ?k0 ?k2 ?k3 ?e1 ?e2 ?_; (case k0 => assumption); (case k2 => assumption); (case k1 => assumption); (case k3 => k_asm); (case e1 => exact rfl); (case e2 => exact rfl); k_whole; intro h' S' R' U'; (try dsimp only at S' R' U' ⊢))
  | (refine' leave_onNX ?k1 ?k2 ?k3 ?k4 ?e1 ?_; (case k3 => assumption); (case k2 => assumption); (case k1 => assumption); (case k4 => assumption); (case e1 => exact rfl); k_whole; intro h' S' R' U'; (try dsimp only at S' R' U' ⊢))))
local macro_rules | `(tactic| walk_at "exec Raise some none") => `(tactic| (k_here; (with_reducible show wpAny _ _ (exec (Stmt.Raise (some (Expr.Call (Expr.Name _ _) (_ :: _) [] _)) none _) _) _ _ _); refine Raise_new rfl ?_))
local macro_rules | `(tactic| walk_at "InitBack") => `(tactic| (dsimp only [InitBack]))
local macro_rules | `(tactic| walk_at "subscriptTail Name Name ref int") => `(tactic| (k_here; (with_reducible show wpAny _ _ (subscriptTail _ _ (Value.ref _) (Value.int _ _)) _ _ _); (with_unfolding_all refine' item_refs ?k1 ?k2 ?k3 ?k4 ?_; (case k1 => k_asm); (case k2 => k_mem); (case k3 => assumption); (case k4 => assumption); k_whole)))
local macro_rules | `(tactic| walk_at "setItem ref int") => `(tactic| (k_here; (with_reducible show wpAny _ _ (setItem (Value.ref _) (Value.int _ _) (Value.ref _)) _ _ _); k_dflt (refine' set_refs ?k1 ?k2 ?k3 ?k4 ?k5 ?_; (case k1 => k_asm); (case k2 => k_asm); (case k3 => k_upd); (case k4 => assumption); (case k5 => assumption); k_whole); intro h' F' N'; (try k_sweep)))
local macro_rules | `(tactic| top_strB) => `(tactic| first | (with_reducible assumption) | (refine off_cons ?bo1 ?bo2; (case bo1 => k_ne); (case bo2 => top_strB)))
local macro_rules | `(tactic| walk_at "execs cons") => `(tactic| ((with_reducible show wpAny _ _ (execs [Stmt.If (Expr.Compare (Expr.Attribute _ _ _) _ _ _) _ _ _, Stmt.For _ _ _ _ _] _) _ _ _); refine stop_elim ?_))
local macro_rules | `(tactic| k_enter) => `(tactic| ((with_reducible show codeAny _ _ (Code.call (Value.ref 56) ⟨[Value.ref _, Value.ref _], _⟩) _ _); k_dflt (refine' Ctr.use (ring_call ?c0 ?c1 ?c2 ?c3) ?k1 ?k2 ?k3 ?k4 ?k5 ?kK ?kd ?ku ?_; (case k1 => k_asm); (case k2 => k_asm); (case k3 => k_asm); (case k4 => k_asm); (case k5 => k_asm); (case kK => first | exact rfl | assumption); (case c0 => exact ⟨_, _, _, _, _, _, by k_mem, by k_mem⟩); (case c1 => exact ⟨_, _, by k_mem, by l_ints⟩); (case c2 => ktr_rel); (case c3 => ktr_rel); (case kd => k_room); (case ku => k_units); k_whole; intro v' h' tk' nw' F' N' cP'; obtain ⟨x', d', t1', t2', hv', hn', o1', o2', n1'⟩ := cP'; subst hv'; subst hn'; (try dsimp only); kts_tail; (try k_sweep))))
local macro_rules | `(tactic| walk_at "compareOp NotEq ref ref") => `(tactic| (k_here; (with_reducible show wpAny _ _ (compareOp CmpOp.NotEq (Value.ref _) (Value.ref _)) _ _ _); k_dflt (refine' ne_inst (C := 227) (f := 217) ?hu ?F ?X ?I ?J ?q ?hf ?_; (case F => k_asm); (case X => k_asm); (case I => k_inst); (case J => k_inst); (case hu => k_units); (case q => kernel_rfl); (case hf => kernel_rfl); k_whole)))
local macro_rules | `(tactic| walk_at "NeBack") => `(tactic| (refine neBack_bool ?_))
local macro_rules | `(tactic| walk_at "compareOp NotEq bool bool") => `(tactic| (k_here; refine ne_bool_eq ?_ ?_; (focus (first | (with_reducible exact rfl) | ((with_reducible rename (@Eq (List Int) _ (List.flatten _)) => hx9); (simp only [hx9, decide_true, Bool.true_and]; done)) | ((with_reducible rename (Not (@Eq (List Int) _ (List.flatten _))) => hx9); (simp only [hx9, decide_false, Bool.false_and]; done))))))
local macro_rules | `(tactic| walk_at "compareOp Eq bool bool") => `(tactic| (k_here; refine eq_bool_eq ?_ ?_; (focus (first | (with_reducible exact rfl) | ((with_reducible rename (@Eq (List Int) _ (List.flatten _)) => hx9); (simp only [hx9, decide_true, Bool.true_and]; done)) | ((with_reducible rename (Not (@Eq (List Int) _ (List.flatten _))) => hx9); (simp only [hx9, decide_false, Bool.false_and]; done))))))
local macro_rules | `(tactic| walk_at "compareOp Eq int int") => `(tactic| (k_here; with_reducible refine eq_int_same ?_))
local macro_rules | `(tactic| walk_at "binaryOp FloorDiv int int") => `(tactic| (k_here; (with_reducible refine' div_q1 ?h1 ?h2 ?_); (case h1 => assumption); (case h2 => assumption)))
local macro_rules | `(tactic| walk_at "subscriptTail Name Name ref int") => `(tactic| (k_here; (with_reducible show wpAny _ _ (subscriptTail _ _ (Value.ref _) (Value.int _ _)) _ _ _); (with_unfolding_all refine' item_refs_upd ?k1 ?k2 ?k3 ?k4 ?_; (case k1 => k_asm); (case k2 => k_mem); (case k3 => assumption); (case k4 => assumption); k_whole)))
local macro_rules | `(tactic| walk_at "exec Assign cons ListComp") => `(tactic| (k_here; (with_reducible show wpAny _ _ (exec (Stmt.Assign [Expr.Name _ _] (Expr.ListComp _ [⟨Expr.Tuple _ _ _, _, _, _⟩] _ _) _) _) _ _ _); k_dflt (refine' zip_assign ?z1 ?z2 ?z3 ?z4 ?z5 ?_; (case z1 => with_unfolding_all rfl); (case z2 => with_unfolding_all rfl); (case z3 => rfl); (case z4 => decide); (case z5 => intro _; with_unfolding_all rfl))))
local macro_rules | `(tactic| walk_at "eval ListComp") => `(tactic| (k_here; (with_reducible show wpAny _ _ (eval (Expr.ListComp _ [⟨Expr.Tuple _ _ _, _, _, _⟩] _ _) _) _ _ _); k_dflt (refine' zip_eval ?z2 ?z3 ?z4 ?z5 ?_; (case z2 => with_unfolding_all rfl); (case z3 => rfl); (case z4 => decide); (case z5 => intro _; with_unfolding_all rfl))))
section
theorem zero_end {w : World} {h₀ : Heap} {L fa : Addr} {cd : Value} {p : Program} {loose : List Str} {mean : ExcName → Option Value} {mg mb : Str → Option Value} {m : Str → Option Value} {s : Shared}
    {lqual : Str} {body tb : List Stmt} {scope : Scope} {a0 a1 a2 a3 a4 a6 t0 t1 t2 t3 t4 : Stmt} {iter : Expr} {nx : Str} {px fp : Pos}
    {q n : Int} {r H U I D : Addr} {X Y : Nat → Addr} {f : Nat → List Int} {e1 e2 : Nat} {oV oQ oI oD : Obj} {ps1 ps2 : Array Value} {M : Led} {tq tn : Tok} {Q : Flow → Shared → Prop} {a v : Int} {tv : Tok} {xb yo x dx D2 E lb : Addr} {u1 u2 : Tok} {us ws : List Value} {oL : Obj} {e9 e' : Nat} {fo g : List Int} {l : Addr}
    (hK : LawAt w lqual body scope) (hb : body = [a0, a1, a2, a3, a4, .For (.Name nx px) iter tb [] fp, a6]) (ht : tb = [t0, t1, t2, t3, t4])
    (B : Below callerA h₀ [] h₀) (X₀ : (hd.heap_1 w.params).In h₀) (T : Top p loose mean mg mb h₀) (hq : 2 ≤ q) (hq2 : q < 2 ^ 33) (hn1 : 1 ≤ n) (hn : n ≤ 4)
    (F : Fr h₀ L s.heap m) (N : News h₀ L s.heap ((E, listOf ws.toArray e') :: (D2, listOf us.toArray e9) :: (x, instObj 227 dx) :: (dx, dictOf [⟨PyData.keyHash w.params (Str.ofString "parent"), .str (Str.ofString "parent") u1, .ref r⟩, ⟨PyData.keyHash w.params (Str.ofString "coeffs"), .str (Str.ofString "coeffs") u2, .ref D2⟩] 2) :: (l, oL) :: (I, oI) :: (D, oD) :: lawLed L H U (upd X a.toNat x) (upd Y a.toNat E) e1 e2 oV oQ ps1 ps2 M)) (G : AllBare s.gens) (R : Rows w q n r X Y f M) (A : Apart L H U M)
    (hV : oV.data = .cell (some (.int v tv))) (hQ : oQ.data = .cell (some (.int q tq))) (ht1 : TabAt ⟨33, 19, 33, 48⟩ ps1) (ht2 : TabAt ⟨36, 19, 36, 52⟩ ps2) (offI : LCg.Off1 I ((D, oD) :: lawLed L H U X Y e1 e2 oV oQ ps1 ps2 M)) (offD : LCg.Off1 D (lawLed L H U X Y e1 e2 oV oQ ps1 ps2 M))
    (hm1 : m (Str.ofString "have") = some (.ref H)) (hm2 : m (Str.ofString "due") = some (.ref U)) (hm3 : m (Str.ofString "ring") = some (.ref r)) (hm4 : m (Str.ofString "n") = some (.int n tn))
    (hm5 : m (Str.ofString "before") = some (.ref xb)) (hm6 : m (Str.ofString "old") = some (.ref yo)) (hxb : Poly w M xb r lb fo) (hyo : Ints M yo fo) (hlo : fo.length ≤ 4)
    (hI : IntsAre us g) (hJ : IntsAre ws g) (hg : (g.length : Int) = n) (hgb : ∀ c ∈ g, 0 ≤ c ∧ c < q)
    (oE : LCg.Off1 E ((D2, listOf us.toArray e9) :: (x, instObj 227 dx) :: (dx, dictOf [⟨PyData.keyHash w.params (Str.ofString "parent"), .str (Str.ofString "parent") u1, .ref r⟩, ⟨PyData.keyHash w.params (Str.ofString "coeffs"), .str (Str.ofString "coeffs") u2, .ref D2⟩] 2) :: (l, oL) :: (I, oI) :: (D, oD) :: lawLed L H U (upd X a.toNat x) Y e1 e2 oV oQ ps1 ps2 M)) (o2 : LCg.Off1 D2 ((l, oL) :: (I, oI) :: (D, oD) :: lawLed L H U X Y e1 e2 oV oQ ps1 ps2 M)) (ox : LCg.Off1 x ((l, oL) :: (I, oI) :: (D, oD) :: lawLed L H U X Y e1 e2 oV oQ ps1 ps2 M)) (od : LCg.Off1 dx ((l, oL) :: (I, oI) :: (D, oD) :: lawLed L H U X Y e1 e2 oV oQ ps1 ps2 M)) :
    wpAny (model PySem.Challenge.rw_bn0014_01.row.toRowW.prog w) (callerA.deeper (lawEnv lqual scope L fa cd)) (execs [t3, t4] (lawEnv lqual scope L fa cd))
      (EndG h₀ L s.os I oI (D, oD) (fun m' news' => LCg.Off1 D news' ∧ LawJ w q n L r H U m' news') Q) (fun _ _ => False) s := by
  refine' lite ?lw ?lx ?le
  case lw =>
    obtain ⟨aH, aU, aV, aQ, aZ, aC, al1, al2, al3⟩ := A
    have hs : ∀ p ∈ M, p ∈ (E, listOf ws.toArray e') :: (D2, listOf us.toArray e9) :: (x, instObj 227 dx) :: (dx, dictOf [⟨PyData.keyHash w.params (Str.ofString "parent"), .str (Str.ofString "parent") u1, .ref r⟩, ⟨PyData.keyHash w.params (Str.ofString "coeffs"), .str (Str.ofString "coeffs") u2, .ref D2⟩] 2) :: M := fun p hp => .tail _ (.tail _ (.tail _ (.tail _ hp)))
    refine tail_go (X := upd X a.toNat x) (Y := upd Y a.toNat E) (f := upd f a.toNat g) (e1 := e1) (e2 := e2) (M := (E, listOf ws.toArray e') :: (D2, listOf us.toArray e9) :: (x, instObj 227 dx) :: (dx, dictOf [⟨PyData.keyHash w.params (Str.ofString "parent"), .str (Str.ofString "parent") u1, .ref r⟩, ⟨PyData.keyHash w.params (Str.ofString "coeffs"), .str (Str.ofString "coeffs") u2, .ref D2⟩] 2) :: M) hK hb ht B X₀ T hq hq2 hn1 hn F ?hN G (R.turn hs ⟨D2, ⟨_, _, .tail _ (.head _), hI⟩, dx, _, _, _, .tail _ (.tail _ (.head _)), .tail _ (.tail _ (.tail _ (.head _)))⟩ ⟨_, _, .head _, hJ⟩ hg hgb) ⟨?x1, ?x2, ?x3, ?x4, ?x5, ?x6, al1, al2, al3⟩ hV hQ ht1 ht2 ?x7 ?x8 hm1 hm2 hm3 hm4 hm5 hm6 (hxb.mono hs) (hyo.mono hs) hlo rfl
    case hN => refine cb_drop N ?_; top_reprB
    all_goals top_strB
  case lx => intro hk; simpa only using hk (0 : Nat)
  case le => eq_refl
local macro_rules | `(tactic| k_enter) => `(tactic| ((with_reducible show codeAny _ _ (Code.call (Value.ref 56) ⟨[Value.ref _, Value.ref _], _⟩) _ _); k_dflt (refine' Ctr.use (ring_call ?c0 ?c1 ?c2 ?c3) ?k1 ?k2 ?k3 ?k4 ?k5 ?kK ?kd ?ku ?_; (case k1 => k_asm); (case k2 => k_asm); (case k3 => k_asm); (case k4 => k_asm); (case k5 => k_asm); (case kK => first | exact rfl | assumption); (case c0 => exact Ring.mono (by assumption) (by top_reprB)); (case c1 => exact ⟨_, _, by k_mem, by l_ints⟩); (case c2 => ktr_rel); (case c3 => ktr_rel); (case kd => k_room); (case ku => k_units); k_whole; intro v' h' tk' nw' F' N' cP'; obtain ⟨x', d', t1', t2', hv', hn', o1', o2', n1'⟩ := cP'; subst hv'; subst hn'; (try dsimp only); kts_tail; (try k_sweep))))
local macro_rules | `(tactic| k_enter) => `(tactic| ((with_reducible show codeAny _ _ (Code.call (Value.ref 108) ⟨_, _⟩) _ _); k_dflt (refine' Ctr.use (reduce_call ?c0 ?c1 ?c2 ?c3 ?c4 ?c5 ?c6) ?k1 ?k2 ?k3 ?k4 ?k5 ?kK ?kd ?ku ?_; (case k1 => k_asm); (case k2 => k_asm); (case k3 => k_asm); (case k4 => k_asm); (case k5 => k_asm); (case kK => first | exact rfl | assumption); (case c0 => exact Ring.mono (by assumption) (by top_reprB)); (case c1 => exact ⟨_, _, by k_mem, by l_ints⟩); (case c2 => ktr_rel); (case c3 => assumption); (case c4 => assumption); (case c5 => assumption); (case c6 => assumption); (case kd => k_room); (case ku => k_units); k_whole; intro v' h' tk' nw' F' N' cP'; obtain ⟨D', us', e', hv', hn', hi', o1', n1', n2'⟩ := cP'; subst hv'; subst hn'; (try dsimp only); kts_tail; (try k_sweep))))
local macro_rules | `(tactic| walk_at "binaryOp Pow int int") => `(tactic| (k_here; (with_reducible refine' pow_q ?h1 ?h2 ?h3 ?h4 ?h5 ?_); (case h1 => assumption); (case h2 => assumption); (case h3 => assumption); (case h4 => assumption); (case h5 => assumption)))
local macro_rules | `(tactic| walk_at "binaryOp FloorDiv int int") => `(tactic| (k_here; (with_reducible refine' div_q ?h1 ?h2 ?h4 ?h5 ?_); (case h1 => assumption); (case h2 => assumption); (case h4 => assumption); (case h5 => assumption)))
local macro_rules | `(tactic| walk_at "execs cons") => `(tactic| ((with_reducible show wpAny _ _ (execs [Stmt.For (Expr.Name _ _) _ [Stmt.Expr _ _, _] _ _, Stmt.If _ _ _ _] _) _ _ _); refine stop_elim ?_))
theorem rowZ_eq (q v n : Int) : ((rangeKs 0 (n - 0).toNat).map fun k => Int.fdiv v (q ^ k.toNat)).map (fun c => Int.fmod c q) = rowZ q v n.toNat := by rw [List.map_map, Int.sub_zero]; rfl
local macro_rules | `(tactic| walk_at "compareOp Eq int int") => `(tactic| (k_here; (with_reducible show wpAny _ _ (compareOp _ (Value.int _ _) (Value.int _ _)) _ _ _); first | (refine eq_int_ff ?h1 ?_; (case h1 => omega)) | (refine eq_int_tt ?h1 ?_; (case h1 => omega))))
local macro_rules | `(tactic| walk_at "compareOp Lt int int") => `(tactic| (k_here; (with_reducible show wpAny _ _ (compareOp _ (Value.int _ _) (Value.int _ _)) _ _ _); first | (refine lt_int_tt ?h1 ?_; (case h1 => omega)) | (refine lt_int_ff ?h1 ?_; (case h1 => omega))))
theorem leaf_zero {w : World} {h₀ : Heap} {L fa : Addr} {cd : Value} {p : Program} {loose : List Str} {mean : ExcName → Option Value} {mg mb : Str → Option Value} {m : Str → Option Value} {s : Shared}
    {lqual : Str} {body tb : List Stmt} {scope : Scope} {a0 a1 a2 a3 a4 a6 t0 t1 t2 t3 t4 : Stmt} {iter : Expr} {nx : Str} {px fp : Pos}
    {q n : Int} {r H U I D : Addr} {X Y : Nat → Addr} {f : Nat → List Int} {e1 e2 : Nat} {oV oQ oI oD : Obj} {ps1 ps2 : Array Value} {M : Led} {tq tn : Tok} {Q : Flow → Shared → Prop} {k a b v : Int} {tk ta tb' tv : Tok}
    (hK : LawAt w lqual body scope) (hb : body = [a0, a1, a2, a3, a4, .For (.Name nx px) iter tb [] fp, a6]) (ht : tb = [t0, t1, t2, t3, t4])
    (B : Below callerA h₀ [] h₀) (X₀ : (hd.heap_1 w.params).In h₀) (T : Top p loose mean mg mb h₀) (hq : 2 ≤ q) (hq2 : q < 2 ^ 33) (hn1 : 1 ≤ n) (hn : n ≤ 4)
    (F : Fr h₀ L s.heap m) (N : News h₀ L s.heap ((I, oI) :: (D, oD) :: lawLed L H U X Y e1 e2 oV oQ ps1 ps2 M)) (G : AllBare s.gens) (R : Rows w q n r X Y f M) (A : Apart L H U M)
    (hV : oV.data = .cell (some (.int v tv))) (hQ : oQ.data = .cell (some (.int q tq))) (ht1 : TabAt ⟨33, 19, 33, 48⟩ ps1) (ht2 : TabAt ⟨36, 19, 36, 52⟩ ps2) (offI : LCg.Off1 I ((D, oD) :: lawLed L H U X Y e1 e2 oV oQ ps1 ps2 M)) (offD : LCg.Off1 D (lawLed L H U X Y e1 e2 oV oQ ps1 ps2 M))
    (hm1 : m (Str.ofString "have") = some (.ref H)) (hm2 : m (Str.ofString "due") = some (.ref U)) (hm3 : m (Str.ofString "ring") = some (.ref r)) (hm4 : m (Str.ofString "n") = some (.int n tn))
    (hm5 : m (Str.ofString "before") = some (.ref (X a.toNat))) (hm6 : m (Str.ofString "old") = some (.ref (Y a.toNat))) (hm7 : m (Str.ofString "kind") = some (.int k tk)) (hm8 : m (Str.ofString "a") = some (.int a ta)) (hm9 : m (Str.ofString "b") = some (.int b tb'))
    (ha0 : 0 ≤ a) (ha1 : a < 3) (hb0 : 0 ≤ b) (hb1 : b < 3) (hv1 : -(2 ^ 160) < v) (hv2 : v < 2 ^ 160)
    (hk : k = 0) :
    wpAny (model PySem.Challenge.rw_bn0014_01.row.toRowW.prog w) (callerA.deeper (lawEnv lqual scope L fa cd)) (execs [t2, t3, t4] (lawEnv lqual scope L fa cd))
      (EndG h₀ L s.os I oI (D, oD) (fun m' news' => LCg.Off1 D news' ∧ LawJ w q n L r H U m' news') Q) (fun _ _ => False) s := by
  refine' lite ?lw ?lx ?le
  case lw =>
    have hKK := hK
    obtain ⟨oc, od, lname, params, dV, kV, doc, pm, an, cdv, ct, osl, hK⟩ := hK
    revert hK X₀
    k_fill
    intro X₀ hK
    refine' lk_elim hK ?hz ?_
    case hz => k_dflt k_is
    intro hE
    cases hE
    cases hb
    cases ht
    clear hK
    obtain ⟨aH, aU, aV, aQ, aZ, aC, al1, al2, al3⟩ := A
    have A : Apart L H U M := ⟨aH, aU, aV, aQ, aZ, aC, al1, al2, al3⟩
    have qa := toNat_lt3 ha0 ha1
    have qb := toNat_lt3 hb0 hb1
    have hRg := R.ring
    obtain ⟨la, hPa⟩ := R.poly _ qa
    obtain ⟨lb, hPb⟩ := R.poly _ qb
    have hIa := R.dues _ qa
    have hIb := R.dues _ qb
    have hla := R.len _ qa
    have hlb := R.len _ qb
    have hba := R.bnd _ qa
    have hbb := R.bnd _ qb
    obtain ⟨dr, kr1, kr2, tqr, tnr, er, hr, hdr⟩ := id hRg
    replace F := fr_sets (l := [(Str.ofString "have", .ref H), (Str.ofString "due", .ref U), (Str.ofString "ring", .ref r), (Str.ofString "n", .int n tn), (Str.ofString "before", .ref (X a.toNat)), (Str.ofString "old", .ref (Y a.toNat)), (Str.ofString "kind", .int k tk), (Str.ofString "a", .int a ta), (Str.ofString "b", .int b tb')]) F (by simp [hm1, hm2, hm3, hm4, hm5, hm6, hm7, hm8, hm9])
    unfold lawLed at N
    (try k_fold)
    k_steps
    refine zero_loop (Q := Q) (Y := Y) rfl hKK rfl rfl B X₀ T hq hq2 hn1 hn (by k_asm) (by k_asm) (by k_asm) R A hV hQ ht1 ht2 offI offD rfl rfl rfl rfl rfl rfl rfl rfl ha0 ha1 (by rw [← rowZ_eq]; k_asm) (by top_strB) (by top_strB) (by top_strB) (by top_strB) (by top_strB) (by k_asm) (by k_asm) (by k_asm) ?_
    intro h₉ tk₉ m₉ ws₉ e₉ oV₉ t₉ F₉ N₉ hW₉ hV₉ g1 g2 g3 g4 g5 g6 g7 g8
    k_steps
    exact zero_end (X := X) (Y := Y) (f := f) (a := a) hKK rfl rfl B X₀ T hq hq2 hn1 hn F₉ N₉ (by k_asm) R A hV₉ hQ ht1 ht2 (by top_strB) (by top_strB) g1 g2 g3 g4 g5 g6 hPa hIa (by omega) (by rw [← rowZ_eq]; k_asm) hW₉ (by rw [rowZ_len]; omega) (rowZ_bnd hq _ _) (by top_strB) (by top_strB) (by top_strB) (by top_strB)
  case lx => intro hk; simpa only using hk (0 : Nat)
  case le => eq_refl
end
end
section
local macro_rules | `(tactic| k_mem) => `(tactic| ((fail_if_success (with_reducible refine' List.Mem.tail _ ?_)); first | with_reducible assumption | assumption | (refine sub_mem (by assumption) ?_; k_mem)))
local macro_rules | `(tactic| news_mem) => `(tactic| k_mem)
local macro_rules | `(tactic| k_room) => `(tactic| ((simp only [depth_under_make, depth_under_kw, depth_in1, depth_deeper, depth_caller, recursionLimit] at *); omega))
local macro_rules | `(tactic| k_units) => `(tactic| ((have hcL9 := cLine_is); (simp only [units_in1, units_deeper, Around.mark_units, units_caller, cLine] at *); omega))
local macro_rules | `(tactic| allgen_close2_more) => `(tactic| assumption)
local macro_rules | `(tactic| ktr_rel) => `(tactic| ((try simp only [List.length_append, List.length_cons, List.length_nil, List.length_map, List.length_set, List.length_zipWith, rangeKs_length]); first | assumption | omega))
local macro_rules | `(tactic| top_reprB) => `(tactic| first | exact List.forall_mem_nil _ | (refine List.forall_mem_cons.mpr ⟨by k_mem, ?_⟩; top_reprB) | (intro p hp; k_mem))
local macro_rules | `(tactic| k_ne) => `(tactic| (refine neN ?_; (try dsimp only); first | (with_reducible assumption) | exact Ne.symm (by with_reducible assumption) | exact off_ne (by with_reducible assumption) (by k_mem) | exact Ne.symm (off_ne (by with_reducible assumption) (by k_mem)) | omega))
local macro_rules | `(tactic| top_strB) => `(tactic| first | (first | assumption | exact allLt_of (by assumption) | exact And.right (by assumption) | exact And.right (And.right (by assumption)) | exact And.right (And.right (And.right (by assumption))) | exact And.right (And.right (And.right (And.right (by assumption)))) | exact And.right (And.right (And.right (And.right (And.right (by assumption))))) | exact And.right (And.right (And.right (And.right (And.right (And.right (by assumption)))))) | exact And.right (And.right (And.right (And.right (And.right (And.right (And.right (by assumption))))))) | exact And.right (And.right (And.right (And.right (And.right (And.right (And.right (And.right (by assumption)))))))) | exact And.right (And.right (And.right (And.right (And.right (And.right (And.right (And.right (And.right (by assumption))))))))) | exact And.right (And.right (And.right (And.right (And.right (And.right (And.right (And.right (And.right (And.right (by assumption)))))))))) | exact And.right (And.right (And.right (And.right (And.right (And.right (And.right (And.right (And.right (And.right (And.right (by assumption))))))))))) | exact And.right (And.right (And.right (And.right (And.right (And.right (And.right (And.right (And.right (And.right (And.right (And.right (by assumption)))))))))))) | exact And.right (And.right (And.right (And.right (And.right (And.right (And.right (And.right (And.right (And.right (And.right (And.right (And.right (by assumption))))))))))))) | exact And.right (And.right (And.right (And.right (And.right (And.right (And.right (And.right (And.right (And.right (And.right (And.right (And.right (And.right (by assumption)))))))))))))) | exact And.right (And.right (And.right (And.right (And.right (And.right (And.right (And.right (And.right (And.right (And.right (And.right (And.right (And.right (And.right (by assumption))))))))))))))) | exact And.right (And.right (And.right (And.right (And.right (And.right (And.right (And.right (And.right (And.right (And.right (And.right (And.right (And.right (And.right (And.right (by assumption)))))))))))))))) | exact And.right (And.right (And.right (And.right (And.right (And.right (And.right (And.right (And.right (And.right (And.right (And.right (And.right (And.right (And.right (And.right (And.right (by assumption))))))))))))))))) | exact And.right (And.right (And.right (And.right (And.right (And.right (And.right (And.right (And.right (And.right (And.right (And.right (And.right (And.right (And.right (And.right (And.right (And.right (by assumption)))))))))))))))))) | exact And.right (And.right (And.right (And.right (And.right (And.right (And.right (And.right (And.right (And.right (And.right (And.right (And.right (And.right (And.right (And.right (And.right (And.right (And.right (by assumption)))))))))))))))))))) | exact off_sub (by with_reducible assumption) (by top_reprB) | exact off_of_lt (by (first | assumption | exact allLt_of (by assumption) | exact And.right (by assumption) | exact And.right (And.right (by assumption)) | exact And.right (And.right (And.right (by assumption))) | exact And.right (And.right (And.right (And.right (by assumption)))) | exact And.right (And.right (And.right (And.right (And.right (by assumption))))) | exact And.right (And.right (And.right (And.right (And.right (And.right (by assumption)))))) | exact And.right (And.right (And.right (And.right (And.right (And.right (And.right (by assumption))))))) | exact And.right (And.right (And.right (And.right (And.right (And.right (And.right (And.right (by assumption)))))))) | exact And.right (And.right (And.right (And.right (And.right (And.right (And.right (And.right (And.right (by assumption))))))))) | exact And.right (And.right (And.right (And.right (And.right (And.right (And.right (And.right (And.right (And.right (by assumption)))))))))) | exact And.right (And.right (And.right (And.right (And.right (And.right (And.right (And.right (And.right (And.right (And.right (by assumption))))))))))) | exact And.right (And.right (And.right (And.right (And.right (And.right (And.right (And.right (And.right (And.right (And.right (And.right (by assumption)))))))))))) | exact And.right (And.right (And.right (And.right (And.right (And.right (And.right (And.right (And.right (And.right (And.right (And.right (And.right (by assumption))))))))))))) | exact And.right (And.right (And.right (And.right (And.right (And.right (And.right (And.right (And.right (And.right (And.right (And.right (And.right (And.right (by assumption)))))))))))))) | exact And.right (And.right (And.right (And.right (And.right (And.right (And.right (And.right (And.right (And.right (And.right (And.right (And.right (And.right (And.right (by assumption))))))))))))))) | exact And.right (And.right (And.right (And.right (And.right (And.right (And.right (And.right (And.right (And.right (And.right (And.right (And.right (And.right (And.right (And.right (by assumption)))))))))))))))) | exact And.right (And.right (And.right (And.right (And.right (And.right (And.right (And.right (And.right (And.right (And.right (And.right (And.right (And.right (And.right (And.right (And.right (by assumption))))))))))))))))) | exact And.right (And.right (And.right (And.right (And.right (And.right (And.right (And.right (And.right (And.right (And.right (And.right (And.right (And.right (And.right (And.right (And.right (And.right (by assumption)))))))))))))))))) | exact And.right (And.right (And.right (And.right (And.right (And.right (And.right (And.right (And.right (And.right (And.right (And.right (And.right (And.right (And.right (And.right (And.right (And.right (And.right (by assumption))))))))))))))))))))) | exact off_of_lt2 (by (first | assumption | exact allLt_of (by assumption) | exact And.right (by assumption) | exact And.right (And.right (by assumption)) | exact And.right (And.right (And.right (by assumption))) | exact And.right (And.right (And.right (And.right (by assumption)))) | exact And.right (And.right (And.right (And.right (And.right (by assumption))))) | exact And.right (And.right (And.right (And.right (And.right (And.right (by assumption)))))) | exact And.right (And.right (And.right (And.right (And.right (And.right (And.right (by assumption))))))) | exact And.right (And.right (And.right (And.right (And.right (And.right (And.right (And.right (by assumption)))))))) | exact And.right (And.right (And.right (And.right (And.right (And.right (And.right (And.right (And.right (by assumption))))))))) | exact And.right (And.right (And.right (And.right (And.right (And.right (And.right (And.right (And.right (And.right (by assumption)))))))))) | exact And.right (And.right (And.right (And.right (And.right (And.right (And.right (And.right (And.right (And.right (And.right (by assumption))))))))))) | exact And.right (And.right (And.right (And.right (And.right (And.right (And.right (And.right (And.right (And.right (And.right (And.right (by assumption)))))))))))) | exact And.right (And.right (And.right (And.right (And.right (And.right (And.right (And.right (And.right (And.right (And.right (And.right (And.right (by assumption))))))))))))) | exact And.right (And.right (And.right (And.right (And.right (And.right (And.right (And.right (And.right (And.right (And.right (And.right (And.right (And.right (by assumption)))))))))))))) | exact And.right (And.right (And.right (And.right (And.right (And.right (And.right (And.right (And.right (And.right (And.right (And.right (And.right (And.right (And.right (by assumption))))))))))))))) | exact And.right (And.right (And.right (And.right (And.right (And.right (And.right (And.right (And.right (And.right (And.right (And.right (And.right (And.right (And.right (And.right (by assumption)))))))))))))))) | exact And.right (And.right (And.right (And.right (And.right (And.right (And.right (And.right (And.right (And.right (And.right (And.right (And.right (And.right (And.right (And.right (And.right (by assumption))))))))))))))))) | exact And.right (And.right (And.right (And.right (And.right (And.right (And.right (And.right (And.right (And.right (And.right (And.right (And.right (And.right (And.right (And.right (And.right (And.right (by assumption)))))))))))))))))) | exact And.right (And.right (And.right (And.right (And.right (And.right (And.right (And.right (And.right (And.right (And.right (And.right (And.right (And.right (And.right (And.right (And.right (And.right (And.right (by assumption))))))))))))))))))))) (by omega) | exact off_of_base (by assumption) (by omega))
local macro_rules | `(tactic| k_all) => `(tactic| (refine off_all ?_; top_strB))
local macro_rules | `(tactic| walk_at "getMethod ref") => `(tactic| (k_here; k_dflt (refine' kmu_own ?k1 ?k2 ?k3 ?k4 ?k5 ?_; (case k1 => k_asm); (case k2 => k_asm); (case k3 => k_inst); (case k4 => k_is); (case k5 => k_is); k_whole)))
local macro_rules | `(tactic| walk_at "binaryOp Mult int int") => `(tactic| (k_here; with_reducible first | refine PyProof.Rows.mul_int ?_ (mulok_getD (by assumption) (by assumption) (by assumption)) | refine PyProof.Rows.mul_int ?_ (mulok_mem (by assumption) (by assumption) (by assumption))))
local macro_rules | `(tactic| top_name) => `(tactic| (law_purse 40000 => (law_clear; (repeat (with_reducible rename (@Ne Nat _ _) ∧ _ => hne9; clear hne9)); (repeat (with_reducible rename (@LT.lt Nat _ _ _) ∧ _ => hne9; clear hne9)); (repeat (with_reducible rename (@Ne Nat _ _) => hne9; clear hne9)); (try simp only [List.length_append, List.length_cons, List.length_nil, List.length_map, List.length_take, List.length_set, List.length_zipWith, rangeKs_length]); omega)))
local macro_rules | `(tactic| walk_at "subscriptTail Name Name ref int") => `(tactic| ((k_here; (with_reducible show wpAny _ _ (subscriptTail _ _ (Value.ref _) (Value.int _ _)) _ _ _); (with_unfolding_all refine' item_list_ints ?k1 ?k2 ?k3 ?k4 ?k5 ?_; (case k1 => exact News.isList (by k_asm) (by k_mem)); (case k2 => l_ints); (case k3 => first | assumption | top_name); (case k4 => first | assumption | exact idx_hi (by assumption) (by first | assumption | exact Nat.le_refl _) | top_name); (case k5 => first | assumption | exact idx_fit (by assumption) (by assumption) | top_name); k_whole); intro _)))
local macro_rules | `(tactic| walk_at "subscriptTail Name BinOp ref int") => `(tactic| ((k_here; (with_reducible show wpAny _ _ (subscriptTail _ _ (Value.ref _) (Value.int _ _)) _ _ _); (with_unfolding_all refine' item_list_ints ?k1 ?k2 ?k3 ?k4 ?k5 ?_; (case k1 => exact News.isList (by k_asm) (by k_mem)); (case k2 => l_ints); (case k3 => first | assumption | top_name); (case k4 => first | assumption | exact idx_hi (by assumption) (by first | assumption | exact Nat.le_refl _) | top_name); (case k5 => first | assumption | exact idx_fit (by assumption) (by assumption) | top_name); k_whole); intro _)))
local macro_rules | `(tactic| walk_at "call builtin:list.copy") => `(tactic| (k_here; (with_reducible show wpAny _ _ (call (Value.builtin _) [Value.ref _]) _ _ _); k_dflt (refine' copyK ?k1 ?k2 ?k3 ?k4 ?_; (case k1 => k_asm); (case k2 => k_asm); (case k3 => exact News.isList (by k_asm) (by k_mem)); (case k4 => exact ints_size (by l_ints) (by top_name)); k_whole); intro D' h' F' N' l1; (try k_lt l1); (try k_sweep)))
local macro_rules | `(tactic| walk_at "setItem ref int") => `(tactic| (k_here; (with_reducible show wpAny _ _ (setItem (Value.ref _) (Value.int _ _) (Value.int _ _)) _ _ _); k_dflt (refine' ksa_set ?k1 ?k2 ?k3 ?k4 ?k5 ?k6 ?k7 ?_; (case k1 => k_asm); (case k2 => k_asm); (case k3 => k_upd); (case k4 => l_ints); (case k5 => first | assumption | top_name); (case k6 => first | assumption | top_name); (case k7 => first | assumption | top_name); k_whole); intro h' F' N' hi' hl' hs'; clear hs'; (try k_sweep)))
local macro_rules | `(tactic| walk_at "callWith ref") => `(tactic| (k_here; kco_here; k_dflt (refine' kco_callWith ?k1 ?k2 ?k3 ?k4 ?_; (case k1 => k_in); (case k2 => k_inst); (case k3 => rfl); (case k4 => k_is); k_whole)))
local macro_rules | `(tactic| allgen_close_more) => `(tactic| first | k_asm | (refine' cb_drop ?cbN ?cbS; (case cbN => assumption); (case cbS => top_reprB)))
local macro_rules | `(tactic| walk_at "exec For Name Call cons nil") => `(tactic| (k_here; k_dflt (refine For_turns (by k_asm) ?_ (by intro _; with_unfolding_all rfl) (by passes_own)); (try k_fold)))
local macro_rules | `(tactic| walk_at "getItem ref int") => `(tactic| (k_here; (with_reducible show wpAny _ _ (getItem (Value.ref _) (Value.int _ _)) _ _ _); k_dflt (refine' ksa_get ?k1 ?k2 ?k3 ?k4 ?k5 ?k6 ?_; (case k1 => k_asm); (case k2 => k_mem); (case k3 => l_ints); (case k4 => first | assumption | top_name); (case k5 => first | assumption | top_name); (case k6 => first | assumption | top_name); k_whole); intro _))
local macro_rules | `(tactic| walk_at "CompSrc") => `(tactic| (k_here; k_dflt (refine' LCg.CompSrc.ledger ?s1 ?s2 ?s3 ?s4 ?s5 ?_; (case s1 => rfl); (case s2 => k_asm); (case s3 => k_asm); (case s4 => k_mem); (case s5 => exact ints_sizeA (by l_ints) (by first | assumption | top_name)); intro g'; (refine' kcf_list _ (by l_ints) (fun k' t' I' oI' C' oC' D' m' ys' h' tk' E' hk' hC' hx' F' N' off' ne' hMark' => ?_) ?_); (all_goals (try (simp only [LCg.Off3, and_true] at off'))); kcf_last)))
local macro_rules | `(tactic| allgen_close2_more) => `(tactic| first | assumption | exact school_bnd (by assumption) _ _ | exact one_bnd (by assumption) | exact times_bnd (by assumption) _ _ | exact map_bnd (by assumption) _ _ | exact zip_bnd (by assumption) _ _ _ | exact set_bnd (by assumption) (by allgen_close2_more))
local macro_rules | `(tactic| ktr_rel) => `(tactic| ((simp only [List.length_append, List.length_cons, List.length_nil, List.length_map, List.length_set, List.length_zipWith, rangeKs_length, schoolS_length, timesS_length]); omega))
local macro_rules | `(tactic| walk_at "call builtin:all") => `(tactic| (k_here; (with_reducible rename GenOnD _ _ _ _ _ _ _ _ _ => gxX'); k_dflt (refine' all_gx ?k1 ?k2 ?k3 gxX' ?k4 ?k5 ?_; (case k1 => k_asm); (case k2 => k_asm); (case k3 => k_asm); (case k4 => k_asm); (case k5 => k_asm); k_whole); clear gxX'; intro s' F' N' G' hos'))
local macro_rules | `(tactic| walk_at "binaryOp Add int ref") => `(tactic| (k_here; (with_reducible show wpAny _ _ (binaryOp Operator.Add (Value.int _ _) (Value.ref _)) _ _ _); k_dflt (refine' rbin_add ?F ?X ?I ?hC ?hS ?hR ?hF ?h1 ?h2 ?hU ?_; (case F => k_asm); (case X => k_asm); (case I => k_inst); (case hC => k_is); (case hS => k_is); (case hR => k_is); (case hF => k_is); (case h1 => k_is); (case h2 => k_is); (case hU => k_is); k_whole)))
local macro_rules | `(tactic| walk_at "binaryOp Sub int ref") => `(tactic| (k_here; (with_reducible show wpAny _ _ (binaryOp Operator.Sub (Value.int _ _) (Value.ref _)) _ _ _); k_dflt (refine' rbin_sub ?F ?X ?I ?hC ?hS ?hR ?hF ?h1 ?h2 ?hU ?_; (case F => k_asm); (case X => k_asm); (case I => k_inst); (case hC => k_is); (case hS => k_is); (case hR => k_is); (case hF => k_is); (case h1 => k_is); (case h2 => k_is); (case hU => k_is); k_whole)))
local macro_rules | `(tactic| walk_at "binaryOp Mult int ref") => `(tactic| (k_here; (with_reducible show wpAny _ _ (binaryOp Operator.Mult (Value.int _ _) (Value.ref _)) _ _ _); k_dflt (refine' rbin_mul ?F ?X ?I ?hC ?hS ?hR ?hF ?h1 ?h2 ?hU ?_; (case F => k_asm); (case X => k_asm); (case I => k_inst); (case hC => k_is); (case hS => k_is); (case hR => k_is); (case hF => k_is); (case h1 => k_is); (case h2 => k_is); (case hU => k_is); k_whole)))
local macro_rules | `(tactic| walk_at "binaryOp Mult int int") => `(tactic| (k_here; with_reducible refine PyProof.Rows.mul_int ?_ (mulok_mem_r (by assumption) (by assumption) (by assumption))))
local macro_rules | `(tactic| walk_at "binaryOp Sub ref") => `(tactic| (k_here; (with_reducible show wpAny _ _ (binaryOp Operator.Sub (Value.ref _) (Value.ref _)) _ _ _); k_dflt (refine' ksp_binL ?F ?X ?N ?I ?hl ?hC ?hS ?hF ?hR ?hP ?h1 ?h2 ?hU ?_; (case F => k_asm); (case X => k_asm); (case N => k_asm); (case I => k_inst); (case hl => k_mem); (case hS => k_is); (case hF => k_is); (case hC => k_is); (case hR => k_is); (case hP => first | exact .inl rfl | exact .inr ⟨_, rfl⟩); (case h1 => k_is); (case h2 => k_is); (case hU => k_is); k_whole)))
local macro_rules | `(tactic| walk_at "leaving ref") => `(tactic| (k_here; (with_reducible rename KtsDicts _ _ => kdX); (with_reducible show wpAny _ _ (leaving (envOfC _ _ _ _ _) _) _ _ _); first
  | (refine' leave_raiseX ?k1 ?k0 ?k2 ?k3 ?e1 ?e2 ?_; (case k0 => first | assumption | exact Heap.MadeExc.of (by assumption)); (case k2 => assumption); (case k1 => assumption); (case k3 => k_asm); (case e1 => exact rfl); (case e2 => exact rfl); k_whole; intro h' t' S' R' U'; (try dsimp only at S' R' U' ⊢))
  | (refine' leave_onX ?k1 ?k2 ?k3 ?k4 ?e1 ?_; (case k3 => assumption); (case k2 => assumption); (case k1 => assumption); (case k4 => assumption); (case e1 => exact rfl); k_whole; intro h' S' R' U'; (try dsimp only at S' R' U' ⊢))
  | (refine' leave_newX ?k1 ?k0 ?k2 ?k3 ?e1 ?e2 ?_; (case k0 => assumption); (case k2 => assumption); (case k1 => assumption); (case k3 => k_asm); (case e1 => exact rfl); (case e2 => exact rfl); k_whole; intro h' S' R' U'; (try dsimp only at S' R' U' ⊢))
  | (refine' leave_onNX ?k1 ?k2 ?k3 ?k4 ?e1 ?_; (case k3 => assumption); (case k2 => assumption); (case k1 => assumption); (case k4 => assumption); (case e1 => exact rfl); k_whole; intro h' S' R' U'; (try dsimp only at S' R' U' ⊢))))
local macro_rules | `(tactic| walk_at "exec Raise some none") => `(tactic| (k_here; (with_reducible show wpAny _ _ (exec (Stmt.Raise (some (Expr.Call (Expr.Name _ _) (_ :: _) [] _)) none _) _) _ _ _); refine Raise_new rfl ?_))
local macro_rules | `(tactic| walk_at "InitBack") => `(tactic| (dsimp only [InitBack]))
local macro_rules | `(tactic| walk_at "subscriptTail Name Name ref int") => `(tactic| (k_here; (with_reducible show wpAny _ _ (subscriptTail _ _ (Value.ref _) (Value.int _ _)) _ _ _); (with_unfolding_all refine' item_refs ?k1 ?k2 ?k3 ?k4 ?_; (case k1 => k_asm); (case k2 => k_mem); (case k3 => assumption); (case k4 => assumption); k_whole)))
local macro_rules | `(tactic| walk_at "setItem ref int") => `(tactic| (k_here; (with_reducible show wpAny _ _ (setItem (Value.ref _) (Value.int _ _) (Value.ref _)) _ _ _); k_dflt (refine' set_refs ?k1 ?k2 ?k3 ?k4 ?k5 ?_; (case k1 => k_asm); (case k2 => k_asm); (case k3 => k_upd); (case k4 => assumption); (case k5 => assumption); k_whole); intro h' F' N'; (try k_sweep)))
local macro_rules | `(tactic| top_strB) => `(tactic| first | (with_reducible assumption) | (refine off_cons ?bo1 ?bo2; (case bo1 => k_ne); (case bo2 => top_strB)))
local macro_rules | `(tactic| walk_at "execs cons") => `(tactic| ((with_reducible show wpAny _ _ (execs [Stmt.If (Expr.Compare (Expr.Attribute _ _ _) _ _ _) _ _ _, Stmt.For _ _ _ _ _] _) _ _ _); refine stop_elim ?_))
local macro_rules | `(tactic| k_enter) => `(tactic| ((with_reducible show codeAny _ _ (Code.call (Value.ref 56) ⟨[Value.ref _, Value.ref _], _⟩) _ _); k_dflt (refine' Ctr.use (ring_call ?c0 ?c1 ?c2 ?c3) ?k1 ?k2 ?k3 ?k4 ?k5 ?kK ?kd ?ku ?_; (case k1 => k_asm); (case k2 => k_asm); (case k3 => k_asm); (case k4 => k_asm); (case k5 => k_asm); (case kK => first | exact rfl | assumption); (case c0 => exact ⟨_, _, _, _, _, _, by k_mem, by k_mem⟩); (case c1 => exact ⟨_, _, by k_mem, by l_ints⟩); (case c2 => ktr_rel); (case c3 => ktr_rel); (case kd => k_room); (case ku => k_units); k_whole; intro v' h' tk' nw' F' N' cP'; obtain ⟨x', d', t1', t2', hv', hn', o1', o2', n1'⟩ := cP'; subst hv'; subst hn'; (try dsimp only); kts_tail; (try k_sweep))))
local macro_rules | `(tactic| walk_at "compareOp NotEq ref ref") => `(tactic| (k_here; (with_reducible show wpAny _ _ (compareOp CmpOp.NotEq (Value.ref _) (Value.ref _)) _ _ _); k_dflt (refine' ne_inst (C := 227) (f := 217) ?hu ?F ?X ?I ?J ?q ?hf ?_; (case F => k_asm); (case X => k_asm); (case I => k_inst); (case J => k_inst); (case hu => k_units); (case q => kernel_rfl); (case hf => kernel_rfl); k_whole)))
local macro_rules | `(tactic| walk_at "NeBack") => `(tactic| (refine neBack_bool ?_))
local macro_rules | `(tactic| walk_at "compareOp NotEq bool bool") => `(tactic| (k_here; refine ne_bool_eq ?_ ?_; (focus (first | (with_reducible exact rfl) | ((with_reducible rename (@Eq (List Int) _ (List.flatten _)) => hx9); (simp only [hx9, decide_true, Bool.true_and]; done)) | ((with_reducible rename (Not (@Eq (List Int) _ (List.flatten _))) => hx9); (simp only [hx9, decide_false, Bool.false_and]; done))))))
local macro_rules | `(tactic| walk_at "compareOp Eq bool bool") => `(tactic| (k_here; refine eq_bool_eq ?_ ?_; (focus (first | (with_reducible exact rfl) | ((with_reducible rename (@Eq (List Int) _ (List.flatten _)) => hx9); (simp only [hx9, decide_true, Bool.true_and]; done)) | ((with_reducible rename (Not (@Eq (List Int) _ (List.flatten _))) => hx9); (simp only [hx9, decide_false, Bool.false_and]; done))))))
local macro_rules | `(tactic| walk_at "compareOp Eq int int") => `(tactic| (k_here; with_reducible refine eq_int_same ?_))
local macro_rules | `(tactic| walk_at "exec Assign cons ListComp") => `(tactic| (k_here; (with_reducible show wpAny _ _ (exec (Stmt.Assign [Expr.Name _ _] (Expr.ListComp _ [⟨Expr.Tuple _ _ _, _, _, _⟩] _ _) _) _) _ _ _); k_dflt (refine' zip_assign ?z1 ?z2 ?z3 ?z4 ?z5 ?_; (case z1 => with_unfolding_all rfl); (case z2 => with_unfolding_all rfl); (case z3 => rfl); (case z4 => decide); (case z5 => intro _; with_unfolding_all rfl))))
local macro_rules | `(tactic| walk_at "eval ListComp") => `(tactic| (k_here; (with_reducible show wpAny _ _ (eval (Expr.ListComp _ [⟨Expr.Tuple _ _ _, _, _, _⟩] _ _) _) _ _ _); k_dflt (refine' zip_eval ?z2 ?z3 ?z4 ?z5 ?_; (case z2 => with_unfolding_all rfl); (case z3 => rfl); (case z4 => decide); (case z5 => intro _; with_unfolding_all rfl))))
section
local macro_rules | `(tactic| k_enter) => `(tactic| ((with_reducible show codeAny _ _ (Code.call (Value.ref 255) ⟨_, _⟩) _ _); k_dflt (refine' Ctr.use (pair_call ?c0 ?c1 ?c2 ?c3 ?c4 ?c5 ?c6 ?c7 ?c8 ?c9 ?c10 ?c11 ?c12 ?c13 ?c14) ?k1 ?k2 ?k3 ?k4 ?k5 ?kK ?kd ?ku ?_; (case k1 => k_asm); (case k2 => k_asm); (case k3 => k_asm); (case k4 => k_asm); (case k5 => k_asm); (case kK => first | exact rfl | assumption); (case c0 => exact Ring.mono (by assumption) (by top_reprB)); (case c1 => exact Poly.mono (by assumption) (by top_reprB)); (case c2 => assumption); (case c3 => assumption); (case c4 => assumption); (case c5 => assumption); (case c6 => assumption); (case c7 => exact Poly.mono (by assumption) (by top_reprB)); (case c8 => assumption); (case c9 => exact Ints.mono (by assumption) (by top_reprB)); (case c10 => exact Ints.mono (by assumption) (by top_reprB)); (case c11 => assumption); (case c12 => assumption); (case c13 => assumption); (case c14 => assumption); (case kd => k_room); (case ku => k_units); k_whole; intro v' h' tk' nw' F' N' cP'; obtain ⟨u', x', dx', l', t1', t2', vs', e', l2', us', e2', hv', hn', hi', hj', o1', o2', o3', o4', o5'⟩ := cP'; subst hv'; subst hn'; (try dsimp only); kts_tail; (try k_sweep))))
local macro_rules | `(tactic| walk_at "compareOp Eq int int") => `(tactic| (k_here; (with_reducible show wpAny _ _ (compareOp _ (Value.int _ _) (Value.int _ _)) _ _ _); first | (refine eq_int_ff ?h1 ?_; (case h1 => omega)) | (refine eq_int_tt ?h1 ?_; (case h1 => omega))))
local macro_rules | `(tactic| walk_at "compareOp Lt int int") => `(tactic| (k_here; (with_reducible show wpAny _ _ (compareOp _ (Value.int _ _) (Value.int _ _)) _ _ _); first | (refine lt_int_tt ?h1 ?_; (case h1 => omega)) | (refine lt_int_ff ?h1 ?_; (case h1 => omega))))
theorem leaf_pair {w : World} {h₀ : Heap} {L fa : Addr} {cd : Value} {p : Program} {loose : List Str} {mean : ExcName → Option Value} {mg mb : Str → Option Value} {m : Str → Option Value} {s : Shared}
    {lqual : Str} {body tb : List Stmt} {scope : Scope} {a0 a1 a2 a3 a4 a6 t0 t1 t2 t3 t4 : Stmt} {iter : Expr} {nx : Str} {px fp : Pos}
    {q n : Int} {r H U I D : Addr} {X Y : Nat → Addr} {f : Nat → List Int} {e1 e2 : Nat} {oV oQ oI oD : Obj} {ps1 ps2 : Array Value} {M : Led} {tq tn : Tok} {Q : Flow → Shared → Prop} {k a b v : Int} {tk ta tb' tv : Tok}
    (hK : LawAt w lqual body scope) (hb : body = [a0, a1, a2, a3, a4, .For (.Name nx px) iter tb [] fp, a6]) (ht : tb = [t0, t1, t2, t3, t4])
    (B : Below callerA h₀ [] h₀) (X₀ : (hd.heap_1 w.params).In h₀) (T : Top p loose mean mg mb h₀) (hq : 2 ≤ q) (hq2 : q < 2 ^ 33) (hn1 : 1 ≤ n) (hn : n ≤ 4)
    (F : Fr h₀ L s.heap m) (N : News h₀ L s.heap ((I, oI) :: (D, oD) :: lawLed L H U X Y e1 e2 oV oQ ps1 ps2 M)) (G : AllBare s.gens) (R : Rows w q n r X Y f M) (A : Apart L H U M)
    (hV : oV.data = .cell (some (.int v tv))) (hQ : oQ.data = .cell (some (.int q tq))) (ht1 : TabAt ⟨33, 19, 33, 48⟩ ps1) (ht2 : TabAt ⟨36, 19, 36, 52⟩ ps2) (offI : LCg.Off1 I ((D, oD) :: lawLed L H U X Y e1 e2 oV oQ ps1 ps2 M)) (offD : LCg.Off1 D (lawLed L H U X Y e1 e2 oV oQ ps1 ps2 M))
    (hm1 : m (Str.ofString "have") = some (.ref H)) (hm2 : m (Str.ofString "due") = some (.ref U)) (hm3 : m (Str.ofString "ring") = some (.ref r)) (hm4 : m (Str.ofString "n") = some (.int n tn))
    (hm5 : m (Str.ofString "before") = some (.ref (X a.toNat))) (hm6 : m (Str.ofString "old") = some (.ref (Y a.toNat))) (hm7 : m (Str.ofString "kind") = some (.int k tk)) (hm8 : m (Str.ofString "a") = some (.int a ta)) (hm9 : m (Str.ofString "b") = some (.int b tb'))
    (ha0 : 0 ≤ a) (ha1 : a < 3) (hb0 : 0 ≤ b) (hb1 : b < 3) (hv1 : -(2 ^ 160) < v) (hv2 : v < 2 ^ 160)
    (hk1 : 1 ≤ k) (hk3 : k ≤ 3) :
    wpAny (model PySem.Challenge.rw_bn0014_01.row.toRowW.prog w) (callerA.deeper (lawEnv lqual scope L fa cd)) (execs [t2, t3, t4] (lawEnv lqual scope L fa cd))
      (EndG h₀ L s.os I oI (D, oD) (fun m' news' => LCg.Off1 D news' ∧ LawJ w q n L r H U m' news') Q) (fun _ _ => False) s := by
  refine' lite ?lw ?lx ?le
  case lw =>
    have hKK := hK
    obtain ⟨oc, od, lname, params, dV, kV, doc, pm, an, cdv, ct, osl, hK⟩ := hK
    revert hK X₀
    k_fill
    intro X₀ hK
    refine' lk_elim hK ?hz ?_
    case hz => k_dflt k_is
    intro hE
    cases hE
    cases hb
    cases ht
    clear hK
    obtain ⟨aH, aU, aV, aQ, aZ, aC, al1, al2, al3⟩ := A
    have A : Apart L H U M := ⟨aH, aU, aV, aQ, aZ, aC, al1, al2, al3⟩
    have qa := toNat_lt3 ha0 ha1
    have qb := toNat_lt3 hb0 hb1
    have hRg := R.ring
    obtain ⟨la, hPa⟩ := R.poly _ qa
    obtain ⟨lb, hPb⟩ := R.poly _ qb
    have hIa := R.dues _ qa
    have hIb := R.dues _ qb
    have hla := R.len _ qa
    have hlb := R.len _ qb
    have hba := R.bnd _ qa
    have hbb := R.bnd _ qb
    replace F := fr_sets (l := [(Str.ofString "have", .ref H), (Str.ofString "due", .ref U), (Str.ofString "ring", .ref r), (Str.ofString "n", .int n tn), (Str.ofString "before", .ref (X a.toNat)), (Str.ofString "old", .ref (Y a.toNat)), (Str.ofString "kind", .int k tk), (Str.ofString "a", .int a ta), (Str.ofString "b", .int b tb')]) F (by simp [hm1, hm2, hm3, hm4, hm5, hm6, hm7, hm8, hm9])
    unfold lawLed at N
    (try k_fold)
    k_steps
    exact pair_end hKK rfl rfl B X₀ T hq hq2 hn1 hn (by k_asm) (by k_asm) (by k_asm) R A (by k_asm) (by k_asm) (by k_asm) (by k_asm) offI offD rfl rfl rfl rfl rfl rfl hPa hIa (by omega) (by k_asm) (by k_asm) (pairS_len hla hlb) (pairS_bnd hq) (by top_strB) (by top_strB) (by top_strB) (by top_strB) rfl
  case lx => intro hk; simpa only using hk (0 : Nat)
  case le => eq_refl
end
section
local macro_rules | `(tactic| k_enter) => `(tactic| ((with_reducible show codeAny _ _ (Code.call (Value.ref 132) ⟨[Value.ref _], _⟩) _ _); k_dflt (refine' Ctr.use (neg_call ?c0 ?c1 ?c2 ?c3 ?c4) ?k1 ?k2 ?k3 ?k4 ?k5 ?kK ?kd ?ku ?_; (case k1 => k_asm); (case k2 => k_asm); (case k3 => k_asm); (case k4 => k_asm); (case k5 => k_asm); (case kK => first | exact rfl | assumption); (case c0 => exact Ring.mono (by assumption) (by top_reprB)); (case c1 => exact Poly.mono (by assumption) (by top_reprB)); (case c2 => assumption); (case c3 => assumption); (case c4 => assumption); (case kd => k_room); (case ku => k_units); k_whole; intro v' h' tk' nw' F' N' cP'; obtain ⟨x', d', l', t1', t2', vs', e', hv', hn', hi', o1', o2', o3', n1', n2', n3'⟩ := cP'; subst hv'; subst hn'; (try dsimp only); kts_tail; (try k_sweep))))
local macro_rules | `(tactic| walk_at "compareOp Eq int int") => `(tactic| (k_here; (with_reducible show wpAny _ _ (compareOp _ (Value.int _ _) (Value.int _ _)) _ _ _); first | (refine eq_int_ff ?h1 ?_; (case h1 => omega)) | (refine eq_int_tt ?h1 ?_; (case h1 => omega))))
local macro_rules | `(tactic| walk_at "compareOp Lt int int") => `(tactic| (k_here; (with_reducible show wpAny _ _ (compareOp _ (Value.int _ _) (Value.int _ _)) _ _ _); first | (refine lt_int_tt ?h1 ?_; (case h1 => omega)) | (refine lt_int_ff ?h1 ?_; (case h1 => omega))))
theorem leaf_neg {w : World} {h₀ : Heap} {L fa : Addr} {cd : Value} {p : Program} {loose : List Str} {mean : ExcName → Option Value} {mg mb : Str → Option Value} {m : Str → Option Value} {s : Shared}
    {lqual : Str} {body tb : List Stmt} {scope : Scope} {a0 a1 a2 a3 a4 a6 t0 t1 t2 t3 t4 : Stmt} {iter : Expr} {nx : Str} {px fp : Pos}
    {q n : Int} {r H U I D : Addr} {X Y : Nat → Addr} {f : Nat → List Int} {e1 e2 : Nat} {oV oQ oI oD : Obj} {ps1 ps2 : Array Value} {M : Led} {tq tn : Tok} {Q : Flow → Shared → Prop} {k a b v : Int} {tk ta tb' tv : Tok}
    (hK : LawAt w lqual body scope) (hb : body = [a0, a1, a2, a3, a4, .For (.Name nx px) iter tb [] fp, a6]) (ht : tb = [t0, t1, t2, t3, t4])
    (B : Below callerA h₀ [] h₀) (X₀ : (hd.heap_1 w.params).In h₀) (T : Top p loose mean mg mb h₀) (hq : 2 ≤ q) (hq2 : q < 2 ^ 33) (hn1 : 1 ≤ n) (hn : n ≤ 4)
    (F : Fr h₀ L s.heap m) (N : News h₀ L s.heap ((I, oI) :: (D, oD) :: lawLed L H U X Y e1 e2 oV oQ ps1 ps2 M)) (G : AllBare s.gens) (R : Rows w q n r X Y f M) (A : Apart L H U M)
    (hV : oV.data = .cell (some (.int v tv))) (hQ : oQ.data = .cell (some (.int q tq))) (ht1 : TabAt ⟨33, 19, 33, 48⟩ ps1) (ht2 : TabAt ⟨36, 19, 36, 52⟩ ps2) (offI : LCg.Off1 I ((D, oD) :: lawLed L H U X Y e1 e2 oV oQ ps1 ps2 M)) (offD : LCg.Off1 D (lawLed L H U X Y e1 e2 oV oQ ps1 ps2 M))
    (hm1 : m (Str.ofString "have") = some (.ref H)) (hm2 : m (Str.ofString "due") = some (.ref U)) (hm3 : m (Str.ofString "ring") = some (.ref r)) (hm4 : m (Str.ofString "n") = some (.int n tn))
    (hm5 : m (Str.ofString "before") = some (.ref (X a.toNat))) (hm6 : m (Str.ofString "old") = some (.ref (Y a.toNat))) (hm7 : m (Str.ofString "kind") = some (.int k tk)) (hm8 : m (Str.ofString "a") = some (.int a ta)) (hm9 : m (Str.ofString "b") = some (.int b tb'))
    (ha0 : 0 ≤ a) (ha1 : a < 3) (hb0 : 0 ≤ b) (hb1 : b < 3) (hv1 : -(2 ^ 160) < v) (hv2 : v < 2 ^ 160)
    (hk : k = 4) :
    wpAny (model PySem.Challenge.rw_bn0014_01.row.toRowW.prog w) (callerA.deeper (lawEnv lqual scope L fa cd)) (execs [t2, t3, t4] (lawEnv lqual scope L fa cd))
      (EndG h₀ L s.os I oI (D, oD) (fun m' news' => LCg.Off1 D news' ∧ LawJ w q n L r H U m' news') Q) (fun _ _ => False) s := by
  refine' lite ?lw ?lx ?le
  case lw =>
    have hKK := hK
    obtain ⟨oc, od, lname, params, dV, kV, doc, pm, an, cdv, ct, osl, hK⟩ := hK
    revert hK X₀
    k_fill
    intro X₀ hK
    refine' lk_elim hK ?hz ?_
    case hz => k_dflt k_is
    intro hE
    cases hE
    cases hb
    cases ht
    clear hK
    obtain ⟨aH, aU, aV, aQ, aZ, aC, al1, al2, al3⟩ := A
    have A : Apart L H U M := ⟨aH, aU, aV, aQ, aZ, aC, al1, al2, al3⟩
    have qa := toNat_lt3 ha0 ha1
    have qb := toNat_lt3 hb0 hb1
    have hRg := R.ring
    obtain ⟨la, hPa⟩ := R.poly _ qa
    obtain ⟨lb, hPb⟩ := R.poly _ qb
    have hIa := R.dues _ qa
    have hIb := R.dues _ qb
    have hla := R.len _ qa
    have hlb := R.len _ qb
    have hba := R.bnd _ qa
    have hbb := R.bnd _ qb
    obtain ⟨⟨vsa, esa, hLa, hIa1⟩, dxa, ka1, ka2, eda, hXa, hDa⟩ := id hPa
    obtain ⟨usa, eya, hYa, hJa1⟩ := id hIa
    replace F := fr_sets (l := [(Str.ofString "have", .ref H), (Str.ofString "due", .ref U), (Str.ofString "ring", .ref r), (Str.ofString "n", .int n tn), (Str.ofString "before", .ref (X a.toNat)), (Str.ofString "old", .ref (Y a.toNat)), (Str.ofString "kind", .int k tk), (Str.ofString "a", .int a ta), (Str.ofString "b", .int b tb')]) F (by simp [hm1, hm2, hm3, hm4, hm5, hm6, hm7, hm8, hm9])
    unfold lawLed at N
    (try k_fold)
    k_steps
    exact pair_end hKK rfl rfl B X₀ T hq hq2 hn1 hn (by k_asm) (by k_asm) (by k_asm) R A (by k_asm) (by k_asm) (by k_asm) (by k_asm) offI offD rfl rfl rfl rfl rfl rfl hPa hIa (by omega) (by k_asm) (by k_asm) (by rw [List.length_map]; exact hla) (map_bnd hq _ fun c => -c) (by top_strB) (by top_strB) (by top_strB) (by top_strB) rfl
  case lx => intro hk; simpa only using hk (0 : Nat)
  case le => eq_refl
end
section
theorem pow2_call {w : World} {N : Led} {x r l : Addr} {q n : Int} {ns : List Int} (hR : Ring w N r q n) (hP : Poly w N x r l ns) (hlen : (ns.length : Int) = n) (hn1 : 1 ≤ n) (hn : n ≤ 4) (hq : 2 ≤ q) (hq2 : q < 2 ^ 33) (hb : ∀ c ∈ ns, 0 ≤ c ∧ c < q) {v : Int} {t : Tok} (h0 : 0 ≤ v) (h5 : v ≤ 5) : Ctr w 24 210 [.ref x, .int v t] N (PolyPost w N r (powerN q ns v.toNat)) := by
  refine' lite ?lw ?lx ?le
  case lw =>
    have C := pow_call (t := t) hR hP hlen hn1 hn hq hq2 hb ⟨h0, h5⟩
    rw [pow_power hq hn1 hn hlen hb ⟨h0, h5⟩] at C
    exact C
  case lx => intro hk; simpa only using hk (0 : Nat)
  case le => eq_refl
local macro_rules | `(tactic| k_enter) => `(tactic| ((with_reducible show codeAny _ _ (Code.call (Value.ref 210) ⟨[Value.ref _, Value.int _ _], _⟩) _ _); k_dflt (refine' Ctr.use (pow2_call ?c0 ?c1 ?c2 ?c3 ?c4 ?c5 ?c6 ?c7 ?c8 ?c9) ?k1 ?k2 ?k3 ?k4 ?k5 ?kK ?kd ?ku ?_; (case k1 => k_asm); (case k2 => k_asm); (case k3 => k_asm); (case k4 => k_asm); (case k5 => k_asm); (case kK => first | exact rfl | assumption); (case c0 => exact Ring.mono (by assumption) (by top_reprB)); (case c1 => exact Poly.mono (by assumption) (by top_reprB)); (case c2 => assumption); (case c3 => assumption); (case c4 => assumption); (case c5 => assumption); (case c6 => assumption); (case c7 => assumption); (case c8 => assumption); (case c9 => assumption); (case kd => k_room); (case ku => k_units); k_whole; intro v' h' tk' nw' F' N' cP'; obtain ⟨x', d', l', t1', t2', vs', e', hv', hn', hi', o1', o2', o3', n1', n2', n3'⟩ := cP'; subst hv'; subst hn'; (try dsimp only); kts_tail; (try k_sweep))))
local macro_rules | `(tactic| k_enter) => `(tactic| ((with_reducible show codeAny _ _ (Code.call (Value.ref 250) ⟨_, _⟩) _ _); k_dflt (refine' Ctr.use (power_call ?c0 ?c1 ?c2 ?c3 ?c4 ?c5 ?c6 _ _) ?k1 ?k2 ?k3 ?k4 ?k5 ?kK ?kd ?ku ?_; (case k1 => k_asm); (case k2 => k_asm); (case k3 => k_asm); (case k4 => k_asm); (case k5 => k_asm); (case kK => first | exact rfl | assumption); (case c0 => assumption); (case c1 => assumption); (case c2 => assumption); (case c3 => assumption); (case c4 => exact Ints.mono (by assumption) (by top_reprB)); (case c5 => assumption); (case c6 => assumption); (case kd => k_room); (case ku => k_units); k_whole; intro v' h' tk' nw' F' N' cP'; obtain ⟨l', vs', e', hv', hn', hi', o1'⟩ := cP'; subst hv'; subst hn'; (try dsimp only); kts_tail; (try k_sweep))))
local macro_rules | `(tactic| walk_at "compareOp Eq int int") => `(tactic| (k_here; (with_reducible show wpAny _ _ (compareOp _ (Value.int _ _) (Value.int _ _)) _ _ _); first | (refine eq_int_ff ?h1 ?_; (case h1 => omega)) | (refine eq_int_tt ?h1 ?_; (case h1 => omega))))
local macro_rules | `(tactic| walk_at "compareOp Lt int int") => `(tactic| (k_here; (with_reducible show wpAny _ _ (compareOp _ (Value.int _ _) (Value.int _ _)) _ _ _); first | (refine lt_int_tt ?h1 ?_; (case h1 => omega)) | (refine lt_int_ff ?h1 ?_; (case h1 => omega))))
theorem leaf_pow {w : World} {h₀ : Heap} {L fa : Addr} {cd : Value} {p : Program} {loose : List Str} {mean : ExcName → Option Value} {mg mb : Str → Option Value} {m : Str → Option Value} {s : Shared}
    {lqual : Str} {body tb : List Stmt} {scope : Scope} {a0 a1 a2 a3 a4 a6 t0 t1 t2 t3 t4 : Stmt} {iter : Expr} {nx : Str} {px fp : Pos}
    {q n : Int} {r H U I D : Addr} {X Y : Nat → Addr} {f : Nat → List Int} {e1 e2 : Nat} {oV oQ oI oD : Obj} {ps1 ps2 : Array Value} {M : Led} {tq tn : Tok} {Q : Flow → Shared → Prop} {k a b v : Int} {tk ta tb' tv : Tok}
    (hK : LawAt w lqual body scope) (hb : body = [a0, a1, a2, a3, a4, .For (.Name nx px) iter tb [] fp, a6]) (ht : tb = [t0, t1, t2, t3, t4])
    (B : Below callerA h₀ [] h₀) (X₀ : (hd.heap_1 w.params).In h₀) (T : Top p loose mean mg mb h₀) (hq : 2 ≤ q) (hq2 : q < 2 ^ 33) (hn1 : 1 ≤ n) (hn : n ≤ 4)
    (F : Fr h₀ L s.heap m) (N : News h₀ L s.heap ((I, oI) :: (D, oD) :: lawLed L H U X Y e1 e2 oV oQ ps1 ps2 M)) (G : AllBare s.gens) (R : Rows w q n r X Y f M) (A : Apart L H U M)
    (hV : oV.data = .cell (some (.int v tv))) (hQ : oQ.data = .cell (some (.int q tq))) (ht1 : TabAt ⟨33, 19, 33, 48⟩ ps1) (ht2 : TabAt ⟨36, 19, 36, 52⟩ ps2) (offI : LCg.Off1 I ((D, oD) :: lawLed L H U X Y e1 e2 oV oQ ps1 ps2 M)) (offD : LCg.Off1 D (lawLed L H U X Y e1 e2 oV oQ ps1 ps2 M))
    (hm1 : m (Str.ofString "have") = some (.ref H)) (hm2 : m (Str.ofString "due") = some (.ref U)) (hm3 : m (Str.ofString "ring") = some (.ref r)) (hm4 : m (Str.ofString "n") = some (.int n tn))
    (hm5 : m (Str.ofString "before") = some (.ref (X a.toNat))) (hm6 : m (Str.ofString "old") = some (.ref (Y a.toNat))) (hm7 : m (Str.ofString "kind") = some (.int k tk)) (hm8 : m (Str.ofString "a") = some (.int a ta)) (hm9 : m (Str.ofString "b") = some (.int b tb'))
    (ha0 : 0 ≤ a) (ha1 : a < 3) (hb0 : 0 ≤ b) (hb1 : b < 3) (hv1 : -(2 ^ 160) < v) (hv2 : v < 2 ^ 160)
    (hk : k = 5) :
    wpAny (model PySem.Challenge.rw_bn0014_01.row.toRowW.prog w) (callerA.deeper (lawEnv lqual scope L fa cd)) (execs [t2, t3, t4] (lawEnv lqual scope L fa cd))
      (EndG h₀ L s.os I oI (D, oD) (fun m' news' => LCg.Off1 D news' ∧ LawJ w q n L r H U m' news') Q) (fun _ _ => False) s := by
  refine' lite ?lw ?lx ?le
  case lw =>
    have hKK := hK
    obtain ⟨oc, od, lname, params, dV, kV, doc, pm, an, cdv, ct, osl, hK⟩ := hK
    revert hK X₀
    k_fill
    intro X₀ hK
    refine' lk_elim hK ?hz ?_
    case hz => k_dflt k_is
    intro hE
    cases hE
    cases hb
    cases ht
    clear hK
    obtain ⟨aH, aU, aV, aQ, aZ, aC, al1, al2, al3⟩ := A
    have A : Apart L H U M := ⟨aH, aU, aV, aQ, aZ, aC, al1, al2, al3⟩
    have qa := toNat_lt3 ha0 ha1
    have qb := toNat_lt3 hb0 hb1
    have hRg := R.ring
    obtain ⟨la, hPa⟩ := R.poly _ qa
    obtain ⟨lb, hPb⟩ := R.poly _ qb
    have hIa := R.dues _ qa
    have hIb := R.dues _ qb
    have hla := R.len _ qa
    have hlb := R.len _ qb
    have hba := R.bnd _ qa
    have hbb := R.bnd _ qb
    obtain ⟨⟨vsa, esa, hLa, hIa1⟩, dxa, ka1, ka2, eda, hXa, hDa⟩ := id hPa
    obtain ⟨usa, eya, hYa, hJa1⟩ := id hIa
    have hw0 : 0 ≤ Int.fmod v 6 := fmod_lo v (by decide)
    have hw1 : Int.fmod v 6 ≤ 5 := Int.le_of_lt_add_one (fmod_hi v (by decide))
    have hwp := And.intro hw0 hw1
    have hlx : 1 ≤ (f a.toNat).length := by omega
    have hly : (f a.toNat).length ≤ 4 := by omega
    replace F := fr_sets (l := [(Str.ofString "have", .ref H), (Str.ofString "due", .ref U), (Str.ofString "ring", .ref r), (Str.ofString "n", .int n tn), (Str.ofString "before", .ref (X a.toNat)), (Str.ofString "old", .ref (Y a.toNat)), (Str.ofString "kind", .int k tk), (Str.ofString "a", .int a ta), (Str.ofString "b", .int b tb')]) F (by simp [hm1, hm2, hm3, hm4, hm5, hm6, hm7, hm8, hm9])
    unfold lawLed at N
    (try k_fold)
    k_steps
    exact pair_end hKK rfl rfl B X₀ T hq hq2 hn1 hn (by k_asm) (by k_asm) (by k_asm) R A (by k_asm) (by k_asm) (by k_asm) (by k_asm) offI offD rfl rfl rfl rfl rfl rfl hPa hIa (by omega) (by k_asm) (by k_asm) (by rw [powerN_length q hlx]; exact hla) (powerN_bnd hq _ _) (by top_strB) (by top_strB) (by top_strB) (by top_strB) rfl
  case lx => intro hk; simpa only using hk (0 : Nat)
  case le => eq_refl
end
section
local macro_rules | `(tactic| k_enter) => `(tactic| ((with_reducible show codeAny _ _ (Code.call (Value.ref 265) ⟨_, _⟩) _ _); k_dflt (refine' Ctr.use (mixed_call ?c0 ?c1 ?c2 ?c3 ?c4 ?c5 ?c6 ?c7 ?c8 ?c9 ?c10) ?k1 ?k2 ?k3 ?k4 ?k5 ?kK ?kd ?ku ?_; (case k1 => k_asm); (case k2 => k_asm); (case k3 => k_asm); (case k4 => k_asm); (case k5 => k_asm); (case kK => first | exact rfl | assumption); (case c0 => exact Ring.mono (by assumption) (by top_reprB)); (case c1 => exact Poly.mono (by assumption) (by top_reprB)); (case c2 => assumption); (case c3 => assumption); (case c4 => assumption); (case c5 => assumption); (case c6 => assumption); (case c7 => exact Ints.mono (by assumption) (by top_reprB)); (case c8 => assumption); (case c9 => assumption); (case c10 => assumption); (case kd => k_room); (case ku => k_units); k_whole; intro v' h' tk' nw' F' N' cP'; obtain ⟨u', x', dx', l', t1', t2', vs', e', l2', us', e2', hv', hn', hi', hj', o1', o2', o3', o4', o5'⟩ := cP'; subst hv'; subst hn'; (try dsimp only); kts_tail; (try k_sweep))))
local macro_rules | `(tactic| walk_at "compareOp Eq int int") => `(tactic| (k_here; (with_reducible show wpAny _ _ (compareOp _ (Value.int _ _) (Value.int _ _)) _ _ _); first | (refine eq_int_ff ?h1 ?_; (case h1 => omega)) | (refine eq_int_tt ?h1 ?_; (case h1 => omega))))
local macro_rules | `(tactic| walk_at "compareOp Lt int int") => `(tactic| (k_here; (with_reducible show wpAny _ _ (compareOp _ (Value.int _ _) (Value.int _ _)) _ _ _); first | (refine lt_int_tt ?h1 ?_; (case h1 => omega)) | (refine lt_int_ff ?h1 ?_; (case h1 => omega))))
theorem leaf_mixed {w : World} {h₀ : Heap} {L fa : Addr} {cd : Value} {p : Program} {loose : List Str} {mean : ExcName → Option Value} {mg mb : Str → Option Value} {m : Str → Option Value} {s : Shared}
    {lqual : Str} {body tb : List Stmt} {scope : Scope} {a0 a1 a2 a3 a4 a6 t0 t1 t2 t3 t4 : Stmt} {iter : Expr} {nx : Str} {px fp : Pos}
    {q n : Int} {r H U I D : Addr} {X Y : Nat → Addr} {f : Nat → List Int} {e1 e2 : Nat} {oV oQ oI oD : Obj} {ps1 ps2 : Array Value} {M : Led} {tq tn : Tok} {Q : Flow → Shared → Prop} {k a b v : Int} {tk ta tb' tv : Tok}
    (hK : LawAt w lqual body scope) (hb : body = [a0, a1, a2, a3, a4, .For (.Name nx px) iter tb [] fp, a6]) (ht : tb = [t0, t1, t2, t3, t4])
    (B : Below callerA h₀ [] h₀) (X₀ : (hd.heap_1 w.params).In h₀) (T : Top p loose mean mg mb h₀) (hq : 2 ≤ q) (hq2 : q < 2 ^ 33) (hn1 : 1 ≤ n) (hn : n ≤ 4)
    (F : Fr h₀ L s.heap m) (N : News h₀ L s.heap ((I, oI) :: (D, oD) :: lawLed L H U X Y e1 e2 oV oQ ps1 ps2 M)) (G : AllBare s.gens) (R : Rows w q n r X Y f M) (A : Apart L H U M)
    (hV : oV.data = .cell (some (.int v tv))) (hQ : oQ.data = .cell (some (.int q tq))) (ht1 : TabAt ⟨33, 19, 33, 48⟩ ps1) (ht2 : TabAt ⟨36, 19, 36, 52⟩ ps2) (offI : LCg.Off1 I ((D, oD) :: lawLed L H U X Y e1 e2 oV oQ ps1 ps2 M)) (offD : LCg.Off1 D (lawLed L H U X Y e1 e2 oV oQ ps1 ps2 M))
    (hm1 : m (Str.ofString "have") = some (.ref H)) (hm2 : m (Str.ofString "due") = some (.ref U)) (hm3 : m (Str.ofString "ring") = some (.ref r)) (hm4 : m (Str.ofString "n") = some (.int n tn))
    (hm5 : m (Str.ofString "before") = some (.ref (X a.toNat))) (hm6 : m (Str.ofString "old") = some (.ref (Y a.toNat))) (hm7 : m (Str.ofString "kind") = some (.int k tk)) (hm8 : m (Str.ofString "a") = some (.int a ta)) (hm9 : m (Str.ofString "b") = some (.int b tb'))
    (ha0 : 0 ≤ a) (ha1 : a < 3) (hb0 : 0 ≤ b) (hb1 : b < 3) (hv1 : -(2 ^ 160) < v) (hv2 : v < 2 ^ 160)
    (hk1 : 6 ≤ k) (hk3 : k ≤ 8) :
    wpAny (model PySem.Challenge.rw_bn0014_01.row.toRowW.prog w) (callerA.deeper (lawEnv lqual scope L fa cd)) (execs [t2, t3, t4] (lawEnv lqual scope L fa cd))
      (EndG h₀ L s.os I oI (D, oD) (fun m' news' => LCg.Off1 D news' ∧ LawJ w q n L r H U m' news') Q) (fun _ _ => False) s := by
  refine' lite ?lw ?lx ?le
  case lw =>
    have hKK := hK
    obtain ⟨oc, od, lname, params, dV, kV, doc, pm, an, cdv, ct, osl, hK⟩ := hK
    revert hK X₀
    k_fill
    intro X₀ hK
    refine' lk_elim hK ?hz ?_
    case hz => k_dflt k_is
    intro hE
    cases hE
    cases hb
    cases ht
    clear hK
    obtain ⟨aH, aU, aV, aQ, aZ, aC, al1, al2, al3⟩ := A
    have A : Apart L H U M := ⟨aH, aU, aV, aQ, aZ, aC, al1, al2, al3⟩
    have qa := toNat_lt3 ha0 ha1
    have qb := toNat_lt3 hb0 hb1
    have hRg := R.ring
    obtain ⟨la, hPa⟩ := R.poly _ qa
    obtain ⟨lb, hPb⟩ := R.poly _ qb
    have hIa := R.dues _ qa
    have hIb := R.dues _ qb
    have hla := R.len _ qa
    have hlb := R.len _ qb
    have hba := R.bnd _ qa
    have hbb := R.bnd _ qb
    replace F := fr_sets (l := [(Str.ofString "have", .ref H), (Str.ofString "due", .ref U), (Str.ofString "ring", .ref r), (Str.ofString "n", .int n tn), (Str.ofString "before", .ref (X a.toNat)), (Str.ofString "old", .ref (Y a.toNat)), (Str.ofString "kind", .int k tk), (Str.ofString "a", .int a ta), (Str.ofString "b", .int b tb')]) F (by simp [hm1, hm2, hm3, hm4, hm5, hm6, hm7, hm8, hm9])
    unfold lawLed at N
    (try k_fold)
    k_steps
    exact pair_end hKK rfl rfl B X₀ T hq hq2 hn1 hn (by k_asm) (by k_asm) (by k_asm) R A (by k_asm) (by k_asm) (by k_asm) (by k_asm) offI offD rfl rfl rfl rfl rfl rfl hPa hIa (by omega) (by k_asm) (by k_asm) (mixedS_len hla hn1) (mixedS_bnd hq hba) (by top_strB) (by top_strB) (by top_strB) (by top_strB) rfl
  case lx => intro hk; simpa only using hk (0 : Nat)
  case le => eq_refl
end
section
local macro_rules | `(tactic| k_enter) => `(tactic| ((with_reducible show codeAny _ _ (Code.call (Value.ref 260) ⟨_, _⟩) _ _); k_dflt (refine' Ctr.use (onward_call ?c0 ?c1 ?c2 ?c3 ?c4 ?c5 ?c6 ?c7 ?c8 ?c9 ?c10 ?c11 ?c12 ?c13 ?c14) ?k1 ?k2 ?k3 ?k4 ?k5 ?kK ?kd ?ku ?_; (case k1 => k_asm); (case k2 => k_asm); (case k3 => k_asm); (case k4 => k_asm); (case k5 => k_asm); (case kK => first | exact rfl | assumption); (case c0 => exact Ring.mono (by assumption) (by top_reprB)); (case c1 => exact Poly.mono (by assumption) (by top_reprB)); (case c2 => assumption); (case c3 => assumption); (case c4 => assumption); (case c5 => assumption); (case c6 => assumption); (case c7 => exact Poly.mono (by assumption) (by top_reprB)); (case c8 => assumption); (case c9 => exact Ints.mono (by assumption) (by top_reprB)); (case c10 => exact Ints.mono (by assumption) (by top_reprB)); (case c11 => assumption); (case c12 => assumption); (case c13 => assumption); (case c14 => assumption); (case kd => k_room); (case ku => k_units); k_whole; intro v' h' tk' nw' F' N' cP'; obtain ⟨u', x', dx', l', t1', t2', vs', e', l2', us', e2', hv', hn', hi', hj', o1', o2', o3', o4', o5'⟩ := cP'; subst hv'; subst hn'; (try dsimp only); kts_tail; (try k_sweep))))
local macro_rules | `(tactic| walk_at "compareOp Eq int int") => `(tactic| (k_here; (with_reducible show wpAny _ _ (compareOp _ (Value.int _ _) (Value.int _ _)) _ _ _); first | (refine eq_int_ff ?h1 ?_; (case h1 => omega)) | (refine eq_int_tt ?h1 ?_; (case h1 => omega))))
local macro_rules | `(tactic| walk_at "compareOp Lt int int") => `(tactic| (k_here; (with_reducible show wpAny _ _ (compareOp _ (Value.int _ _) (Value.int _ _)) _ _ _); first | (refine lt_int_tt ?h1 ?_; (case h1 => omega)) | (refine lt_int_ff ?h1 ?_; (case h1 => omega))))
theorem leaf_onward {w : World} {h₀ : Heap} {L fa : Addr} {cd : Value} {p : Program} {loose : List Str} {mean : ExcName → Option Value} {mg mb : Str → Option Value} {m : Str → Option Value} {s : Shared}
    {lqual : Str} {body tb : List Stmt} {scope : Scope} {a0 a1 a2 a3 a4 a6 t0 t1 t2 t3 t4 : Stmt} {iter : Expr} {nx : Str} {px fp : Pos}
    {q n : Int} {r H U I D : Addr} {X Y : Nat → Addr} {f : Nat → List Int} {e1 e2 : Nat} {oV oQ oI oD : Obj} {ps1 ps2 : Array Value} {M : Led} {tq tn : Tok} {Q : Flow → Shared → Prop} {k a b v : Int} {tk ta tb' tv : Tok}
    (hK : LawAt w lqual body scope) (hb : body = [a0, a1, a2, a3, a4, .For (.Name nx px) iter tb [] fp, a6]) (ht : tb = [t0, t1, t2, t3, t4])
    (B : Below callerA h₀ [] h₀) (X₀ : (hd.heap_1 w.params).In h₀) (T : Top p loose mean mg mb h₀) (hq : 2 ≤ q) (hq2 : q < 2 ^ 33) (hn1 : 1 ≤ n) (hn : n ≤ 4)
    (F : Fr h₀ L s.heap m) (N : News h₀ L s.heap ((I, oI) :: (D, oD) :: lawLed L H U X Y e1 e2 oV oQ ps1 ps2 M)) (G : AllBare s.gens) (R : Rows w q n r X Y f M) (A : Apart L H U M)
    (hV : oV.data = .cell (some (.int v tv))) (hQ : oQ.data = .cell (some (.int q tq))) (ht1 : TabAt ⟨33, 19, 33, 48⟩ ps1) (ht2 : TabAt ⟨36, 19, 36, 52⟩ ps2) (offI : LCg.Off1 I ((D, oD) :: lawLed L H U X Y e1 e2 oV oQ ps1 ps2 M)) (offD : LCg.Off1 D (lawLed L H U X Y e1 e2 oV oQ ps1 ps2 M))
    (hm1 : m (Str.ofString "have") = some (.ref H)) (hm2 : m (Str.ofString "due") = some (.ref U)) (hm3 : m (Str.ofString "ring") = some (.ref r)) (hm4 : m (Str.ofString "n") = some (.int n tn))
    (hm5 : m (Str.ofString "before") = some (.ref (X a.toNat))) (hm6 : m (Str.ofString "old") = some (.ref (Y a.toNat))) (hm7 : m (Str.ofString "kind") = some (.int k tk)) (hm8 : m (Str.ofString "a") = some (.int a ta)) (hm9 : m (Str.ofString "b") = some (.int b tb'))
    (ha0 : 0 ≤ a) (ha1 : a < 3) (hb0 : 0 ≤ b) (hb1 : b < 3) (hv1 : -(2 ^ 160) < v) (hv2 : v < 2 ^ 160)
    (hk : k = 9) :
    wpAny (model PySem.Challenge.rw_bn0014_01.row.toRowW.prog w) (callerA.deeper (lawEnv lqual scope L fa cd)) (execs [t2, t3, t4] (lawEnv lqual scope L fa cd))
      (EndG h₀ L s.os I oI (D, oD) (fun m' news' => LCg.Off1 D news' ∧ LawJ w q n L r H U m' news') Q) (fun _ _ => False) s := by
  refine' lite ?lw ?lx ?le
  case lw =>
    have hKK := hK
    obtain ⟨oc, od, lname, params, dV, kV, doc, pm, an, cdv, ct, osl, hK⟩ := hK
    revert hK X₀
    k_fill
    intro X₀ hK
    refine' lk_elim hK ?hz ?_
    case hz => k_dflt k_is
    intro hE
    cases hE
    cases hb
    cases ht
    clear hK
    obtain ⟨aH, aU, aV, aQ, aZ, aC, al1, al2, al3⟩ := A
    have A : Apart L H U M := ⟨aH, aU, aV, aQ, aZ, aC, al1, al2, al3⟩
    have qa := toNat_lt3 ha0 ha1
    have qb := toNat_lt3 hb0 hb1
    have hRg := R.ring
    obtain ⟨la, hPa⟩ := R.poly _ qa
    obtain ⟨lb, hPb⟩ := R.poly _ qb
    have hIa := R.dues _ qa
    have hIb := R.dues _ qb
    have hla := R.len _ qa
    have hlb := R.len _ qb
    have hba := R.bnd _ qa
    have hbb := R.bnd _ qb
    have hw0 : 0 ≤ Int.fmod v 3 := fmod_lo v (by decide)
    have hw1 : Int.fmod v 3 < 3 := fmod_hi v (by decide)
    replace F := fr_sets (l := [(Str.ofString "have", .ref H), (Str.ofString "due", .ref U), (Str.ofString "ring", .ref r), (Str.ofString "n", .int n tn), (Str.ofString "before", .ref (X a.toNat)), (Str.ofString "old", .ref (Y a.toNat)), (Str.ofString "kind", .int k tk), (Str.ofString "a", .int a ta), (Str.ofString "b", .int b tb')]) F (by simp [hm1, hm2, hm3, hm4, hm5, hm6, hm7, hm8, hm9])
    unfold lawLed at N
    (try k_fold)
    k_steps
    exact pair_end hKK rfl rfl B X₀ T hq hq2 hn1 hn (by k_asm) (by k_asm) (by k_asm) R A (by k_asm) (by k_asm) (by k_asm) (by k_asm) offI offD rfl rfl rfl rfl rfl rfl hPa hIa (by omega) (by k_asm) (by k_asm) (pairS_len hla hlb) (pairS_bnd hq) (by top_strB) (by top_strB) (by top_strB) (by top_strB) rfl
  case lx => intro hk; simpa only using hk (0 : Nat)
  case le => eq_refl
end
section
local macro_rules | `(tactic| k_enter) => `(tactic| ((with_reducible show codeAny _ _ (Code.call (Value.ref 286) ⟨_, _⟩) _ _); k_dflt (refine' CtrT.use (refused_call ?c0 ?c1 ?c2 ?c3 ?c4 ?c5 ?c6 ?c7 ?c8 ?c9 ?c10) ?k1 ?k2 ?k3 ?k4 ?k5 ?kK ?kd ?ku ?_; (case k1 => k_asm); (case k2 => k_asm); (case k3 => k_asm); (case k4 => k_asm); (case k5 => k_asm); (case kK => first | exact rfl | assumption); (case c0 => exact Ring.mono (by assumption) (by top_reprB)); (case c1 => exact Poly.mono (by assumption) (by top_reprB)); (case c2 => assumption); (case c3 => assumption); (case c4 => assumption); (case c5 => assumption); (case c6 => assumption); (case c7 => assumption); (case c8 => assumption); (case c9 => assumption); (case c10 => assumption); (case kd => k_room); (case ku => k_units); k_whole; intro v' h' tk' nw' F' N' cP'; obtain ⟨t', hv', hn'⟩ := cP'; subst hv'; subst hn'; (try dsimp only); kts_tail; (try k_sweep))))
local macro_rules | `(tactic| walk_at "compareOp NotEq int int") => `(tactic| (k_here; refine ne_int_eq ?h1 ?_; (case h1 => k_dflt exact rfl)))
local macro_rules | `(tactic| walk_at "subscriptTail List cons BinOp ref int") => `(tactic| (k_here; k_dflt (refine' ksa_sub ?k1 ?k2 ?k3 ?k4 ?k5 ?k6 ?_ ?k7; (case k1 => k_asm); (case k2 => k_mem); (case k3 => repeat' (first | exact IntsAre.nil | refine' IntsAre.cons _ _ ?_)); (case k4 => assumption); (case k5 => (simp only [List.length_cons, List.length_nil]; omega)); (case k6 => omega); (case k7 => with_unfolding_all rfl); k_whole); intro _))
local macro_rules | `(tactic| walk_at "compareOp Eq int int") => `(tactic| (k_here; (with_reducible show wpAny _ _ (compareOp _ (Value.int _ _) (Value.int _ _)) _ _ _); first | (refine eq_int_ff ?h1 ?_; (case h1 => omega)) | (refine eq_int_tt ?h1 ?_; (case h1 => omega))))
local macro_rules | `(tactic| walk_at "compareOp Lt int int") => `(tactic| (k_here; (with_reducible show wpAny _ _ (compareOp _ (Value.int _ _) (Value.int _ _)) _ _ _); first | (refine lt_int_tt ?h1 ?_; (case h1 => omega)) | (refine lt_int_ff ?h1 ?_; (case h1 => omega))))
theorem leaf_refused {w : World} {h₀ : Heap} {L fa : Addr} {cd : Value} {p : Program} {loose : List Str} {mean : ExcName → Option Value} {mg mb : Str → Option Value} {m : Str → Option Value} {s : Shared}
    {lqual : Str} {body tb : List Stmt} {scope : Scope} {a0 a1 a2 a3 a4 a6 t0 t1 t2 t3 t4 : Stmt} {iter : Expr} {nx : Str} {px fp : Pos}
    {q n : Int} {r H U I D : Addr} {X Y : Nat → Addr} {f : Nat → List Int} {e1 e2 : Nat} {oV oQ oI oD : Obj} {ps1 ps2 : Array Value} {M : Led} {tq tn : Tok} {Q : Flow → Shared → Prop} {k a b v : Int} {tk ta tb' tv : Tok}
    (hK : LawAt w lqual body scope) (hb : body = [a0, a1, a2, a3, a4, .For (.Name nx px) iter tb [] fp, a6]) (ht : tb = [t0, t1, t2, t3, t4])
    (B : Below callerA h₀ [] h₀) (X₀ : (hd.heap_1 w.params).In h₀) (T : Top p loose mean mg mb h₀) (hq : 2 ≤ q) (hq2 : q < 2 ^ 33) (hn1 : 1 ≤ n) (hn : n ≤ 4)
    (F : Fr h₀ L s.heap m) (N : News h₀ L s.heap ((I, oI) :: (D, oD) :: lawLed L H U X Y e1 e2 oV oQ ps1 ps2 M)) (G : AllBare s.gens) (R : Rows w q n r X Y f M) (A : Apart L H U M)
    (hV : oV.data = .cell (some (.int v tv))) (hQ : oQ.data = .cell (some (.int q tq))) (ht1 : TabAt ⟨33, 19, 33, 48⟩ ps1) (ht2 : TabAt ⟨36, 19, 36, 52⟩ ps2) (offI : LCg.Off1 I ((D, oD) :: lawLed L H U X Y e1 e2 oV oQ ps1 ps2 M)) (offD : LCg.Off1 D (lawLed L H U X Y e1 e2 oV oQ ps1 ps2 M))
    (hm1 : m (Str.ofString "have") = some (.ref H)) (hm2 : m (Str.ofString "due") = some (.ref U)) (hm3 : m (Str.ofString "ring") = some (.ref r)) (hm4 : m (Str.ofString "n") = some (.int n tn))
    (hm5 : m (Str.ofString "before") = some (.ref (X a.toNat))) (hm6 : m (Str.ofString "old") = some (.ref (Y a.toNat))) (hm7 : m (Str.ofString "kind") = some (.int k tk)) (hm8 : m (Str.ofString "a") = some (.int a ta)) (hm9 : m (Str.ofString "b") = some (.int b tb'))
    (ha0 : 0 ≤ a) (ha1 : a < 3) (hb0 : 0 ≤ b) (hb1 : b < 3) (hv1 : -(2 ^ 160) < v) (hv2 : v < 2 ^ 160)
    (hk : k = 11) :
    wpAny (model PySem.Challenge.rw_bn0014_01.row.toRowW.prog w) (callerA.deeper (lawEnv lqual scope L fa cd)) (execs [t2, t3, t4] (lawEnv lqual scope L fa cd))
      (EndG h₀ L s.os I oI (D, oD) (fun m' news' => LCg.Off1 D news' ∧ LawJ w q n L r H U m' news') Q) (fun _ _ => False) s := by
  refine' lite ?lw ?lx ?le
  case lw =>
    have hKK := hK
    obtain ⟨oc, od, lname, params, dV, kV, doc, pm, an, cdv, ct, osl, hK⟩ := hK
    revert hK X₀
    k_fill
    intro X₀ hK
    refine' lk_elim hK ?hz ?_
    case hz => k_dflt k_is
    intro hE
    cases hE
    cases hb
    cases ht
    clear hK
    obtain ⟨aH, aU, aV, aQ, aZ, aC, al1, al2, al3⟩ := A
    have A : Apart L H U M := ⟨aH, aU, aV, aQ, aZ, aC, al1, al2, al3⟩
    have qa := toNat_lt3 ha0 ha1
    have qb := toNat_lt3 hb0 hb1
    have hRg := R.ring
    obtain ⟨la, hPa⟩ := R.poly _ qa
    obtain ⟨lb, hPb⟩ := R.poly _ qb
    have hIa := R.dues _ qa
    have hIb := R.dues _ qb
    have hla := R.len _ qa
    have hlb := R.len _ qb
    have hba := R.bnd _ qa
    have hbb := R.bnd _ qb
    have hw0 : 0 ≤ Int.fmod v 7 := fmod_lo v (by decide)
    have hw1 : Int.fmod v 7 < 7 := fmod_hi v (by decide)
    replace F := fr_sets (l := [(Str.ofString "have", .ref H), (Str.ofString "due", .ref U), (Str.ofString "ring", .ref r), (Str.ofString "n", .int n tn), (Str.ofString "before", .ref (X a.toNat)), (Str.ofString "old", .ref (Y a.toNat)), (Str.ofString "kind", .int k tk), (Str.ofString "a", .int a ta), (Str.ofString "b", .int b tb')]) F (by simp [hm1, hm2, hm3, hm4, hm5, hm6, hm7, hm8, hm9])
    unfold lawLed at N
    (try k_fold)
    k_steps
    exact tail_go (X := X) (Y := Y) (f := f) (e1 := e1) (e2 := e2) (M := M) hKK rfl rfl B X₀ T hq hq2 hn1 hn (by k_asm) (by allgen_close_more) (by k_asm) R A (by k_asm) (by k_asm) (by k_asm) (by k_asm) (by top_strB) (by top_strB) rfl rfl rfl rfl rfl rfl hPa hIa (by omega) (rfl)
  case lx => intro hk; simpa only using hk (0 : Nat)
  case le => eq_refl
end
end
section
local macro_rules | `(tactic| k_mem) => `(tactic| ((fail_if_success (with_reducible refine' List.Mem.tail _ ?_)); first | with_reducible assumption | assumption | (refine sub_mem (by assumption) ?_; k_mem)))
local macro_rules | `(tactic| news_mem) => `(tactic| k_mem)
local macro_rules | `(tactic| k_room) => `(tactic| ((simp only [depth_under_make, depth_under_kw, depth_in1, depth_deeper, depth_caller, recursionLimit] at *); omega))
local macro_rules | `(tactic| k_units) => `(tactic| ((have hcL9 := cLine_is); (simp only [units_in1, units_deeper, Around.mark_units, units_caller, cLine] at *); omega))
local macro_rules | `(tactic| allgen_close2_more) => `(tactic| assumption)
local macro_rules | `(tactic| ktr_rel) => `(tactic| ((try simp only [List.length_append, List.length_cons, List.length_nil, List.length_map, List.length_set, List.length_zipWith, rangeKs_length]); first | assumption | omega))
local macro_rules | `(tactic| top_reprB) => `(tactic| first | exact List.forall_mem_nil _ | (refine List.forall_mem_cons.mpr ⟨by k_mem, ?_⟩; top_reprB) | (intro p hp; k_mem))
local macro_rules | `(tactic| k_ne) => `(tactic| (refine neN ?_; (try dsimp only); first | (with_reducible assumption) | exact Ne.symm (by with_reducible assumption) | exact off_ne (by with_reducible assumption) (by k_mem) | exact Ne.symm (off_ne (by with_reducible assumption) (by k_mem)) | omega))
local macro_rules | `(tactic| top_strB) => `(tactic| first | (first | assumption | exact allLt_of (by assumption) | exact And.right (by assumption) | exact And.right (And.right (by assumption)) | exact And.right (And.right (And.right (by assumption))) | exact And.right (And.right (And.right (And.right (by assumption)))) | exact And.right (And.right (And.right (And.right (And.right (by assumption))))) | exact And.right (And.right (And.right (And.right (And.right (And.right (by assumption)))))) | exact And.right (And.right (And.right (And.right (And.right (And.right (And.right (by assumption))))))) | exact And.right (And.right (And.right (And.right (And.right (And.right (And.right (And.right (by assumption)))))))) | exact And.right (And.right (And.right (And.right (And.right (And.right (And.right (And.right (And.right (by assumption))))))))) | exact And.right (And.right (And.right (And.right (And.right (And.right (And.right (And.right (And.right (And.right (by assumption)))))))))) | exact And.right (And.right (And.right (And.right (And.right (And.right (And.right (And.right (And.right (And.right (And.right (by assumption))))))))))) | exact And.right (And.right (And.right (And.right (And.right (And.right (And.right (And.right (And.right (And.right (And.right (And.right (by assumption)))))))))))) | exact And.right (And.right (And.right (And.right (And.right (And.right (And.right (And.right (And.right (And.right (And.right (And.right (And.right (by assumption))))))))))))) | exact And.right (And.right (And.right (And.right (And.right (And.right (And.right (And.right (And.right (And.right (And.right (And.right (And.right (And.right (by assumption)))))))))))))) | exact And.right (And.right (And.right (And.right (And.right (And.right (And.right (And.right (And.right (And.right (And.right (And.right (And.right (And.right (And.right (by assumption))))))))))))))) | exact And.right (And.right (And.right (And.right (And.right (And.right (And.right (And.right (And.right (And.right (And.right (And.right (And.right (And.right (And.right (And.right (by assumption)))))))))))))))) | exact And.right (And.right (And.right (And.right (And.right (And.right (And.right (And.right (And.right (And.right (And.right (And.right (And.right (And.right (And.right (And.right (And.right (by assumption))))))))))))))))) | exact And.right (And.right (And.right (And.right (And.right (And.right (And.right (And.right (And.right (And.right (And.right (And.right (And.right (And.right (And.right (And.right (And.right (And.right (by assumption)))))))))))))))))) | exact And.right (And.right (And.right (And.right (And.right (And.right (And.right (And.right (And.right (And.right (And.right (And.right (And.right (And.right (And.right (And.right (And.right (And.right (And.right (by assumption)))))))))))))))))))) | exact off_sub (by with_reducible assumption) (by top_reprB) | exact off_of_lt (by (first | assumption | exact allLt_of (by assumption) | exact And.right (by assumption) | exact And.right (And.right (by assumption)) | exact And.right (And.right (And.right (by assumption))) | exact And.right (And.right (And.right (And.right (by assumption)))) | exact And.right (And.right (And.right (And.right (And.right (by assumption))))) | exact And.right (And.right (And.right (And.right (And.right (And.right (by assumption)))))) | exact And.right (And.right (And.right (And.right (And.right (And.right (And.right (by assumption))))))) | exact And.right (And.right (And.right (And.right (And.right (And.right (And.right (And.right (by assumption)))))))) | exact And.right (And.right (And.right (And.right (And.right (And.right (And.right (And.right (And.right (by assumption))))))))) | exact And.right (And.right (And.right (And.right (And.right (And.right (And.right (And.right (And.right (And.right (by assumption)))))))))) | exact And.right (And.right (And.right (And.right (And.right (And.right (And.right (And.right (And.right (And.right (And.right (by assumption))))))))))) | exact And.right (And.right (And.right (And.right (And.right (And.right (And.right (And.right (And.right (And.right (And.right (And.right (by assumption)))))))))))) | exact And.right (And.right (And.right (And.right (And.right (And.right (And.right (And.right (And.right (And.right (And.right (And.right (And.right (by assumption))))))))))))) | exact And.right (And.right (And.right (And.right (And.right (And.right (And.right (And.right (And.right (And.right (And.right (And.right (And.right (And.right (by assumption)))))))))))))) | exact And.right (And.right (And.right (And.right (And.right (And.right (And.right (And.right (And.right (And.right (And.right (And.right (And.right (And.right (And.right (by assumption))))))))))))))) | exact And.right (And.right (And.right (And.right (And.right (And.right (And.right (And.right (And.right (And.right (And.right (And.right (And.right (And.right (And.right (And.right (by assumption)))))))))))))))) | exact And.right (And.right (And.right (And.right (And.right (And.right (And.right (And.right (And.right (And.right (And.right (And.right (And.right (And.right (And.right (And.right (And.right (by assumption))))))))))))))))) | exact And.right (And.right (And.right (And.right (And.right (And.right (And.right (And.right (And.right (And.right (And.right (And.right (And.right (And.right (And.right (And.right (And.right (And.right (by assumption)))))))))))))))))) | exact And.right (And.right (And.right (And.right (And.right (And.right (And.right (And.right (And.right (And.right (And.right (And.right (And.right (And.right (And.right (And.right (And.right (And.right (And.right (by assumption))))))))))))))))))))) | exact off_of_lt2 (by (first | assumption | exact allLt_of (by assumption) | exact And.right (by assumption) | exact And.right (And.right (by assumption)) | exact And.right (And.right (And.right (by assumption))) | exact And.right (And.right (And.right (And.right (by assumption)))) | exact And.right (And.right (And.right (And.right (And.right (by assumption))))) | exact And.right (And.right (And.right (And.right (And.right (And.right (by assumption)))))) | exact And.right (And.right (And.right (And.right (And.right (And.right (And.right (by assumption))))))) | exact And.right (And.right (And.right (And.right (And.right (And.right (And.right (And.right (by assumption)))))))) | exact And.right (And.right (And.right (And.right (And.right (And.right (And.right (And.right (And.right (by assumption))))))))) | exact And.right (And.right (And.right (And.right (And.right (And.right (And.right (And.right (And.right (And.right (by assumption)))))))))) | exact And.right (And.right (And.right (And.right (And.right (And.right (And.right (And.right (And.right (And.right (And.right (by assumption))))))))))) | exact And.right (And.right (And.right (And.right (And.right (And.right (And.right (And.right (And.right (And.right (And.right (And.right (by assumption)))))))))))) | exact And.right (And.right (And.right (And.right (And.right (And.right (And.right (And.right (And.right (And.right (And.right (And.right (And.right (by assumption))))))))))))) | exact And.right (And.right (And.right (And.right (And.right (And.right (And.right (And.right (And.right (And.right (And.right (And.right (And.right (And.right (by assumption)))))))))))))) | exact And.right (And.right (And.right (And.right (And.right (And.right (And.right (And.right (And.right (And.right (And.right (And.right (And.right (And.right (And.right (by assumption))))))))))))))) | exact And.right (And.right (And.right (And.right (And.right (And.right (And.right (And.right (And.right (And.right (And.right (And.right (And.right (And.right (And.right (And.right (by assumption)))))))))))))))) | exact And.right (And.right (And.right (And.right (And.right (And.right (And.right (And.right (And.right (And.right (And.right (And.right (And.right (And.right (And.right (And.right (And.right (by assumption))))))))))))))))) | exact And.right (And.right (And.right (And.right (And.right (And.right (And.right (And.right (And.right (And.right (And.right (And.right (And.right (And.right (And.right (And.right (And.right (And.right (by assumption)))))))))))))))))) | exact And.right (And.right (And.right (And.right (And.right (And.right (And.right (And.right (And.right (And.right (And.right (And.right (And.right (And.right (And.right (And.right (And.right (And.right (And.right (by assumption))))))))))))))))))))) (by omega) | exact off_of_base (by assumption) (by omega))
local macro_rules | `(tactic| k_all) => `(tactic| (refine off_all ?_; top_strB))
local macro_rules | `(tactic| walk_at "getMethod ref") => `(tactic| (k_here; k_dflt (refine' kmu_own ?k1 ?k2 ?k3 ?k4 ?k5 ?_; (case k1 => k_asm); (case k2 => k_asm); (case k3 => k_inst); (case k4 => k_is); (case k5 => k_is); k_whole)))
local macro_rules | `(tactic| walk_at "binaryOp Mult int int") => `(tactic| (k_here; with_reducible first | refine PyProof.Rows.mul_int ?_ (mulok_getD (by assumption) (by assumption) (by assumption)) | refine PyProof.Rows.mul_int ?_ (mulok_mem (by assumption) (by assumption) (by assumption))))
local macro_rules | `(tactic| top_name) => `(tactic| (law_purse 40000 => (law_clear; (repeat (with_reducible rename (@Ne Nat _ _) ∧ _ => hne9; clear hne9)); (repeat (with_reducible rename (@LT.lt Nat _ _ _) ∧ _ => hne9; clear hne9)); (repeat (with_reducible rename (@Ne Nat _ _) => hne9; clear hne9)); (try simp only [List.length_append, List.length_cons, List.length_nil, List.length_map, List.length_take, List.length_set, List.length_zipWith, rangeKs_length]); omega)))
local macro_rules | `(tactic| walk_at "subscriptTail Name Name ref int") => `(tactic| ((k_here; (with_reducible show wpAny _ _ (subscriptTail _ _ (Value.ref _) (Value.int _ _)) _ _ _); (with_unfolding_all refine' item_list_ints ?k1 ?k2 ?k3 ?k4 ?k5 ?_; (case k1 => exact News.isList (by k_asm) (by k_mem)); (case k2 => l_ints); (case k3 => first | assumption | top_name); (case k4 => first | assumption | exact idx_hi (by assumption) (by first | assumption | exact Nat.le_refl _) | top_name); (case k5 => first | assumption | exact idx_fit (by assumption) (by assumption) | top_name); k_whole); intro _)))
local macro_rules | `(tactic| walk_at "subscriptTail Name BinOp ref int") => `(tactic| ((k_here; (with_reducible show wpAny _ _ (subscriptTail _ _ (Value.ref _) (Value.int _ _)) _ _ _); (with_unfolding_all refine' item_list_ints ?k1 ?k2 ?k3 ?k4 ?k5 ?_; (case k1 => exact News.isList (by k_asm) (by k_mem)); (case k2 => l_ints); (case k3 => first | assumption | top_name); (case k4 => first | assumption | exact idx_hi (by assumption) (by first | assumption | exact Nat.le_refl _) | top_name); (case k5 => first | assumption | exact idx_fit (by assumption) (by assumption) | top_name); k_whole); intro _)))
local macro_rules | `(tactic| walk_at "call builtin:list.copy") => `(tactic| (k_here; (with_reducible show wpAny _ _ (call (Value.builtin _) [Value.ref _]) _ _ _); k_dflt (refine' copyK ?k1 ?k2 ?k3 ?k4 ?_; (case k1 => k_asm); (case k2 => k_asm); (case k3 => exact News.isList (by k_asm) (by k_mem)); (case k4 => exact ints_size (by l_ints) (by top_name)); k_whole); intro D' h' F' N' l1; (try k_lt l1); (try k_sweep)))
local macro_rules | `(tactic| walk_at "setItem ref int") => `(tactic| (k_here; (with_reducible show wpAny _ _ (setItem (Value.ref _) (Value.int _ _) (Value.int _ _)) _ _ _); k_dflt (refine' ksa_set ?k1 ?k2 ?k3 ?k4 ?k5 ?k6 ?k7 ?_; (case k1 => k_asm); (case k2 => k_asm); (case k3 => k_upd); (case k4 => l_ints); (case k5 => first | assumption | top_name); (case k6 => first | assumption | top_name); (case k7 => first | assumption | top_name); k_whole); intro h' F' N' hi' hl' hs'; clear hs'; (try k_sweep)))
local macro_rules | `(tactic| walk_at "callWith ref") => `(tactic| (k_here; kco_here; k_dflt (refine' kco_callWith ?k1 ?k2 ?k3 ?k4 ?_; (case k1 => k_in); (case k2 => k_inst); (case k3 => rfl); (case k4 => k_is); k_whole)))
local macro_rules | `(tactic| allgen_close_more) => `(tactic| first | k_asm | (refine' cb_drop ?cbN ?cbS; (case cbN => assumption); (case cbS => top_reprB)))
local macro_rules | `(tactic| walk_at "exec For Name Call cons nil") => `(tactic| (k_here; k_dflt (refine For_turns (by k_asm) ?_ (by intro _; with_unfolding_all rfl) (by passes_own)); (try k_fold)))
local macro_rules | `(tactic| walk_at "getItem ref int") => `(tactic| (k_here; (with_reducible show wpAny _ _ (getItem (Value.ref _) (Value.int _ _)) _ _ _); k_dflt (refine' ksa_get ?k1 ?k2 ?k3 ?k4 ?k5 ?k6 ?_; (case k1 => k_asm); (case k2 => k_mem); (case k3 => l_ints); (case k4 => first | assumption | top_name); (case k5 => first | assumption | top_name); (case k6 => first | assumption | top_name); k_whole); intro _))
local macro_rules | `(tactic| walk_at "CompSrc") => `(tactic| (k_here; k_dflt (refine' LCg.CompSrc.ledger ?s1 ?s2 ?s3 ?s4 ?s5 ?_; (case s1 => rfl); (case s2 => k_asm); (case s3 => k_asm); (case s4 => k_mem); (case s5 => exact ints_sizeA (by l_ints) (by first | assumption | top_name)); intro g'; (refine' kcf_list _ (by l_ints) (fun k' t' I' oI' C' oC' D' m' ys' h' tk' E' hk' hC' hx' F' N' off' ne' hMark' => ?_) ?_); (all_goals (try (simp only [LCg.Off3, and_true] at off'))); kcf_last)))
local macro_rules | `(tactic| allgen_close2_more) => `(tactic| first | assumption | exact school_bnd (by assumption) _ _ | exact one_bnd (by assumption) | exact times_bnd (by assumption) _ _ | exact map_bnd (by assumption) _ _ | exact zip_bnd (by assumption) _ _ _ | exact set_bnd (by assumption) (by allgen_close2_more))
local macro_rules | `(tactic| ktr_rel) => `(tactic| ((simp only [List.length_append, List.length_cons, List.length_nil, List.length_map, List.length_set, List.length_zipWith, rangeKs_length, schoolS_length, timesS_length]); omega))
local macro_rules | `(tactic| walk_at "call builtin:all") => `(tactic| (k_here; (with_reducible rename GenOnD _ _ _ _ _ _ _ _ _ => gxX'); k_dflt (refine' all_gx ?k1 ?k2 ?k3 gxX' ?k4 ?k5 ?_; (case k1 => k_asm); (case k2 => k_asm); (case k3 => k_asm); (case k4 => k_asm); (case k5 => k_asm); k_whole); clear gxX'; intro s' F' N' G' hos'))
section
theorem iszero_call {w : World} {N : Led} {r x l : Addr} {ns : List Int} {ps : Array Value} (hP : Poly w N x r l ns) (hlen : ns.length ≤ 4) (hoff : LCg.Off1 86 N) (ht : TabAt ⟨33, 19, 33, 48⟩ ps) :
   CtrG w 4 91 [.ref x] ((86, tabObj ps) :: N) (fun v N' => ∃ ps', TabAt ⟨33, 19, 33, 48⟩ ps' ∧ v = .bool (ns.all fun k => decide (k = 0)) ∧ N' = (86, tabObj ps') :: N) := by
  refine' lite ?lw ?lx ?le
  case lw =>
    unfold CtrG
    k_fill
    intro p loose mean mg mb dp un gd cn cs a ccd cl outer A₀ base h₀ L m s R B F X N₀ T hk G hdp hun hret
    obtain ⟨⟨vs, e1, hl, hI⟩, dx, k1, k2, e2, hx, hdx⟩ := hP
    k_dflt (refine' code_def ?k1 ?k2 ?k3 ?k4 ?k5 ?kA ?kF ?kK ?k6 ?k7 ?k8 ?k9 ?kB ?_ ?c2 ?c3 ?c4 ?c5; (case kA => exact rfl); (case kF => exact rfl); (case kK => assumption); (case k1 => k_asm); (case k2 => k_asm); (case k3 => k_asm); (case k4 => k_asm); (case k5 => k_asm); (case k6 => k_is); (case k7 => k_is); (case k8 => k_room); (case k9 => exact BindsTo.of_eq rfl); (case c5 => decide); (case kB => exact locs rfl); (case c2 => exact rfl); (case c3 => exact rfl); (case c4 => exact rfl); k_whole)
    intro g₁ L₁ h₁ FG₁ F₁ N₁ B₁ X₁ T₁
    (try dsimp only)
    (try k_fold)
    k_steps
    refine' gx_mk (cl := []) (q := fun k => decide (k = 0)) (ps := ps) (P := 86) (c := 90) F₁ rfl rfl (codeHd_of_K X₁ (by kernel_rfl)) T₁ ht rfl rfl ?hclos ?hcell ?h0 ?hx rfl ?hroom ?helt ?h ?hs
    case hclos => with_unfolding_all rfl
    case hcell => decide
    case h0 => with_unfolding_all rfl
    case hx => with_unfolding_all rfl
    case hs => intro _; with_unfolding_all rfl
    case hroom => k_room
    case helt =>
      intro code D A' E' k t u m₂ hA hn hm
      exact gx_elt0 (by rfl) (by with_unfolding_all rfl) (by decide) hn hm
    k_steps
    refine ⟨_, _, ns, N, rfl, by k_asm, by allgen_close_more, by top_strB, News.isList (by k_asm) (by k_mem), by k_asm, by k_asm, ?_⟩
    intro a₅ s₅ Kb ps' ht' F₅ N₅ G₅ hos₅ hLK₅ hb₅ X₅
    k_steps
    exact hret _ _ _ (by k_asm) (by k_asm) (by k_asm) (Eq.trans (by assumption) hos₅) ⟨_, ht', rfl, rfl⟩
  case lx => intro hk; simpa only using hk (0 : Nat)
  case le => eq_refl
end
section
theorem iscon_call {w : World} {N : Led} {r x l : Addr} {ns : List Int} {ps : Array Value} (hP : Poly w N x r l ns) (hlen : ns.length ≤ 4) (hoff : LCg.Off1 93 N) (ht : TabAt ⟨36, 19, 36, 52⟩ ps) :
   CtrG w 4 98 [.ref x] ((93, tabObj ps) :: N) (fun v N' => ∃ ps', TabAt ⟨36, 19, 36, 52⟩ ps' ∧ v = .bool ((ns.drop 1).all fun k => decide (k = 0)) ∧ N' = (93, tabObj ps') :: N) := by
  refine' lite ?lw ?lx ?le
  case lw =>
    unfold CtrG
    k_fill
    intro p loose mean mg mb dp un gd cn cs a ccd cl outer A₀ base h₀ L m s R B F X N₀ T hk G hdp hun hret
    obtain ⟨⟨vs, e1, hl, hI⟩, dx, k1, k2, e2, hx, hdx⟩ := hP
    k_dflt (refine' code_def ?k1 ?k2 ?k3 ?k4 ?k5 ?kA ?kF ?kK ?k6 ?k7 ?k8 ?k9 ?kB ?_ ?c2 ?c3 ?c4 ?c5; (case kA => exact rfl); (case kF => exact rfl); (case kK => assumption); (case k1 => k_asm); (case k2 => k_asm); (case k3 => k_asm); (case k4 => k_asm); (case k5 => k_asm); (case k6 => k_is); (case k7 => k_is); (case k8 => k_room); (case k9 => exact BindsTo.of_eq rfl); (case c5 => decide); (case kB => exact locs rfl); (case c2 => exact rfl); (case c3 => exact rfl); (case c4 => exact rfl); k_whole)
    intro g₁ L₁ h₁ FG₁ F₁ N₁ B₁ X₁ T₁
    (try dsimp only)
    (try k_fold)
    k_steps
    refine' gx_mk (cl := []) (q := fun k => decide (k = 0)) (ps := ps) (P := 93) (c := 97) F₁ rfl rfl (codeHd_of_K X₁ (by kernel_rfl)) T₁ ht rfl rfl ?hclos ?hcell ?h0 ?hx rfl ?hroom ?helt ?h ?hs
    case hclos => with_unfolding_all rfl
    case hcell => decide
    case h0 => with_unfolding_all rfl
    case hx => with_unfolding_all rfl
    case hs => intro _; with_unfolding_all rfl
    case hroom => k_room
    case helt =>
      intro code D A' E' k t u m₂ hA hn hm
      exact gx_elt0 (by rfl) (by with_unfolding_all rfl) (by decide) hn hm
    k_steps
    refine ⟨_, _, ns.drop 1, _ :: N, rfl, by k_asm, by allgen_close_more, ⟨by k_ne, by top_strB⟩, News.isList (by k_asm) (by k_mem), by k_asm, by k_asm, ?_⟩
    intro a₅ s₅ Kb ps' ht' F₅ N₅ G₅ hos₅ hLK₅ hb₅ X₅
    k_steps
    exact hret _ _ _ (by k_asm) (by allgen_close_more) (by k_asm) (Eq.trans (by assumption) hos₅) ⟨_, ht', rfl, rfl⟩
  case lx => intro hk; simpa only using hk (0 : Nat)
  case le => eq_refl
end
section
theorem all_zero (ns : List Int) : (ns.all fun k => decide (k = 0)) = decide (ns = (List.replicate (((ns.length : Nat) : Int)).toNat [(0 : Int)]).flatten) := by
  rw [Bool.eq_iff_iff, List.all_eq_true, decide_eq_true_iff]
  have e : (List.replicate (((ns.length : Nat) : Int)).toNat [(0 : Int)]).flatten = List.replicate ns.length 0 := by simp
  rw [e, List.eq_replicate_iff]
  simp
theorem all_zero1 (ns : List Int) : ((ns.drop 1).all fun k => decide (k = 0)) = decide (ns.drop 1 = (List.replicate (((ns.length : Nat) : Int) - 1).toNat [(0 : Int)]).flatten) := by
  rw [all_zero (ns.drop 1)]
  have e : ((((ns.drop 1).length : Nat) : Int)).toNat = (((ns.length : Nat) : Int) - 1).toNat := by rw [List.length_drop]; omega
  rw [e]
theorem v1_eq {P : Prop} [Decidable P] {a b : Int} (hp : P) (h : b = a) : Value.bool true = Value.bool (decide P && (a == b)) := by simp [hp, h]
theorem v2_eq {P : Prop} [Decidable P] {a b : Int} (h : b ≠ a) : Value.bool false = Value.bool (decide P && (a == b)) := by rw [beq_false_of_ne (Ne.symm h), Bool.and_false]
theorem v3_eq {P : Prop} [Decidable P] {a b : Int} (hp : ¬P) : Value.bool false = Value.bool (decide P && (a == b)) := by rw [decide_eq_false hp, Bool.false_and]
theorem iscon2_call {w : World} {N : Led} {r x l : Addr} {ns : List Int} {ps1 ps2 : Array Value} (hP : Poly w N x r l ns) (hlen : ns.length ≤ 4) (ho1 : LCg.Off1 86 N) (ho2 : LCg.Off1 93 N) (ht1 : TabAt ⟨33, 19, 33, 48⟩ ps1) (ht2 : TabAt ⟨36, 19, 36, 52⟩ ps2) :
   CtrG w 4 98 [.ref x] ((86, tabObj ps1) :: (93, tabObj ps2) :: N) (fun v N' => ∃ ps', TabAt ⟨36, 19, 36, 52⟩ ps' ∧ v = .bool (decide (ns.drop 1 = (List.replicate (((ns.length : Nat) : Int) - 1).toNat [(0 : Int)]).flatten)) ∧ N' = (86, tabObj ps1) :: (93, tabObj ps') :: N) :=
  (iscon_call (ps := ps2) (hP.mono fun _ h => .tail (86, tabObj ps1) h) hlen ⟨show (86 : Nat) ≠ 93 by decide, ho2⟩ ht2).conv (List.forall_mem_cons.mpr ⟨.tail _ (.head _), List.forall_mem_cons.mpr ⟨.head _, fun _ hp => .tail _ (.tail _ hp)⟩⟩) fun v N' ⟨ps', h1, h2, h3⟩ => ⟨_, by rw [h3]; exact (List.forall_mem_cons.mpr ⟨.tail _ (.head _), List.forall_mem_cons.mpr ⟨.head _, fun _ hp => .tail _ (.tail _ hp)⟩⟩), ps', h1, by rw [← all_zero1]; exact h2, rfl⟩
theorem iszero2_call {w : World} {N : Led} {r x l : Addr} {ns : List Int} {ps1 ps2 : Array Value} (hP : Poly w N x r l ns) (hlen : ns.length ≤ 4) (ho1 : LCg.Off1 86 N) (ho2 : LCg.Off1 93 N) (ht1 : TabAt ⟨33, 19, 33, 48⟩ ps1) (ht2 : TabAt ⟨36, 19, 36, 52⟩ ps2) :
   CtrG w 4 91 [.ref x] ((86, tabObj ps1) :: (93, tabObj ps2) :: N) (fun v N' => ∃ ps', TabAt ⟨33, 19, 33, 48⟩ ps' ∧ v = .bool (decide (ns = (List.replicate (((ns.length : Nat) : Int)).toNat [(0 : Int)]).flatten)) ∧ N' = (86, tabObj ps') :: (93, tabObj ps2) :: N) :=
  (iszero_call (ps := ps1) (hP.mono fun _ h => .tail (93, tabObj ps2) h) hlen ⟨show (93 : Nat) ≠ 86 by decide, ho1⟩ ht1).mono fun v N' ⟨ps', h1, h2, h3⟩ => ⟨ps', h1, by rw [← all_zero]; exact h2, h3⟩
local macro_rules | `(tactic| k_enter) => `(tactic| ((with_reducible show codeAny _ _ (Code.call (Value.ref 98) ⟨_, _⟩) _ _); k_dflt (refine' CtrG.use (iscon2_call ?c0 ?c1 ?c2 ?c3 ?c4 ?c5) ?k1 ?k2 ?k3 ?k4 ?k5 ?kK ?kG ?kd ?ku ?_; (case c2 => assumption); (case c3 => assumption); (case c4 => assumption); (case c5 => assumption); (case k1 => k_asm); (case k2 => k_asm); (case k3 => k_asm); (case k4 => allgen_close_more); (case k5 => k_asm); (case kK => first | exact rfl | assumption); (case kG => k_asm); (case c0 => (refine' ⟨⟨_, _, ?pa, ?pb⟩, _, _, _, _, ?pc, ?pd⟩; (case pc => k_mem); (case pd => k_mem); (case pa => k_mem); (case pb => l_ints))); (case c1 => ktr_rel); (case kd => k_room); (case ku => k_units); k_whole; intro v' s' nw' F' N' G' hos' cP'; obtain ⟨ps', ht', hv', hn'⟩ := cP'; subst hv'; subst hn'; (try dsimp only); kts_tail; (try k_sweep))))
theorem eqi_call {w : World} {N : Led} {x r l : Addr} {q n : Int} {ns : List Int} (hR : Ring w N r q n) (hP : Poly w N x r l ns) (hlen : (ns.length : Int) = n) (hn1 : 1 ≤ n) (hn : n ≤ 4) (hq : 2 ≤ q) (hq2 : q < 2 ^ 33) {ps1 ps2 : Array Value} (ho1 : LCg.Off1 86 N) (ho2 : LCg.Off1 93 N) (ht1 : TabAt ⟨33, 19, 33, 48⟩ ps1) (ht2 : TabAt ⟨36, 19, 36, 52⟩ ps2) {v : Int} {t : Tok} :
   CtrG w 10 217 [.ref x, .int v t] ((86, tabObj ps1) :: (93, tabObj ps2) :: N) (fun u N' => ∃ ps', TabAt ⟨36, 19, 36, 52⟩ ps' ∧ u = .bool ((decide (ns.drop 1 = (List.replicate (((ns.length : Nat) : Int) - 1).toNat [(0 : Int)]).flatten)) && (ns.getD (0 : Int).toNat 0 == Int.fmod v q)) ∧ N' = (86, tabObj ps1) :: (93, tabObj ps') :: N) := by
  refine' lite ?lw ?lx ?le
  case lw =>
    unfold CtrG
    k_fill
    intro p loose mean mg mb dp un gd cn cs a ccd cl outer A₀ base h₀ L m s R B F X N₀ T hk G hdp hun hret
    obtain ⟨dr, k3, k4, tq, tn, e3, hr, hdr⟩ := hR
    obtain ⟨⟨vs, e1, hl, hI⟩, dx, k1, k2, e2, hx, hdx⟩ := hP
    k_dflt (refine' code_def ?k1 ?k2 ?k3 ?k4 ?k5 ?kA ?kF ?kK ?k6 ?k7 ?k8 ?k9 ?kB ?_ ?c2 ?c3 ?c4 ?c5; (case kA => exact rfl); (case kF => exact rfl); (case kK => assumption); (case k1 => k_asm); (case k2 => k_asm); (case k3 => k_asm); (case k4 => k_asm); (case k5 => k_asm); (case k6 => k_is); (case k7 => k_is); (case k8 => k_room); (case k9 => exact BindsTo.of_eq rfl); (case c5 => decide); (case kB => exact locs rfl); (case c2 => exact rfl); (case c3 => exact rfl); (case c4 => exact rfl); k_whole)
    intro g₁ L₁ h₁ FG₁ F₁ N₁ B₁ X₁ T₁
    (try dsimp only)
    (try k_fold)
    k_steps
    all_goals exact hret _ _ _ (by k_asm) (by allgen_close_more) (by k_asm) (by k_asm) ⟨_, by k_asm, by first | exact v1_eq (by assumption) (by assumption) | exact v2_eq (by assumption) | exact v3_eq (by assumption), rfl⟩
  case lx => intro hk; simpa only using hk (0 : Nat)
  case le => eq_refl
end
end
section
local macro_rules | `(tactic| k_mem) => `(tactic| ((fail_if_success (with_reducible refine' List.Mem.tail _ ?_)); first | with_reducible assumption | assumption | (refine sub_mem (by assumption) ?_; k_mem)))
local macro_rules | `(tactic| news_mem) => `(tactic| k_mem)
local macro_rules | `(tactic| k_room) => `(tactic| ((simp only [depth_under_make, depth_under_kw, depth_in1, depth_deeper, depth_caller, recursionLimit] at *); omega))
local macro_rules | `(tactic| k_units) => `(tactic| ((have hcL9 := cLine_is); (simp only [units_in1, units_deeper, Around.mark_units, units_caller, cLine] at *); omega))
local macro_rules | `(tactic| allgen_close2_more) => `(tactic| assumption)
local macro_rules | `(tactic| ktr_rel) => `(tactic| ((try simp only [List.length_append, List.length_cons, List.length_nil, List.length_map, List.length_set, List.length_zipWith, rangeKs_length]); first | assumption | omega))
local macro_rules | `(tactic| top_reprB) => `(tactic| first | exact List.forall_mem_nil _ | (refine List.forall_mem_cons.mpr ⟨by k_mem, ?_⟩; top_reprB) | (intro p hp; k_mem))
local macro_rules | `(tactic| k_ne) => `(tactic| (refine neN ?_; (try dsimp only); first | (with_reducible assumption) | exact Ne.symm (by with_reducible assumption) | exact off_ne (by with_reducible assumption) (by k_mem) | exact Ne.symm (off_ne (by with_reducible assumption) (by k_mem)) | omega))
local macro_rules | `(tactic| top_strB) => `(tactic| first | (first | assumption | exact allLt_of (by assumption) | exact And.right (by assumption) | exact And.right (And.right (by assumption)) | exact And.right (And.right (And.right (by assumption))) | exact And.right (And.right (And.right (And.right (by assumption)))) | exact And.right (And.right (And.right (And.right (And.right (by assumption))))) | exact And.right (And.right (And.right (And.right (And.right (And.right (by assumption)))))) | exact And.right (And.right (And.right (And.right (And.right (And.right (And.right (by assumption))))))) | exact And.right (And.right (And.right (And.right (And.right (And.right (And.right (And.right (by assumption)))))))) | exact And.right (And.right (And.right (And.right (And.right (And.right (And.right (And.right (And.right (by assumption))))))))) | exact And.right (And.right (And.right (And.right (And.right (And.right (And.right (And.right (And.right (And.right (by assumption)))))))))) | exact And.right (And.right (And.right (And.right (And.right (And.right (And.right (And.right (And.right (And.right (And.right (by assumption))))))))))) | exact And.right (And.right (And.right (And.right (And.right (And.right (And.right (And.right (And.right (And.right (And.right (And.right (by assumption)))))))))))) | exact And.right (And.right (And.right (And.right (And.right (And.right (And.right (And.right (And.right (And.right (And.right (And.right (And.right (by assumption))))))))))))) | exact And.right (And.right (And.right (And.right (And.right (And.right (And.right (And.right (And.right (And.right (And.right (And.right (And.right (And.right (by assumption)))))))))))))) | exact And.right (And.right (And.right (And.right (And.right (And.right (And.right (And.right (And.right (And.right (And.right (And.right (And.right (And.right (And.right (by assumption))))))))))))))) | exact And.right (And.right (And.right (And.right (And.right (And.right (And.right (And.right (And.right (And.right (And.right (And.right (And.right (And.right (And.right (And.right (by assumption)))))))))))))))) | exact And.right (And.right (And.right (And.right (And.right (And.right (And.right (And.right (And.right (And.right (And.right (And.right (And.right (And.right (And.right (And.right (And.right (by assumption))))))))))))))))) | exact And.right (And.right (And.right (And.right (And.right (And.right (And.right (And.right (And.right (And.right (And.right (And.right (And.right (And.right (And.right (And.right (And.right (And.right (by assumption)))))))))))))))))) | exact And.right (And.right (And.right (And.right (And.right (And.right (And.right (And.right (And.right (And.right (And.right (And.right (And.right (And.right (And.right (And.right (And.right (And.right (And.right (by assumption)))))))))))))))))))) | exact off_sub (by with_reducible assumption) (by top_reprB) | exact off_of_lt (by (first | assumption | exact allLt_of (by assumption) | exact And.right (by assumption) | exact And.right (And.right (by assumption)) | exact And.right (And.right (And.right (by assumption))) | exact And.right (And.right (And.right (And.right (by assumption)))) | exact And.right (And.right (And.right (And.right (And.right (by assumption))))) | exact And.right (And.right (And.right (And.right (And.right (And.right (by assumption)))))) | exact And.right (And.right (And.right (And.right (And.right (And.right (And.right (by assumption))))))) | exact And.right (And.right (And.right (And.right (And.right (And.right (And.right (And.right (by assumption)))))))) | exact And.right (And.right (And.right (And.right (And.right (And.right (And.right (And.right (And.right (by assumption))))))))) | exact And.right (And.right (And.right (And.right (And.right (And.right (And.right (And.right (And.right (And.right (by assumption)))))))))) | exact And.right (And.right (And.right (And.right (And.right (And.right (And.right (And.right (And.right (And.right (And.right (by assumption))))))))))) | exact And.right (And.right (And.right (And.right (And.right (And.right (And.right (And.right (And.right (And.right (And.right (And.right (by assumption)))))))))))) | exact And.right (And.right (And.right (And.right (And.right (And.right (And.right (And.right (And.right (And.right (And.right (And.right (And.right (by assumption))))))))))))) | exact And.right (And.right (And.right (And.right (And.right (And.right (And.right (And.right (And.right (And.right (And.right (And.right (And.right (And.right (by assumption)))))))))))))) | exact And.right (And.right (And.right (And.right (And.right (And.right (And.right (And.right (And.right (And.right (And.right (And.right (And.right (And.right (And.right (by assumption))))))))))))))) | exact And.right (And.right (And.right (And.right (And.right (And.right (And.right (And.right (And.right (And.right (And.right (And.right (And.right (And.right (And.right (And.right (by assumption)))))))))))))))) | exact And.right (And.right (And.right (And.right (And.right (And.right (And.right (And.right (And.right (And.right (And.right (And.right (And.right (And.right (And.right (And.right (And.right (by assumption))))))))))))))))) | exact And.right (And.right (And.right (And.right (And.right (And.right (And.right (And.right (And.right (And.right (And.right (And.right (And.right (And.right (And.right (And.right (And.right (And.right (by assumption)))))))))))))))))) | exact And.right (And.right (And.right (And.right (And.right (And.right (And.right (And.right (And.right (And.right (And.right (And.right (And.right (And.right (And.right (And.right (And.right (And.right (And.right (by assumption))))))))))))))))))))) | exact off_of_lt2 (by (first | assumption | exact allLt_of (by assumption) | exact And.right (by assumption) | exact And.right (And.right (by assumption)) | exact And.right (And.right (And.right (by assumption))) | exact And.right (And.right (And.right (And.right (by assumption)))) | exact And.right (And.right (And.right (And.right (And.right (by assumption))))) | exact And.right (And.right (And.right (And.right (And.right (And.right (by assumption)))))) | exact And.right (And.right (And.right (And.right (And.right (And.right (And.right (by assumption))))))) | exact And.right (And.right (And.right (And.right (And.right (And.right (And.right (And.right (by assumption)))))))) | exact And.right (And.right (And.right (And.right (And.right (And.right (And.right (And.right (And.right (by assumption))))))))) | exact And.right (And.right (And.right (And.right (And.right (And.right (And.right (And.right (And.right (And.right (by assumption)))))))))) | exact And.right (And.right (And.right (And.right (And.right (And.right (And.right (And.right (And.right (And.right (And.right (by assumption))))))))))) | exact And.right (And.right (And.right (And.right (And.right (And.right (And.right (And.right (And.right (And.right (And.right (And.right (by assumption)))))))))))) | exact And.right (And.right (And.right (And.right (And.right (And.right (And.right (And.right (And.right (And.right (And.right (And.right (And.right (by assumption))))))))))))) | exact And.right (And.right (And.right (And.right (And.right (And.right (And.right (And.right (And.right (And.right (And.right (And.right (And.right (And.right (by assumption)))))))))))))) | exact And.right (And.right (And.right (And.right (And.right (And.right (And.right (And.right (And.right (And.right (And.right (And.right (And.right (And.right (And.right (by assumption))))))))))))))) | exact And.right (And.right (And.right (And.right (And.right (And.right (And.right (And.right (And.right (And.right (And.right (And.right (And.right (And.right (And.right (And.right (by assumption)))))))))))))))) | exact And.right (And.right (And.right (And.right (And.right (And.right (And.right (And.right (And.right (And.right (And.right (And.right (And.right (And.right (And.right (And.right (And.right (by assumption))))))))))))))))) | exact And.right (And.right (And.right (And.right (And.right (And.right (And.right (And.right (And.right (And.right (And.right (And.right (And.right (And.right (And.right (And.right (And.right (And.right (by assumption)))))))))))))))))) | exact And.right (And.right (And.right (And.right (And.right (And.right (And.right (And.right (And.right (And.right (And.right (And.right (And.right (And.right (And.right (And.right (And.right (And.right (And.right (by assumption))))))))))))))))))))) (by omega) | exact off_of_base (by assumption) (by omega))
local macro_rules | `(tactic| k_all) => `(tactic| (refine off_all ?_; top_strB))
local macro_rules | `(tactic| walk_at "getMethod ref") => `(tactic| (k_here; k_dflt (refine' kmu_own ?k1 ?k2 ?k3 ?k4 ?k5 ?_; (case k1 => k_asm); (case k2 => k_asm); (case k3 => k_inst); (case k4 => k_is); (case k5 => k_is); k_whole)))
local macro_rules | `(tactic| walk_at "binaryOp Mult int int") => `(tactic| (k_here; with_reducible first | refine PyProof.Rows.mul_int ?_ (mulok_getD (by assumption) (by assumption) (by assumption)) | refine PyProof.Rows.mul_int ?_ (mulok_mem (by assumption) (by assumption) (by assumption))))
local macro_rules | `(tactic| top_name) => `(tactic| (law_purse 40000 => (law_clear; (repeat (with_reducible rename (@Ne Nat _ _) ∧ _ => hne9; clear hne9)); (repeat (with_reducible rename (@LT.lt Nat _ _ _) ∧ _ => hne9; clear hne9)); (repeat (with_reducible rename (@Ne Nat _ _) => hne9; clear hne9)); (try simp only [List.length_append, List.length_cons, List.length_nil, List.length_map, List.length_take, List.length_set, List.length_zipWith, rangeKs_length]); omega)))
local macro_rules | `(tactic| walk_at "subscriptTail Name Name ref int") => `(tactic| ((k_here; (with_reducible show wpAny _ _ (subscriptTail _ _ (Value.ref _) (Value.int _ _)) _ _ _); (with_unfolding_all refine' item_list_ints ?k1 ?k2 ?k3 ?k4 ?k5 ?_; (case k1 => exact News.isList (by k_asm) (by k_mem)); (case k2 => l_ints); (case k3 => first | assumption | top_name); (case k4 => first | assumption | exact idx_hi (by assumption) (by first | assumption | exact Nat.le_refl _) | top_name); (case k5 => first | assumption | exact idx_fit (by assumption) (by assumption) | top_name); k_whole); intro _)))
local macro_rules | `(tactic| walk_at "subscriptTail Name BinOp ref int") => `(tactic| ((k_here; (with_reducible show wpAny _ _ (subscriptTail _ _ (Value.ref _) (Value.int _ _)) _ _ _); (with_unfolding_all refine' item_list_ints ?k1 ?k2 ?k3 ?k4 ?k5 ?_; (case k1 => exact News.isList (by k_asm) (by k_mem)); (case k2 => l_ints); (case k3 => first | assumption | top_name); (case k4 => first | assumption | exact idx_hi (by assumption) (by first | assumption | exact Nat.le_refl _) | top_name); (case k5 => first | assumption | exact idx_fit (by assumption) (by assumption) | top_name); k_whole); intro _)))
local macro_rules | `(tactic| walk_at "call builtin:list.copy") => `(tactic| (k_here; (with_reducible show wpAny _ _ (call (Value.builtin _) [Value.ref _]) _ _ _); k_dflt (refine' copyK ?k1 ?k2 ?k3 ?k4 ?_; (case k1 => k_asm); (case k2 => k_asm); (case k3 => exact News.isList (by k_asm) (by k_mem)); (case k4 => exact ints_size (by l_ints) (by top_name)); k_whole); intro D' h' F' N' l1; (try k_lt l1); (try k_sweep)))
local macro_rules | `(tactic| walk_at "setItem ref int") => `(tactic| (k_here; (with_reducible show wpAny _ _ (setItem (Value.ref _) (Value.int _ _) (Value.int _ _)) _ _ _); k_dflt (refine' ksa_set ?k1 ?k2 ?k3 ?k4 ?k5 ?k6 ?k7 ?_; (case k1 => k_asm); (case k2 => k_asm); (case k3 => k_upd); (case k4 => l_ints); (case k5 => first | assumption | top_name); (case k6 => first | assumption | top_name); (case k7 => first | assumption | top_name); k_whole); intro h' F' N' hi' hl' hs'; clear hs'; (try k_sweep)))
local macro_rules | `(tactic| walk_at "callWith ref") => `(tactic| (k_here; kco_here; k_dflt (refine' kco_callWith ?k1 ?k2 ?k3 ?k4 ?_; (case k1 => k_in); (case k2 => k_inst); (case k3 => rfl); (case k4 => k_is); k_whole)))
local macro_rules | `(tactic| allgen_close_more) => `(tactic| first | k_asm | (refine' cb_drop ?cbN ?cbS; (case cbN => assumption); (case cbS => top_reprB)))
local macro_rules | `(tactic| walk_at "exec For Name Call cons nil") => `(tactic| (k_here; k_dflt (refine For_turns (by k_asm) ?_ (by intro _; with_unfolding_all rfl) (by passes_own)); (try k_fold)))
local macro_rules | `(tactic| walk_at "getItem ref int") => `(tactic| (k_here; (with_reducible show wpAny _ _ (getItem (Value.ref _) (Value.int _ _)) _ _ _); k_dflt (refine' ksa_get ?k1 ?k2 ?k3 ?k4 ?k5 ?k6 ?_; (case k1 => k_asm); (case k2 => k_mem); (case k3 => l_ints); (case k4 => first | assumption | top_name); (case k5 => first | assumption | top_name); (case k6 => first | assumption | top_name); k_whole); intro _))
local macro_rules | `(tactic| walk_at "CompSrc") => `(tactic| (k_here; k_dflt (refine' LCg.CompSrc.ledger ?s1 ?s2 ?s3 ?s4 ?s5 ?_; (case s1 => rfl); (case s2 => k_asm); (case s3 => k_asm); (case s4 => k_mem); (case s5 => exact ints_sizeA (by l_ints) (by first | assumption | top_name)); intro g'; (refine' kcf_list _ (by l_ints) (fun k' t' I' oI' C' oC' D' m' ys' h' tk' E' hk' hC' hx' F' N' off' ne' hMark' => ?_) ?_); (all_goals (try (simp only [LCg.Off3, and_true] at off'))); kcf_last)))
local macro_rules | `(tactic| allgen_close2_more) => `(tactic| first | assumption | exact school_bnd (by assumption) _ _ | exact one_bnd (by assumption) | exact times_bnd (by assumption) _ _ | exact map_bnd (by assumption) _ _ | exact zip_bnd (by assumption) _ _ _ | exact set_bnd (by assumption) (by allgen_close2_more))
local macro_rules | `(tactic| ktr_rel) => `(tactic| ((simp only [List.length_append, List.length_cons, List.length_nil, List.length_map, List.length_set, List.length_zipWith, rangeKs_length, schoolS_length, timesS_length]); omega))
local macro_rules | `(tactic| walk_at "call builtin:all") => `(tactic| (k_here; (with_reducible rename GenOnD _ _ _ _ _ _ _ _ _ => gxX'); k_dflt (refine' all_gx ?k1 ?k2 ?k3 gxX' ?k4 ?k5 ?_; (case k1 => k_asm); (case k2 => k_asm); (case k3 => k_asm); (case k4 => k_asm); (case k5 => k_asm); k_whole); clear gxX'; intro s' F' N' G' hos'))
local macro_rules | `(tactic| walk_at "compareOp NotEq ref ref") => `(tactic| (k_here; (with_reducible show wpAny _ _ (compareOp CmpOp.NotEq (Value.ref _) (Value.ref _)) _ _ _); k_dflt (refine' ne_inst (C := 227) (f := 217) ?hu ?F ?X ?I ?J ?q ?hf ?_; (case F => k_asm); (case X => k_asm); (case I => k_inst); (case J => k_inst); (case hu => k_units); (case q => kernel_rfl); (case hf => kernel_rfl); k_whole)))
local macro_rules | `(tactic| walk_at "NeBack") => `(tactic| (refine neBack_bool ?_))
local macro_rules | `(tactic| walk_at "compareOp NotEq bool bool") => `(tactic| (k_here; refine ne_bool_eq ?_ ?_; (focus (first | (with_reducible exact rfl) | ((with_reducible rename (@Eq (List Int) _ (List.flatten _)) => hx9); (simp only [hx9, decide_true, Bool.true_and]; done)) | ((with_reducible rename (Not (@Eq (List Int) _ (List.flatten _))) => hx9); (simp only [hx9, decide_false, Bool.false_and]; done))))))
local macro_rules | `(tactic| walk_at "compareOp Eq bool bool") => `(tactic| (k_here; refine eq_bool_eq ?_ ?_; (focus (first | (with_reducible exact rfl) | ((with_reducible rename (@Eq (List Int) _ (List.flatten _)) => hx9); (simp only [hx9, decide_true, Bool.true_and]; done)) | ((with_reducible rename (Not (@Eq (List Int) _ (List.flatten _))) => hx9); (simp only [hx9, decide_false, Bool.false_and]; done))))))
local macro_rules | `(tactic| walk_at "compareOp Eq int int") => `(tactic| (k_here; with_reducible refine eq_int_same ?_))
section
local macro_rules | `(tactic| k_enter) => `(tactic| ((with_reducible show codeAny _ _ (Code.call (Value.ref 98) ⟨_, _⟩) _ _); k_dflt (refine' CtrG.use (iscon2_call ?c0 ?c1 ?c2 ?c3 ?c4 ?c5) ?k1 ?k2 ?k3 ?k4 ?k5 ?kK ?kG ?kd ?ku ?_; (case c2 => assumption); (case c3 => assumption); (case c4 => assumption); (case c5 => assumption); (case k1 => k_asm); (case k2 => k_asm); (case k3 => k_asm); (case k4 => allgen_close_more); (case k5 => k_asm); (case kK => first | exact rfl | assumption); (case kG => k_asm); (case c0 => (refine' ⟨⟨_, _, ?pa, ?pb⟩, _, _, _, _, ?pc, ?pd⟩; (case pc => k_mem); (case pd => k_mem); (case pa => k_mem); (case pb => l_ints))); (case c1 => ktr_rel); (case kd => k_room); (case ku => k_units); k_whole; intro v' s' nw' F' N' G' hos' cP'; obtain ⟨ps', ht', hv', hn'⟩ := cP'; subst hv'; subst hn'; (try dsimp only); kts_tail; (try k_sweep))))
local macro_rules | `(tactic| k_enter) => `(tactic| ((with_reducible show codeAny _ _ (Code.call (Value.ref 91) ⟨_, _⟩) _ _); k_dflt (refine' CtrG.use (iszero2_call ?c0 ?c1 ?c2 ?c3 ?c4 ?c5) ?k1 ?k2 ?k3 ?k4 ?k5 ?kK ?kG ?kd ?ku ?_; (case c2 => assumption); (case c3 => assumption); (case c4 => assumption); (case c5 => assumption); (case k1 => k_asm); (case k2 => k_asm); (case k3 => k_asm); (case k4 => allgen_close_more); (case k5 => k_asm); (case kK => first | exact rfl | assumption); (case kG => k_asm); (case c0 => (refine' ⟨⟨_, _, ?pa, ?pb⟩, _, _, _, _, ?pc, ?pd⟩; (case pc => k_mem); (case pd => k_mem); (case pa => k_mem); (case pb => l_ints))); (case c1 => ktr_rel); (case kd => k_room); (case ku => k_units); k_whole; intro v' s' nw' F' N' G' hos' cP'; obtain ⟨ps', ht', hv', hn'⟩ := cP'; subst hv'; subst hn'; (try dsimp only); kts_tail; (try k_sweep))))
local macro_rules | `(tactic| k_enter) => `(tactic| ((with_reducible show codeAny _ _ (Code.call (Value.ref 217) ⟨[Value.ref _, Value.int _ _], _⟩) _ _); k_dflt (refine' CtrG.use (eqi_call ?c0 ?c1 ?c2 ?c3 ?c4 ?c5 ?c6 ?c7 ?c8 ?c9 ?c10) ?k1 ?k2 ?k3 ?k4 ?k5 ?kK ?kG ?kd ?ku ?_; (case c7 => assumption); (case c8 => assumption); (case c9 => assumption); (case c10 => assumption); (case k1 => k_asm); (case k2 => k_asm); (case k3 => k_asm); (case k4 => allgen_close_more); (case k5 => k_asm); (case kK => first | exact rfl | assumption); (case kG => k_asm); (case c0 => exact ⟨_, _, _, _, _, _, by k_mem, by k_mem⟩); (case c1 => (refine' ⟨⟨_, _, ?pa, ?pb⟩, _, _, _, _, ?pc, ?pd⟩; (case pc => k_mem); (case pd => k_mem); (case pa => k_mem); (case pb => l_ints))); (case c2 => ktr_rel); (case c3 => ktr_rel); (case c4 => ktr_rel); (case c5 => ktr_rel); (case c6 => ktr_rel); (case kd => k_room); (case ku => k_units); k_whole; intro v' s' nw' F' N' G' hos' cP'; obtain ⟨ps', ht', hv', hn'⟩ := cP'; subst hv'; subst hn'; (try dsimp only); kts_tail; (try k_sweep))))
local macro_rules | `(tactic| k_enter) => `(tactic| ((with_reducible show codeAny _ _ (Code.call (Value.ref 217) ⟨[Value.ref _, Value.ref _], _⟩) _ _); k_dflt (refine' Ctr.use (eq_call ?c0 ?c1 ?c2 ?c3) ?k1 ?k2 ?k3 ?k4 ?k5 ?kK ?kd ?ku ?_; (case k1 => k_asm); (case k2 => k_asm); (case k3 => k_asm); (case k4 => k_asm); (case k5 => k_asm); (case kK => first | exact rfl | assumption); (case c0 => (refine' ⟨⟨_, _, ?pa, ?pb⟩, _, _, _, _, ?pc, ?pd⟩; (case pc => k_mem); (case pd => k_mem); (case pa => k_mem); (case pb => l_ints))); (case c1 => (refine' ⟨⟨_, _, ?pa, ?pb⟩, _, _, _, _, ?pc, ?pd⟩; (case pc => k_mem); (case pd => k_mem); (case pa => k_mem); (case pb => l_ints))); (case c2 => ktr_rel); (case c3 => ktr_rel); (case kd => k_room); (case ku => k_units); k_whole; intro v' h' tk' nw' F' N' cP'; obtain ⟨hv', hn'⟩ := cP'; subst hv'; subst hn'; (try dsimp only); kts_tail; (try k_sweep))))
local macro_rules | `(tactic| k_enter) => `(tactic| ((with_reducible show codeAny _ _ (Code.call (Value.ref 217) ⟨[Value.ref _, Value.str _ _], _⟩) _ _); k_dflt (refine' Ctr.use (eqs_call ?c0) ?k1 ?k2 ?k3 ?k4 ?k5 ?kK ?kd ?ku ?_; (case k1 => k_asm); (case k2 => k_asm); (case k3 => k_asm); (case k4 => k_asm); (case k5 => k_asm); (case kK => first | exact rfl | assumption); (case c0 => (refine' ⟨⟨_, _, ?pa, ?pb⟩, _, _, _, _, ?pc, ?pd⟩; (case pc => k_mem); (case pd => k_mem); (case pa => k_mem); (case pb => l_ints))); (case kd => k_room); (case ku => k_units); k_whole; intro v' h' tk' nw' F' N' cP'; obtain ⟨hv', hn'⟩ := cP'; subst hv'; subst hn'; (try dsimp only); kts_tail; (try k_sweep))))
local macro_rules | `(tactic| k_enter) => `(tactic| ((with_reducible show codeAny _ _ (Code.call (Value.ref 224) ⟨[Value.ref _, Value.int _ _], _⟩) _ _); k_dflt (refine' Ctr.use (item_call ?c0 ?c1 ?c2 ?c3) ?k1 ?k2 ?k3 ?k4 ?k5 ?kK ?kd ?ku ?_; (case k1 => k_asm); (case k2 => k_asm); (case k3 => k_asm); (case k4 => k_asm); (case k5 => k_asm); (case kK => first | exact rfl | assumption); (case c0 => (refine' ⟨⟨_, _, ?pa, ?pb⟩, _, _, _, _, ?pc, ?pd⟩; (case pc => k_mem); (case pd => k_mem); (case pa => k_mem); (case pb => l_ints))); (case c1 => first | assumption | omega); (case c2 => first | assumption | omega); (case c3 => ktr_rel); (case kd => k_room); (case ku => k_units); k_whole; intro v' h' tk' nw' F' N' cP'; obtain ⟨t', hv', hn'⟩ := cP'; subst hv'; subst hn'; (try dsimp only); kts_tail; (try k_sweep))))
theorem asked_call {w : World} {N : Led} {x r l : Addr} {q n : Int} {ns : List Int} (hR : Ring w N r q n) (hP : Poly w N x r l ns) (hlen : (ns.length : Int) = n) (hn1 : 1 ≤ n) (hn : n ≤ 4) (hq : 2 ≤ q) (hq2 : q < 2 ^ 33) {y l2 : Addr} {ms : List Int} (hP2 : Poly w N y r l2 ms) (hlen2 : (ms.length : Int) = n) {f g : Addr} {fs gs : List Int} (hf : Ints N f ns) (hg : Ints N g ms) {v : Int} {tv tq' : Tok} {ps1 ps2 : Array Value} (ho1 : LCg.Off1 86 N) (ho2 : LCg.Off1 93 N) (ht1 : TabAt ⟨33, 19, 33, 48⟩ ps1) (ht2 : TabAt ⟨36, 19, 36, 52⟩ ps2) :
   CtrG w 20 272 [.ref x, .ref y, .ref f, .ref g, .int v tv, .int q tq'] ((86, tabObj ps1) :: (93, tabObj ps2) :: N) (fun u N' => ∃ ps1' ps2', TabAt ⟨33, 19, 33, 48⟩ ps1' ∧ TabAt ⟨36, 19, 36, 52⟩ ps2' ∧ u = .bool true ∧ N' = (86, tabObj ps1') :: (93, tabObj ps2') :: N) := by
  refine' lite ?lw ?lx ?le
  case lw =>
    unfold CtrG
    k_fill
    intro p loose mean mg mb dp un gd cn cs a ccd cl outer A₀ base h₀ L m s R B F X N₀ T hk G hdp hun hret
    obtain ⟨dr, k3, k4, tq, tn, e3, hr, hdr⟩ := hR
    obtain ⟨⟨vs, e1, hl, hI⟩, dx, k1, k2, e2, hx, hdx⟩ := hP
    obtain ⟨⟨us, f1, hm, hJ⟩, dy, j1, j2, f2, hy, hdy⟩ := hP2
    obtain ⟨ws, w1, hfm, hfI⟩ := hf
    obtain ⟨zs, w2, hgm, hgI⟩ := hg
    k_dflt (refine' code_def ?k1 ?k2 ?k3 ?k4 ?k5 ?kA ?kF ?kK ?k6 ?k7 ?k8 ?k9 ?kB ?_ ?c2 ?c3 ?c4 ?c5; (case kA => exact rfl); (case kF => exact rfl); (case kK => assumption); (case k1 => k_asm); (case k2 => k_asm); (case k3 => k_asm); (case k4 => k_asm); (case k5 => k_asm); (case k6 => k_is); (case k7 => k_is); (case k8 => k_room); (case k9 => exact BindsTo.of_eq rfl); (case c5 => decide); (case kB => exact locs rfl); (case c2 => exact rfl); (case c3 => exact rfl); (case c4 => exact rfl); k_whole)
    intro g₁ L₁ h₁ FG₁ F₁ N₁ B₁ X₁ T₁
    (try dsimp only)
    (try k_fold)
    k_steps
    all_goals exact hret _ _ _ (by k_asm) (by allgen_close_more) (by k_asm) (by first | assumption | exact Eq.trans (by assumption) (by assumption) | exact Eq.trans (by assumption) (Eq.trans (by assumption) (by assumption)) | exact Eq.trans (by assumption) (Eq.trans (by assumption) (Eq.trans (by assumption) (by assumption)))) ⟨_, _, by k_asm, by k_asm, rfl, rfl⟩
  case lx => intro hk; simpa only using hk (0 : Nat)
  case le => eq_refl
end
end
section
local macro_rules | `(tactic| k_mem) => `(tactic| ((fail_if_success (with_reducible refine' List.Mem.tail _ ?_)); first | with_reducible assumption | assumption | (refine sub_mem (by assumption) ?_; k_mem)))
local macro_rules | `(tactic| news_mem) => `(tactic| k_mem)
local macro_rules | `(tactic| k_room) => `(tactic| ((simp only [depth_under_make, depth_under_kw, depth_in1, depth_deeper, depth_caller, recursionLimit] at *); omega))
local macro_rules | `(tactic| k_units) => `(tactic| ((have hcL9 := cLine_is); (simp only [units_in1, units_deeper, Around.mark_units, units_caller, cLine] at *); omega))
local macro_rules | `(tactic| allgen_close2_more) => `(tactic| assumption)
local macro_rules | `(tactic| ktr_rel) => `(tactic| ((try simp only [List.length_append, List.length_cons, List.length_nil, List.length_map, List.length_set, List.length_zipWith, rangeKs_length]); first | assumption | omega))
local macro_rules | `(tactic| top_reprB) => `(tactic| first | exact List.forall_mem_nil _ | (refine List.forall_mem_cons.mpr ⟨by k_mem, ?_⟩; top_reprB) | (intro p hp; k_mem))
local macro_rules | `(tactic| k_ne) => `(tactic| (refine neN ?_; (try dsimp only); first | (with_reducible assumption) | exact Ne.symm (by with_reducible assumption) | exact off_ne (by with_reducible assumption) (by k_mem) | exact Ne.symm (off_ne (by with_reducible assumption) (by k_mem)) | omega))
local macro_rules | `(tactic| top_strB) => `(tactic| first | (first | assumption | exact allLt_of (by assumption) | exact And.right (by assumption) | exact And.right (And.right (by assumption)) | exact And.right (And.right (And.right (by assumption))) | exact And.right (And.right (And.right (And.right (by assumption)))) | exact And.right (And.right (And.right (And.right (And.right (by assumption))))) | exact And.right (And.right (And.right (And.right (And.right (And.right (by assumption)))))) | exact And.right (And.right (And.right (And.right (And.right (And.right (And.right (by assumption))))))) | exact And.right (And.right (And.right (And.right (And.right (And.right (And.right (And.right (by assumption)))))))) | exact And.right (And.right (And.right (And.right (And.right (And.right (And.right (And.right (And.right (by assumption))))))))) | exact And.right (And.right (And.right (And.right (And.right (And.right (And.right (And.right (And.right (And.right (by assumption)))))))))) | exact And.right (And.right (And.right (And.right (And.right (And.right (And.right (And.right (And.right (And.right (And.right (by assumption))))))))))) | exact And.right (And.right (And.right (And.right (And.right (And.right (And.right (And.right (And.right (And.right (And.right (And.right (by assumption)))))))))))) | exact And.right (And.right (And.right (And.right (And.right (And.right (And.right (And.right (And.right (And.right (And.right (And.right (And.right (by assumption))))))))))))) | exact And.right (And.right (And.right (And.right (And.right (And.right (And.right (And.right (And.right (And.right (And.right (And.right (And.right (And.right (by assumption)))))))))))))) | exact And.right (And.right (And.right (And.right (And.right (And.right (And.right (And.right (And.right (And.right (And.right (And.right (And.right (And.right (And.right (by assumption))))))))))))))) | exact And.right (And.right (And.right (And.right (And.right (And.right (And.right (And.right (And.right (And.right (And.right (And.right (And.right (And.right (And.right (And.right (by assumption)))))))))))))))) | exact And.right (And.right (And.right (And.right (And.right (And.right (And.right (And.right (And.right (And.right (And.right (And.right (And.right (And.right (And.right (And.right (And.right (by assumption))))))))))))))))) | exact And.right (And.right (And.right (And.right (And.right (And.right (And.right (And.right (And.right (And.right (And.right (And.right (And.right (And.right (And.right (And.right (And.right (And.right (by assumption)))))))))))))))))) | exact And.right (And.right (And.right (And.right (And.right (And.right (And.right (And.right (And.right (And.right (And.right (And.right (And.right (And.right (And.right (And.right (And.right (And.right (And.right (by assumption)))))))))))))))))))) | exact off_sub (by with_reducible assumption) (by top_reprB) | exact off_of_lt (by (first | assumption | exact allLt_of (by assumption) | exact And.right (by assumption) | exact And.right (And.right (by assumption)) | exact And.right (And.right (And.right (by assumption))) | exact And.right (And.right (And.right (And.right (by assumption)))) | exact And.right (And.right (And.right (And.right (And.right (by assumption))))) | exact And.right (And.right (And.right (And.right (And.right (And.right (by assumption)))))) | exact And.right (And.right (And.right (And.right (And.right (And.right (And.right (by assumption))))))) | exact And.right (And.right (And.right (And.right (And.right (And.right (And.right (And.right (by assumption)))))))) | exact And.right (And.right (And.right (And.right (And.right (And.right (And.right (And.right (And.right (by assumption))))))))) | exact And.right (And.right (And.right (And.right (And.right (And.right (And.right (And.right (And.right (And.right (by assumption)))))))))) | exact And.right (And.right (And.right (And.right (And.right (And.right (And.right (And.right (And.right (And.right (And.right (by assumption))))))))))) | exact And.right (And.right (And.right (And.right (And.right (And.right (And.right (And.right (And.right (And.right (And.right (And.right (by assumption)))))))))))) | exact And.right (And.right (And.right (And.right (And.right (And.right (And.right (And.right (And.right (And.right (And.right (And.right (And.right (by assumption))))))))))))) | exact And.right (And.right (And.right (And.right (And.right (And.right (And.right (And.right (And.right (And.right (And.right (And.right (And.right (And.right (by assumption)))))))))))))) | exact And.right (And.right (And.right (And.right (And.right (And.right (And.right (And.right (And.right (And.right (And.right (And.right (And.right (And.right (And.right (by assumption))))))))))))))) | exact And.right (And.right (And.right (And.right (And.right (And.right (And.right (And.right (And.right (And.right (And.right (And.right (And.right (And.right (And.right (And.right (by assumption)))))))))))))))) | exact And.right (And.right (And.right (And.right (And.right (And.right (And.right (And.right (And.right (And.right (And.right (And.right (And.right (And.right (And.right (And.right (And.right (by assumption))))))))))))))))) | exact And.right (And.right (And.right (And.right (And.right (And.right (And.right (And.right (And.right (And.right (And.right (And.right (And.right (And.right (And.right (And.right (And.right (And.right (by assumption)))))))))))))))))) | exact And.right (And.right (And.right (And.right (And.right (And.right (And.right (And.right (And.right (And.right (And.right (And.right (And.right (And.right (And.right (And.right (And.right (And.right (And.right (by assumption))))))))))))))))))))) | exact off_of_lt2 (by (first | assumption | exact allLt_of (by assumption) | exact And.right (by assumption) | exact And.right (And.right (by assumption)) | exact And.right (And.right (And.right (by assumption))) | exact And.right (And.right (And.right (And.right (by assumption)))) | exact And.right (And.right (And.right (And.right (And.right (by assumption))))) | exact And.right (And.right (And.right (And.right (And.right (And.right (by assumption)))))) | exact And.right (And.right (And.right (And.right (And.right (And.right (And.right (by assumption))))))) | exact And.right (And.right (And.right (And.right (And.right (And.right (And.right (And.right (by assumption)))))))) | exact And.right (And.right (And.right (And.right (And.right (And.right (And.right (And.right (And.right (by assumption))))))))) | exact And.right (And.right (And.right (And.right (And.right (And.right (And.right (And.right (And.right (And.right (by assumption)))))))))) | exact And.right (And.right (And.right (And.right (And.right (And.right (And.right (And.right (And.right (And.right (And.right (by assumption))))))))))) | exact And.right (And.right (And.right (And.right (And.right (And.right (And.right (And.right (And.right (And.right (And.right (And.right (by assumption)))))))))))) | exact And.right (And.right (And.right (And.right (And.right (And.right (And.right (And.right (And.right (And.right (And.right (And.right (And.right (by assumption))))))))))))) | exact And.right (And.right (And.right (And.right (And.right (And.right (And.right (And.right (And.right (And.right (And.right (And.right (And.right (And.right (by assumption)))))))))))))) | exact And.right (And.right (And.right (And.right (And.right (And.right (And.right (And.right (And.right (And.right (And.right (And.right (And.right (And.right (And.right (by assumption))))))))))))))) | exact And.right (And.right (And.right (And.right (And.right (And.right (And.right (And.right (And.right (And.right (And.right (And.right (And.right (And.right (And.right (And.right (by assumption)))))))))))))))) | exact And.right (And.right (And.right (And.right (And.right (And.right (And.right (And.right (And.right (And.right (And.right (And.right (And.right (And.right (And.right (And.right (And.right (by assumption))))))))))))))))) | exact And.right (And.right (And.right (And.right (And.right (And.right (And.right (And.right (And.right (And.right (And.right (And.right (And.right (And.right (And.right (And.right (And.right (And.right (by assumption)))))))))))))))))) | exact And.right (And.right (And.right (And.right (And.right (And.right (And.right (And.right (And.right (And.right (And.right (And.right (And.right (And.right (And.right (And.right (And.right (And.right (And.right (by assumption))))))))))))))))))))) (by omega) | exact off_of_base (by assumption) (by omega))
local macro_rules | `(tactic| k_all) => `(tactic| (refine off_all ?_; top_strB))
local macro_rules | `(tactic| walk_at "getMethod ref") => `(tactic| (k_here; k_dflt (refine' kmu_own ?k1 ?k2 ?k3 ?k4 ?k5 ?_; (case k1 => k_asm); (case k2 => k_asm); (case k3 => k_inst); (case k4 => k_is); (case k5 => k_is); k_whole)))
local macro_rules | `(tactic| walk_at "binaryOp Mult int int") => `(tactic| (k_here; with_reducible first | refine PyProof.Rows.mul_int ?_ (mulok_getD (by assumption) (by assumption) (by assumption)) | refine PyProof.Rows.mul_int ?_ (mulok_mem (by assumption) (by assumption) (by assumption))))
local macro_rules | `(tactic| top_name) => `(tactic| (law_purse 40000 => (law_clear; (repeat (with_reducible rename (@Ne Nat _ _) ∧ _ => hne9; clear hne9)); (repeat (with_reducible rename (@LT.lt Nat _ _ _) ∧ _ => hne9; clear hne9)); (repeat (with_reducible rename (@Ne Nat _ _) => hne9; clear hne9)); (try simp only [List.length_append, List.length_cons, List.length_nil, List.length_map, List.length_take, List.length_set, List.length_zipWith, rangeKs_length]); omega)))
local macro_rules | `(tactic| walk_at "subscriptTail Name Name ref int") => `(tactic| ((k_here; (with_reducible show wpAny _ _ (subscriptTail _ _ (Value.ref _) (Value.int _ _)) _ _ _); (with_unfolding_all refine' item_list_ints ?k1 ?k2 ?k3 ?k4 ?k5 ?_; (case k1 => exact News.isList (by k_asm) (by k_mem)); (case k2 => l_ints); (case k3 => first | assumption | top_name); (case k4 => first | assumption | exact idx_hi (by assumption) (by first | assumption | exact Nat.le_refl _) | top_name); (case k5 => first | assumption | exact idx_fit (by assumption) (by assumption) | top_name); k_whole); intro _)))
local macro_rules | `(tactic| walk_at "subscriptTail Name BinOp ref int") => `(tactic| ((k_here; (with_reducible show wpAny _ _ (subscriptTail _ _ (Value.ref _) (Value.int _ _)) _ _ _); (with_unfolding_all refine' item_list_ints ?k1 ?k2 ?k3 ?k4 ?k5 ?_; (case k1 => exact News.isList (by k_asm) (by k_mem)); (case k2 => l_ints); (case k3 => first | assumption | top_name); (case k4 => first | assumption | exact idx_hi (by assumption) (by first | assumption | exact Nat.le_refl _) | top_name); (case k5 => first | assumption | exact idx_fit (by assumption) (by assumption) | top_name); k_whole); intro _)))
local macro_rules | `(tactic| walk_at "call builtin:list.copy") => `(tactic| (k_here; (with_reducible show wpAny _ _ (call (Value.builtin _) [Value.ref _]) _ _ _); k_dflt (refine' copyK ?k1 ?k2 ?k3 ?k4 ?_; (case k1 => k_asm); (case k2 => k_asm); (case k3 => exact News.isList (by k_asm) (by k_mem)); (case k4 => exact ints_size (by l_ints) (by top_name)); k_whole); intro D' h' F' N' l1; (try k_lt l1); (try k_sweep)))
local macro_rules | `(tactic| walk_at "setItem ref int") => `(tactic| (k_here; (with_reducible show wpAny _ _ (setItem (Value.ref _) (Value.int _ _) (Value.int _ _)) _ _ _); k_dflt (refine' ksa_set ?k1 ?k2 ?k3 ?k4 ?k5 ?k6 ?k7 ?_; (case k1 => k_asm); (case k2 => k_asm); (case k3 => k_upd); (case k4 => l_ints); (case k5 => first | assumption | top_name); (case k6 => first | assumption | top_name); (case k7 => first | assumption | top_name); k_whole); intro h' F' N' hi' hl' hs'; clear hs'; (try k_sweep)))
local macro_rules | `(tactic| walk_at "callWith ref") => `(tactic| (k_here; kco_here; k_dflt (refine' kco_callWith ?k1 ?k2 ?k3 ?k4 ?_; (case k1 => k_in); (case k2 => k_inst); (case k3 => rfl); (case k4 => k_is); k_whole)))
local macro_rules | `(tactic| allgen_close_more) => `(tactic| first | k_asm | (refine' cb_drop ?cbN ?cbS; (case cbN => assumption); (case cbS => top_reprB)))
local macro_rules | `(tactic| walk_at "exec For Name Call cons nil") => `(tactic| (k_here; k_dflt (refine For_turns (by k_asm) ?_ (by intro _; with_unfolding_all rfl) (by passes_own)); (try k_fold)))
local macro_rules | `(tactic| walk_at "getItem ref int") => `(tactic| (k_here; (with_reducible show wpAny _ _ (getItem (Value.ref _) (Value.int _ _)) _ _ _); k_dflt (refine' ksa_get ?k1 ?k2 ?k3 ?k4 ?k5 ?k6 ?_; (case k1 => k_asm); (case k2 => k_mem); (case k3 => l_ints); (case k4 => first | assumption | top_name); (case k5 => first | assumption | top_name); (case k6 => first | assumption | top_name); k_whole); intro _))
local macro_rules | `(tactic| walk_at "CompSrc") => `(tactic| (k_here; k_dflt (refine' LCg.CompSrc.ledger ?s1 ?s2 ?s3 ?s4 ?s5 ?_; (case s1 => rfl); (case s2 => k_asm); (case s3 => k_asm); (case s4 => k_mem); (case s5 => exact ints_sizeA (by l_ints) (by first | assumption | top_name)); intro g'; (refine' kcf_list _ (by l_ints) (fun k' t' I' oI' C' oC' D' m' ys' h' tk' E' hk' hC' hx' F' N' off' ne' hMark' => ?_) ?_); (all_goals (try (simp only [LCg.Off3, and_true] at off'))); kcf_last)))
local macro_rules | `(tactic| allgen_close2_more) => `(tactic| first | assumption | exact school_bnd (by assumption) _ _ | exact one_bnd (by assumption) | exact times_bnd (by assumption) _ _ | exact map_bnd (by assumption) _ _ | exact zip_bnd (by assumption) _ _ _ | exact set_bnd (by assumption) (by allgen_close2_more))
local macro_rules | `(tactic| ktr_rel) => `(tactic| ((simp only [List.length_append, List.length_cons, List.length_nil, List.length_map, List.length_set, List.length_zipWith, rangeKs_length, schoolS_length, timesS_length]); omega))
local macro_rules | `(tactic| walk_at "call builtin:all") => `(tactic| (k_here; (with_reducible rename GenOnD _ _ _ _ _ _ _ _ _ => gxX'); k_dflt (refine' all_gx ?k1 ?k2 ?k3 gxX' ?k4 ?k5 ?_; (case k1 => k_asm); (case k2 => k_asm); (case k3 => k_asm); (case k4 => k_asm); (case k5 => k_asm); k_whole); clear gxX'; intro s' F' N' G' hos'))
local macro_rules | `(tactic| walk_at "binaryOp Add int ref") => `(tactic| (k_here; (with_reducible show wpAny _ _ (binaryOp Operator.Add (Value.int _ _) (Value.ref _)) _ _ _); k_dflt (refine' rbin_add ?F ?X ?I ?hC ?hS ?hR ?hF ?h1 ?h2 ?hU ?_; (case F => k_asm); (case X => k_asm); (case I => k_inst); (case hC => k_is); (case hS => k_is); (case hR => k_is); (case hF => k_is); (case h1 => k_is); (case h2 => k_is); (case hU => k_is); k_whole)))
local macro_rules | `(tactic| walk_at "binaryOp Sub int ref") => `(tactic| (k_here; (with_reducible show wpAny _ _ (binaryOp Operator.Sub (Value.int _ _) (Value.ref _)) _ _ _); k_dflt (refine' rbin_sub ?F ?X ?I ?hC ?hS ?hR ?hF ?h1 ?h2 ?hU ?_; (case F => k_asm); (case X => k_asm); (case I => k_inst); (case hC => k_is); (case hS => k_is); (case hR => k_is); (case hF => k_is); (case h1 => k_is); (case h2 => k_is); (case hU => k_is); k_whole)))
local macro_rules | `(tactic| walk_at "binaryOp Mult int ref") => `(tactic| (k_here; (with_reducible show wpAny _ _ (binaryOp Operator.Mult (Value.int _ _) (Value.ref _)) _ _ _); k_dflt (refine' rbin_mul ?F ?X ?I ?hC ?hS ?hR ?hF ?h1 ?h2 ?hU ?_; (case F => k_asm); (case X => k_asm); (case I => k_inst); (case hC => k_is); (case hS => k_is); (case hR => k_is); (case hF => k_is); (case h1 => k_is); (case h2 => k_is); (case hU => k_is); k_whole)))
local macro_rules | `(tactic| walk_at "binaryOp Mult int int") => `(tactic| (k_here; with_reducible refine PyProof.Rows.mul_int ?_ (mulok_mem_r (by assumption) (by assumption) (by assumption))))
local macro_rules | `(tactic| walk_at "binaryOp Sub ref") => `(tactic| (k_here; (with_reducible show wpAny _ _ (binaryOp Operator.Sub (Value.ref _) (Value.ref _)) _ _ _); k_dflt (refine' ksp_binL ?F ?X ?N ?I ?hl ?hC ?hS ?hF ?hR ?hP ?h1 ?h2 ?hU ?_; (case F => k_asm); (case X => k_asm); (case N => k_asm); (case I => k_inst); (case hl => k_mem); (case hS => k_is); (case hF => k_is); (case hC => k_is); (case hR => k_is); (case hP => first | exact .inl rfl | exact .inr ⟨_, rfl⟩); (case h1 => k_is); (case h2 => k_is); (case hU => k_is); k_whole)))
local macro_rules | `(tactic| walk_at "leaving ref") => `(tactic| (k_here; (with_reducible rename KtsDicts _ _ => kdX); (with_reducible show wpAny _ _ (leaving (envOfC _ _ _ _ _) _) _ _ _); first
  | (refine' leave_raiseX ?k1 ?k0 ?k2 ?k3 ?e1 ?e2 ?_; (case k0 => first | assumption | exact Heap.MadeExc.of (by assumption)); (case k2 => assumption); (case k1 => assumption); (case k3 => k_asm); (case e1 => exact rfl); (case e2 => exact rfl); k_whole; intro h' t' S' R' U'; (try dsimp only at S' R' U' ⊢))
  | (refine' leave_onX ?k1 ?k2 ?k3 ?k4 ?e1 ?_; (case k3 => assumption); (case k2 => assumption); (case k1 => assumption); (case k4 => assumption); (case e1 => exact rfl); k_whole; intro h' S' R' U'; (try dsimp only at S' R' U' ⊢))
  | (refine' leave_newX ?k1 ?k0 ?k2 ?k3 ?e1 ?e2 ?_; (case k0 => assumption); (case k2 => assumption); (case k1 => assumption); (case k3 => k_asm); (case e1 => exact rfl); (case e2 => exact rfl); k_whole; intro h' S' R' U'; (try dsimp only at S' R' U' ⊢))
  | (refine' leave_onNX ?k1 ?k2 ?k3 ?k4 ?e1 ?_; (case k3 => assumption); (case k2 => assumption); (case k1 => assumption); (case k4 => assumption); (case e1 => exact rfl); k_whole; intro h' S' R' U'; (try dsimp only at S' R' U' ⊢))))
local macro_rules | `(tactic| walk_at "exec Raise some none") => `(tactic| (k_here; (with_reducible show wpAny _ _ (exec (Stmt.Raise (some (Expr.Call (Expr.Name _ _) (_ :: _) [] _)) none _) _) _ _ _); refine Raise_new rfl ?_))
local macro_rules | `(tactic| walk_at "InitBack") => `(tactic| (dsimp only [InitBack]))
local macro_rules | `(tactic| walk_at "subscriptTail Name Name ref int") => `(tactic| (k_here; (with_reducible show wpAny _ _ (subscriptTail _ _ (Value.ref _) (Value.int _ _)) _ _ _); (with_unfolding_all refine' item_refs ?k1 ?k2 ?k3 ?k4 ?_; (case k1 => k_asm); (case k2 => k_mem); (case k3 => assumption); (case k4 => assumption); k_whole)))
local macro_rules | `(tactic| walk_at "setItem ref int") => `(tactic| (k_here; (with_reducible show wpAny _ _ (setItem (Value.ref _) (Value.int _ _) (Value.ref _)) _ _ _); k_dflt (refine' set_refs ?k1 ?k2 ?k3 ?k4 ?k5 ?_; (case k1 => k_asm); (case k2 => k_asm); (case k3 => k_upd); (case k4 => assumption); (case k5 => assumption); k_whole); intro h' F' N'; (try k_sweep)))
local macro_rules | `(tactic| top_strB) => `(tactic| first | (with_reducible assumption) | (refine off_cons ?bo1 ?bo2; (case bo1 => k_ne); (case bo2 => top_strB)))
local macro_rules | `(tactic| walk_at "execs cons") => `(tactic| ((with_reducible show wpAny _ _ (execs [Stmt.If (Expr.Compare (Expr.Attribute _ _ _) _ _ _) _ _ _, Stmt.For _ _ _ _ _] _) _ _ _); refine stop_elim ?_))
local macro_rules | `(tactic| k_enter) => `(tactic| ((with_reducible show codeAny _ _ (Code.call (Value.ref 56) ⟨[Value.ref _, Value.ref _], _⟩) _ _); k_dflt (refine' Ctr.use (ring_call ?c0 ?c1 ?c2 ?c3) ?k1 ?k2 ?k3 ?k4 ?k5 ?kK ?kd ?ku ?_; (case k1 => k_asm); (case k2 => k_asm); (case k3 => k_asm); (case k4 => k_asm); (case k5 => k_asm); (case kK => first | exact rfl | assumption); (case c0 => exact ⟨_, _, _, _, _, _, by k_mem, by k_mem⟩); (case c1 => exact ⟨_, _, by k_mem, by l_ints⟩); (case c2 => ktr_rel); (case c3 => ktr_rel); (case kd => k_room); (case ku => k_units); k_whole; intro v' h' tk' nw' F' N' cP'; obtain ⟨x', d', t1', t2', hv', hn', o1', o2', n1'⟩ := cP'; subst hv'; subst hn'; (try dsimp only); kts_tail; (try k_sweep))))
local macro_rules | `(tactic| walk_at "compareOp NotEq ref ref") => `(tactic| (k_here; (with_reducible show wpAny _ _ (compareOp CmpOp.NotEq (Value.ref _) (Value.ref _)) _ _ _); k_dflt (refine' ne_inst (C := 227) (f := 217) ?hu ?F ?X ?I ?J ?q ?hf ?_; (case F => k_asm); (case X => k_asm); (case I => k_inst); (case J => k_inst); (case hu => k_units); (case q => kernel_rfl); (case hf => kernel_rfl); k_whole)))
local macro_rules | `(tactic| walk_at "NeBack") => `(tactic| (refine neBack_bool ?_))
local macro_rules | `(tactic| walk_at "compareOp NotEq bool bool") => `(tactic| (k_here; refine ne_bool_eq ?_ ?_; (focus (first | (with_reducible exact rfl) | ((with_reducible rename (@Eq (List Int) _ (List.flatten _)) => hx9); (simp only [hx9, decide_true, Bool.true_and]; done)) | ((with_reducible rename (Not (@Eq (List Int) _ (List.flatten _))) => hx9); (simp only [hx9, decide_false, Bool.false_and]; done))))))
local macro_rules | `(tactic| walk_at "compareOp Eq bool bool") => `(tactic| (k_here; refine eq_bool_eq ?_ ?_; (focus (first | (with_reducible exact rfl) | ((with_reducible rename (@Eq (List Int) _ (List.flatten _)) => hx9); (simp only [hx9, decide_true, Bool.true_and]; done)) | ((with_reducible rename (Not (@Eq (List Int) _ (List.flatten _))) => hx9); (simp only [hx9, decide_false, Bool.false_and]; done))))))
local macro_rules | `(tactic| walk_at "compareOp Eq int int") => `(tactic| (k_here; with_reducible refine eq_int_same ?_))
local macro_rules | `(tactic| walk_at "exec Assign cons ListComp") => `(tactic| (k_here; (with_reducible show wpAny _ _ (exec (Stmt.Assign [Expr.Name _ _] (Expr.ListComp _ [⟨Expr.Tuple _ _ _, _, _, _⟩] _ _) _) _) _ _ _); k_dflt (refine' zip_assign ?z1 ?z2 ?z3 ?z4 ?z5 ?_; (case z1 => with_unfolding_all rfl); (case z2 => with_unfolding_all rfl); (case z3 => rfl); (case z4 => decide); (case z5 => intro _; with_unfolding_all rfl))))
local macro_rules | `(tactic| walk_at "eval ListComp") => `(tactic| (k_here; (with_reducible show wpAny _ _ (eval (Expr.ListComp _ [⟨Expr.Tuple _ _ _, _, _, _⟩] _ _) _) _ _ _); k_dflt (refine' zip_eval ?z2 ?z3 ?z4 ?z5 ?_; (case z2 => with_unfolding_all rfl); (case z3 => rfl); (case z4 => decide); (case z5 => intro _; with_unfolding_all rfl))))
section
theorem asked_law {w : World} {M : Led} {x y r l l2 f g : Addr} {q n : Int} {ns ms : List Int} {p1 p2 p3 p4 p5 p6 : Addr × Obj} {ps1 ps2 : Array Value} {v : Int} {tv tq' : Tok} (hR : Ring w M r q n) (hP : Poly w M x r l ns) (hlen : (ns.length : Int) = n) (hn1 : 1 ≤ n) (hn : n ≤ 4) (hq : 2 ≤ q) (hq2 : q < 2 ^ 33) (hP2 : Poly w M y r l2 ms) (hlen2 : (ms.length : Int) = n) (hf : Ints M f ns) (hg : Ints M g ms)
    (ho1 : LCg.Off1 86 (p1 :: p2 :: p3 :: p4 :: p5 :: p6 :: M)) (ho2 : LCg.Off1 93 (p1 :: p2 :: p3 :: p4 :: p5 :: p6 :: M)) (ht1 : TabAt ⟨33, 19, 33, 48⟩ ps1) (ht2 : TabAt ⟨36, 19, 36, 52⟩ ps2) :
   CtrG w 20 272 [.ref x, .ref y, .ref f, .ref g, .int v tv, .int q tq'] (p1 :: p2 :: p3 :: p4 :: p5 :: p6 :: (86, tabObj ps1) :: (93, tabObj ps2) :: M) (fun u N' => ∃ ps1' ps2', TabAt ⟨33, 19, 33, 48⟩ ps1' ∧ TabAt ⟨36, 19, 36, 52⟩ ps2' ∧ u = .bool true ∧ N' = p1 :: p2 :: p3 :: p4 :: p5 :: p6 :: (86, tabObj ps1') :: (93, tabObj ps2') :: M) := by
  refine' lite ?lw ?lx ?le
  case lw =>
    have hs : ∀ p ∈ M, p ∈ p1 :: p2 :: p3 :: p4 :: p5 :: p6 :: M := fun p hp => .tail _ (.tail _ (.tail _ (.tail _ (.tail _ (.tail _ hp)))))
    refine (asked_call (N := p1 :: p2 :: p3 :: p4 :: p5 :: p6 :: M) (ps1 := ps1) (ps2 := ps2) (hR.mono hs) (hP.mono hs) hlen hn1 hn hq hq2 (hP2.mono hs) hlen2 (fs := ns) (gs := ms) (hf.mono hs) (hg.mono hs) ho1 ho2 ht1 ht2).conv (by top_reprB) ?_
    rintro v N' ⟨ps1', ps2', h1, h2, h3, h4⟩
    refine ⟨_, ?_, ps1', ps2', h1, h2, h3, rfl⟩
    rw [h4]
    top_reprB
  case lx => intro hk; simpa only using hk (0 : Nat)
  case le => eq_refl
local macro_rules | `(tactic| k_enter) => `(tactic| ((with_reducible show codeAny _ _ (Code.call (Value.ref 272) ⟨_, _⟩) _ _); k_dflt (refine' CtrG.use (asked_law ?c0 ?c1 ?c2 ?c3 ?c4 ?c5 ?c6 ?c7 ?c8 ?c9 ?c10 ?c11 ?c12 ?c13 ?c14) ?k1 ?k2 ?k3 ?k4 ?k5 ?kK ?kG ?kd ?ku ?_; (case k1 => k_asm); (case k2 => k_asm); (case k3 => k_asm); (case k4 => allgen_close_more); (case k5 => k_asm); (case kK => first | exact rfl | assumption); (case kG => k_asm); (case c0 => exact Ring.mono (by assumption) (by top_reprB)); (case c1 => exact Poly.mono (by assumption) (by top_reprB)); (case c2 => assumption); (case c3 => assumption); (case c4 => assumption); (case c5 => assumption); (case c6 => assumption); (case c7 => exact Poly.mono (by assumption) (by top_reprB)); (case c8 => assumption); (case c9 => exact Ints.mono (by assumption) (by top_reprB)); (case c10 => exact Ints.mono (by assumption) (by top_reprB)); (case c11 => top_strB); (case c12 => top_strB); (case c13 => assumption); (case c14 => assumption); (case kd => k_room); (case ku => k_units); k_whole; intro v' s' nw' F' N' G' hos' cP'; obtain ⟨ps', qs', ht', hs', hv', hn'⟩ := cP'; subst hv'; subst hn'; (try dsimp only); kts_tail; (try k_sweep))))
local macro_rules | `(tactic| walk_at "compareOp Eq int int") => `(tactic| (k_here; (with_reducible show wpAny _ _ (compareOp _ (Value.int _ _) (Value.int _ _)) _ _ _); first | (refine eq_int_ff ?h1 ?_; (case h1 => omega)) | (refine eq_int_tt ?h1 ?_; (case h1 => omega))))
local macro_rules | `(tactic| walk_at "compareOp Lt int int") => `(tactic| (k_here; (with_reducible show wpAny _ _ (compareOp _ (Value.int _ _) (Value.int _ _)) _ _ _); first | (refine lt_int_tt ?h1 ?_; (case h1 => omega)) | (refine lt_int_ff ?h1 ?_; (case h1 => omega))))
theorem leaf_asked {w : World} {h₀ : Heap} {L fa : Addr} {cd : Value} {p : Program} {loose : List Str} {mean : ExcName → Option Value} {mg mb : Str → Option Value} {m : Str → Option Value} {s : Shared}
    {lqual : Str} {body tb : List Stmt} {scope : Scope} {a0 a1 a2 a3 a4 a6 t0 t1 t2 t3 t4 : Stmt} {iter : Expr} {nx : Str} {px fp : Pos}
    {q n : Int} {r H U I D : Addr} {X Y : Nat → Addr} {f : Nat → List Int} {e1 e2 : Nat} {oV oQ oI oD : Obj} {ps1 ps2 : Array Value} {M : Led} {tq tn : Tok} {Q : Flow → Shared → Prop} {k a b v : Int} {tk ta tb' tv : Tok}
    (hK : LawAt w lqual body scope) (hb : body = [a0, a1, a2, a3, a4, .For (.Name nx px) iter tb [] fp, a6]) (ht : tb = [t0, t1, t2, t3, t4])
    (B : Below callerA h₀ [] h₀) (X₀ : (hd.heap_1 w.params).In h₀) (T : Top p loose mean mg mb h₀) (hq : 2 ≤ q) (hq2 : q < 2 ^ 33) (hn1 : 1 ≤ n) (hn : n ≤ 4)
    (F : Fr h₀ L s.heap m) (N : News h₀ L s.heap ((I, oI) :: (D, oD) :: lawLed L H U X Y e1 e2 oV oQ ps1 ps2 M)) (G : AllBare s.gens) (R : Rows w q n r X Y f M) (A : Apart L H U M)
    (hV : oV.data = .cell (some (.int v tv))) (hQ : oQ.data = .cell (some (.int q tq))) (ht1 : TabAt ⟨33, 19, 33, 48⟩ ps1) (ht2 : TabAt ⟨36, 19, 36, 52⟩ ps2) (offI : LCg.Off1 I ((D, oD) :: lawLed L H U X Y e1 e2 oV oQ ps1 ps2 M)) (offD : LCg.Off1 D (lawLed L H U X Y e1 e2 oV oQ ps1 ps2 M))
    (hm1 : m (Str.ofString "have") = some (.ref H)) (hm2 : m (Str.ofString "due") = some (.ref U)) (hm3 : m (Str.ofString "ring") = some (.ref r)) (hm4 : m (Str.ofString "n") = some (.int n tn))
    (hm5 : m (Str.ofString "before") = some (.ref (X a.toNat))) (hm6 : m (Str.ofString "old") = some (.ref (Y a.toNat))) (hm7 : m (Str.ofString "kind") = some (.int k tk)) (hm8 : m (Str.ofString "a") = some (.int a ta)) (hm9 : m (Str.ofString "b") = some (.int b tb'))
    (ha0 : 0 ≤ a) (ha1 : a < 3) (hb0 : 0 ≤ b) (hb1 : b < 3) (hv1 : -(2 ^ 160) < v) (hv2 : v < 2 ^ 160)
    (hk : k = 10) :
    wpAny (model PySem.Challenge.rw_bn0014_01.row.toRowW.prog w) (callerA.deeper (lawEnv lqual scope L fa cd)) (execs [t2, t3, t4] (lawEnv lqual scope L fa cd))
      (EndG h₀ L s.os I oI (D, oD) (fun m' news' => LCg.Off1 D news' ∧ LawJ w q n L r H U m' news') Q) (fun _ _ => False) s := by
  refine' lite ?lw ?lx ?le
  case lw =>
    have hKK := hK
    obtain ⟨oc, od, lname, params, dV, kV, doc, pm, an, cdv, ct, osl, hK⟩ := hK
    revert hK X₀
    k_fill
    intro X₀ hK
    refine' lk_elim hK ?hz ?_
    case hz => k_dflt k_is
    intro hE
    cases hE
    cases hb
    cases ht
    clear hK
    obtain ⟨aH, aU, aV, aQ, aZ, aC, al1, al2, al3⟩ := A
    have A : Apart L H U M := ⟨aH, aU, aV, aQ, aZ, aC, al1, al2, al3⟩
    have qa := toNat_lt3 ha0 ha1
    have qb := toNat_lt3 hb0 hb1
    have hRg := R.ring
    obtain ⟨la, hPa⟩ := R.poly _ qa
    obtain ⟨lb, hPb⟩ := R.poly _ qb
    have hIa := R.dues _ qa
    have hIb := R.dues _ qb
    have hla := R.len _ qa
    have hlb := R.len _ qb
    have hba := R.bnd _ qa
    have hbb := R.bnd _ qb
    replace F := fr_sets (l := [(Str.ofString "have", .ref H), (Str.ofString "due", .ref U), (Str.ofString "ring", .ref r), (Str.ofString "n", .int n tn), (Str.ofString "before", .ref (X a.toNat)), (Str.ofString "old", .ref (Y a.toNat)), (Str.ofString "kind", .int k tk), (Str.ofString "a", .int a ta), (Str.ofString "b", .int b tb')]) F (by simp [hm1, hm2, hm3, hm4, hm5, hm6, hm7, hm8, hm9])
    unfold lawLed at N
    (try k_fold)
    k_steps
    exact tail_go (X := X) (Y := Y) (f := f) (e1 := e1) (e2 := e2) (M := M) hKK rfl rfl B X₀ T hq hq2 hn1 hn (by k_asm) (by allgen_close_more) (by k_asm) R A (by k_asm) (by k_asm) (by k_asm) (by k_asm) (by top_strB) (by top_strB) rfl rfl rfl rfl rfl rfl hPa hIa (by omega) (by assumption)
  case lx => intro hk; simpa only using hk (0 : Nat)
  case le => eq_refl
end
end
section
local macro_rules | `(tactic| k_mem) => `(tactic| ((fail_if_success (with_reducible refine' List.Mem.tail _ ?_)); first | with_reducible assumption | assumption | (refine sub_mem (by assumption) ?_; k_mem)))
local macro_rules | `(tactic| news_mem) => `(tactic| k_mem)
local macro_rules | `(tactic| k_room) => `(tactic| ((simp only [depth_under_make, depth_under_kw, depth_in1, depth_deeper, depth_caller, recursionLimit] at *); omega))
local macro_rules | `(tactic| k_units) => `(tactic| ((have hcL9 := cLine_is); (simp only [units_in1, units_deeper, Around.mark_units, units_caller, cLine] at *); omega))
local macro_rules | `(tactic| allgen_close2_more) => `(tactic| assumption)
local macro_rules | `(tactic| ktr_rel) => `(tactic| ((try simp only [List.length_append, List.length_cons, List.length_nil, List.length_map, List.length_set, List.length_zipWith, rangeKs_length]); first | assumption | omega))
local macro_rules | `(tactic| top_reprB) => `(tactic| first | exact List.forall_mem_nil _ | (refine List.forall_mem_cons.mpr ⟨by k_mem, ?_⟩; top_reprB) | (intro p hp; k_mem))
local macro_rules | `(tactic| k_ne) => `(tactic| (refine neN ?_; (try dsimp only); first | (with_reducible assumption) | exact Ne.symm (by with_reducible assumption) | exact off_ne (by with_reducible assumption) (by k_mem) | exact Ne.symm (off_ne (by with_reducible assumption) (by k_mem)) | omega))
local macro_rules | `(tactic| top_strB) => `(tactic| first | (first | assumption | exact allLt_of (by assumption) | exact And.right (by assumption) | exact And.right (And.right (by assumption)) | exact And.right (And.right (And.right (by assumption))) | exact And.right (And.right (And.right (And.right (by assumption)))) | exact And.right (And.right (And.right (And.right (And.right (by assumption))))) | exact And.right (And.right (And.right (And.right (And.right (And.right (by assumption)))))) | exact And.right (And.right (And.right (And.right (And.right (And.right (And.right (by assumption))))))) | exact And.right (And.right (And.right (And.right (And.right (And.right (And.right (And.right (by assumption)))))))) | exact And.right (And.right (And.right (And.right (And.right (And.right (And.right (And.right (And.right (by assumption))))))))) | exact And.right (And.right (And.right (And.right (And.right (And.right (And.right (And.right (And.right (And.right (by assumption)))))))))) | exact And.right (And.right (And.right (And.right (And.right (And.right (And.right (And.right (And.right (And.right (And.right (by assumption))))))))))) | exact And.right (And.right (And.right (And.right (And.right (And.right (And.right (And.right (And.right (And.right (And.right (And.right (by assumption)))))))))))) | exact And.right (And.right (And.right (And.right (And.right (And.right (And.right (And.right (And.right (And.right (And.right (And.right (And.right (by assumption))))))))))))) | exact And.right (And.right (And.right (And.right (And.right (And.right (And.right (And.right (And.right (And.right (And.right (And.right (And.right (And.right (by assumption)))))))))))))) | exact And.right (And.right (And.right (And.right (And.right (And.right (And.right (And.right (And.right (And.right (And.right (And.right (And.right (And.right (And.right (by assumption))))))))))))))) | exact And.right (And.right (And.right (And.right (And.right (And.right (And.right (And.right (And.right (And.right (And.right (And.right (And.right (And.right (And.right (And.right (by assumption)))))))))))))))) | exact And.right (And.right (And.right (And.right (And.right (And.right (And.right (And.right (And.right (And.right (And.right (And.right (And.right (And.right (And.right (And.right (And.right (by assumption))))))))))))))))) | exact And.right (And.right (And.right (And.right (And.right (And.right (And.right (And.right (And.right (And.right (And.right (And.right (And.right (And.right (And.right (And.right (And.right (And.right (by assumption)))))))))))))))))) | exact And.right (And.right (And.right (And.right (And.right (And.right (And.right (And.right (And.right (And.right (And.right (And.right (And.right (And.right (And.right (And.right (And.right (And.right (And.right (by assumption)))))))))))))))))))) | exact off_sub (by with_reducible assumption) (by top_reprB) | exact off_of_lt (by (first | assumption | exact allLt_of (by assumption) | exact And.right (by assumption) | exact And.right (And.right (by assumption)) | exact And.right (And.right (And.right (by assumption))) | exact And.right (And.right (And.right (And.right (by assumption)))) | exact And.right (And.right (And.right (And.right (And.right (by assumption))))) | exact And.right (And.right (And.right (And.right (And.right (And.right (by assumption)))))) | exact And.right (And.right (And.right (And.right (And.right (And.right (And.right (by assumption))))))) | exact And.right (And.right (And.right (And.right (And.right (And.right (And.right (And.right (by assumption)))))))) | exact And.right (And.right (And.right (And.right (And.right (And.right (And.right (And.right (And.right (by assumption))))))))) | exact And.right (And.right (And.right (And.right (And.right (And.right (And.right (And.right (And.right (And.right (by assumption)))))))))) | exact And.right (And.right (And.right (And.right (And.right (And.right (And.right (And.right (And.right (And.right (And.right (by assumption))))))))))) | exact And.right (And.right (And.right (And.right (And.right (And.right (And.right (And.right (And.right (And.right (And.right (And.right (by assumption)))))))))))) | exact And.right (And.right (And.right (And.right (And.right (And.right (And.right (And.right (And.right (And.right (And.right (And.right (And.right (by assumption))))))))))))) | exact And.right (And.right (And.right (And.right (And.right (And.right (And.right (And.right (And.right (And.right (And.right (And.right (And.right (And.right (by assumption)))))))))))))) | exact And.right (And.right (And.right (And.right (And.right (And.right (And.right (And.right (And.right (And.right (And.right (And.right (And.right (And.right (And.right (by assumption))))))))))))))) | exact And.right (And.right (And.right (And.right (And.right (And.right (And.right (And.right (And.right (And.right (And.right (And.right (And.right (And.right (And.right (And.right (by assumption)))))))))))))))) | exact And.right (And.right (And.right (And.right (And.right (And.right (And.right (And.right (And.right (And.right (And.right (And.right (And.right (And.right (And.right (And.right (And.right (by assumption))))))))))))))))) | exact And.right (And.right (And.right (And.right (And.right (And.right (And.right (And.right (And.right (And.right (And.right (And.right (And.right (And.right (And.right (And.right (And.right (And.right (by assumption)))))))))))))))))) | exact And.right (And.right (And.right (And.right (And.right (And.right (And.right (And.right (And.right (And.right (And.right (And.right (And.right (And.right (And.right (And.right (And.right (And.right (And.right (by assumption))))))))))))))))))))) | exact off_of_lt2 (by (first | assumption | exact allLt_of (by assumption) | exact And.right (by assumption) | exact And.right (And.right (by assumption)) | exact And.right (And.right (And.right (by assumption))) | exact And.right (And.right (And.right (And.right (by assumption)))) | exact And.right (And.right (And.right (And.right (And.right (by assumption))))) | exact And.right (And.right (And.right (And.right (And.right (And.right (by assumption)))))) | exact And.right (And.right (And.right (And.right (And.right (And.right (And.right (by assumption))))))) | exact And.right (And.right (And.right (And.right (And.right (And.right (And.right (And.right (by assumption)))))))) | exact And.right (And.right (And.right (And.right (And.right (And.right (And.right (And.right (And.right (by assumption))))))))) | exact And.right (And.right (And.right (And.right (And.right (And.right (And.right (And.right (And.right (And.right (by assumption)))))))))) | exact And.right (And.right (And.right (And.right (And.right (And.right (And.right (And.right (And.right (And.right (And.right (by assumption))))))))))) | exact And.right (And.right (And.right (And.right (And.right (And.right (And.right (And.right (And.right (And.right (And.right (And.right (by assumption)))))))))))) | exact And.right (And.right (And.right (And.right (And.right (And.right (And.right (And.right (And.right (And.right (And.right (And.right (And.right (by assumption))))))))))))) | exact And.right (And.right (And.right (And.right (And.right (And.right (And.right (And.right (And.right (And.right (And.right (And.right (And.right (And.right (by assumption)))))))))))))) | exact And.right (And.right (And.right (And.right (And.right (And.right (And.right (And.right (And.right (And.right (And.right (And.right (And.right (And.right (And.right (by assumption))))))))))))))) | exact And.right (And.right (And.right (And.right (And.right (And.right (And.right (And.right (And.right (And.right (And.right (And.right (And.right (And.right (And.right (And.right (by assumption)))))))))))))))) | exact And.right (And.right (And.right (And.right (And.right (And.right (And.right (And.right (And.right (And.right (And.right (And.right (And.right (And.right (And.right (And.right (And.right (by assumption))))))))))))))))) | exact And.right (And.right (And.right (And.right (And.right (And.right (And.right (And.right (And.right (And.right (And.right (And.right (And.right (And.right (And.right (And.right (And.right (And.right (by assumption)))))))))))))))))) | exact And.right (And.right (And.right (And.right (And.right (And.right (And.right (And.right (And.right (And.right (And.right (And.right (And.right (And.right (And.right (And.right (And.right (And.right (And.right (by assumption))))))))))))))))))))) (by omega) | exact off_of_base (by assumption) (by omega))
local macro_rules | `(tactic| k_all) => `(tactic| (refine off_all ?_; top_strB))
local macro_rules | `(tactic| walk_at "getMethod ref") => `(tactic| (k_here; k_dflt (refine' kmu_own ?k1 ?k2 ?k3 ?k4 ?k5 ?_; (case k1 => k_asm); (case k2 => k_asm); (case k3 => k_inst); (case k4 => k_is); (case k5 => k_is); k_whole)))
local macro_rules | `(tactic| walk_at "binaryOp Mult int int") => `(tactic| (k_here; with_reducible first | refine PyProof.Rows.mul_int ?_ (mulok_getD (by assumption) (by assumption) (by assumption)) | refine PyProof.Rows.mul_int ?_ (mulok_mem (by assumption) (by assumption) (by assumption))))
local macro_rules | `(tactic| top_name) => `(tactic| (law_purse 40000 => (law_clear; (repeat (with_reducible rename (@Ne Nat _ _) ∧ _ => hne9; clear hne9)); (repeat (with_reducible rename (@LT.lt Nat _ _ _) ∧ _ => hne9; clear hne9)); (repeat (with_reducible rename (@Ne Nat _ _) => hne9; clear hne9)); (try simp only [List.length_append, List.length_cons, List.length_nil, List.length_map, List.length_take, List.length_set, List.length_zipWith, rangeKs_length]); omega)))
local macro_rules | `(tactic| walk_at "subscriptTail Name Name ref int") => `(tactic| ((k_here; (with_reducible show wpAny _ _ (subscriptTail _ _ (Value.ref _) (Value.int _ _)) _ _ _); (with_unfolding_all refine' item_list_ints ?k1 ?k2 ?k3 ?k4 ?k5 ?_; (case k1 => exact News.isList (by k_asm) (by k_mem)); (case k2 => l_ints); (case k3 => first | assumption | top_name); (case k4 => first | assumption | exact idx_hi (by assumption) (by first | assumption | exact Nat.le_refl _) | top_name); (case k5 => first | assumption | exact idx_fit (by assumption) (by assumption) | top_name); k_whole); intro _)))
local macro_rules | `(tactic| walk_at "subscriptTail Name BinOp ref int") => `(tactic| ((k_here; (with_reducible show wpAny _ _ (subscriptTail _ _ (Value.ref _) (Value.int _ _)) _ _ _); (with_unfolding_all refine' item_list_ints ?k1 ?k2 ?k3 ?k4 ?k5 ?_; (case k1 => exact News.isList (by k_asm) (by k_mem)); (case k2 => l_ints); (case k3 => first | assumption | top_name); (case k4 => first | assumption | exact idx_hi (by assumption) (by first | assumption | exact Nat.le_refl _) | top_name); (case k5 => first | assumption | exact idx_fit (by assumption) (by assumption) | top_name); k_whole); intro _)))
local macro_rules | `(tactic| walk_at "call builtin:list.copy") => `(tactic| (k_here; (with_reducible show wpAny _ _ (call (Value.builtin _) [Value.ref _]) _ _ _); k_dflt (refine' copyK ?k1 ?k2 ?k3 ?k4 ?_; (case k1 => k_asm); (case k2 => k_asm); (case k3 => exact News.isList (by k_asm) (by k_mem)); (case k4 => exact ints_size (by l_ints) (by top_name)); k_whole); intro D' h' F' N' l1; (try k_lt l1); (try k_sweep)))
local macro_rules | `(tactic| walk_at "setItem ref int") => `(tactic| (k_here; (with_reducible show wpAny _ _ (setItem (Value.ref _) (Value.int _ _) (Value.int _ _)) _ _ _); k_dflt (refine' ksa_set ?k1 ?k2 ?k3 ?k4 ?k5 ?k6 ?k7 ?_; (case k1 => k_asm); (case k2 => k_asm); (case k3 => k_upd); (case k4 => l_ints); (case k5 => first | assumption | top_name); (case k6 => first | assumption | top_name); (case k7 => first | assumption | top_name); k_whole); intro h' F' N' hi' hl' hs'; clear hs'; (try k_sweep)))
local macro_rules | `(tactic| walk_at "callWith ref") => `(tactic| (k_here; kco_here; k_dflt (refine' kco_callWith ?k1 ?k2 ?k3 ?k4 ?_; (case k1 => k_in); (case k2 => k_inst); (case k3 => rfl); (case k4 => k_is); k_whole)))
local macro_rules | `(tactic| allgen_close_more) => `(tactic| first | k_asm | (refine' cb_drop ?cbN ?cbS; (case cbN => assumption); (case cbS => top_reprB)))
local macro_rules | `(tactic| walk_at "exec For Name Call cons nil") => `(tactic| (k_here; k_dflt (refine For_turns (by k_asm) ?_ (by intro _; with_unfolding_all rfl) (by passes_own)); (try k_fold)))
local macro_rules | `(tactic| walk_at "getItem ref int") => `(tactic| (k_here; (with_reducible show wpAny _ _ (getItem (Value.ref _) (Value.int _ _)) _ _ _); k_dflt (refine' ksa_get ?k1 ?k2 ?k3 ?k4 ?k5 ?k6 ?_; (case k1 => k_asm); (case k2 => k_mem); (case k3 => l_ints); (case k4 => first | assumption | top_name); (case k5 => first | assumption | top_name); (case k6 => first | assumption | top_name); k_whole); intro _))
local macro_rules | `(tactic| walk_at "CompSrc") => `(tactic| (k_here; k_dflt (refine' LCg.CompSrc.ledger ?s1 ?s2 ?s3 ?s4 ?s5 ?_; (case s1 => rfl); (case s2 => k_asm); (case s3 => k_asm); (case s4 => k_mem); (case s5 => exact ints_sizeA (by l_ints) (by first | assumption | top_name)); intro g'; (refine' kcf_list _ (by l_ints) (fun k' t' I' oI' C' oC' D' m' ys' h' tk' E' hk' hC' hx' F' N' off' ne' hMark' => ?_) ?_); (all_goals (try (simp only [LCg.Off3, and_true] at off'))); kcf_last)))
local macro_rules | `(tactic| allgen_close2_more) => `(tactic| first | assumption | exact school_bnd (by assumption) _ _ | exact one_bnd (by assumption) | exact times_bnd (by assumption) _ _ | exact map_bnd (by assumption) _ _ | exact zip_bnd (by assumption) _ _ _ | exact set_bnd (by assumption) (by allgen_close2_more))
local macro_rules | `(tactic| ktr_rel) => `(tactic| ((simp only [List.length_append, List.length_cons, List.length_nil, List.length_map, List.length_set, List.length_zipWith, rangeKs_length, schoolS_length, timesS_length]); omega))
local macro_rules | `(tactic| walk_at "call builtin:all") => `(tactic| (k_here; (with_reducible rename GenOnD _ _ _ _ _ _ _ _ _ => gxX'); k_dflt (refine' all_gx ?k1 ?k2 ?k3 gxX' ?k4 ?k5 ?_; (case k1 => k_asm); (case k2 => k_asm); (case k3 => k_asm); (case k4 => k_asm); (case k5 => k_asm); k_whole); clear gxX'; intro s' F' N' G' hos'))
local macro_rules | `(tactic| walk_at "binaryOp Add int ref") => `(tactic| (k_here; (with_reducible show wpAny _ _ (binaryOp Operator.Add (Value.int _ _) (Value.ref _)) _ _ _); k_dflt (refine' rbin_add ?F ?X ?I ?hC ?hS ?hR ?hF ?h1 ?h2 ?hU ?_; (case F => k_asm); (case X => k_asm); (case I => k_inst); (case hC => k_is); (case hS => k_is); (case hR => k_is); (case hF => k_is); (case h1 => k_is); (case h2 => k_is); (case hU => k_is); k_whole)))
local macro_rules | `(tactic| walk_at "binaryOp Sub int ref") => `(tactic| (k_here; (with_reducible show wpAny _ _ (binaryOp Operator.Sub (Value.int _ _) (Value.ref _)) _ _ _); k_dflt (refine' rbin_sub ?F ?X ?I ?hC ?hS ?hR ?hF ?h1 ?h2 ?hU ?_; (case F => k_asm); (case X => k_asm); (case I => k_inst); (case hC => k_is); (case hS => k_is); (case hR => k_is); (case hF => k_is); (case h1 => k_is); (case h2 => k_is); (case hU => k_is); k_whole)))
local macro_rules | `(tactic| walk_at "binaryOp Mult int ref") => `(tactic| (k_here; (with_reducible show wpAny _ _ (binaryOp Operator.Mult (Value.int _ _) (Value.ref _)) _ _ _); k_dflt (refine' rbin_mul ?F ?X ?I ?hC ?hS ?hR ?hF ?h1 ?h2 ?hU ?_; (case F => k_asm); (case X => k_asm); (case I => k_inst); (case hC => k_is); (case hS => k_is); (case hR => k_is); (case hF => k_is); (case h1 => k_is); (case h2 => k_is); (case hU => k_is); k_whole)))
local macro_rules | `(tactic| walk_at "binaryOp Mult int int") => `(tactic| (k_here; with_reducible refine PyProof.Rows.mul_int ?_ (mulok_mem_r (by assumption) (by assumption) (by assumption))))
local macro_rules | `(tactic| walk_at "binaryOp Sub ref") => `(tactic| (k_here; (with_reducible show wpAny _ _ (binaryOp Operator.Sub (Value.ref _) (Value.ref _)) _ _ _); k_dflt (refine' ksp_binL ?F ?X ?N ?I ?hl ?hC ?hS ?hF ?hR ?hP ?h1 ?h2 ?hU ?_; (case F => k_asm); (case X => k_asm); (case N => k_asm); (case I => k_inst); (case hl => k_mem); (case hS => k_is); (case hF => k_is); (case hC => k_is); (case hR => k_is); (case hP => first | exact .inl rfl | exact .inr ⟨_, rfl⟩); (case h1 => k_is); (case h2 => k_is); (case hU => k_is); k_whole)))
local macro_rules | `(tactic| walk_at "leaving ref") => `(tactic| (k_here; (with_reducible rename KtsDicts _ _ => kdX); (with_reducible show wpAny _ _ (leaving (envOfC _ _ _ _ _) _) _ _ _); first
  | (refine' leave_raiseX ?k1 ?k0 ?k2 ?k3 ?e1 ?e2 ?_; (case k0 => first | assumption | exact Heap.MadeExc.of (by assumption)); (case k2 => assumption); (case k1 => assumption); (case k3 => k_asm); (case e1 => exact rfl); (case e2 => exact rfl); k_whole; intro h' t' S' R' U'; (try dsimp only at S' R' U' ⊢))
  | (refine' leave_onX ?k1 ?k2 ?k3 ?k4 ?e1 ?_; (case k3 => assumption); (case k2 => assumption); (case k1 => assumption); (case k4 => assumption); (case e1 => exact rfl); k_whole; intro h' S' R' U'; (try dsimp only at S' R' U' ⊢))
  | (refine' leave_newX ?k1 ?k0 ?k2 ?k3 ?e1 ?e2 ?_; (case k0 => assumption); (case k2 => assumption); (case k1 => assumption); (case k3 => k_asm); (case e1 => exact rfl); (case e2 => exact rfl); k_whole; intro h' S' R' U'; (try dsimp only at S' R' U' ⊢))
  | (refine' leave_onNX ?k1 ?k2 ?k3 ?k4 ?e1 ?_; (case k3 => assumption); (case k2 => assumption); (case k1 => assumption); (case k4 => assumption); (case e1 => exact rfl); k_whole; intro h' S' R' U'; (try dsimp only at S' R' U' ⊢))))
local macro_rules | `(tactic| walk_at "exec Raise some none") => `(tactic| (k_here; (with_reducible show wpAny _ _ (exec (Stmt.Raise (some (Expr.Call (Expr.Name _ _) (_ :: _) [] _)) none _) _) _ _ _); refine Raise_new rfl ?_))
local macro_rules | `(tactic| walk_at "InitBack") => `(tactic| (dsimp only [InitBack]))
local macro_rules | `(tactic| walk_at "subscriptTail Name Name ref int") => `(tactic| (k_here; (with_reducible show wpAny _ _ (subscriptTail _ _ (Value.ref _) (Value.int _ _)) _ _ _); (with_unfolding_all refine' item_refs ?k1 ?k2 ?k3 ?k4 ?_; (case k1 => k_asm); (case k2 => k_mem); (case k3 => assumption); (case k4 => assumption); k_whole)))
local macro_rules | `(tactic| walk_at "setItem ref int") => `(tactic| (k_here; (with_reducible show wpAny _ _ (setItem (Value.ref _) (Value.int _ _) (Value.ref _)) _ _ _); k_dflt (refine' set_refs ?k1 ?k2 ?k3 ?k4 ?k5 ?_; (case k1 => k_asm); (case k2 => k_asm); (case k3 => k_upd); (case k4 => assumption); (case k5 => assumption); k_whole); intro h' F' N'; (try k_sweep)))
local macro_rules | `(tactic| top_strB) => `(tactic| first | (with_reducible assumption) | (refine off_cons ?bo1 ?bo2; (case bo1 => k_ne); (case bo2 => top_strB)))
local macro_rules | `(tactic| walk_at "execs cons") => `(tactic| ((with_reducible show wpAny _ _ (execs [Stmt.If (Expr.Compare (Expr.Attribute _ _ _) _ _ _) _ _ _, Stmt.For _ _ _ _ _] _) _ _ _); refine stop_elim ?_))
local macro_rules | `(tactic| k_enter) => `(tactic| ((with_reducible show codeAny _ _ (Code.call (Value.ref 56) ⟨[Value.ref _, Value.ref _], _⟩) _ _); k_dflt (refine' Ctr.use (ring_call ?c0 ?c1 ?c2 ?c3) ?k1 ?k2 ?k3 ?k4 ?k5 ?kK ?kd ?ku ?_; (case k1 => k_asm); (case k2 => k_asm); (case k3 => k_asm); (case k4 => k_asm); (case k5 => k_asm); (case kK => first | exact rfl | assumption); (case c0 => exact ⟨_, _, _, _, _, _, by k_mem, by k_mem⟩); (case c1 => exact ⟨_, _, by k_mem, by l_ints⟩); (case c2 => ktr_rel); (case c3 => ktr_rel); (case kd => k_room); (case ku => k_units); k_whole; intro v' h' tk' nw' F' N' cP'; obtain ⟨x', d', t1', t2', hv', hn', o1', o2', n1'⟩ := cP'; subst hv'; subst hn'; (try dsimp only); kts_tail; (try k_sweep))))
local macro_rules | `(tactic| walk_at "compareOp NotEq ref ref") => `(tactic| (k_here; (with_reducible show wpAny _ _ (compareOp CmpOp.NotEq (Value.ref _) (Value.ref _)) _ _ _); k_dflt (refine' ne_inst (C := 227) (f := 217) ?hu ?F ?X ?I ?J ?q ?hf ?_; (case F => k_asm); (case X => k_asm); (case I => k_inst); (case J => k_inst); (case hu => k_units); (case q => kernel_rfl); (case hf => kernel_rfl); k_whole)))
local macro_rules | `(tactic| walk_at "NeBack") => `(tactic| (refine neBack_bool ?_))
local macro_rules | `(tactic| walk_at "compareOp NotEq bool bool") => `(tactic| (k_here; refine ne_bool_eq ?_ ?_; (focus (first | (with_reducible exact rfl) | ((with_reducible rename (@Eq (List Int) _ (List.flatten _)) => hx9); (simp only [hx9, decide_true, Bool.true_and]; done)) | ((with_reducible rename (Not (@Eq (List Int) _ (List.flatten _))) => hx9); (simp only [hx9, decide_false, Bool.false_and]; done))))))
local macro_rules | `(tactic| walk_at "compareOp Eq bool bool") => `(tactic| (k_here; refine eq_bool_eq ?_ ?_; (focus (first | (with_reducible exact rfl) | ((with_reducible rename (@Eq (List Int) _ (List.flatten _)) => hx9); (simp only [hx9, decide_true, Bool.true_and]; done)) | ((with_reducible rename (Not (@Eq (List Int) _ (List.flatten _))) => hx9); (simp only [hx9, decide_false, Bool.false_and]; done))))))
local macro_rules | `(tactic| walk_at "compareOp Eq int int") => `(tactic| (k_here; with_reducible refine eq_int_same ?_))
local macro_rules | `(tactic| walk_at "binaryOp FloorDiv int int") => `(tactic| (k_here; (with_reducible refine' div_q1 ?h1 ?h2 ?_); (case h1 => assumption); (case h2 => assumption)))
local macro_rules | `(tactic| walk_at "subscriptTail Name Name ref int") => `(tactic| (k_here; (with_reducible show wpAny _ _ (subscriptTail _ _ (Value.ref _) (Value.int _ _)) _ _ _); (with_unfolding_all refine' item_refs_upd ?k1 ?k2 ?k3 ?k4 ?_; (case k1 => k_asm); (case k2 => k_mem); (case k3 => assumption); (case k4 => assumption); k_whole)))
local macro_rules | `(tactic| walk_at "exec Assign cons ListComp") => `(tactic| (k_here; (with_reducible show wpAny _ _ (exec (Stmt.Assign [Expr.Name _ _] (Expr.ListComp _ [⟨Expr.Tuple _ _ _, _, _, _⟩] _ _) _) _) _ _ _); k_dflt (refine' zip_assign ?z1 ?z2 ?z3 ?z4 ?z5 ?_; (case z1 => with_unfolding_all rfl); (case z2 => with_unfolding_all rfl); (case z3 => rfl); (case z4 => decide); (case z5 => intro _; with_unfolding_all rfl))))
local macro_rules | `(tactic| walk_at "eval ListComp") => `(tactic| (k_here; (with_reducible show wpAny _ _ (eval (Expr.ListComp _ [⟨Expr.Tuple _ _ _, _, _, _⟩] _ _) _) _ _ _); k_dflt (refine' zip_eval ?z2 ?z3 ?z4 ?z5 ?_; (case z2 => with_unfolding_all rfl); (case z3 => rfl); (case z4 => decide); (case z5 => intro _; with_unfolding_all rfl))))
section
theorem fdiv108 (z : Int) : 108 * Int.fdiv z 108 ≤ z ∧ z < 108 * Int.fdiv z 108 + 108 := by
  rw [Int.fdiv_eq_ediv_of_nonneg _ (by decide)]
  omega
local macro_rules | `(tactic| walk_at "execs cons") => `(tactic| ((with_reducible show wpAny _ _ (execs [Stmt.If _ _ _ _, Stmt.If _ _ _ _, Stmt.For _ _ _ _ _] _) _ _ _); refine stop_elim ?_))
theorem turn_go {w : World} {h₀ : Heap} {L fa : Addr} {cd : Value} {p : Program} {loose : List Str} {mean : ExcName → Option Value} {mg mb : Str → Option Value} {m : Str → Option Value} {s : Shared}
    {lqual : Str} {body tb : List Stmt} {scope : Scope} {a0 a1 a2 a3 a4 a6 t0 t1 t2 t3 t4 : Stmt} {iter : Expr} {nx : Str} {px fp : Pos}
    {q n : Int} {r H U I D : Addr} {X Y : Nat → Addr} {f : Nat → List Int} {e1 e2 : Nat} {oV oQ oI oD : Obj} {ps1 ps2 : Array Value} {M : Led} {v₀ : Option Value} {tq tn : Tok} {Q : Flow → Shared → Prop} {z : Int} {t : Tok}
    (hK : LawAt w lqual body scope) (hb : body = [a0, a1, a2, a3, a4, .For (.Name nx px) iter tb [] fp, a6]) (ht : tb = [t0, t1, t2, t3, t4])
    (B : Below callerA h₀ [] h₀) (X₀ : (hd.heap_1 w.params).In h₀) (T : Top p loose mean mg mb h₀) (hq : 2 ≤ q) (hq2 : q < 2 ^ 33) (hn1 : 1 ≤ n) (hn : n ≤ 4)
    (F : Fr h₀ L s.heap m) (N : News h₀ L s.heap ((I, oI) :: (D, oD) :: lawLed L H U X Y e1 e2 oV oQ ps1 ps2 M)) (G : AllBare s.gens) (R : Rows w q n r X Y f M) (A : Apart L H U M)
    (hV : oV.data = .cell v₀) (hQ : oQ.data = .cell (some (.int q tq))) (ht1 : TabAt ⟨33, 19, 33, 48⟩ ps1) (ht2 : TabAt ⟨36, 19, 36, 52⟩ ps2) (offI : LCg.Off1 I ((D, oD) :: lawLed L H U X Y e1 e2 oV oQ ps1 ps2 M)) (offD : LCg.Off1 D (lawLed L H U X Y e1 e2 oV oQ ps1 ps2 M))
    (hm1 : m (Str.ofString "have") = some (.ref H)) (hm2 : m (Str.ofString "due") = some (.ref U)) (hm3 : m (Str.ofString "ring") = some (.ref r)) (hm4 : m (Str.ofString "n") = some (.int n tn))
    (hz1 : -(2 ^ 160) < z) (hz2 : z < 2 ^ 160) :
    wpAny (model PySem.Challenge.rw_bn0014_01.row.toRowW.prog w) (callerA.deeper (lawEnv lqual scope L fa cd)) (assign (.Name nx px) (lawEnv lqual scope L fa cd) (.int z t))
      (fun _ s₃ => wpAny (model PySem.Challenge.rw_bn0014_01.row.toRowW.prog w) (callerA.deeper (lawEnv lqual scope L fa cd)) (execs tb (lawEnv lqual scope L fa cd))
      (EndG h₀ L s.os I oI (D, oD) (fun m' news' => LCg.Off1 D news' ∧ LawJ w q n L r H U m' news') Q) (fun _ _ => False) s₃) (fun _ _ => False) s := by
  refine' lite ?lw ?lx ?le
  case lw =>
    have hKK := hK
    obtain ⟨oc, od, lname, params, dV, kV, doc, pm, an, cdv, ct, osl, hK⟩ := hK
    revert hK X₀
    k_fill
    intro X₀ hK
    refine' lk_elim hK ?hz ?_
    case hz => k_dflt k_is
    intro hE
    cases hE
    cases hb
    cases ht
    clear hK
    obtain ⟨aH, aU, aV, aQ, aZ, aC, al1, al2, al3⟩ := A
    have A : Apart L H U M := ⟨aH, aU, aV, aQ, aZ, aC, al1, al2, al3⟩
    have hk0 : 0 ≤ Int.fmod z 12 := fmod_lo z (by decide)
    have hk1 : Int.fmod z 12 < 12 := fmod_hi z (by decide)
    have ha0 : 0 ≤ Int.fmod (Int.fdiv z 12) 3 := fmod_lo _ (by decide)
    have ha1 : Int.fmod (Int.fdiv z 12) 3 < 3 := fmod_hi _ (by decide)
    have hb0 : 0 ≤ Int.fmod (Int.fdiv z 36) 3 := fmod_lo _ (by decide)
    have hb1 : Int.fmod (Int.fdiv z 36) 3 < 3 := fmod_hi _ (by decide)
    have hv1 : -(2 ^ 160) < Int.fdiv z 108 := by have := fdiv108 z; omega
    have hv2 : Int.fdiv z 108 < 2 ^ 160 := by have := fdiv108 z; omega
    replace F := fr_sets (l := [(Str.ofString "have", .ref H), (Str.ofString "due", .ref U), (Str.ofString "ring", .ref r), (Str.ofString "n", .int n tn)]) F (by simp [hm1, hm2, hm3, hm4])
    unfold lawLed at N
    (try k_fold)
    k_steps
    obtain hz | hz | hz | hz | hz | hz | hz | hz : Int.fmod z 12 = 0 ∨ (1 ≤ Int.fmod z 12 ∧ Int.fmod z 12 ≤ 3) ∨ Int.fmod z 12 = 4 ∨ Int.fmod z 12 = 5 ∨ (6 ≤ Int.fmod z 12 ∧ Int.fmod z 12 ≤ 8) ∨ Int.fmod z 12 = 9 ∨ Int.fmod z 12 = 10 ∨ Int.fmod z 12 = 11 := by omega
    · (refine' leaf_zero (X := X) (Y := Y) (f := f) (e1 := e1) (e2 := e2) (M := M) hKK rfl rfl B X₀ T hq hq2 hn1 hn ?u1F ?u1N ?u1G R A ?u1V hQ ht1 ht2 ?u1I ?u1D ?u1g0 ?u1g1 ?u1g2 ?u1g3 ?u1g4 ?u1g5 ?u1g6 ?u1g7 ?u1g8 ha0 ha1 hb0 hb1 hv1 hv2 hz; (case u1V => k_asm); (case u1F => k_asm); (case u1N => allgen_close_more); (case u1G => k_asm); (case u1I => top_strB); (case u1D => top_strB); (case u1g0 => exact rfl); (case u1g1 => exact rfl); (case u1g2 => exact rfl); (case u1g3 => exact rfl); (case u1g4 => exact rfl); (case u1g5 => exact rfl); (case u1g6 => exact rfl); (case u1g7 => exact rfl); (case u1g8 => exact rfl))
    · (refine' leaf_pair (X := X) (Y := Y) (f := f) (e1 := e1) (e2 := e2) (M := M) hKK rfl rfl B X₀ T hq hq2 hn1 hn ?u2F ?u2N ?u2G R A ?u2V hQ ht1 ht2 ?u2I ?u2D ?u2g0 ?u2g1 ?u2g2 ?u2g3 ?u2g4 ?u2g5 ?u2g6 ?u2g7 ?u2g8 ha0 ha1 hb0 hb1 hv1 hv2 hz.1 hz.2; (case u2V => k_asm); (case u2F => k_asm); (case u2N => allgen_close_more); (case u2G => k_asm); (case u2I => top_strB); (case u2D => top_strB); (case u2g0 => exact rfl); (case u2g1 => exact rfl); (case u2g2 => exact rfl); (case u2g3 => exact rfl); (case u2g4 => exact rfl); (case u2g5 => exact rfl); (case u2g6 => exact rfl); (case u2g7 => exact rfl); (case u2g8 => exact rfl))
    · (refine' leaf_neg (X := X) (Y := Y) (f := f) (e1 := e1) (e2 := e2) (M := M) hKK rfl rfl B X₀ T hq hq2 hn1 hn ?u3F ?u3N ?u3G R A ?u3V hQ ht1 ht2 ?u3I ?u3D ?u3g0 ?u3g1 ?u3g2 ?u3g3 ?u3g4 ?u3g5 ?u3g6 ?u3g7 ?u3g8 ha0 ha1 hb0 hb1 hv1 hv2 hz; (case u3V => k_asm); (case u3F => k_asm); (case u3N => allgen_close_more); (case u3G => k_asm); (case u3I => top_strB); (case u3D => top_strB); (case u3g0 => exact rfl); (case u3g1 => exact rfl); (case u3g2 => exact rfl); (case u3g3 => exact rfl); (case u3g4 => exact rfl); (case u3g5 => exact rfl); (case u3g6 => exact rfl); (case u3g7 => exact rfl); (case u3g8 => exact rfl))
    · (refine' leaf_pow (X := X) (Y := Y) (f := f) (e1 := e1) (e2 := e2) (M := M) hKK rfl rfl B X₀ T hq hq2 hn1 hn ?u4F ?u4N ?u4G R A ?u4V hQ ht1 ht2 ?u4I ?u4D ?u4g0 ?u4g1 ?u4g2 ?u4g3 ?u4g4 ?u4g5 ?u4g6 ?u4g7 ?u4g8 ha0 ha1 hb0 hb1 hv1 hv2 hz; (case u4V => k_asm); (case u4F => k_asm); (case u4N => allgen_close_more); (case u4G => k_asm); (case u4I => top_strB); (case u4D => top_strB); (case u4g0 => exact rfl); (case u4g1 => exact rfl); (case u4g2 => exact rfl); (case u4g3 => exact rfl); (case u4g4 => exact rfl); (case u4g5 => exact rfl); (case u4g6 => exact rfl); (case u4g7 => exact rfl); (case u4g8 => exact rfl))
    · (refine' leaf_mixed (X := X) (Y := Y) (f := f) (e1 := e1) (e2 := e2) (M := M) hKK rfl rfl B X₀ T hq hq2 hn1 hn ?u5F ?u5N ?u5G R A ?u5V hQ ht1 ht2 ?u5I ?u5D ?u5g0 ?u5g1 ?u5g2 ?u5g3 ?u5g4 ?u5g5 ?u5g6 ?u5g7 ?u5g8 ha0 ha1 hb0 hb1 hv1 hv2 hz.1 hz.2; (case u5V => k_asm); (case u5F => k_asm); (case u5N => allgen_close_more); (case u5G => k_asm); (case u5I => top_strB); (case u5D => top_strB); (case u5g0 => exact rfl); (case u5g1 => exact rfl); (case u5g2 => exact rfl); (case u5g3 => exact rfl); (case u5g4 => exact rfl); (case u5g5 => exact rfl); (case u5g6 => exact rfl); (case u5g7 => exact rfl); (case u5g8 => exact rfl))
    · (refine' leaf_onward (X := X) (Y := Y) (f := f) (e1 := e1) (e2 := e2) (M := M) hKK rfl rfl B X₀ T hq hq2 hn1 hn ?u6F ?u6N ?u6G R A ?u6V hQ ht1 ht2 ?u6I ?u6D ?u6g0 ?u6g1 ?u6g2 ?u6g3 ?u6g4 ?u6g5 ?u6g6 ?u6g7 ?u6g8 ha0 ha1 hb0 hb1 hv1 hv2 hz; (case u6V => k_asm); (case u6F => k_asm); (case u6N => allgen_close_more); (case u6G => k_asm); (case u6I => top_strB); (case u6D => top_strB); (case u6g0 => exact rfl); (case u6g1 => exact rfl); (case u6g2 => exact rfl); (case u6g3 => exact rfl); (case u6g4 => exact rfl); (case u6g5 => exact rfl); (case u6g6 => exact rfl); (case u6g7 => exact rfl); (case u6g8 => exact rfl))
    · (refine' leaf_asked (X := X) (Y := Y) (f := f) (e1 := e1) (e2 := e2) (M := M) hKK rfl rfl B X₀ T hq hq2 hn1 hn ?u7F ?u7N ?u7G R A ?u7V hQ ht1 ht2 ?u7I ?u7D ?u7g0 ?u7g1 ?u7g2 ?u7g3 ?u7g4 ?u7g5 ?u7g6 ?u7g7 ?u7g8 ha0 ha1 hb0 hb1 hv1 hv2 hz; (case u7V => k_asm); (case u7F => k_asm); (case u7N => allgen_close_more); (case u7G => k_asm); (case u7I => top_strB); (case u7D => top_strB); (case u7g0 => exact rfl); (case u7g1 => exact rfl); (case u7g2 => exact rfl); (case u7g3 => exact rfl); (case u7g4 => exact rfl); (case u7g5 => exact rfl); (case u7g6 => exact rfl); (case u7g7 => exact rfl); (case u7g8 => exact rfl))
    · (refine' leaf_refused (X := X) (Y := Y) (f := f) (e1 := e1) (e2 := e2) (M := M) hKK rfl rfl B X₀ T hq hq2 hn1 hn ?u8F ?u8N ?u8G R A ?u8V hQ ht1 ht2 ?u8I ?u8D ?u8g0 ?u8g1 ?u8g2 ?u8g3 ?u8g4 ?u8g5 ?u8g6 ?u8g7 ?u8g8 ha0 ha1 hb0 hb1 hv1 hv2 hz; (case u8V => k_asm); (case u8F => k_asm); (case u8N => allgen_close_more); (case u8G => k_asm); (case u8I => top_strB); (case u8D => top_strB); (case u8g0 => exact rfl); (case u8g1 => exact rfl); (case u8g2 => exact rfl); (case u8g3 => exact rfl); (case u8g4 => exact rfl); (case u8g5 => exact rfl); (case u8g6 => exact rfl); (case u8g7 => exact rfl); (case u8g8 => exact rfl))
  case lx => intro hk; simpa only using hk (0 : Nat)
  case le => eq_refl
end
section
local macro_rules | `(tactic| k_enter) => `(tactic| ((with_reducible show codeAny _ _ (Code.call (Value.ref 238) ⟨_, _⟩) _ _); k_dflt (refine' Ctr.use (less_call ) ?k1 ?k2 ?k3 ?k4 ?k5 ?kK ?kd ?ku ?_; (case k1 => k_asm); (case k2 => k_asm); (case k3 => k_asm); (case k4 => k_asm); (case k5 => k_asm); (case kK => first | exact rfl | assumption); (case kd => k_room); (case ku => k_units); k_whole; intro v' h' tk' nw' F' N' cP'; obtain ⟨t', hv', hn'⟩ := cP'; subst hv'; subst hn'; (try dsimp only); kts_tail; (try k_sweep))))
local macro_rules | `(tactic| walk_at "eval ListComp") => `(tactic| (k_here; (with_reducible show wpAny _ _ (eval (Expr.ListComp _ [⟨Expr.Name _ _, Expr.Subscript _ _ _, _, _⟩] _ _) _) _ _ _); k_dflt (refine LCg.ListComp_U (F₀ := by k_asm) (by with_unfolding_all rfl) (by decide) (by rfl) (by decide) (by rfl) ?_)))
local macro_rules | `(tactic| walk_at "pyIter ref") => `(tactic| ((with_reducible show wpAny _ _ (pyIter _) _ _ _); refine stop_elim ?_))
theorem ints_at {vs : List Value} {ns : List Int} (h : IntsAre vs ns) {i : Nat} {v : Value} (e : vs[i]? = some v) : ∃ z t, v = .int z t ∧ z ∈ ns := by
  induction h generalizing i with
  | nil => simp at e
  | cons n t _ ih =>
    cases i with
    | zero => simp at e; exact ⟨_, _, e.symm, .head _⟩
    | succ i => obtain ⟨z, t', h1, h2⟩ := ih (by simpa using e); exact ⟨z, t', h1, .tail _ h2⟩
theorem less_one (i : Int) : -(2 ^ 160) < lessS i ∧ lessS i < 2 ^ 160 := by
  have e : (2 : Int) ^ (160 : Int).toNat = 2 ^ 160 := by decide +kernel
  unfold lessS
  rw [e]
  have h1 := fmod_lo i (n := 2 ^ 160) (by decide +kernel)
  have h2 := fmod_hi i (n := 2 ^ 160) (by decide +kernel)
  have h3 := fmod_lo (-i) (n := 2 ^ 160) (by decide +kernel)
  have h4 := fmod_hi (-i) (n := 2 ^ 160) (by decide +kernel)
  split <;> omega
theorem less_bnd {z : Int} {xs : List Int} (h : z ∈ [10] ++ xs.map (fun k => lessS k)) : -(2 ^ 160) < z ∧ z < 2 ^ 160 := by
  rcases List.mem_append.mp h with h | h
  · rw [List.mem_singleton.mp h]; decide +kernel
  · obtain ⟨k, _, rfl⟩ := List.mem_map.mp h; exact less_one k
theorem pf_c {w : World} {h₀ : Heap} {L fa : Addr} {cd : Value} {p : Program} {loose : List Str} {mean : ExcName → Option Value} {mg mb : Str → Option Value} {m : Str → Option Value} {s : Shared}
    {lqual : Str} {body tb : List Stmt} {scope : Scope} {a0 a1 a2 a3 a4 a6 t0 t1 t2 t3 t4 : Stmt} {iter : Expr} {nx : Str} {px fp : Pos}
    {D : Addr} {vs : List Value} {ns : List Int} {Q : Flow → Shared → Prop} {q n : Int} {r H U : Addr} {news : Led}
    (hK : LawAt w lqual body scope) (hb : body = [a0, a1, a2, a3, a4, .For (.Name nx px) iter tb [] fp, a6]) (ht : tb = [t0, t1, t2, t3, t4])
    (B : Below callerA h₀ [] h₀) (X₀ : (hd.heap_1 w.params).In h₀) (T : Top p loose mean mg mb h₀)
    (hq : 2 ≤ q) (hq2 : q < 2 ^ 33) (hn1 : 1 ≤ n) (hn : n ≤ 4)
    (F : Fr h₀ L s.heap m) (N : News h₀ L s.heap news) (G : AllBare s.gens) (J : LawJ w q n L r H U m news) (hL : h₀.IsList D vs.toArray) (hI : IntsAre vs ns) (hn63 : ns.length ≤ 63)
    (hm1 : m (Str.ofString "script") = some (.ref D))
    (done : ∀ s' m' news', Fr h₀ L s'.heap m' → News h₀ L s'.heap news' → AllBare s'.gens → s'.os = s.os → LawJ w q n L r H U m' news' → Q (.ret (.bool true)) s') :
    wpAny (model PySem.Challenge.rw_bn0014_01.row.toRowW.prog w) (callerA.deeper (lawEnv lqual scope L fa cd)) (execs [.For (.Name nx px) iter tb [] fp, a6] (lawEnv lqual scope L fa cd)) Q (fun _ _ => False) s := by
  refine' lite ?lw ?lx ?le
  case lw =>
    have hKK := hK
    obtain ⟨oc, od, lname, params, dV, kV, doc, pm, an, cdv, ct, osl, hK⟩ := hK
    revert hK X₀
    k_fill
    intro X₀ hK
    refine' lk_elim hK ?hz ?_
    case hz => k_dflt k_is
    intro hE
    cases hE
    cases hb
    cases ht
    clear hK
    obtain ⟨X, Y, f, e1, e2, oV, oQ, ps1, ps2, M, v₀, tq, tn, rfl, R, A, hV, hQ, ht1, ht2, hm2, hm3, hm4, hm5⟩ := J
    obtain ⟨aH, aU, aV, aQ, aZ, aC, al1, al2, al3⟩ := A
    have A : Apart L H U M := ⟨aH, aU, aV, aQ, aZ, aC, al1, al2, al3⟩
    replace F := fr_sets (l := [(Str.ofString "script", .ref D), (Str.ofString "have", .ref H), (Str.ofString "due", .ref U), (Str.ofString "ring", .ref r), (Str.ofString "n", .int n tn)]) F (by simp [hm1, hm2, hm3, hm4, hm5])
    unfold lawLed at N
    (try k_fold)
    refine wpAny_execs_cons ?_
    refine wpAny_For ?_
    k_steps
    have N9 : News _ _ _ ((_, listOf _ _) :: lawLed L H U X Y e1 e2 oV oQ ps1 ps2 M) := cb_drop (by k_asm) (List.forall_mem_cons.mpr ⟨.head _, by unfold lawLed; top_reprB⟩)
    refine for_listG (fun _ m₁ nw => LawJ w q n L r H U m₁ nw) rfl rfl (by passes_own) (by k_asm) N9 (by top_strB) G ⟨X, Y, f, e1, e2, oV, oQ, ps1, ps2, M, v₀, tq, tn, rfl, R, A, hV, hQ, ht1, ht2, rfl, rfl, rfl, rfl⟩ ?turn ?fin
    case turn =>
      intro i v m₁ nw s₁ I oI hv J F₁ N₁ offI offD G₁ ho₁
      obtain ⟨X, Y, f, e1, e2, oV, oQ, ps1, ps2, M, v₀, tq, tn, rfl, R, A, hV, hQ, ht1, ht2, hm2, hm3, hm4, hm5⟩ := J
      obtain ⟨z, t, rfl, hz⟩ := ints_at (by assumption) hv
      have hb := less_bnd hz
      rw [← ho₁]
      exact turn_go hKK rfl rfl B X₀ T hq hq2 hn1 hn F₁ N₁ G₁ R A hV hQ ht1 ht2 offI offD hm2 hm3 hm4 hm5 hb.1 hb.2
    case fin =>
      intro m₁ nw s₁ J F₁ N₁ G₁ ho₁
      dsimp only
      k_steps
      exact done _ _ _ F₁ (cb_drop N₁ (fun p hp => .tail _ hp)) G₁ ho₁ J
  case lx => intro hk; simpa only using hk (0 : Nat)
  case le => eq_refl
end
section
theorem o93 {L : Nat} (h : 93 < L) : (86 ≠ L + 1 ∧ 93 ≠ L + 1) ∧ 86 ≠ L + 1 + 1 ∧ 93 ≠ L + 1 + 1 := by omega
theorem law_go {w : World} {h₀ : Heap} {L fa : Addr} {cd : Value} {p : Program} {loose : List Str} {mean : ExcName → Option Value} {mg mb : Str → Option Value} {m : Str → Option Value} {s : Shared}
    {lqual : Str} {body tb : List Stmt} {scope : Scope} {a0 a1 a2 a3 a4 a6 t0 t1 t2 t3 t4 : Stmt} {iter : Expr} {nx : Str} {px fp : Pos}
    {D : Addr} {vs : List Value} {ns : List Int} {oV oQ : Obj} {v₀ : Option Value} {Q : Flow → Shared → Prop}
    (hK : LawAt w lqual body scope) (hb : body = [a0, a1, a2, a3, a4, .For (.Name nx px) iter tb [] fp, a6]) (ht : tb = [t0, t1, t2, t3, t4])
    (B : Below callerA h₀ [] h₀) (X₀ : (hd.heap_1 w.params).In h₀) (T : Top p loose mean mg mb h₀)
    (F : Fr h₀ L s.heap m) (N : News h₀ L s.heap ((L + 1 + 1, oV) :: (L + 1, oQ) :: (86, tabObj #[]) :: (93, tabObj #[]) :: [])) (hL93 : 93 < L)
    (hV : oV.data = .cell v₀) (hQ : oQ.data = .cell none) (hL : h₀.IsList D vs.toArray) (hI : IntsAre vs ns) (hn : ns.length ≤ 63)
    (hm1 : m (Str.ofString "script") = some (.ref D)) (G : AllBare s.gens)
    (done : ∀ s', (∀ b o, h₀.get? b = some o → s'.heap.get? b = some o) → GrownAll [(90, 86), (97, 93)] s'.heap → AllBare s'.gens → s'.os = s.os → Q (.ret (.bool true)) s') :
    wpAny (model PySem.Challenge.rw_bn0014_01.row.toRowW.prog w) (callerA.deeper (lawEnv lqual scope L fa cd)) (execs body (lawEnv lqual scope L fa cd)) Q (fun _ _ => False) s := by
  refine pf_a hK hb ht B X₀ T F N ⟨(o93 hL93).1.1, (o93 hL93).1.2, trivial⟩ ⟨(o93 hL93).2.1, (o93 hL93).2.2, trivial⟩ hV hQ hL hI hn hm1 ?_
  intro s₁ m₁ q n oQ₁ tq tn hq hq2 hn1 hn4 F₁ N₁ g₁ o₁ hQ₁ k₁ k₂
  refine pf_b hK hb ht B X₀ T hq hq2 hn1 hn4 hL93 F₁ N₁ hV hQ₁ k₁ k₂ ?_
  intro s₂ m₂ nw₂ r H U F₂ N₂ g₂ o₂ J₂ k₃
  refine pf_c hK hb ht B X₀ T hq hq2 hn1 hn4 F₂ N₂ (by rw [g₂, g₁]; exact G) J₂ hL hI hn k₃ ?_
  intro s₃ m₃ nw₃ F₃ N₃ G₃ o₃ J₃
  obtain ⟨X, Y, f, e1, e2, oV, oQ, ps1, ps2, M, v₀, tq, tn, rfl, -⟩ := J₃
  refine done s₃ F₃.keep ?_ G₃ (by rw [o₃, o₂, o₁])
  exact And.intro (GrownAt.of N₃ (.tail _ (.tail _ (.tail _ (.tail _ (.head _)))))) (And.intro (GrownAt.of N₃ (.tail _ (.tail _ (.tail _ (.tail _ (.tail _ (.head _))))))) trivial)
end
section
theorem law_goE {w : World} {h₀ : Heap} {L fa : Addr} {cd : Value} {p : Program} {loose : List Str} {mean : ExcName → Option Value} {mg mb : Str → Option Value} {m : Str → Option Value} {s : Shared}
    {lqual : Str} {body : List Stmt} {scope : Scope} {a0 a1 a2 a3 a4 a6 t0 t1 t2 t3 t4 : Stmt} {iter : Expr} {nx : Str} {px fp : Pos}
    {D : Addr} {vs : List Value} {ns : List Int} {oV oQ : Obj} {v₀ : Option Value} {Q : Flow → Shared → Prop} {E : Value → Shared → Prop}
    (hK : LawAt w lqual body scope) (hb : body = [a0, a1, a2, a3, a4, .For (.Name nx px) iter [t0, t1, t2, t3, t4] [] fp, a6])
    (B : Below callerA h₀ [] h₀) (X₀ : (hd.heap_1 w.params).In h₀) (T : Top p loose mean mg mb h₀)
    (F : Fr h₀ L s.heap m) (N : News h₀ L s.heap ((L + 1 + 1, oV) :: (L + 1, oQ) :: (86, tabObj #[]) :: (93, tabObj #[]) :: [])) (hL93 : 93 < L)
    (hV : oV.data = .cell v₀) (hQ : oQ.data = .cell none) (hL : h₀.IsList D vs.toArray) (hI : IntsAre vs ns) (hn : ns.length ≤ 63)
    (hm1 : m (Str.ofString "script") = some (.ref D)) (G : AllBare s.gens)
    (done : ∀ s', (∀ b o, h₀.get? b = some o → s'.heap.get? b = some o) → GrownAll [(90, 86), (97, 93)] s'.heap → AllBare s'.gens → s'.os = s.os → Q (.ret (.bool true)) s') :
    wpAny (model PySem.Challenge.rw_bn0014_01.row.toRowW.prog w) (callerA.deeper (lawEnv lqual scope L fa cd)) (execs body (lawEnv lqual scope L fa cd)) Q E s :=
  wpAny_mono (law_go hK hb rfl B X₀ T F N hL93 hV hQ hL hI hn hm1 G done) (fun _ _ h => h) fun _ _ h => False.elim h
theorem t : PySem.Challenge.rw_bn0014_01.Holds := by
  refine' lite ?lw ?lx ?le
  case lw =>
    w_on; o_law; o_head (kmHook hd.heap_1 adds adds_ok [86, 93])
    case hw => w_witness2
    k_fill
    intro w s₀ s₁ mg mb G Y fa o pm cd doc dV kV ho hd hcd hD hmg hg args vals as hpre hlay hrd hwl hlo
    have KX := km_in_of Y
    km_tabs Y
    have X := (Ground.X G).1
    have V := (Ground.X G).2
    refine Ground.open G ?_
    intro T B D TE TW
    try (refine guard_noD D (by decide +kernel) ?_; clear D)
    have hT9 : TabsAt [(90, 86), (97, 93)] _ := tabs_at KX (by kernel_rfl) (by kernel_rfl) hT8
    clear hmg
    wrow_args hpre hlay hrd hwl hlo
    first | refine callC_kw (enter_call ?_) | refine enter_call ?_
    w_top on
    refine kn_postG hT9 ?_
    w_call any ho hd hcd hD T F
    clear hd
    kn_ghosts F T
    k_drop
    (refine' law_goE (scope := ?sc) ?k1 rfl ?k2 ?k3 ?k4 ?k5 ?k6 ?k7 ?k8 ?k9 ?k10 ?k11 ?k12 ?k13 ?k14 ?k15)
    case k2 => assumption
    case k3 => assumption
    case k4 => assumption
    case k5 => assumption
    case k6 => assumption
    case k7 => exact And.right (by assumption)
    case k8 => assumption
    case k9 => assumption
    case k10 => assumption
    case k11 => assumption
    case k12 => (have h := Int.not_lt.mp (by assumption); omega)
    case k13 => rfl
    case k1 => (exact ⟨_, _, _, _, _, _, _, _, _, _, _, _, by k_dflt k_is⟩)
    case k14 => exact AllBare.of_eq hg
    case k15 => exact fun s' h1 h2 h3 h4 => ⟨⟨_, _, rfl, fun _ => rfl, ReadsW.bool _, by wrow_post⟩, h1, h4, h3, h2⟩
  case lx => intro hk; simpa only using hk (0 : Nat)
  case le => eq_refl
end
end
end Mine
theorem PySem.Challenge.cw_bn0014_01_holds : PySem.Challenge.rw_bn0014_01.Holds := by
  exact Mine.t
