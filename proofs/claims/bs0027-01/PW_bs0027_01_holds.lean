import PyProof.Rows.All
import Wide.All
import OpenK.AllK
import Wide.FinOn
import Lean
import PySem.Challenge.RW_bs0027_01
open PySem PySem.W PyProof.Rows
set_option Elab.async false
set_option maxRecDepth 100000
set_option maxHeartbeats 8000000
namespace Bs
open_top hd for PySem.Challenge.rw_bs0027_01

theorem top_off1 : True := by
  w_top off
  exact True.intro
noncomputable abbrev KK (w : World) : Frag := hd.heap_39 w.params
noncomputable abbrev lse : List Str := looseW hd.view_39 [Str.ofString "EHABIBytecodeDecoder"]
abbrev Led := List (Addr × Obj)
theorem newsSub {h₀ h : Heap} {L : Addr} {news news' : Led} (N : News h₀ L h news') (hs : ∀ p ∈ news, p ∈ news') : News h₀ L h news := fun p hp => N p (hs p hp)
theorem news_cons {h₀ h : Heap} {L : Addr} {p : Addr × Obj} {big l : Led} (N : News h₀ L h big) (hp : p ∈ big) (t : News h₀ L h l) : News h₀ L h (p :: l) := by
  intro q hq
  rcases List.mem_cons.mp hq with rfl | hq
  · exact N _ hp
  · exact t q hq
/-- what a call of the def at f, with these arguments, hands back -/
abbrev Claim (w : World) (D : Nat) (f : Addr) (vs : List Value) (news : Led) (Ret : Led → Value → Prop) : Prop :=
  ∀ (mean : ExcName → Option Value) (mg mb : Str → Option Value) (dp un : Nat) (gd : Option (List Code)) (cn : Str) (cs : Scope) (a : Addr) (ccd : Value) (cl : List (Str × Addr)) (outer : List Env) (A₀ : Around) (base h₀ : Heap) (L : Addr) (m : Str → Option Value) (s : Shared) (Q E : Value → Shared → Prop),
    Below A₀ base outer h₀ → Fr h₀ L s.heap m → (KK w).In h₀ → News h₀ L s.heap news → Top hd.view_39 lse mean mg mb h₀ → cs.kind = .function → dp + D < recursionLimit → un + 20 * D < cLine →
    (∀ (v : Value) (news' : Led) (h' : Heap) (tk' : Nat), Fr h₀ L h' m → News h₀ L h' news' → Ret news' v → Q v { s with heap := h', toks := tk' }) →
    codeAny (model PySem.Challenge.rw_bs0027_01.row.prog w) (ktrTop dp un gd cn cs L a ccd cl outer) (.call (.ref f) ⟨vs, []⟩) (fun r s' => match r with | .ok (.ret v) => Q v s' | .ok _ => False | .error e => E e s') s
theorem Claim.use {w : World} {D : Nat} {f : Addr} {vs : List Value} {news : Led} {Ret : Led → Value → Prop} {mean : ExcName → Option Value} {mg mb : Str → Option Value} {dp un : Nat} {gd : Option (List Code)} {cn : Str} {cs : Scope} {a : Addr} {ccd : Value} {cl : List (Str × Addr)} {outer : List Env} {A₀ : Around} {base h₀ : Heap} {L : Addr} {m : Str → Option Value} {s : Shared} {Q E : Value → Shared → Prop}
    (N : News h₀ L s.heap news) (C : Claim w D f vs news Ret) (B : Below A₀ base outer h₀) (F : Fr h₀ L s.heap m) (X : (KK w).In h₀) (T : Top hd.view_39 lse mean mg mb h₀) (hk : cs.kind = .function) (hd : dp + D < recursionLimit) (hu : un + 20 * D < cLine)
    (ret : ∀ (v : Value) (news' : Led) (h' : Heap) (tk' : Nat), Fr h₀ L h' m → News h₀ L h' news' → Ret news' v → Q v { s with heap := h', toks := tk' }) :
    wpAny (model PySem.Challenge.rw_bs0027_01.row.prog w) (ktrTop dp un gd cn cs L a ccd cl outer) (call (.ref f) vs) Q E s :=
  wpAny_call (C mean mg mb dp un gd cn cs a ccd cl outer A₀ base h₀ L m s Q E B F X N T hk hd hu ret)
/-- the same, called as a bound method -/
theorem Claim.useM {w : World} {D : Nat} {f q : Addr} {self : Value} {pos : List Value} {news small : Led} {Ret : Led → Value → Prop} {mean : ExcName → Option Value} {mg mb : Str → Option Value} {dp un : Nat} {gd : Option (List Code)} {cn : Str} {cs : Scope} {a : Addr} {ccd : Value} {cl : List (Str × Addr)} {outer : List Env} {A₀ : Around} {base h₀ : Heap} {L : Addr} {m : Str → Option Value} {s : Shared} {Q E : Value → Shared → Prop}
    (N : News h₀ L s.heap news) (hq : (q, methodObj (.ref f) self) ∈ news) (hs : ∀ p ∈ small, p ∈ news) (C : Claim w D f (self :: pos) small Ret) (B : Below A₀ base outer h₀) (F : Fr h₀ L s.heap m) (X : (KK w).In h₀) (T : Top hd.view_39 lse mean mg mb h₀) (hk : cs.kind = .function) (hd : dp + D < recursionLimit) (hu : un + 20 * D < cLine)
    (ret : ∀ (v : Value) (news' : Led) (h' : Heap) (tk' : Nat), Fr h₀ L h' m → News h₀ L h' news' → Ret news' v → Q v { s with heap := h', toks := tk' }) :
    wpAny (model PySem.Challenge.rw_bs0027_01.row.prog w) (ktrTop dp un gd cn cs L a ccd cl outer) (call (.ref q) pos) Q E s :=
  call_meth N hq (C mean mg mb dp un gd cn cs a ccd cl outer A₀ base h₀ L m s Q E B F X (newsSub N hs) T hk hd hu ret)
/-- the decoder's own dict -/
abbrev selfD (w : World) (oct : Addr) (i : Int) (ti : Tok) (ml : Addr) (t1 t2 t3 : Tok) : Obj :=
  dictOf [{ hash := PyData.keyHash w.params (Str.ofString "_bytecode_array"), key := Value.str (Str.ofString "_bytecode_array") t1, val := Value.ref oct },
    { hash := PyData.keyHash w.params (Str.ofString "_index"), key := Value.str (Str.ofString "_index") t2, val := Value.int i ti },
    { hash := PyData.keyHash w.params (Str.ofString "mnemonic_array"), key := Value.str (Str.ofString "mnemonic_array") t3, val := Value.ref ml }] 3

/-- a comprehension with one test whose elements are texts: what it takes in -/
def TfEl (news : Led) (c : Bool) (r : PySem.Str) (y : Value) (news' : Led) : Prop := news' = news ∧ c = true ∧ ∃ t : Tok, y = .str r t
def TfNo (news : Led) (c : Bool) (news' : Led) : Prop := news' = news ∧ c = false
theorem tf_el {news news' : Led} {c : Bool} {r r' : PySem.Str} {y : Value} {t : Tok} (hc : c = true) (e : r = r') (hn : news' = news) (hy : y = .str r' t) : TfEl news c r y news' := by
  subst e; exact ⟨hn, hc, t, hy⟩
theorem tf_no {news news' : Led} {c : Bool} (hc : c = false) (hn : news' = news) : TfNo news c news' := ⟨hn, hc⟩
theorem tf_endY {h₀ : Heap} {L I C D : Addr} {m : Str → Option Value} {s₁ : Shared} {oI oC oD : Obj} {S : Led → Prop} {h' : Heap} {tk : Nat} {all news : Led} {c : Bool} {r : PySem.Str} {t : Tok}
    (F : Fr h₀ L h' m) (N : News h₀ L h' all) (sub : ∀ p ∈ (I, oI) :: (C, oC) :: (D, oD) :: news, p ∈ all) (off : LCg.Off3 I C D news) (hS : S news) (hc : c = true) :
    LCg.CompEnd h₀ L m s₁ I oI C oC D oD S (fun y news' => TfEl news c r y news') (.str r t) { s₁ with heap := h', toks := tk } :=
  LCg.CompEnd.intro F N news sub off hS (tf_el hc rfl rfl rfl)
theorem tf_endN {h₀ : Heap} {L I C D : Addr} {m : Str → Option Value} {s₁ : Shared} {oI oC oD : Obj} {S : Led → Prop} {h' : Heap} {tk : Nat} {all news : Led} {c : Bool} {v : Value}
    (F : Fr h₀ L h' m) (N : News h₀ L h' all) (sub : ∀ p ∈ (I, oI) :: (C, oC) :: (D, oD) :: news, p ∈ all) (off : LCg.Off3 I C D news) (hS : S news) (hc : c = false) :
    LCg.CompEnd h₀ L m s₁ I oI C oC D oD S (fun _ news' => TfNo news c news') v { s₁ with heap := h', toks := tk } :=
  LCg.CompEnd.intro F N news sub off hS (tf_no hc rfl)
theorem strs_snoc {y : PySem.Str} {t : Tok} : ∀ {vs : List Value} {ys : List PySem.Str}, StrsAre vs ys → StrsAre (vs ++ [.str y t]) (ys ++ [y])
  | _, _, .nil => .cons y t .nil
  | _, _, .cons z u r => .cons z u (strs_snoc r)
section
open PySem.Calls
variable {prog : Program} {w : World} {A : Around} {h₀ : Heap} {L : Addr} {m : Str → Option Value} {env : Env} {ct elt : Expr} {x : Str} {scope : Scope} {cl : List (Str × Addr)} {s : Shared} {S : Led → Prop} {Fin : List Value → Led → Prop} {news : Led}
theorem tf_range {n : Nat} {a : Int} (c : Int → Bool) (g : Int → PySem.Str)
    (turn : ∀ k t I oI C oC D m₂ ys h tk (E' : Value → Shared → Prop), a ≤ k → k < a + (n : Int) → LCg.NsObj oC m₂ → m₂ x = some (.int k t) → Fr h₀ L h m → News h₀ L h ((I, oI) :: (C, oC) :: (D, LCg.lst ys) :: news) → LCg.Off3 I C D news → ((@Ne Nat I C) ∧ (@Ne Nat I D) ∧ (@Ne Nat C D)) → KPfMark →
      wpAny (model prog w) A (isTrue ct (compEnvC scope cl C env) (eval ct (compEnvC scope cl C env))) (fun b s' => if b = true then wpAny (model prog w) A (eval elt (compEnvC scope cl C env)) (LCg.CompEnd h₀ L m { s with heap := h, toks := tk } I oI C oC D (LCg.lst ys) S (fun y news' => TfEl news (c k) (g k) y news')) E' s'
        else LCg.CompEnd h₀ L m { s with heap := h, toks := tk } I oI C oC D (LCg.lst ys) S (fun _ news' => TfNo news (c k) news') Value.none s') E' { s with heap := h, toks := tk })
    (fin : KPfDone (∀ ys, StrsAre ys (((rangeKs a n).filter c).map g) → ys.length ≤ n → Fin ys news)) : LCt.CompRestT prog w A h₀ L m env ct elt x scope cl s S (fun i v => ∃ t, v = .int (a + (i : Int)) t) Fin n 0 [] news := by
  unfold KPfDone at fin
  have key : ∀ (j i : Nat) (ys : List Value), i + j = n → StrsAre ys ((((rangeKs a n).take i).filter c).map g) → LCt.CompRestT prog w A h₀ L m env ct elt x scope cl s S (fun i v => ∃ t, v = .int (a + (i : Int)) t) Fin j i ys news := by
    intro j
    induction j with
    | zero =>
      intro i ys hi hy
      have e : i = (rangeKs a n).length := by rw [rangeKs_length]; omega
      rw [e, List.take_length] at hy
      refine LCt.CompRestT.zero (fin ys hy ?_)
      rw [hy.length, List.length_map]
      exact Nat.le_trans (List.length_filter_le _ _) (Nat.le_of_eq (rangeKs_length a n))
    | succ j ih =>
      intro i ys hi hy
      refine LCt.CompRestT.succ ?_
      intro v I oI C oC D m₂ h tk E' hv hC hx F N off ne
      obtain ⟨t, rfl⟩ := hv
      have hs : (rangeKs a n).take (i + 1) = (rangeKs a n).take i ++ [a + (i : Int)] := by
        have hlt : i < n := by omega
        have hk : (rangeKs a n)[i]? = some (a + (i : Int)) := by simp [rangeKs, hlt]
        rw [List.take_add_one, hk]; rfl
      refine wpAny_mono (turn _ t I oI C oC D m₂ ys h tk E' (by omega) (by omega) hC hx F N off ne True.intro) (fun b s₂ hq => ?_) fun _ _ e => e
      cases b with
      | true =>
        simp only [if_true] at hq ⊢
        refine wpAny_mono hq (fun y s₃ hr => ?_) fun _ _ e => e
        obtain ⟨h', tk', nw, e, F', N', off', hS, hn, hc, t', hy'⟩ := hr
        rw [hn] at N' off' hS
        refine ⟨h', tk', news, e, F', N', off', hS, ?_⟩
        rw [hy']
        refine ih (i + 1) _ (by omega) ?_
        rw [hs, List.filter_append, List.map_append, List.filter_cons, if_pos hc]
        exact strs_snoc hy
      | false =>
        simp only [Bool.false_eq_true, if_false] at hq ⊢
        obtain ⟨h', tk', nw, e, F', N', off', hS, hn, hc⟩ := hq
        rw [hn] at N' off' hS
        refine ⟨h', tk', news, e, F', N', off', hS, ih (i + 1) _ (by omega) ?_⟩
        rw [hs, List.filter_append, List.map_append, List.filter_cons, if_neg (by rw [hc]; decide)]
        simpa using hy
  exact key n 0 [] (by omega) (by simp only [List.take_zero, List.filter_nil, List.map_nil]; exact .nil)
end
theorem sum_small : ∀ (ys : List PySem.Str) (B : Nat), (∀ y ∈ ys, y.length ≤ B) → (ys.map (·.length)).sum ≤ ys.length * B
  | [], _, _ => by simp
  | y :: r, B, h => by
    have h1 := h y (.head _)
    have h2 := sum_small r B fun z hz => h z (.tail _ hz)
    simp only [List.map_cons, List.sum_cons, List.length_cons, Nat.add_mul, Nat.one_mul]
    omega
theorem join_small {ys : List PySem.Str} {k : Nat} (hB : ∀ y ∈ ys, y.length ≤ 16) (hn : ys.length ≤ 1000) (hk : k ≤ 16) : (ys.map (·.length)).sum + ys.length * k ≤ 16777216 := by
  have h1 := sum_small ys 16 hB
  have h2 : ys.length * k ≤ ys.length * 16 := Nat.mul_le_mul_left _ hk
  omega
theorem join_len (x : PySem.Str) (ys : List PySem.Str) : (PySem.Txt.join x ys).length ≤ (ys.map (·.length)).sum + ys.length * x.length := by
  show (Builtin.Str.glued x ys).length ≤ _
  rw [StrLaws.glued_eq_join]
  exact StrLaws.join_length_le x ys
theorem join_le {ys : List PySem.Str} {x : PySem.Str} (hB : ∀ y ∈ ys, y.length ≤ 16) (hn : ys.length ≤ 1000) (hk : x.length ≤ 16) : (PySem.Txt.join x ys).length ≤ 32000 := by
  have h0 := join_len x ys
  have h1 := sum_small ys 16 hB
  have h2 : ys.length * x.length ≤ ys.length * 16 := Nat.mul_le_mul_left _ hk
  omega
def gprNames : List PySem.Str := [Str.ofString "r0", Str.ofString "r1", Str.ofString "r2", Str.ofString "r3", Str.ofString "r4", Str.ofString "r5", Str.ofString "r6", Str.ofString "r7", Str.ofString "r8", Str.ofString "r9", Str.ofString "r10", Str.ofString "fp", Str.ofString "ip", Str.ofString "sp", Str.ofString "lr", Str.ofString "pc"]
def gprN (k : Int) : PySem.Str := gprNames.getD k.toNat Str.empty
theorem gprN_len (k : Int) : (gprN k).length ≤ 16 := by
  unfold gprN
  rcases Nat.lt_or_ge k.toNat 16 with h | h
  · have : ∀ n : Nat, n < 16 → (gprNames.getD n Str.empty).length ≤ 16 := by decide +kernel
    exact this _ h
  · rw [List.getD_eq_getElem?_getD, List.getElem?_eq_none (by show 16 ≤ _; exact h)]; decide
def bitC (mask : Int) (k : Int) : Bool := decide (Builtin.bitAnd mask (1 * 2 ^ k.toNat) ≠ 0)
def gprHits (mask : Int) : List PySem.Str := ((rangeKs 0 32).filter (bitC mask)).map gprN
def gprText (mask : Int) : PySem.Str := Str.ofString "{" ++ Txt.join (Str.ofString ", ") (gprHits mask) ++ Str.ofString "}"
theorem hits_len (c : Int → Bool) (g : Int → PySem.Str) (n : Nat) (a : Int) : (((rangeKs a n).filter c).map g).length ≤ n := by
  rw [List.length_map]
  exact Nat.le_trans (List.length_filter_le _ _) (Nat.le_of_eq (rangeKs_length a n))
theorem hits_mem (c : Int → Bool) (g : Int → PySem.Str) (n : Nat) (a : Int) (hg : ∀ k, (g k).length ≤ 16) : ∀ y ∈ ((rangeKs a n).filter c).map g, y.length ≤ 16 := by
  intro y hy
  obtain ⟨k, _, rfl⟩ := List.mem_map.mp hy
  exact hg k
def regN (pre : PySem.Str) (k : Int) : PySem.Str := pre ++ Str.ofString (toString k)
def regHits (pre : PySem.Str) (mask : Int) : List PySem.Str := ((rangeKs 0 32).filter (bitC mask)).map (regN pre)
def regText (pre : PySem.Str) (mask : Int) : PySem.Str := Str.ofString "{" ++ Txt.join (Str.ofString ", ") (regHits pre mask) ++ Str.ofString "}"
theorem regN_len {pre : PySem.Str} (hp : pre.length ≤ 4) {k : Int} (h0 : 0 ≤ k) (h1 : k < 64) : (regN pre k).length ≤ 16 := by
  unfold regN
  rw [PySem.Str.length_append]
  have := KT.len_num h0 (by omega : k < 10 ^ 10)
  omega
theorem regs_mem {pre : PySem.Str} (hp : pre.length ≤ 4) (c : Int → Bool) (n : Nat) (a : Int) (h0 : 0 ≤ a) (h1 : a + (n : Int) ≤ 64) : ∀ y ∈ ((rangeKs a n).filter c).map (regN pre), y.length ≤ 16 := by
  intro y hy
  obtain ⟨k, hk, rfl⟩ := List.mem_map.mp hy
  have := mem_rangeKs (List.mem_filter.mp hk).1
  exact regN_len hp (by omega) (by omega)
/-- the decoder, its dict, its octets -/
abbrev self4 (w : World) (d dx oct ml : Addr) (i : Int) (ti t1 t2 t3 : Tok) (vs : List Value) (nn : Nat) (news : Led) : Led :=
  (d, instObj 254 dx) :: (dx, selfD w oct i ti ml t1 t2 t3) :: (oct, listOf vs.toArray nn) :: news
/-- what a printer of one operation hands back: the octets' index moved on by n, the text -/
abbrev HRet (w : World) (d dx oct ml : Addr) (i : Int) (t1 t2 t3 : Tok) (vs : List Value) (nn : Nat) (news : Led) (text : PySem.Str) (news' : Led) (v : Value) : Prop :=
  ∃ ti' t, news' = self4 w d dx oct ml i ti' t1 t2 t3 vs nn news ∧ v = .str text t
theorem HRet.mk' {w : World} {d dx oct ml : Addr} {i : Int} {ti t1 t2 t3 t : Tok} {vs : List Value} {nn : Nat} {news : Led} {x text : PySem.Str} (e : x = text) :
    HRet w d dx oct ml i t1 t2 t3 vs nn news text (self4 w d dx oct ml i ti t1 t2 t3 vs nn news) (.str x t) := ⟨ti, t, rfl, by rw [e]⟩
section
variable {prog : Program} {w : World} {A : Around} {E : Value → Shared → Prop} {s : Shared} {value slice : PySem.Expr} {l : Addr} {vs : List Value} {i : Int} {t : Tok} {v : Value} {Q : Value → Shared → Prop}
theorem oct_item (hl : s.heap.IsList l vs.toArray) (h0 : 0 ≤ i) (h1 : i < 2 ^ 63) (hx : vs[i.toNat]? = some v) (h : Q v s)
    (hs : subscripted slice false (.ref l) (.int i t) = operate [.ref l, .int i t] (getItem (.ref l) (.int i t)) := by with_unfolding_all rfl) :
    wpAny (model prog w) A (subscriptTail value slice (.ref l) (.int i t)) Q E s :=
  tail_any hl.typeIs slot_list_getitem.lookup (wpAny_getItem_list hl h0 h1 (by simpa using hx) h) hs
end
def rangeM (st ct : Int) : Int := (1 * 2 ^ (ct + 1).toNat - 1) * 2 ^ st.toNat

local macro_rules | `(tactic| k_room) => `(tactic| ((with_reducible rename _ + _ < recursionLimit => hdp'); (try simp only [depth_mark, depth_under_make, depth_under_kw, depth_in1, depth_deeper, depth_caller]); (try dsimp only [ktrTop]); (simp only [recursionLimit] at hdp' ⊢); omega))
local macro_rules | `(tactic| k_units) => `(tactic| ((with_reducible rename _ + _ < cLine => hun'); (try simp only [units_in1, units_deeper, Around.mark_units, units_caller, units_under_make]); (try dsimp only [ktrTop]); omega))
local macro_rules | `(tactic| kt_fact) => `(tactic| ((try (with_reducible rename ((_ ≠ _ ∧ _ ≠ _ ∧ _ ≠ _) ∧ _) => hz1; clear hz1)); (try (with_reducible rename (_ ≠ _ ∧ _ ≠ _ ∧ _ ≠ _) => hz2; clear hz2)); omega))
local macro_rules | `(tactic| walk_at "ite") => `(tactic| (k_closed; first | (with_reducible refine ite_pos (by with_unfolding_all decide) ?_) | (with_reducible refine ite_neg (by with_unfolding_all decide) ?_)))
local macro_rules | `(tactic| walk_at "CompSrcT") => `(tactic| k_extra "bsT")
local macro_rules | `(tactic| walk_at "CompSrc") => `(tactic| k_extra "bsS")
local macro_rules | `(tactic| walk_at "call ref") => `(tactic| k_extra "bsC")
local macro_rules | `(tactic| walk_at "call builtin:str.join") => `(tactic| k_extra "bsJ")
local macro_rules | `(tactic| walk_at "subscriptTail") => `(tactic| k_extra "bsI")
local macro_rules | `(tactic| walk_at "TfEl") => `(tactic| k_extra "bsTel")
local macro_rules | `(tactic| walk_at "TfNo") => `(tactic| k_extra "bsTno")
local macro_rules | `(tactic| walk_at "CompEnd") => `(tactic| k_dflt ((first | (refine' tf_endY ?cF ?cN ?cs ?co ?cS ?cr; (case cr => k_extra "bsY")) | (refine' tf_endN ?cF ?cN ?cs ?co ?cS ?cr; (case cr => k_extra "bsN"))); (case cF => assumption); (case cN => assumption); (case cs => kcf_all); (case co => first | assumption | (simp only [LCg.Off3, and_true]; done) | (simp only [LCg.Off3, and_true]; assumption)); (case cS => first | exact True.intro | lcg_src | assumption)))
local macro_rules | `(tactic| walk_at "binaryOp Mod str str") => `(tactic| k_extra "bsP")
local macro_rules | `(tactic| walk_at "binaryOp Mod str int") => `(tactic| k_extra "bsM")
local macro_rules | `(tactic| walk_at "exec While Compare cons nil") => `(tactic| k_extra "bsW")
local macro_rules | `(tactic| walk_at "exec For Tuple Attribute cons nil") => `(tactic| k_extra "bsF")
local macro_rules | `(tactic| walk_at "exec For Name BinOp cons nil") => `(tactic| k_extra "bsF")
local macro_rules | `(tactic| walk_at "pyIter ref") => `(tactic| k_extra "bsIt")
local macro_rules | `(tactic| walk_at "assign Tuple") => `(tactic| k_extra "bsU")
local macro_rules | `(tactic| walk_at "getAttrBy ref") => `(tactic| k_extra "bsG")
local macro_rules | `(tactic| walk_at "HitPost") => `(tactic| (refine ⟨rfl, ?_⟩; try dsimp only))
local macro_rules | `(tactic| walk_at "callWith ref") => `(tactic| k_extra "bsCw")
local macro_rules | `(tactic| walk_at "ite") => `(tactic| k_extra "bsIte")
local macro_rules | `(tactic| k_all) => `(tactic| (intro p9 h9; (rename ∀ p ∈ _, Prod.fst p < _ => hq9); (have h8 := ltN (hq9 p9 h9)); refine neN ?_; omega))
local macro_rules | `(tactic| walk_at "binaryOp Add ref ref") => `(tactic| k_extra "bsA")
local macro_rules | `(tactic| walk_at "compareOp NotEq ref ref") => `(tactic| k_extra "bsNe")
local macro_rules | `(tactic| walk_at "compareOp Eq ref ref") => `(tactic| k_extra "bsEq")
theorem top_off2 : True := by
  w_top off
  exact True.intro
/-! formats, each once in a clean context -/
section
variable {prog : Program} {w : World} {A : Around} {E : Value → Shared → Prop} {s : Shared} {n₀ n : Int} {y : PySem.Str} {t u : Tok} {Q : Value → Shared → Prop}
theorem fmt_plus (e : n₀ = n) (h0 : 0 ≤ n) (h1 : n < 10000000000) (h : ∀ t' k, Q (.str (Str.ofString "vsp = vsp + " ++ Str.ofString (toString n)) t') { s with toks := k }) :
    wpAny (model prog w) A (binaryOp .Mod (.str (Str.ofString "vsp = vsp + %u") t) (.int n₀ u)) Q E s := by
  subst e
  refine' KPc.mod_int ?kpcF ?kpcl ?kpch ?kpcm ?_; (case kpcF => kpc_eq); (case kpcl => omega); (case kpch => omega); (case kpcm => k_dflt kpc_run)
  exact h
theorem fmt_minus (e : n₀ = n) (h0 : 0 ≤ n) (h1 : n < 10000000000) (h : ∀ t' k, Q (.str (Str.ofString "vsp = vsp - " ++ Str.ofString (toString n)) t') { s with toks := k }) :
    wpAny (model prog w) A (binaryOp .Mod (.str (Str.ofString "vsp = vsp - %u") t) (.int n₀ u)) Q E s := by
  subst e
  refine' KPc.mod_int ?kpcF ?kpcl ?kpch ?kpcm ?_; (case kpcF => kpc_eq); (case kpcl => omega); (case kpch => omega); (case kpcm => k_dflt kpc_run)
  exact h
theorem fmt_reg (e : n₀ = n) (h0 : 0 ≤ n) (h1 : n < 10000000000) (h : ∀ t' k, Q (.str (Str.ofString "vsp = r" ++ Str.ofString (toString n)) t') { s with toks := k }) :
    wpAny (model prog w) A (binaryOp .Mod (.str (Str.ofString "vsp = r%u") t) (.int n₀ u)) Q E s := by
  subst e
  refine' KPc.mod_int ?kpcF ?kpcl ?kpch ?kpcm ?_; (case kpcF => kpc_eq); (case kpcl => omega); (case kpch => omega); (case kpcm => k_dflt kpc_run)
  exact h
theorem fmt_pop (h1 : y.length ≤ 1000000) (h : ∀ t' k, Q (.str (Str.ofString "pop " ++ y) t') { s with toks := k }) :
    wpAny (model prog w) A (binaryOp .Mod (.str (Str.ofString "pop %s") t) (.str y u)) Q E s := by
  refine' KPc.mod_str ?kpcF ?kpcl ?kpcm ?_; (case kpcF => kpc_eq); (case kpcl => exact h1); (case kpcm => k_dflt kpc_run_s)
  exact h
theorem fmt_brace (h1 : y.length ≤ 1000000) (h : ∀ t' k, Q (.str (Str.ofString "{" ++ y ++ Str.ofString "}") t') { s with toks := k }) :
    wpAny (model prog w) A (binaryOp .Mod (.str (Str.ofString "{%s}") t) (.str y u)) Q E s := by
  refine' KPc.mod_str ?kpcF ?kpcl ?kpcm ?_; (case kpcF => kpc_eq); (case kpcl => exact h1); (case kpcm => k_dflt kpc_run_s)
  exact h
end

theorem top_off3 : True := by
  w_top off
  exact True.intro
theorem bitC_eq (mask : Int) (n : Nat) : bitC mask (n : Int) = decide (mask / 2 ^ n % 2 = 1) := by
  unfold bitC
  rw [Int.toNat_natCast, Int.one_mul, kbt_bit]
  have h2 : (0 : Int) < 2 ^ n := Int.pow_pos (by decide)
  have hm := Int.emod_two_eq (mask / 2 ^ n)
  rcases hm with h | h <;> rw [h]
  · rw [Int.zero_mul]; rfl
  · rw [Int.one_mul, decide_eq_true (Int.ne_of_gt h2)]; rfl
theorem bitC_lt16 {mask : Int} (h0 : 0 ≤ mask) (h1 : mask < 65536) : ∀ k : Int, 0 ≤ k → bitC mask k = true → k < 16 := by
  intro k hk hb
  obtain ⟨n, rfl⟩ := Int.eq_ofNat_of_zero_le hk
  rw [bitC_eq] at hb
  refine Int.not_le.mp fun hn => ?_
  have hn' : 16 ≤ n := by omega
  have hp : (65536 : Int) ≤ 2 ^ n := by
    obtain ⟨j, rfl⟩ : ∃ j, n = 16 + j := ⟨n - 16, by omega⟩
    rw [Int.pow_add]
    have hj : (0 : Int) < 2 ^ j := Int.pow_pos (by decide)
    have e : (2 : Int) ^ 16 = 65536 := by decide
    rw [e]
    generalize (2 : Int) ^ j = x at hj
    omega
  have : mask / 2 ^ n = 0 := Int.ediv_eq_zero_of_lt h0 (by omega)
  rw [this] at hb
  exact absurd hb (by decide)
theorem rangeM_b4 {c : Int} (h0 : 0 ≤ c) (h1 : c ≤ 7) : 0 ≤ rangeM 4 c ∧ rangeM 4 c < 65536 := by
  have : ∀ n : Nat, n < 8 → 0 ≤ rangeM 4 (n : Int) ∧ rangeM 4 (n : Int) < 65536 := by decide +kernel
  obtain ⟨n, rfl⟩ := Int.eq_ofNat_of_zero_le h0
  exact this n (by omega)
theorem gprText_len (mask : Int) : (gprText mask).length ≤ 1000000 := by
  unfold gprText gprHits
  rw [PySem.Str.length_append, PySem.Str.length_append]
  have := join_le (x := Str.ofString ", ") (hits_mem (bitC mask) gprN 32 0 gprN_len) (Nat.le_trans (hits_len _ _ _ _) (by decide)) (by decide)
  have h1 : (Str.ofString "{").length = 1 := by decide
  have h2 : (Str.ofString "}").length = 1 := by decide
  omega
theorem regText_len (mask : Int) {pre : PySem.Str} (hp : pre.length ≤ 4) : (regText pre mask).length ≤ 1000000 := by
  unfold regText regHits
  rw [PySem.Str.length_append, PySem.Str.length_append]
  have := join_le (x := Str.ofString ", ") (regs_mem hp (bitC mask) 32 0 (by decide) (by decide)) (Nat.le_trans (hits_len _ _ _ _) (by decide)) (by decide)
  have h1 : (Str.ofString "{").length = 1 := by decide
  have h2 : (Str.ofString "}").length = 1 := by decide
  omega
theorem mask_a8 {c : Int} (h0 : 0 ≤ c) (h1 : c ≤ 7) : 0 ≤ Builtin.bitOr (rangeM 4 c) (1 * 2 ^ Int.toNat 14) ∧ Builtin.bitOr (rangeM 4 c) (1 * 2 ^ Int.toNat 14) < 65536 := by
  have : ∀ n : Nat, n < 8 → 0 ≤ Builtin.bitOr (rangeM 4 (n : Int)) (1 * 2 ^ Int.toNat 14) ∧ Builtin.bitOr (rangeM 4 (n : Int)) (1 * 2 ^ Int.toNat 14) < 65536 := by decide +kernel
  obtain ⟨n, rfl⟩ := Int.eq_ofNat_of_zero_le h0
  exact this n (by omega)
theorem mask_80 {b1 c : Int} (h0 : 0 ≤ b1) (h1 : b1 < 256) (h2 : 0 ≤ c) (h3 : c ≤ 15) : 0 ≤ Builtin.bitOr (b1 * 2 ^ Int.toNat 4) (c * 2 ^ Int.toNat 12) ∧ Builtin.bitOr (b1 * 2 ^ Int.toNat 4) (c * 2 ^ Int.toNat 12) < 65536 := by
  have e4 : (2 : Int) ^ Int.toNat 4 = 16 := by decide
  have e12 : (2 : Int) ^ Int.toNat 12 = 4096 := by decide
  rw [e4, e12, bitOr_and]
  have := bitAnd_range (b1 * 16) (y := c * 4096) (by omega)
  omega
theorem hi4 {b1 : Int} (h0 : 0 ≤ b1) (h1 : b1 < 256) : (Builtin.bitAnd b1 240).fdiv (2 ^ Int.toNat 4) = b1 / 16 := by
  have : ∀ n : Nat, n < 256 → (Builtin.bitAnd (n : Int) 240).fdiv (2 ^ Int.toNat 4) = (n : Int) / 16 := by decide +kernel
  obtain ⟨n, rfl⟩ := Int.eq_ofNat_of_zero_le h0
  exact this n (by omega)
theorem lo4 (b1 : Int) : (Builtin.bitAnd b1 15).fdiv (2 ^ Int.toNat 0) = b1 % 16 := by
  rw [bitAnd_m4]
  show (b1 % 16).fdiv 1 = _
  rw [Int.fdiv_eq_ediv_of_nonneg _ (by decide), Int.ediv_one]
theorem calcB {b1 : Int} (h0 : 0 ≤ b1) (h1 : b1 < 256) : (0 ≤ (Builtin.bitAnd b1 240).fdiv (2 ^ Int.toNat 4) ∧ (Builtin.bitAnd b1 240).fdiv (2 ^ Int.toNat 4) < 32) ∧ 0 ≤ 16 + (Builtin.bitAnd b1 240).fdiv (2 ^ Int.toNat 4) ∧ 16 + (Builtin.bitAnd b1 240).fdiv (2 ^ Int.toNat 4) < 32 ∧ 0 ≤ (Builtin.bitAnd b1 15).fdiv (2 ^ Int.toNat 0) ∧ (Builtin.bitAnd b1 15).fdiv (2 ^ Int.toNat 0) < 16 := by
  rw [hi4 h0 h1, lo4]
  omega

theorem top_off4 : True := by
  w_top off
  exact True.intro
theorem calc_range (w : World) (d : Addr) (st ct : Int) (t1 t2 : Tok) (h1 : 0 ≤ st) (h2 : st < 32) (h3 : 0 ≤ ct) (h4 : ct < 16) (news : Led) :
    Claim w 2 71 [.ref d, .int st t1, .int ct t2] news (fun news' v => news' = news ∧ ∃ t, v = .int (rangeM st ct) t) := by
  k_with_none
  dsimp only [Claim, KK, lse]
  k_fill
  intro mean mg mb dp un gd cn cs a ccd cl outer A₀ base h₀ L m s Q E B F X N T hk hdp hun hret
  obtain ⟨ck, c2, c3, c4, c5⟩ := cs
  dsimp only at hk
  subst hk
  k_dflt k_enter
  k_steps
  all_goals exact hret _ _ _ _ (by assumption) (by assumption) ⟨rfl, _, rfl⟩

theorem top_off5 : True := by
  w_top off
  exact True.intro
set_option pp.deepTerms false
set_option pp.deepTerms.threshold 9
theorem print_gpr (w : World) (d dx oct ml : Addr) (i : Int) (ti t1 t2 t3 : Tok) (news : Led) (mask : Int) (tm : Tok) (h16 : ∀ k : Int, 0 ≤ k → bitC mask k = true → k < 16) :
    Claim w 4 76 [.ref d, .int mask tm] ((d, instObj 254 dx) :: (dx, selfD w oct i ti ml t1 t2 t3) :: news) (fun news' v => news' = (d, instObj 254 dx) :: (dx, selfD w oct i ti ml t1 t2 t3) :: news ∧ ∃ t, v = .str (gprText mask) t) := by
  k_with_none
  k_with "bsT" => (k_dflt (refine LCt.CompSrcT.range (n := 32) (by rfl) (by k_asm) (by k_asm) (by assumption) (by decide) (by rfl) (by exact Nat.le_of_ble_eq_true rfl) ?_); intro g'; (refine' tf_range (bitC mask) gprN (fun k' t' I' oI' C' oC' D' m' ys' h' tk' E' hlo' hhi' hC' hx' F' N' off' ne' => ?_) ?_); (all_goals (try (simp only [LCg.Off3, and_true] at off'))); (all_goals (try ((show KPfMark → _); intro hMark'))))
  k_with "bsI" => ((with_reducible show wpAny _ _ (subscriptTail _ _ (Value.ref 64) (Value.int k' _)) _ _ _); (have hk16 : k' < 16 := h16 k' hlo' (decide_eq_true (by assumption))); k_dflt (refine' KTb.item_tup (ws := gprNames) ?l ?w hlo' (by show k' < 16; exact hk16) (by omega) ?_; (case l => ktb_isTup); (case w => unfold gprNames; repeat constructor)); intro _ _)
  k_with "bsY" => exact decide_eq_true (by assumption)
  k_with "bsN" => exact decide_eq_false (not_not_intro (by assumption))
  k_with "bsJ" => (refine join_list (News.isList (by k_asm) (by k_mem)) (by assumption) (join_small (hits_mem _ _ _ _ gprN_len) (Nat.le_trans (hits_len _ _ _ _) (by decide)) (by decide)) ?_; intro _ _; have hJ := Nat.le_trans (join_le (x := Str.ofString ", ") (hits_mem (bitC mask) gprN 32 0 gprN_len) (Nat.le_trans (hits_len _ _ _ _) (by decide)) (by decide)) (by decide : 32000 ≤ 1000000))
  k_with "bsP" => (refine fmt_brace hJ ?_; intro _ _)
  dsimp only [Claim, KK, lse, selfD]
  k_fill
  intro mean mg mb dp un gd cn cs a ccd cl outer A₀ base h₀ L m s Q E B F X N T hk hdp hun hret
  obtain ⟨ck, c2, c3, c4, c5⟩ := cs
  dsimp only at hk
  subst hk
  k_dflt k_enter
  k_steps
  all_goals exact hret _ _ _ _ (by assumption) (newsSub (by assumption) fun p hp => .tail _ (.tail _ (.tail _ hp))) ⟨rfl, _, rfl⟩

theorem top_off6 : True := by
  w_top off
  exact True.intro
theorem print_regs (w : World) (d dx oct ml : Addr) (i : Int) (ti t1 t2 t3 : Tok) (news : Led) (mask : Int) (tm : Tok) (pre : PySem.Str) (tp : Tok) (hp : pre.length ≤ 4) :
    Claim w 4 81 [.ref d, .int mask tm, .str pre tp] ((d, instObj 254 dx) :: (dx, selfD w oct i ti ml t1 t2 t3) :: news) (fun news' v => news' = (d, instObj 254 dx) :: (dx, selfD w oct i ti ml t1 t2 t3) :: news ∧ ∃ t, v = .str (regText pre mask) t) := by
  k_with_none
  k_with "bsT" => (k_dflt (refine LCt.CompSrcT.range (n := 32) (by rfl) (by k_asm) (by k_asm) (by assumption) (by decide) (by rfl) (by exact Nat.le_of_ble_eq_true rfl) ?_); intro g'; (refine' tf_range (bitC mask) (regN pre) (fun k' t' I' oI' C' oC' D' m' ys' h' tk' E' hlo' hhi' hC' hx' F' N' off' ne' => ?_) ?_); (all_goals (try (simp only [LCg.Off3, and_true] at off'))); (all_goals (try ((show KPfMark → _); intro hMark'))))
  k_with "bsY" => exact decide_eq_true (by assumption)
  k_with "bsN" => exact decide_eq_false (not_not_intro (by assumption))
  k_with "bsJ" => (refine join_list (News.isList (by k_asm) (by k_mem)) (by assumption) (join_small (regs_mem hp _ _ _ (by decide) (by decide)) (Nat.le_trans (hits_len _ _ _ _) (by decide)) (by decide)) ?_; intro _ _; have hJ := Nat.le_trans (join_le (x := Str.ofString ", ") (regs_mem hp (bitC mask) 32 0 (by decide) (by decide)) (Nat.le_trans (hits_len _ _ _ _) (by decide)) (by decide)) (by decide : 32000 ≤ 1000000))
  k_with "bsP" => (refine fmt_brace hJ ?_; intro _ _)
  dsimp only [Claim, KK, lse, selfD]
  k_fill
  intro mean mg mb dp un gd cn cs a ccd cl outer A₀ base h₀ L m s Q E B F X N T hk hdp hun hret
  obtain ⟨ck, c2, c3, c4, c5⟩ := cs
  dsimp only at hk
  subst hk
  k_dflt k_enter
  k_steps
  all_goals exact hret _ _ _ _ (by assumption) (newsSub (by assumption) (by intro p hp; repeat (first | exact hp | refine List.Mem.tail _ ?_))) ⟨rfl, _, rfl⟩

theorem top_off7 : True := by
  w_top off
  exact True.intro
theorem h_plus (w : World) (d dx oct ml : Addr) (i : Int) (ti t1 t2 t3 : Tok) (news : Led) (vs : List Value) (nn : Nat) (b : Int) (tb : Tok) (h0 : 0 ≤ i) (h1 : i < 1000) (hb : vs[i.toNat]? = some (.int b tb)) (hb0 : 0 ≤ b) (hb1 : b < 256)
    (hMk : KstMark) (hne : d ≠ dx) (hne2 : oct ≠ dx) (hoff : OwnOff news [dx]) :
    Claim w 8 56 [.ref d] (self4 w d dx oct ml i ti t1 t2 t3 vs nn news) (HRet w d dx oct ml (i + 1) t1 t2 t3 vs nn news (Str.ofString "vsp = vsp + " ++ Str.ofString (toString (b % 64 * 4 + 4)))) := by
  k_with_none
  have hi63 : i < 2 ^ 63 := by omega
  k_with "bsI" => (k_dflt (refine' oct_item ?l h0 hi63 hb ?_; (case l => exact News.isList (by k_asm) (by k_mem))))
  k_with "bsM" => (refine fmt_plus hE hE0 hE1 ?_; intro _ _)
  obtain ⟨hA0, hA1⟩ := bitAnd_range b (by decide : (0 : Int) ≤ 63)
  have hE : Builtin.bitAnd b 63 * 2 ^ Int.toNat 2 + 4 = b % 64 * 4 + 4 := by rw [bitAnd_m6]; rfl
  have hE0 : 0 ≤ b % 64 * 4 + 4 := by omega
  have hE1 : b % 64 * 4 + 4 < 10000000000 := by omega
  dsimp only [Claim, KK, lse, selfD, self4, HRet]
  k_fill
  intro mean mg mb dp un gd cn cs a ccd cl outer A₀ base h₀ L m s Q E B F X N T hk hdp hun hret
  obtain ⟨ck, c2, c3, c4, c5⟩ := cs
  dsimp only at hk
  subst hk
  k_dflt k_enter
  k_steps
  all_goals exact hret _ _ _ _ (by assumption) (newsSub (by assumption) (by intro p hp; repeat (first | exact hp | refine List.Mem.tail _ ?_))) ⟨_, _, rfl, rfl⟩

theorem h_minus (w : World) (d dx oct ml : Addr) (i : Int) (ti t1 t2 t3 : Tok) (news : Led) (vs : List Value) (nn : Nat) (b : Int) (tb : Tok) (h0 : 0 ≤ i) (h1 : i < 1000) (hb : vs[i.toNat]? = some (.int b tb)) (hb0 : 0 ≤ b) (hb1 : b < 256)
    (hMk : KstMark) (hne : d ≠ dx) (hne2 : oct ≠ dx) (hoff : OwnOff news [dx]) :
    Claim w 8 63 [.ref d] (self4 w d dx oct ml i ti t1 t2 t3 vs nn news) (HRet w d dx oct ml (i + 1) t1 t2 t3 vs nn news (Str.ofString "vsp = vsp - " ++ Str.ofString (toString (b % 64 * 4 + 4)))) := by
  k_with_none
  have hi63 : i < 2 ^ 63 := by omega
  k_with "bsI" => (k_dflt (refine' oct_item ?l h0 hi63 hb ?_; (case l => exact News.isList (by k_asm) (by k_mem))))
  k_with "bsM" => (refine fmt_minus hE hE0 hE1 ?_; intro _ _)
  obtain ⟨hA0, hA1⟩ := bitAnd_range b (by decide : (0 : Int) ≤ 63)
  have hE : Builtin.bitAnd b 63 * 2 ^ Int.toNat 2 + 4 = b % 64 * 4 + 4 := by rw [bitAnd_m6]; rfl
  have hE0 : 0 ≤ b % 64 * 4 + 4 := by omega
  have hE1 : b % 64 * 4 + 4 < 10000000000 := by omega
  dsimp only [Claim, KK, lse, selfD, self4, HRet]
  k_fill
  intro mean mg mb dp un gd cn cs a ccd cl outer A₀ base h₀ L m s Q E B F X N T hk hdp hun hret
  obtain ⟨ck, c2, c3, c4, c5⟩ := cs
  dsimp only at hk
  subst hk
  k_dflt k_enter
  k_steps
  all_goals exact hret _ _ _ _ (by assumption) (newsSub (by assumption) (by intro p hp; repeat (first | exact hp | refine List.Mem.tail _ ?_))) ⟨_, _, rfl, rfl⟩

theorem h_reg (w : World) (d dx oct ml : Addr) (i : Int) (ti t1 t2 t3 : Tok) (news : Led) (vs : List Value) (nn : Nat) (b : Int) (tb : Tok) (h0 : 0 ≤ i) (h1 : i < 1000) (hb : vs[i.toNat]? = some (.int b tb)) (hb0 : 0 ≤ b) (hb1 : b < 256)
    (hMk : KstMark) (hne : d ≠ dx) (hne2 : oct ≠ dx) (hoff : OwnOff news [dx]) :
    Claim w 8 109 [.ref d] (self4 w d dx oct ml i ti t1 t2 t3 vs nn news) (HRet w d dx oct ml (i + 1) t1 t2 t3 vs nn news (Str.ofString "vsp = r" ++ Str.ofString (toString (b % 16)))) := by
  k_with_none
  have hi63 : i < 2 ^ 63 := by omega
  k_with "bsI" => (k_dflt (refine' oct_item ?l h0 hi63 hb ?_; (case l => exact News.isList (by k_asm) (by k_mem))))
  k_with "bsM" => (refine fmt_reg hE hE0 hE1 ?_; intro _ _)
  obtain ⟨hA0, hA1⟩ := bitAnd_range b (by decide : (0 : Int) ≤ 15)
  have hE : Builtin.bitAnd b 15 = b % 16 := bitAnd_m4 b
  have hE0 : 0 ≤ b % 16 := by omega
  have hE1 : b % 16 < 10000000000 := by omega
  dsimp only [Claim, KK, lse, selfD, self4, HRet]
  k_fill
  intro mean mg mb dp un gd cn cs a ccd cl outer A₀ base h₀ L m s Q E B F X N T hk hdp hun hret
  obtain ⟨ck, c2, c3, c4, c5⟩ := cs
  dsimp only at hk
  subst hk
  k_dflt k_enter
  k_steps
  all_goals exact hret _ _ _ _ (by assumption) (newsSub (by assumption) (by intro p hp; repeat (first | exact hp | refine List.Mem.tail _ ?_))) ⟨_, _, rfl, rfl⟩

theorem h_9d (w : World) (d dx oct ml : Addr) (i : Int) (ti t1 t2 t3 : Tok) (news : Led) (vs : List Value) (nn : Nat) (b : Int) (tb : Tok) (h0 : 0 ≤ i) (h1 : i < 1000) (hb : vs[i.toNat]? = some (.int b tb)) (hb0 : 0 ≤ b) (hb1 : b < 256)
    (hMk : KstMark) (hne : d ≠ dx) (hne2 : oct ≠ dx) (hoff : OwnOff news [dx]) :
    Claim w 8 95 [.ref d] (self4 w d dx oct ml i ti t1 t2 t3 vs nn news) (HRet w d dx oct ml (i + 1) t1 t2 t3 vs nn news (Str.ofString "reserved (ARM MOVrr)")) := by
  k_with_none
  have hi63 : i < 2 ^ 63 := by omega
  k_with "bsI" => (k_dflt (refine' oct_item ?l h0 hi63 hb ?_; (case l => exact News.isList (by k_asm) (by k_mem))))
  dsimp only [Claim, KK, lse, selfD, self4, HRet]
  k_fill
  intro mean mg mb dp un gd cn cs a ccd cl outer A₀ base h₀ L m s Q E B F X N T hk hdp hun hret
  obtain ⟨ck, c2, c3, c4, c5⟩ := cs
  dsimp only at hk
  subst hk
  k_dflt k_enter
  k_steps
  all_goals exact hret _ _ _ _ (by assumption) (newsSub (by assumption) (by intro p hp; repeat (first | exact hp | refine List.Mem.tail _ ?_))) ⟨_, _, rfl, rfl⟩

theorem h_9f (w : World) (d dx oct ml : Addr) (i : Int) (ti t1 t2 t3 : Tok) (news : Led) (vs : List Value) (nn : Nat) (b : Int) (tb : Tok) (h0 : 0 ≤ i) (h1 : i < 1000) (hb : vs[i.toNat]? = some (.int b tb)) (hb0 : 0 ≤ b) (hb1 : b < 256)
    (hMk : KstMark) (hne : d ≠ dx) (hne2 : oct ≠ dx) (hoff : OwnOff news [dx]) :
    Claim w 8 102 [.ref d] (self4 w d dx oct ml i ti t1 t2 t3 vs nn news) (HRet w d dx oct ml (i + 1) t1 t2 t3 vs nn news (Str.ofString "reserved (WiMMX MOVrr)")) := by
  k_with_none
  have hi63 : i < 2 ^ 63 := by omega
  k_with "bsI" => (k_dflt (refine' oct_item ?l h0 hi63 hb ?_; (case l => exact News.isList (by k_asm) (by k_mem))))
  dsimp only [Claim, KK, lse, selfD, self4, HRet]
  k_fill
  intro mean mg mb dp un gd cn cs a ccd cl outer A₀ base h₀ L m s Q E B F X N T hk hdp hun hret
  obtain ⟨ck, c2, c3, c4, c5⟩ := cs
  dsimp only at hk
  subst hk
  k_dflt k_enter
  k_steps
  all_goals exact hret _ _ _ _ (by assumption) (newsSub (by assumption) (by intro p hp; repeat (first | exact hp | refine List.Mem.tail _ ?_))) ⟨_, _, rfl, rfl⟩

theorem h_fin (w : World) (d dx oct ml : Addr) (i : Int) (ti t1 t2 t3 : Tok) (news : Led) (vs : List Value) (nn : Nat) (b : Int) (tb : Tok) (h0 : 0 ≤ i) (h1 : i < 1000) (hb : vs[i.toNat]? = some (.int b tb)) (hb0 : 0 ≤ b) (hb1 : b < 256)
    (hMk : KstMark) (hne : d ≠ dx) (hne2 : oct ≠ dx) (hoff : OwnOff news [dx]) :
    Claim w 8 130 [.ref d] (self4 w d dx oct ml i ti t1 t2 t3 vs nn news) (HRet w d dx oct ml (i + 1) t1 t2 t3 vs nn news (Str.ofString "finish")) := by
  k_with_none
  have hi63 : i < 2 ^ 63 := by omega
  k_with "bsI" => (k_dflt (refine' oct_item ?l h0 hi63 hb ?_; (case l => exact News.isList (by k_asm) (by k_mem))))
  dsimp only [Claim, KK, lse, selfD, self4, HRet]
  k_fill
  intro mean mg mb dp un gd cn cs a ccd cl outer A₀ base h₀ L m s Q E B F X N T hk hdp hun hret
  obtain ⟨ck, c2, c3, c4, c5⟩ := cs
  dsimp only at hk
  subst hk
  k_dflt k_enter
  k_steps
  all_goals exact hret _ _ _ _ (by assumption) (newsSub (by assumption) (by intro p hp; repeat (first | exact hp | refine List.Mem.tail _ ?_))) ⟨_, _, rfl, rfl⟩

theorem h_spare (w : World) (d dx oct ml : Addr) (i : Int) (ti t1 t2 t3 : Tok) (news : Led) (vs : List Value) (nn : Nat) (b : Int) (tb : Tok) (h0 : 0 ≤ i) (h1 : i < 1000) (hb : vs[i.toNat]? = some (.int b tb)) (hb0 : 0 ≤ b) (hb1 : b < 256)
    (hMk : KstMark) (hne : d ≠ dx) (hne2 : oct ≠ dx) (hoff : OwnOff news [dx]) :
    Claim w 4 228 [.ref d] (self4 w d dx oct ml i ti t1 t2 t3 vs nn news) (HRet w d dx oct ml (i + 1) t1 t2 t3 vs nn news (Str.ofString "spare")) := by
  k_with_none
  have hi63 : i < 2 ^ 63 := by omega
  k_with "bsI" => (k_dflt (refine' oct_item ?l h0 hi63 hb ?_; (case l => exact News.isList (by k_asm) (by k_mem))))
  dsimp only [Claim, KK, lse, selfD, self4, HRet]
  k_fill
  intro mean mg mb dp un gd cn cs a ccd cl outer A₀ base h₀ L m s Q E B F X N T hk hdp hun hret
  obtain ⟨ck, c2, c3, c4, c5⟩ := cs
  dsimp only at hk
  subst hk
  k_dflt k_enter
  k_steps
  all_goals exact hret _ _ _ _ (by assumption) (newsSub (by assumption) (by intro p hp; repeat (first | exact hp | refine List.Mem.tail _ ?_))) ⟨_, _, rfl, rfl⟩

theorem h_a0 (w : World) (d dx oct ml : Addr) (i : Int) (ti t1 t2 t3 : Tok) (news : Led) (vs : List Value) (nn : Nat) (b : Int) (tb : Tok) (h0 : 0 ≤ i) (h1 : i < 1000) (hb : vs[i.toNat]? = some (.int b tb)) (hb0 : 0 ≤ b) (hb1 : b < 256)
    (hMk : KstMark) (hne : d ≠ dx) (hne2 : oct ≠ dx) (hoff : OwnOff news [dx]) :
    Claim w 8 116 [.ref d] (self4 w d dx oct ml i ti t1 t2 t3 vs nn news) (HRet w d dx oct ml (i + 1) t1 t2 t3 vs nn news (Str.ofString "pop " ++ gprText (rangeM 4 (Builtin.bitAnd b 7)))) := by
  k_with_none
  have hi63 : i < 2 ^ 63 := by omega
  k_with "bsI" => (k_dflt (refine' oct_item ?l h0 hi63 hb ?_; (case l => exact News.isList (by k_asm) (by k_mem))))
  k_with "bsC" => first | ((with_reducible show wpAny _ _ (call (Value.ref 71) _ _) _ _ _); (rename News _ _ _ _ => nwX); k_dflt (refine' Claim.use nwX (calc_range w d _ _ _ _ (by decide) (by decide) hA0 hA2 _) ?B ?F ?X ?T rfl ?hd ?hu ?_; (case B => k_asm); (case F => k_asm); (case X => k_asm); (case T => k_asm); (case hd => k_room); (case hu => k_units)); intro v9 news9 h9 tk9 F9 N9 hR9; obtain ⟨rfl, t9, rfl⟩ := hR9; (try k_sweep)) | ((with_reducible show wpAny _ _ (call (Value.ref 76) _ _) _ _ _); (rename News _ _ _ _ => nwX); k_dflt (refine' Claim.use nwX (print_gpr w d dx oct ml _ _ _ _ _ _ _ _ hM) ?B ?F ?X ?T rfl ?hd ?hu ?_; (case B => k_asm); (case F => k_asm); (case X => k_asm); (case T => k_asm); (case hd => k_room); (case hu => k_units)); intro v9 news9 h9 tk9 F9 N9 hR9; obtain ⟨rfl, t9, rfl⟩ := hR9; (try k_sweep))
  k_with "bsP" => (refine fmt_pop (gprText_len _) ?_; intro _ _)
  obtain ⟨hA0, hA1⟩ := bitAnd_range b (by decide : (0 : Int) ≤ 7)
  have hA2 : Builtin.bitAnd b 7 < 16 := by omega
  have hM := bitC_lt16 (rangeM_b4 hA0 hA1).1 (rangeM_b4 hA0 hA1).2
  dsimp only [Claim, KK, lse, selfD, self4, HRet]
  k_fill
  intro mean mg mb dp un gd cn cs a ccd cl outer A₀ base h₀ L m s Q E B F X N T hk hdp hun hret
  obtain ⟨ck, c2, c3, c4, c5⟩ := cs
  dsimp only at hk
  subst hk
  k_dflt k_enter
  k_steps
  all_goals exact hret _ _ _ _ (by assumption) (newsSub (by assumption) (by intro p hp; repeat (first | exact hp | refine List.Mem.tail _ ?_))) ⟨_, _, rfl, rfl⟩

theorem h_b8 (w : World) (d dx oct ml : Addr) (i : Int) (ti t1 t2 t3 : Tok) (news : Led) (vs : List Value) (nn : Nat) (b : Int) (tb : Tok) (h0 : 0 ≤ i) (h1 : i < 1000) (hb : vs[i.toNat]? = some (.int b tb)) (hb0 : 0 ≤ b) (hb1 : b < 256)
    (hMk : KstMark) (hne : d ≠ dx) (hne2 : oct ≠ dx) (hoff : OwnOff news [dx]) :
    Claim w 8 165 [.ref d] (self4 w d dx oct ml i ti t1 t2 t3 vs nn news) (HRet w d dx oct ml (i + 1) t1 t2 t3 vs nn news (Str.ofString "pop " ++ regText (Str.ofString "d") (rangeM 8 (Builtin.bitAnd b 7)))) := by
  k_with_none
  have hi63 : i < 2 ^ 63 := by omega
  k_with "bsI" => (k_dflt (refine' oct_item ?l h0 hi63 hb ?_; (case l => exact News.isList (by k_asm) (by k_mem))))
  k_with "bsC" => first | ((with_reducible show wpAny _ _ (call (Value.ref 71) _ _) _ _ _); (rename News _ _ _ _ => nwX); k_dflt (refine' Claim.use nwX (calc_range w d _ _ _ _ (by decide) (by decide) hA0 hA2 _) ?B ?F ?X ?T rfl ?hd ?hu ?_; (case B => k_asm); (case F => k_asm); (case X => k_asm); (case T => k_asm); (case hd => k_room); (case hu => k_units)); intro v9 news9 h9 tk9 F9 N9 hR9; obtain ⟨rfl, t9, rfl⟩ := hR9; (try k_sweep)) | ((with_reducible show wpAny _ _ (call (Value.ref 81) _ _) _ _ _); (rename News _ _ _ _ => nwX); k_dflt (refine' Claim.use nwX (print_regs w d dx oct ml _ _ _ _ _ _ _ _ _ _ (by decide)) ?B ?F ?X ?T rfl ?hd ?hu ?_; (case B => k_asm); (case F => k_asm); (case X => k_asm); (case T => k_asm); (case hd => k_room); (case hu => k_units)); intro v9 news9 h9 tk9 F9 N9 hR9; obtain ⟨rfl, t9, rfl⟩ := hR9; (try k_sweep))
  k_with "bsP" => (refine fmt_pop (regText_len _ (by decide)) ?_; intro _ _)
  obtain ⟨hA0, hA1⟩ := bitAnd_range b (by decide : (0 : Int) ≤ 7)
  have hA2 : Builtin.bitAnd b 7 < 16 := by omega
  dsimp only [Claim, KK, lse, selfD, self4, HRet]
  k_fill
  intro mean mg mb dp un gd cn cs a ccd cl outer A₀ base h₀ L m s Q E B F X N T hk hdp hun hret
  obtain ⟨ck, c2, c3, c4, c5⟩ := cs
  dsimp only at hk
  subst hk
  k_dflt k_enter
  k_steps
  all_goals exact hret _ _ _ _ (by assumption) (newsSub (by assumption) (by intro p hp; repeat (first | exact hp | refine List.Mem.tail _ ?_))) ⟨_, _, rfl, rfl⟩

theorem h_c0 (w : World) (d dx oct ml : Addr) (i : Int) (ti t1 t2 t3 : Tok) (news : Led) (vs : List Value) (nn : Nat) (b : Int) (tb : Tok) (h0 : 0 ≤ i) (h1 : i < 1000) (hb : vs[i.toNat]? = some (.int b tb)) (hb0 : 0 ≤ b) (hb1 : b < 256)
    (hMk : KstMark) (hne : d ≠ dx) (hne2 : oct ≠ dx) (hoff : OwnOff news [dx]) :
    Claim w 8 207 [.ref d] (self4 w d dx oct ml i ti t1 t2 t3 vs nn news) (HRet w d dx oct ml (i + 1) t1 t2 t3 vs nn news (Str.ofString "pop " ++ regText (Str.ofString "wR") (rangeM 10 (Builtin.bitAnd b 7)))) := by
  k_with_none
  have hi63 : i < 2 ^ 63 := by omega
  k_with "bsI" => (k_dflt (refine' oct_item ?l h0 hi63 hb ?_; (case l => exact News.isList (by k_asm) (by k_mem))))
  k_with "bsC" => first | ((with_reducible show wpAny _ _ (call (Value.ref 71) _ _) _ _ _); (rename News _ _ _ _ => nwX); k_dflt (refine' Claim.use nwX (calc_range w d _ _ _ _ (by decide) (by decide) hA0 hA2 _) ?B ?F ?X ?T rfl ?hd ?hu ?_; (case B => k_asm); (case F => k_asm); (case X => k_asm); (case T => k_asm); (case hd => k_room); (case hu => k_units)); intro v9 news9 h9 tk9 F9 N9 hR9; obtain ⟨rfl, t9, rfl⟩ := hR9; (try k_sweep)) | ((with_reducible show wpAny _ _ (call (Value.ref 81) _ _) _ _ _); (rename News _ _ _ _ => nwX); k_dflt (refine' Claim.use nwX (print_regs w d dx oct ml _ _ _ _ _ _ _ _ _ _ (by decide)) ?B ?F ?X ?T rfl ?hd ?hu ?_; (case B => k_asm); (case F => k_asm); (case X => k_asm); (case T => k_asm); (case hd => k_room); (case hu => k_units)); intro v9 news9 h9 tk9 F9 N9 hR9; obtain ⟨rfl, t9, rfl⟩ := hR9; (try k_sweep))
  k_with "bsP" => (refine fmt_pop (regText_len _ (by decide)) ?_; intro _ _)
  obtain ⟨hA0, hA1⟩ := bitAnd_range b (by decide : (0 : Int) ≤ 7)
  have hA2 : Builtin.bitAnd b 7 < 16 := by omega
  dsimp only [Claim, KK, lse, selfD, self4, HRet]
  k_fill
  intro mean mg mb dp un gd cn cs a ccd cl outer A₀ base h₀ L m s Q E B F X N T hk hdp hun hret
  obtain ⟨ck, c2, c3, c4, c5⟩ := cs
  dsimp only at hk
  subst hk
  k_dflt k_enter
  k_steps
  all_goals exact hret _ _ _ _ (by assumption) (newsSub (by assumption) (by intro p hp; repeat (first | exact hp | refine List.Mem.tail _ ?_))) ⟨_, _, rfl, rfl⟩

theorem h_a8 (w : World) (d dx oct ml : Addr) (i : Int) (ti t1 t2 t3 : Tok) (news : Led) (vs : List Value) (nn : Nat) (b : Int) (tb : Tok) (h0 : 0 ≤ i) (h1 : i < 1000) (hb : vs[i.toNat]? = some (.int b tb)) (hb0 : 0 ≤ b) (hb1 : b < 256)
    (hMk : KstMark) (hne : d ≠ dx) (hne2 : oct ≠ dx) (hoff : OwnOff news [dx]) :
    Claim w 8 123 [.ref d] (self4 w d dx oct ml i ti t1 t2 t3 vs nn news) (HRet w d dx oct ml (i + 1) t1 t2 t3 vs nn news (Str.ofString "pop " ++ gprText (Builtin.bitOr (rangeM 4 (Builtin.bitAnd b 7)) (1 * 2 ^ Int.toNat 14)))) := by
  k_with_none
  have hi63 : i < 2 ^ 63 := by omega
  k_with "bsI" => (k_dflt (refine' oct_item ?l h0 hi63 hb ?_; (case l => exact News.isList (by k_asm) (by k_mem))))
  k_with "bsC" => first | ((with_reducible show wpAny _ _ (call (Value.ref 71) _ _) _ _ _); (rename News _ _ _ _ => nwX); k_dflt (refine' Claim.use nwX (calc_range w d _ _ _ _ (by decide) (by decide) hA0 hA2 _) ?B ?F ?X ?T rfl ?hd ?hu ?_; (case B => k_asm); (case F => k_asm); (case X => k_asm); (case T => k_asm); (case hd => k_room); (case hu => k_units)); intro v9 news9 h9 tk9 F9 N9 hR9; obtain ⟨rfl, t9, rfl⟩ := hR9; (try k_sweep)) | ((with_reducible show wpAny _ _ (call (Value.ref 76) _ _) _ _ _); (rename News _ _ _ _ => nwX); k_dflt (refine' Claim.use nwX (print_gpr w d dx oct ml _ _ _ _ _ _ _ _ hM) ?B ?F ?X ?T rfl ?hd ?hu ?_; (case B => k_asm); (case F => k_asm); (case X => k_asm); (case T => k_asm); (case hd => k_room); (case hu => k_units)); intro v9 news9 h9 tk9 F9 N9 hR9; obtain ⟨rfl, t9, rfl⟩ := hR9; (try k_sweep))
  k_with "bsP" => (refine fmt_pop (gprText_len _) ?_; intro _ _)
  obtain ⟨hA0, hA1⟩ := bitAnd_range b (by decide : (0 : Int) ≤ 7)
  have hA2 : Builtin.bitAnd b 7 < 16 := by omega
  have hM := bitC_lt16 (mask_a8 hA0 hA1).1 (mask_a8 hA0 hA1).2
  dsimp only [Claim, KK, lse, selfD, self4, HRet]
  k_fill
  intro mean mg mb dp un gd cn cs a ccd cl outer A₀ base h₀ L m s Q E B F X N T hk hdp hun hret
  obtain ⟨ck, c2, c3, c4, c5⟩ := cs
  dsimp only at hk
  subst hk
  k_dflt k_enter
  k_steps
  all_goals exact hret _ _ _ _ (by assumption) (newsSub (by assumption) (by intro p hp; repeat (first | exact hp | refine List.Mem.tail _ ?_))) ⟨_, _, rfl, rfl⟩

theorem h_80 (w : World) (d dx oct ml : Addr) (i : Int) (ti t1 t2 t3 : Tok) (news : Led) (vs : List Value) (nn : Nat) (b : Int) (tb : Tok) (b1 : Int) (tb1 : Tok) (h0 : 0 ≤ i) (h1 : i < 1000) (hb : vs[i.toNat]? = some (.int b tb)) (hb0 : 0 ≤ b) (hb1 : b < 256) (hc : vs[(i + 1).toNat]? = some (.int b1 tb1)) (hc0 : 0 ≤ b1) (hc1 : b1 < 256)
    (hMk : KstMark) (hne : d ≠ dx) (hne2 : oct ≠ dx) (hoff : OwnOff news [dx]) :
    Claim w 8 88 [.ref d] (self4 w d dx oct ml i ti t1 t2 t3 vs nn news) (HRet w d dx oct ml (i + 1 + 1) t1 t2 t3 vs nn news (if Builtin.bitOr (b1 * 2 ^ Int.toNat 4) (Builtin.bitAnd b 15 * 2 ^ Int.toNat 12) = 0 then Str.ofString "refuse to unwind" else Str.ofString "pop " ++ gprText (Builtin.bitOr (b1 * 2 ^ Int.toNat 4) (Builtin.bitAnd b 15 * 2 ^ Int.toNat 12)))) := by
  k_with_none
  have hi63 : i < 2 ^ 63 := by omega
  have hj63 : i + 1 < 2 ^ 63 := by omega
  have hj0 : 0 ≤ i + 1 := by omega
  k_with "bsI" => first | (k_dflt (refine' oct_item ?l hj0 hj63 hc ?_; (case l => exact News.isList (by k_asm) (by k_mem)))) | (k_dflt (refine' oct_item ?l h0 hi63 hb ?_; (case l => exact News.isList (by k_asm) (by k_mem))))
  k_with "bsC" => ((with_reducible show wpAny _ _ (call (Value.ref 76) _ _) _ _ _); (rename News _ _ _ _ => nwX); k_dflt (refine' Claim.use nwX (print_gpr w d dx oct ml _ _ _ _ _ _ _ _ hM) ?B ?F ?X ?T rfl ?hd ?hu ?_; (case B => k_asm); (case F => k_asm); (case X => k_asm); (case T => k_asm); (case hd => k_room); (case hu => k_units)); intro v9 news9 h9 tk9 F9 N9 hR9; obtain ⟨rfl, t9, rfl⟩ := hR9; (try k_sweep))
  k_with "bsP" => (refine fmt_pop (gprText_len _) ?_; intro _ _)
  obtain ⟨hA0, hA1⟩ := bitAnd_range b (by decide : (0 : Int) ≤ 15)
  have hM := bitC_lt16 (mask_80 hc0 hc1 hA0 hA1).1 (mask_80 hc0 hc1 hA0 hA1).2
  dsimp only [Claim, KK, lse, selfD, self4, HRet]
  k_fill
  intro mean mg mb dp un gd cn cs a ccd cl outer A₀ base h₀ L m s Q E B F X N T hk hdp hun hret
  obtain ⟨ck, c2, c3, c4, c5⟩ := cs
  dsimp only at hk
  subst hk
  k_dflt k_enter
  k_steps
  all_goals (refine hret _ _ _ _ (by assumption) (newsSub (by assumption) (by intro p hp; repeat (first | exact hp | refine List.Mem.tail _ ?_))) (HRet.mk' ?_); first | exact (if_pos (by assumption)).symm | exact (if_neg (by assumption)).symm)

theorem h_b1 (w : World) (d dx oct ml : Addr) (i : Int) (ti t1 t2 t3 : Tok) (news : Led) (vs : List Value) (nn : Nat) (b : Int) (tb : Tok) (b1 : Int) (tb1 : Tok) (h0 : 0 ≤ i) (h1 : i < 1000) (hb : vs[i.toNat]? = some (.int b tb)) (hb0 : 0 ≤ b) (hb1 : b < 256) (hc : vs[(i + 1).toNat]? = some (.int b1 tb1)) (hc0 : 0 ≤ b1) (hc1 : b1 < 256)
    (hMk : KstMark) (hne : d ≠ dx) (hne2 : oct ≠ dx) (hoff : OwnOff news [dx]) :
    Claim w 8 137 [.ref d] (self4 w d dx oct ml i ti t1 t2 t3 vs nn news) (HRet w d dx oct ml (i + 1 + 1) t1 t2 t3 vs nn news (if Builtin.bitAnd b1 240 ≠ 0 then Str.ofString "spare" else if b1 = 0 then Str.ofString "spare" else Str.ofString "pop " ++ gprText (Builtin.bitAnd b1 15))) := by
  k_with_none
  have hi63 : i < 2 ^ 63 := by omega
  have hj63 : i + 1 < 2 ^ 63 := by omega
  have hj0 : 0 ≤ i + 1 := by omega
  k_with "bsI" => first | (k_dflt (refine' oct_item ?l hj0 hj63 hc ?_; (case l => exact News.isList (by k_asm) (by k_mem)))) | (k_dflt (refine' oct_item ?l h0 hi63 hb ?_; (case l => exact News.isList (by k_asm) (by k_mem))))
  k_with "bsC" => ((with_reducible show wpAny _ _ (call (Value.ref 76) _ _) _ _ _); (rename News _ _ _ _ => nwX); k_dflt (refine' Claim.use nwX (print_gpr w d dx oct ml _ _ _ _ _ _ _ _ hM) ?B ?F ?X ?T rfl ?hd ?hu ?_; (case B => k_asm); (case F => k_asm); (case X => k_asm); (case T => k_asm); (case hd => k_room); (case hu => k_units)); intro v9 news9 h9 tk9 F9 N9 hR9; obtain ⟨rfl, t9, rfl⟩ := hR9; (try k_sweep))
  k_with "bsP" => (refine fmt_pop (gprText_len _) ?_; intro _ _)
  have hM := bitC_lt16 (bitAnd_range b1 (by decide : (0 : Int) ≤ 15)).1 (Int.lt_of_le_of_lt (bitAnd_range b1 (by decide : (0 : Int) ≤ 15)).2 (by decide))
  dsimp only [Claim, KK, lse, selfD, self4, HRet]
  k_fill
  intro mean mg mb dp un gd cn cs a ccd cl outer A₀ base h₀ L m s Q E B F X N T hk hdp hun hret
  obtain ⟨ck, c2, c3, c4, c5⟩ := cs
  dsimp only at hk
  subst hk
  k_dflt k_enter
  k_steps
  all_goals (refine hret _ _ _ _ (by assumption) (newsSub (by assumption) (by intro p hp; repeat (first | exact hp | refine List.Mem.tail _ ?_))) (HRet.mk' ?_); first | exact (if_pos (by assumption)).symm | exact ((if_neg (not_not_intro (by assumption))).trans (if_pos (by assumption))).symm | exact ((if_neg (not_not_intro (by assumption))).trans (if_neg (by assumption))).symm)

theorem h_c7 (w : World) (d dx oct ml : Addr) (i : Int) (ti t1 t2 t3 : Tok) (news : Led) (vs : List Value) (nn : Nat) (b : Int) (tb : Tok) (b1 : Int) (tb1 : Tok) (h0 : 0 ≤ i) (h1 : i < 1000) (hb : vs[i.toNat]? = some (.int b tb)) (hb0 : 0 ≤ b) (hb1 : b < 256) (hc : vs[(i + 1).toNat]? = some (.int b1 tb1)) (hc0 : 0 ≤ b1) (hc1 : b1 < 256)
    (hMk : KstMark) (hne : d ≠ dx) (hne2 : oct ≠ dx) (hoff : OwnOff news [dx]) :
    Claim w 8 179 [.ref d] (self4 w d dx oct ml i ti t1 t2 t3 vs nn news) (HRet w d dx oct ml (i + 1 + 1) t1 t2 t3 vs nn news (if Builtin.bitAnd b1 240 ≠ 0 then Str.ofString "spare" else if b1 = 0 then Str.ofString "spare" else Str.ofString "pop " ++ regText (Str.ofString "wCGR") (Builtin.bitAnd b1 15))) := by
  k_with_none
  have hi63 : i < 2 ^ 63 := by omega
  have hj63 : i + 1 < 2 ^ 63 := by omega
  have hj0 : 0 ≤ i + 1 := by omega
  k_with "bsI" => first | (k_dflt (refine' oct_item ?l hj0 hj63 hc ?_; (case l => exact News.isList (by k_asm) (by k_mem)))) | (k_dflt (refine' oct_item ?l h0 hi63 hb ?_; (case l => exact News.isList (by k_asm) (by k_mem))))
  k_with "bsC" => ((with_reducible show wpAny _ _ (call (Value.ref 81) _ _) _ _ _); (rename News _ _ _ _ => nwX); k_dflt (refine' Claim.use nwX (print_regs w d dx oct ml _ _ _ _ _ _ _ _ _ _ (by decide)) ?B ?F ?X ?T rfl ?hd ?hu ?_; (case B => k_asm); (case F => k_asm); (case X => k_asm); (case T => k_asm); (case hd => k_room); (case hu => k_units)); intro v9 news9 h9 tk9 F9 N9 hR9; obtain ⟨rfl, t9, rfl⟩ := hR9; (try k_sweep))
  k_with "bsP" => (refine fmt_pop (regText_len _ (by decide)) ?_; intro _ _)
  dsimp only [Claim, KK, lse, selfD, self4, HRet]
  k_fill
  intro mean mg mb dp un gd cn cs a ccd cl outer A₀ base h₀ L m s Q E B F X N T hk hdp hun hret
  obtain ⟨ck, c2, c3, c4, c5⟩ := cs
  dsimp only at hk
  subst hk
  k_dflt k_enter
  k_steps
  all_goals (refine hret _ _ _ _ (by assumption) (newsSub (by assumption) (by intro p hp; repeat (first | exact hp | refine List.Mem.tail _ ?_))) (HRet.mk' ?_); first | exact (if_pos (by assumption)).symm | exact ((if_neg (not_not_intro (by assumption))).trans (if_pos (by assumption))).symm | exact ((if_neg (not_not_intro (by assumption))).trans (if_neg (by assumption))).symm)

theorem h_c6 (w : World) (d dx oct ml : Addr) (i : Int) (ti t1 t2 t3 : Tok) (news : Led) (vs : List Value) (nn : Nat) (b : Int) (tb : Tok) (b1 : Int) (tb1 : Tok) (h0 : 0 ≤ i) (h1 : i < 1000) (hb : vs[i.toNat]? = some (.int b tb)) (hb0 : 0 ≤ b) (hb1 : b < 256) (hc : vs[(i + 1).toNat]? = some (.int b1 tb1)) (hc0 : 0 ≤ b1) (hc1 : b1 < 256)
    (hMk : KstMark) (hne : d ≠ dx) (hne2 : oct ≠ dx) (hoff : OwnOff news [dx]) :
    Claim w 8 172 [.ref d] (self4 w d dx oct ml i ti t1 t2 t3 vs nn news) (HRet w d dx oct ml (i + 1 + 1) t1 t2 t3 vs nn news (Str.ofString "pop " ++ regText (Str.ofString "wR") (rangeM (b1 / 16) (b1 % 16)))) := by
  k_with_none
  have hi63 : i < 2 ^ 63 := by omega
  have hj63 : i + 1 < 2 ^ 63 := by omega
  have hj0 : 0 ≤ i + 1 := by omega
  k_with "bsI" => first | (k_dflt (refine' oct_item ?l hj0 hj63 hc ?_; (case l => exact News.isList (by k_asm) (by k_mem)))) | (k_dflt (refine' oct_item ?l h0 hi63 hb ?_; (case l => exact News.isList (by k_asm) (by k_mem))))
  k_with "bsC" => first | ((with_reducible show wpAny _ _ (call (Value.ref 71) _ _) _ _ _); (rename News _ _ _ _ => nwX); k_dflt (refine' Claim.use nwX (calc_range w d _ _ _ _ hS0 hS1 hC0 hC1 _) ?B ?F ?X ?T rfl ?hd ?hu ?_; (case B => k_asm); (case F => k_asm); (case X => k_asm); (case T => k_asm); (case hd => k_room); (case hu => k_units)); intro v9 news9 h9 tk9 F9 N9 hR9; obtain ⟨rfl, t9, rfl⟩ := hR9; (try k_sweep)) | ((with_reducible show wpAny _ _ (call (Value.ref 81) _ _) _ _ _); (rename News _ _ _ _ => nwX); k_dflt (refine' Claim.use nwX (print_regs w d dx oct ml _ _ _ _ _ _ _ _ _ _ (by decide)) ?B ?F ?X ?T rfl ?hd ?hu ?_; (case B => k_asm); (case F => k_asm); (case X => k_asm); (case T => k_asm); (case hd => k_room); (case hu => k_units)); intro v9 news9 h9 tk9 F9 N9 hR9; obtain ⟨rfl, t9, rfl⟩ := hR9; (try k_sweep))
  k_with "bsP" => (refine fmt_pop (regText_len _ (by decide)) ?_; intro _ _)
  obtain ⟨⟨hS0, hS1⟩, hT0, hT1, hC0, hC1⟩ := calcB hc0 hc1
  dsimp only [Claim, KK, lse, selfD, self4, HRet]
  k_fill
  intro mean mg mb dp un gd cn cs a ccd cl outer A₀ base h₀ L m s Q E B F X N T hk hdp hun hret
  obtain ⟨ck, c2, c3, c4, c5⟩ := cs
  dsimp only at hk
  subst hk
  k_dflt k_enter
  k_steps
  all_goals (refine hret _ _ _ _ (by assumption) (newsSub (by assumption) (by intro p hp; repeat (first | exact hp | refine List.Mem.tail _ ?_))) (HRet.mk' ?_); rw [hi4 hc0 hc1, lo4])

theorem h_c8 (w : World) (d dx oct ml : Addr) (i : Int) (ti t1 t2 t3 : Tok) (news : Led) (vs : List Value) (nn : Nat) (b : Int) (tb : Tok) (b1 : Int) (tb1 : Tok) (h0 : 0 ≤ i) (h1 : i < 1000) (hb : vs[i.toNat]? = some (.int b tb)) (hb0 : 0 ≤ b) (hb1 : b < 256) (hc : vs[(i + 1).toNat]? = some (.int b1 tb1)) (hc0 : 0 ≤ b1) (hc1 : b1 < 256)
    (hMk : KstMark) (hne : d ≠ dx) (hne2 : oct ≠ dx) (hoff : OwnOff news [dx]) :
    Claim w 8 186 [.ref d] (self4 w d dx oct ml i ti t1 t2 t3 vs nn news) (HRet w d dx oct ml (i + 1 + 1) t1 t2 t3 vs nn news (Str.ofString "pop " ++ regText (Str.ofString "d") (rangeM (16 + b1 / 16) (b1 % 16)))) := by
  k_with_none
  have hi63 : i < 2 ^ 63 := by omega
  have hj63 : i + 1 < 2 ^ 63 := by omega
  have hj0 : 0 ≤ i + 1 := by omega
  k_with "bsI" => first | (k_dflt (refine' oct_item ?l hj0 hj63 hc ?_; (case l => exact News.isList (by k_asm) (by k_mem)))) | (k_dflt (refine' oct_item ?l h0 hi63 hb ?_; (case l => exact News.isList (by k_asm) (by k_mem))))
  k_with "bsC" => first | ((with_reducible show wpAny _ _ (call (Value.ref 71) _ _) _ _ _); (rename News _ _ _ _ => nwX); k_dflt (refine' Claim.use nwX (calc_range w d _ _ _ _ hT0 hT1 hC0 hC1 _) ?B ?F ?X ?T rfl ?hd ?hu ?_; (case B => k_asm); (case F => k_asm); (case X => k_asm); (case T => k_asm); (case hd => k_room); (case hu => k_units)); intro v9 news9 h9 tk9 F9 N9 hR9; obtain ⟨rfl, t9, rfl⟩ := hR9; (try k_sweep)) | ((with_reducible show wpAny _ _ (call (Value.ref 81) _ _) _ _ _); (rename News _ _ _ _ => nwX); k_dflt (refine' Claim.use nwX (print_regs w d dx oct ml _ _ _ _ _ _ _ _ _ _ (by decide)) ?B ?F ?X ?T rfl ?hd ?hu ?_; (case B => k_asm); (case F => k_asm); (case X => k_asm); (case T => k_asm); (case hd => k_room); (case hu => k_units)); intro v9 news9 h9 tk9 F9 N9 hR9; obtain ⟨rfl, t9, rfl⟩ := hR9; (try k_sweep))
  k_with "bsP" => (refine fmt_pop (regText_len _ (by decide)) ?_; intro _ _)
  obtain ⟨⟨hS0, hS1⟩, hT0, hT1, hC0, hC1⟩ := calcB hc0 hc1
  dsimp only [Claim, KK, lse, selfD, self4, HRet]
  k_fill
  intro mean mg mb dp un gd cn cs a ccd cl outer A₀ base h₀ L m s Q E B F X N T hk hdp hun hret
  obtain ⟨ck, c2, c3, c4, c5⟩ := cs
  dsimp only at hk
  subst hk
  k_dflt k_enter
  k_steps
  all_goals (refine hret _ _ _ _ (by assumption) (newsSub (by assumption) (by intro p hp; repeat (first | exact hp | refine List.Mem.tail _ ?_))) (HRet.mk' ?_); rw [hi4 hc0 hc1, lo4])

theorem h_c9 (w : World) (d dx oct ml : Addr) (i : Int) (ti t1 t2 t3 : Tok) (news : Led) (vs : List Value) (nn : Nat) (b : Int) (tb : Tok) (b1 : Int) (tb1 : Tok) (h0 : 0 ≤ i) (h1 : i < 1000) (hb : vs[i.toNat]? = some (.int b tb)) (hb0 : 0 ≤ b) (hb1 : b < 256) (hc : vs[(i + 1).toNat]? = some (.int b1 tb1)) (hc0 : 0 ≤ b1) (hc1 : b1 < 256)
    (hMk : KstMark) (hne : d ≠ dx) (hne2 : oct ≠ dx) (hoff : OwnOff news [dx]) :
    Claim w 8 193 [.ref d] (self4 w d dx oct ml i ti t1 t2 t3 vs nn news) (HRet w d dx oct ml (i + 1 + 1) t1 t2 t3 vs nn news (Str.ofString "pop " ++ regText (Str.ofString "d") (rangeM (b1 / 16) (b1 % 16)))) := by
  k_with_none
  have hi63 : i < 2 ^ 63 := by omega
  have hj63 : i + 1 < 2 ^ 63 := by omega
  have hj0 : 0 ≤ i + 1 := by omega
  k_with "bsI" => first | (k_dflt (refine' oct_item ?l hj0 hj63 hc ?_; (case l => exact News.isList (by k_asm) (by k_mem)))) | (k_dflt (refine' oct_item ?l h0 hi63 hb ?_; (case l => exact News.isList (by k_asm) (by k_mem))))
  k_with "bsC" => first | ((with_reducible show wpAny _ _ (call (Value.ref 71) _ _) _ _ _); (rename News _ _ _ _ => nwX); k_dflt (refine' Claim.use nwX (calc_range w d _ _ _ _ hS0 hS1 hC0 hC1 _) ?B ?F ?X ?T rfl ?hd ?hu ?_; (case B => k_asm); (case F => k_asm); (case X => k_asm); (case T => k_asm); (case hd => k_room); (case hu => k_units)); intro v9 news9 h9 tk9 F9 N9 hR9; obtain ⟨rfl, t9, rfl⟩ := hR9; (try k_sweep)) | ((with_reducible show wpAny _ _ (call (Value.ref 81) _ _) _ _ _); (rename News _ _ _ _ => nwX); k_dflt (refine' Claim.use nwX (print_regs w d dx oct ml _ _ _ _ _ _ _ _ _ _ (by decide)) ?B ?F ?X ?T rfl ?hd ?hu ?_; (case B => k_asm); (case F => k_asm); (case X => k_asm); (case T => k_asm); (case hd => k_room); (case hu => k_units)); intro v9 news9 h9 tk9 F9 N9 hR9; obtain ⟨rfl, t9, rfl⟩ := hR9; (try k_sweep))
  k_with "bsP" => (refine fmt_pop (regText_len _ (by decide)) ?_; intro _ _)
  obtain ⟨⟨hS0, hS1⟩, hT0, hT1, hC0, hC1⟩ := calcB hc0 hc1
  dsimp only [Claim, KK, lse, selfD, self4, HRet]
  k_fill
  intro mean mg mb dp un gd cn cs a ccd cl outer A₀ base h₀ L m s Q E B F X N T hk hdp hun hret
  obtain ⟨ck, c2, c3, c4, c5⟩ := cs
  dsimp only at hk
  subst hk
  k_dflt k_enter
  k_steps
  all_goals (refine hret _ _ _ _ (by assumption) (newsSub (by assumption) (by intro p hp; repeat (first | exact hp | refine List.Mem.tail _ ?_))) (HRet.mk' ?_); rw [hi4 hc0 hc1, lo4])

theorem h_b3 (w : World) (d dx oct ml : Addr) (i : Int) (ti t1 t2 t3 : Tok) (news : Led) (vs : List Value) (nn : Nat) (b : Int) (tb : Tok) (b1 : Int) (tb1 : Tok) (h0 : 0 ≤ i) (h1 : i < 1000) (hb : vs[i.toNat]? = some (.int b tb)) (hb0 : 0 ≤ b) (hb1 : b < 256) (hc : vs[(i + 1).toNat]? = some (.int b1 tb1)) (hc0 : 0 ≤ b1) (hc1 : b1 < 256)
    (hMk : KstMark) (hne : d ≠ dx) (hne2 : oct ≠ dx) (hoff : OwnOff news [dx]) :
    Claim w 10 151 [.ref d] (self4 w d dx oct ml i ti t1 t2 t3 vs nn news) (HRet w d dx oct ml (i + 1 + 1) t1 t2 t3 vs nn news (Str.ofString "pop " ++ regText (Str.ofString "d") (rangeM (b1 / 16) (b1 % 16)))) := by
  k_with_none
  have hi63 : i < 2 ^ 63 := by omega
  have hj63 : i + 1 < 2 ^ 63 := by omega
  have hj0 : 0 ≤ i + 1 := by omega
  k_with "bsI" => first | (k_dflt (refine' oct_item ?l hj0 hj63 hc ?_; (case l => exact News.isList (by k_asm) (by k_mem)))) | (k_dflt (refine' oct_item ?l h0 hi63 hb ?_; (case l => exact News.isList (by k_asm) (by k_mem))))
  k_with "bsC" => ((with_reducible show wpAny _ _ (call (Value.ref 193) _ _) _ _ _); (rename News _ _ _ _ => nwX); k_dflt (refine' Claim.use nwX (h_c9 w d dx oct ml i _ _ _ _ news vs nn b tb b1 tb1 h0 h1 hb hb0 hb1 hc hc0 hc1 hMk hne hne2 hoff) ?B ?F ?X ?T rfl ?hd ?hu ?_; (case B => k_asm); (case F => k_asm); (case X => k_asm); (case T => k_asm); (case hd => k_room); (case hu => k_units)); intro v9 news9 h9 tk9 F9 N9 hR9; obtain ⟨ti9, t9, rfl, rfl⟩ := hR9; (try k_sweep))
  dsimp only [Claim, KK, lse, selfD, self4, HRet]
  k_fill
  intro mean mg mb dp un gd cn cs a ccd cl outer A₀ base h₀ L m s Q E B F X N T hk hdp hun hret
  obtain ⟨ck, c2, c3, c4, c5⟩ := cs
  dsimp only at hk
  subst hk
  k_dflt k_enter
  k_steps
  all_goals exact hret _ _ _ _ (by assumption) (newsSub (by assumption) (by intro p hp; repeat (first | exact hp | refine List.Mem.tail _ ?_))) ⟨_, _, rfl, rfl⟩

theorem h_b4 (w : World) (d dx oct ml : Addr) (i : Int) (ti t1 t2 t3 : Tok) (news : Led) (vs : List Value) (nn : Nat) (b : Int) (tb : Tok) (h0 : 0 ≤ i) (h1 : i < 1000) (hb : vs[i.toNat]? = some (.int b tb)) (hb0 : 0 ≤ b) (hb1 : b < 256)
    (hMk : KstMark) (hne : d ≠ dx) (hne2 : oct ≠ dx) (hoff : OwnOff news [dx]) :
    Claim w 10 158 [.ref d] (self4 w d dx oct ml i ti t1 t2 t3 vs nn news) (HRet w d dx oct ml (i + 1) t1 t2 t3 vs nn news (Str.ofString "spare")) := by
  k_with_none
  have hi63 : i < 2 ^ 63 := by omega
  k_with "bsI" => (k_dflt (refine' oct_item ?l h0 hi63 hb ?_; (case l => exact News.isList (by k_asm) (by k_mem))))
  k_with "bsC" => ((with_reducible show wpAny _ _ (call (Value.ref 228) _ _) _ _ _); (rename News _ _ _ _ => nwX); k_dflt (refine' Claim.use nwX (h_spare w d dx oct ml i _ _ _ _ news vs nn b tb h0 h1 hb hb0 hb1 hMk hne hne2 hoff) ?B ?F ?X ?T rfl ?hd ?hu ?_; (case B => k_asm); (case F => k_asm); (case X => k_asm); (case T => k_asm); (case hd => k_room); (case hu => k_units)); intro v9 news9 h9 tk9 F9 N9 hR9; obtain ⟨ti9, t9, rfl, rfl⟩ := hR9; (try k_sweep))
  dsimp only [Claim, KK, lse, selfD, self4, HRet]
  k_fill
  intro mean mg mb dp un gd cn cs a ccd cl outer A₀ base h₀ L m s Q E B F X N T hk hdp hun hret
  obtain ⟨ck, c2, c3, c4, c5⟩ := cs
  dsimp only at hk
  subst hk
  k_dflt k_enter
  k_steps
  all_goals exact hret _ _ _ _ (by assumption) (newsSub (by assumption) (by intro p hp; repeat (first | exact hp | refine List.Mem.tail _ ?_))) ⟨_, _, rfl, rfl⟩

theorem h_c8s (w : World) (d dx oct ml : Addr) (i : Int) (ti t1 t2 t3 : Tok) (news : Led) (vs : List Value) (nn : Nat) (b : Int) (tb : Tok) (h0 : 0 ≤ i) (h1 : i < 1000) (hb : vs[i.toNat]? = some (.int b tb)) (hb0 : 0 ≤ b) (hb1 : b < 256)
    (hMk : KstMark) (hne : d ≠ dx) (hne2 : oct ≠ dx) (hoff : OwnOff news [dx]) :
    Claim w 10 200 [.ref d] (self4 w d dx oct ml i ti t1 t2 t3 vs nn news) (HRet w d dx oct ml (i + 1) t1 t2 t3 vs nn news (Str.ofString "spare")) := by
  k_with_none
  have hi63 : i < 2 ^ 63 := by omega
  k_with "bsI" => (k_dflt (refine' oct_item ?l h0 hi63 hb ?_; (case l => exact News.isList (by k_asm) (by k_mem))))
  k_with "bsC" => ((with_reducible show wpAny _ _ (call (Value.ref 228) _ _) _ _ _); (rename News _ _ _ _ => nwX); k_dflt (refine' Claim.use nwX (h_spare w d dx oct ml i _ _ _ _ news vs nn b tb h0 h1 hb hb0 hb1 hMk hne hne2 hoff) ?B ?F ?X ?T rfl ?hd ?hu ?_; (case B => k_asm); (case F => k_asm); (case X => k_asm); (case T => k_asm); (case hd => k_room); (case hu => k_units)); intro v9 news9 h9 tk9 F9 N9 hR9; obtain ⟨ti9, t9, rfl, rfl⟩ := hR9; (try k_sweep))
  dsimp only [Claim, KK, lse, selfD, self4, HRet]
  k_fill
  intro mean mg mb dp un gd cn cs a ccd cl outer A₀ base h₀ L m s Q E B F X N T hk hdp hun hret
  obtain ⟨ck, c2, c3, c4, c5⟩ := cs
  dsimp only at hk
  subst hk
  k_dflt k_enter
  k_steps
  all_goals exact hret _ _ _ _ (by assumption) (newsSub (by assumption) (by intro p hp; repeat (first | exact hp | refine List.Mem.tail _ ?_))) ⟨_, _, rfl, rfl⟩

theorem h_ff (w : World) (d dx oct ml : Addr) (i : Int) (ti t1 t2 t3 : Tok) (news : Led) (vs : List Value) (nn : Nat) (b : Int) (tb : Tok) (h0 : 0 ≤ i) (h1 : i < 1000) (hb : vs[i.toNat]? = some (.int b tb)) (hb0 : 0 ≤ b) (hb1 : b < 256)
    (hMk : KstMark) (hne : d ≠ dx) (hne2 : oct ≠ dx) (hoff : OwnOff news [dx]) :
    Claim w 10 221 [.ref d] (self4 w d dx oct ml i ti t1 t2 t3 vs nn news) (HRet w d dx oct ml (i + 1) t1 t2 t3 vs nn news (Str.ofString "spare")) := by
  k_with_none
  have hi63 : i < 2 ^ 63 := by omega
  k_with "bsI" => (k_dflt (refine' oct_item ?l h0 hi63 hb ?_; (case l => exact News.isList (by k_asm) (by k_mem))))
  k_with "bsC" => ((with_reducible show wpAny _ _ (call (Value.ref 228) _ _) _ _ _); (rename News _ _ _ _ => nwX); k_dflt (refine' Claim.use nwX (h_spare w d dx oct ml i _ _ _ _ news vs nn b tb h0 h1 hb hb0 hb1 hMk hne hne2 hoff) ?B ?F ?X ?T rfl ?hd ?hu ?_; (case B => k_asm); (case F => k_asm); (case X => k_asm); (case T => k_asm); (case hd => k_room); (case hu => k_units)); intro v9 news9 h9 tk9 F9 N9 hR9; obtain ⟨ti9, t9, rfl, rfl⟩ := hR9; (try k_sweep))
  dsimp only [Claim, KK, lse, selfD, self4, HRet]
  k_fill
  intro mean mg mb dp un gd cn cs a ccd cl outer A₀ base h₀ L m s Q E B F X N T hk hdp hun hret
  obtain ⟨ck, c2, c3, c4, c5⟩ := cs
  dsimp only at hk
  subst hk
  k_dflt k_enter
  k_steps
  all_goals exact hret _ _ _ _ (by assumption) (newsSub (by assumption) (by intro p hp; repeat (first | exact hp | refine List.Mem.tail _ ?_))) ⟨_, _, rfl, rfl⟩

theorem h_d0 (w : World) (d dx oct ml : Addr) (i : Int) (ti t1 t2 t3 : Tok) (news : Led) (vs : List Value) (nn : Nat) (b : Int) (tb : Tok) (h0 : 0 ≤ i) (h1 : i < 1000) (hb : vs[i.toNat]? = some (.int b tb)) (hb0 : 0 ≤ b) (hb1 : b < 256)
    (hMk : KstMark) (hne : d ≠ dx) (hne2 : oct ≠ dx) (hoff : OwnOff news [dx]) :
    Claim w 10 214 [.ref d] (self4 w d dx oct ml i ti t1 t2 t3 vs nn news) (HRet w d dx oct ml (i + 1) t1 t2 t3 vs nn news (Str.ofString "pop " ++ regText (Str.ofString "d") (rangeM 8 (Builtin.bitAnd b 7)))) := by
  k_with_none
  have hi63 : i < 2 ^ 63 := by omega
  k_with "bsI" => (k_dflt (refine' oct_item ?l h0 hi63 hb ?_; (case l => exact News.isList (by k_asm) (by k_mem))))
  k_with "bsC" => ((with_reducible show wpAny _ _ (call (Value.ref 165) _ _) _ _ _); (rename News _ _ _ _ => nwX); k_dflt (refine' Claim.use nwX (h_b8 w d dx oct ml i _ _ _ _ news vs nn b tb h0 h1 hb hb0 hb1 hMk hne hne2 hoff) ?B ?F ?X ?T rfl ?hd ?hu ?_; (case B => k_asm); (case F => k_asm); (case X => k_asm); (case T => k_asm); (case hd => k_room); (case hu => k_units)); intro v9 news9 h9 tk9 F9 N9 hR9; obtain ⟨ti9, t9, rfl, rfl⟩ := hR9; (try k_sweep))
  dsimp only [Claim, KK, lse, selfD, self4, HRet]
  k_fill
  intro mean mg mb dp un gd cn cs a ccd cl outer A₀ base h₀ L m s Q E B F X N T hk hdp hun hret
  obtain ⟨ck, c2, c3, c4, c5⟩ := cs
  dsimp only at hk
  subst hk
  k_dflt k_enter
  k_steps
  all_goals exact hret _ _ _ _ (by assumption) (newsSub (by assumption) (by intro p hp; repeat (first | exact hp | refine List.Mem.tail _ ?_))) ⟨_, _, rfl, rfl⟩

theorem top_off8 : True := by
  w_top off
  exact True.intro
theorem pe_name (w : World) (n : PySem.Str) (t : Tok) (news : Led) (hlen : n.length ≤ 100) (hsl : (Txt.slice n none (some 2) == Str.ofString "__") = false) :
    Claim w 4 28 [.str n t] news (fun news' v => news' = news ∧ v = .str n t) := by
  k_with_none
  dsimp only [Claim, KK, lse]
  k_fill
  intro mean mg mb dp un gd cn cs a ccd cl outer A₀ base h₀ L m s Q E B F X N T hk hdp hun hret
  obtain ⟨ck, c2, c3, c4, c5⟩ := cs
  dsimp only at hk
  subst hk
  k_dflt k_enter
  k_steps
  all_goals exact hret _ _ _ _ (by assumption) (newsSub (by assumption) (by intro p hp; repeat (first | exact hp | refine List.Mem.tail _ ?_))) ⟨rfl, rfl⟩

theorem top_off9 : True := by
  w_top off
  exact True.intro
structure RowD where
  mask : Int
  vl : Int
  hn : PySem.Str
  fn : Addr
  two : Bool
def rows : List RowD := [
  ⟨192, 0, Str.ofString "_decode_00xxxxxx", 56, false⟩,
  ⟨192, 64, Str.ofString "_decode_01xxxxxx", 63, false⟩,
  ⟨240, 128, Str.ofString "_decode_1000iiii_iiiiiiii", 88, true⟩,
  ⟨255, 157, Str.ofString "_decode_10011101", 95, false⟩,
  ⟨255, 159, Str.ofString "_decode_10011111", 102, false⟩,
  ⟨240, 144, Str.ofString "_decode_1001nnnn", 109, false⟩,
  ⟨248, 160, Str.ofString "_decode_10100nnn", 116, false⟩,
  ⟨248, 168, Str.ofString "_decode_10101nnn", 123, false⟩,
  ⟨255, 176, Str.ofString "_decode_10110000", 130, false⟩,
  ⟨255, 177, Str.ofString "_decode_10110001_0000iiii", 137, true⟩,
  ⟨255, 178, Str.ofString "_decode_10110010_uleb128", 144, false⟩,
  ⟨255, 179, Str.ofString "_decode_10110011_sssscccc", 151, true⟩,
  ⟨252, 180, Str.ofString "_decode_101101nn", 158, false⟩,
  ⟨248, 184, Str.ofString "_decode_10111nnn", 165, false⟩,
  ⟨255, 198, Str.ofString "_decode_11000110_sssscccc", 172, true⟩,
  ⟨255, 199, Str.ofString "_decode_11000111_0000iiii", 179, true⟩,
  ⟨255, 200, Str.ofString "_decode_11001000_sssscccc", 186, true⟩,
  ⟨255, 201, Str.ofString "_decode_11001001_sssscccc", 193, true⟩,
  ⟨200, 200, Str.ofString "_decode_11001yyy", 200, false⟩,
  ⟨248, 192, Str.ofString "_decode_11000nnn", 207, false⟩,
  ⟨248, 208, Str.ofString "_decode_11010nnn", 214, false⟩,
  ⟨192, 192, Str.ofString "_decode_11xxxyyy", 221, false⟩]
/-- the words of row r for the octets b, c -/
def txt (r : Nat) (b b1 : Int) : PySem.Str := match r with
  | 0 => Str.ofString "vsp = vsp + " ++ Str.ofString (toString (b % 64 * 4 + 4))
  | 1 => Str.ofString "vsp = vsp - " ++ Str.ofString (toString (b % 64 * 4 + 4))
  | 2 => if Builtin.bitOr (b1 * 2 ^ Int.toNat 4) (Builtin.bitAnd b 15 * 2 ^ Int.toNat 12) = 0 then Str.ofString "refuse to unwind" else Str.ofString "pop " ++ gprText (Builtin.bitOr (b1 * 2 ^ Int.toNat 4) (Builtin.bitAnd b 15 * 2 ^ Int.toNat 12))
  | 3 => Str.ofString "reserved (ARM MOVrr)"
  | 4 => Str.ofString "reserved (WiMMX MOVrr)"
  | 5 => Str.ofString "vsp = r" ++ Str.ofString (toString (b % 16))
  | 6 => Str.ofString "pop " ++ gprText (rangeM 4 (Builtin.bitAnd b 7))
  | 7 => Str.ofString "pop " ++ gprText (Builtin.bitOr (rangeM 4 (Builtin.bitAnd b 7)) (1 * 2 ^ Int.toNat 14))
  | 8 => Str.ofString "finish"
  | 9 => if Builtin.bitAnd b1 240 ≠ 0 then Str.ofString "spare" else if b1 = 0 then Str.ofString "spare" else Str.ofString "pop " ++ gprText (Builtin.bitAnd b1 15)
  | 11 => Str.ofString "pop " ++ regText (Str.ofString "d") (rangeM (b1 / 16) (b1 % 16))
  | 12 => Str.ofString "spare"
  | 13 => Str.ofString "pop " ++ regText (Str.ofString "d") (rangeM 8 (Builtin.bitAnd b 7))
  | 14 => Str.ofString "pop " ++ regText (Str.ofString "wR") (rangeM (b1 / 16) (b1 % 16))
  | 15 => if Builtin.bitAnd b1 240 ≠ 0 then Str.ofString "spare" else if b1 = 0 then Str.ofString "spare" else Str.ofString "pop " ++ regText (Str.ofString "wCGR") (Builtin.bitAnd b1 15)
  | 16 => Str.ofString "pop " ++ regText (Str.ofString "d") (rangeM (16 + b1 / 16) (b1 % 16))
  | 17 => Str.ofString "pop " ++ regText (Str.ofString "d") (rangeM (b1 / 16) (b1 % 16))
  | 18 => Str.ofString "spare"
  | 19 => Str.ofString "pop " ++ regText (Str.ofString "wR") (rangeM 10 (Builtin.bitAnd b 7))
  | 20 => Str.ofString "pop " ++ regText (Str.ofString "d") (rangeM 8 (Builtin.bitAnd b 7))
  | 21 => Str.ofString "spare"
  | _ => Str.empty
/-- what the written part says of a row -/
structure RowOk (w : World) (a : Addr) (r : RowD) : Prop where
  obj : ∃ ta tb tc, (hd.heap_39 w.params).lookup a = some { cls := .type "tuple", data := .seq #[.int r.mask ta, .int r.vl tb, .str r.hn tc] }
  hg : plainGet (hd.heap_39 w.params) 254 r.hn = true
  ha : findIn (hd.heap_39 w.params) (.ref 254) r.hn = some (some (.ref r.fn))
  hf : isFn (hd.heap_39 w.params) (.ref r.fn) = true
  hm : fnIn (hd.heap_39 w.params) r.fn = true
  hgf : specialIn (hd.heap_39 w.params) (.ref r.fn) "__get__" = some (some (.builtin "function.__get__"))
  ht : takesIn (hd.heap_39 w.params) (.ref r.fn) = some false
  hc : copiedNames.contains r.hn = false
  hl : ∀ (w' : World) (oct : Addr) (i : Int) (ti : Tok) (v : Value) (t1 t2 t3 : Tok), getL r.hn [{ hash := PyData.keyHash w'.params (Str.ofString "_bytecode_array"), key := Value.str (Str.ofString "_bytecode_array") t1, val := Value.ref oct },
    { hash := PyData.keyHash w'.params (Str.ofString "_index"), key := Value.str (Str.ofString "_index") t2, val := Value.int i ti },
    { hash := PyData.keyHash w'.params (Str.ofString "mnemonic_array"), key := Value.str (Str.ofString "mnemonic_array") t3, val := v }] = some none
  len : r.hn.length ≤ 100
  sl : (Txt.slice r.hn none (some 2) == Str.ofString "__") = false
theorem hasDict254 (w : World) : hasDictIn (hd.heap_39 w.params) 254 = true := by rfl
theorem row0 (w : World) : RowOk w 229 ⟨192, 0, Str.ofString "_decode_00xxxxxx", 56, false⟩ :=
  ⟨⟨_, _, _, rfl⟩, by kernel_rfl, by kernel_rfl, by kernel_rfl, by kernel_rfl, by kernel_rfl, by kernel_rfl, by decide +kernel, fun _ _ _ _ _ _ _ _ => rfl, by decide +kernel, by decide +kernel⟩
theorem row1 (w : World) : RowOk w 230 ⟨192, 64, Str.ofString "_decode_01xxxxxx", 63, false⟩ :=
  ⟨⟨_, _, _, rfl⟩, by kernel_rfl, by kernel_rfl, by kernel_rfl, by kernel_rfl, by kernel_rfl, by kernel_rfl, by decide +kernel, fun _ _ _ _ _ _ _ _ => rfl, by decide +kernel, by decide +kernel⟩
theorem row2 (w : World) : RowOk w 231 ⟨240, 128, Str.ofString "_decode_1000iiii_iiiiiiii", 88, true⟩ :=
  ⟨⟨_, _, _, rfl⟩, by kernel_rfl, by kernel_rfl, by kernel_rfl, by kernel_rfl, by kernel_rfl, by kernel_rfl, by decide +kernel, fun _ _ _ _ _ _ _ _ => rfl, by decide +kernel, by decide +kernel⟩
theorem row3 (w : World) : RowOk w 232 ⟨255, 157, Str.ofString "_decode_10011101", 95, false⟩ :=
  ⟨⟨_, _, _, rfl⟩, by kernel_rfl, by kernel_rfl, by kernel_rfl, by kernel_rfl, by kernel_rfl, by kernel_rfl, by decide +kernel, fun _ _ _ _ _ _ _ _ => rfl, by decide +kernel, by decide +kernel⟩
theorem row4 (w : World) : RowOk w 233 ⟨255, 159, Str.ofString "_decode_10011111", 102, false⟩ :=
  ⟨⟨_, _, _, rfl⟩, by kernel_rfl, by kernel_rfl, by kernel_rfl, by kernel_rfl, by kernel_rfl, by kernel_rfl, by decide +kernel, fun _ _ _ _ _ _ _ _ => rfl, by decide +kernel, by decide +kernel⟩
theorem row5 (w : World) : RowOk w 234 ⟨240, 144, Str.ofString "_decode_1001nnnn", 109, false⟩ :=
  ⟨⟨_, _, _, rfl⟩, by kernel_rfl, by kernel_rfl, by kernel_rfl, by kernel_rfl, by kernel_rfl, by kernel_rfl, by decide +kernel, fun _ _ _ _ _ _ _ _ => rfl, by decide +kernel, by decide +kernel⟩
theorem row6 (w : World) : RowOk w 235 ⟨248, 160, Str.ofString "_decode_10100nnn", 116, false⟩ :=
  ⟨⟨_, _, _, rfl⟩, by kernel_rfl, by kernel_rfl, by kernel_rfl, by kernel_rfl, by kernel_rfl, by kernel_rfl, by decide +kernel, fun _ _ _ _ _ _ _ _ => rfl, by decide +kernel, by decide +kernel⟩
theorem row7 (w : World) : RowOk w 236 ⟨248, 168, Str.ofString "_decode_10101nnn", 123, false⟩ :=
  ⟨⟨_, _, _, rfl⟩, by kernel_rfl, by kernel_rfl, by kernel_rfl, by kernel_rfl, by kernel_rfl, by kernel_rfl, by decide +kernel, fun _ _ _ _ _ _ _ _ => rfl, by decide +kernel, by decide +kernel⟩
theorem row8 (w : World) : RowOk w 237 ⟨255, 176, Str.ofString "_decode_10110000", 130, false⟩ :=
  ⟨⟨_, _, _, rfl⟩, by kernel_rfl, by kernel_rfl, by kernel_rfl, by kernel_rfl, by kernel_rfl, by kernel_rfl, by decide +kernel, fun _ _ _ _ _ _ _ _ => rfl, by decide +kernel, by decide +kernel⟩
theorem row9 (w : World) : RowOk w 238 ⟨255, 177, Str.ofString "_decode_10110001_0000iiii", 137, true⟩ :=
  ⟨⟨_, _, _, rfl⟩, by kernel_rfl, by kernel_rfl, by kernel_rfl, by kernel_rfl, by kernel_rfl, by kernel_rfl, by decide +kernel, fun _ _ _ _ _ _ _ _ => rfl, by decide +kernel, by decide +kernel⟩
theorem row10 (w : World) : RowOk w 239 ⟨255, 178, Str.ofString "_decode_10110010_uleb128", 144, false⟩ :=
  ⟨⟨_, _, _, rfl⟩, by kernel_rfl, by kernel_rfl, by kernel_rfl, by kernel_rfl, by kernel_rfl, by kernel_rfl, by decide +kernel, fun _ _ _ _ _ _ _ _ => rfl, by decide +kernel, by decide +kernel⟩
theorem row11 (w : World) : RowOk w 240 ⟨255, 179, Str.ofString "_decode_10110011_sssscccc", 151, true⟩ :=
  ⟨⟨_, _, _, rfl⟩, by kernel_rfl, by kernel_rfl, by kernel_rfl, by kernel_rfl, by kernel_rfl, by kernel_rfl, by decide +kernel, fun _ _ _ _ _ _ _ _ => rfl, by decide +kernel, by decide +kernel⟩
theorem row12 (w : World) : RowOk w 241 ⟨252, 180, Str.ofString "_decode_101101nn", 158, false⟩ :=
  ⟨⟨_, _, _, rfl⟩, by kernel_rfl, by kernel_rfl, by kernel_rfl, by kernel_rfl, by kernel_rfl, by kernel_rfl, by decide +kernel, fun _ _ _ _ _ _ _ _ => rfl, by decide +kernel, by decide +kernel⟩
theorem row13 (w : World) : RowOk w 242 ⟨248, 184, Str.ofString "_decode_10111nnn", 165, false⟩ :=
  ⟨⟨_, _, _, rfl⟩, by kernel_rfl, by kernel_rfl, by kernel_rfl, by kernel_rfl, by kernel_rfl, by kernel_rfl, by decide +kernel, fun _ _ _ _ _ _ _ _ => rfl, by decide +kernel, by decide +kernel⟩
theorem row14 (w : World) : RowOk w 243 ⟨255, 198, Str.ofString "_decode_11000110_sssscccc", 172, true⟩ :=
  ⟨⟨_, _, _, rfl⟩, by kernel_rfl, by kernel_rfl, by kernel_rfl, by kernel_rfl, by kernel_rfl, by kernel_rfl, by decide +kernel, fun _ _ _ _ _ _ _ _ => rfl, by decide +kernel, by decide +kernel⟩
theorem row15 (w : World) : RowOk w 244 ⟨255, 199, Str.ofString "_decode_11000111_0000iiii", 179, true⟩ :=
  ⟨⟨_, _, _, rfl⟩, by kernel_rfl, by kernel_rfl, by kernel_rfl, by kernel_rfl, by kernel_rfl, by kernel_rfl, by decide +kernel, fun _ _ _ _ _ _ _ _ => rfl, by decide +kernel, by decide +kernel⟩
theorem row16 (w : World) : RowOk w 245 ⟨255, 200, Str.ofString "_decode_11001000_sssscccc", 186, true⟩ :=
  ⟨⟨_, _, _, rfl⟩, by kernel_rfl, by kernel_rfl, by kernel_rfl, by kernel_rfl, by kernel_rfl, by kernel_rfl, by decide +kernel, fun _ _ _ _ _ _ _ _ => rfl, by decide +kernel, by decide +kernel⟩
theorem row17 (w : World) : RowOk w 246 ⟨255, 201, Str.ofString "_decode_11001001_sssscccc", 193, true⟩ :=
  ⟨⟨_, _, _, rfl⟩, by kernel_rfl, by kernel_rfl, by kernel_rfl, by kernel_rfl, by kernel_rfl, by kernel_rfl, by decide +kernel, fun _ _ _ _ _ _ _ _ => rfl, by decide +kernel, by decide +kernel⟩
theorem row18 (w : World) : RowOk w 247 ⟨200, 200, Str.ofString "_decode_11001yyy", 200, false⟩ :=
  ⟨⟨_, _, _, rfl⟩, by kernel_rfl, by kernel_rfl, by kernel_rfl, by kernel_rfl, by kernel_rfl, by kernel_rfl, by decide +kernel, fun _ _ _ _ _ _ _ _ => rfl, by decide +kernel, by decide +kernel⟩
theorem row19 (w : World) : RowOk w 248 ⟨248, 192, Str.ofString "_decode_11000nnn", 207, false⟩ :=
  ⟨⟨_, _, _, rfl⟩, by kernel_rfl, by kernel_rfl, by kernel_rfl, by kernel_rfl, by kernel_rfl, by kernel_rfl, by decide +kernel, fun _ _ _ _ _ _ _ _ => rfl, by decide +kernel, by decide +kernel⟩
theorem row20 (w : World) : RowOk w 249 ⟨248, 208, Str.ofString "_decode_11010nnn", 214, false⟩ :=
  ⟨⟨_, _, _, rfl⟩, by kernel_rfl, by kernel_rfl, by kernel_rfl, by kernel_rfl, by kernel_rfl, by kernel_rfl, by decide +kernel, fun _ _ _ _ _ _ _ _ => rfl, by decide +kernel, by decide +kernel⟩
theorem row21 (w : World) : RowOk w 250 ⟨192, 192, Str.ofString "_decode_11xxxyyy", 221, false⟩ :=
  ⟨⟨_, _, _, rfl⟩, by kernel_rfl, by kernel_rfl, by kernel_rfl, by kernel_rfl, by kernel_rfl, by kernel_rfl, by decide +kernel, fun _ _ _ _ _ _ _ _ => rfl, by decide +kernel, by decide +kernel⟩

theorem top_off10 : True := by
  w_top off
  exact True.intro
theorem Claim.weaken {w : World} {D D' : Nat} {f : Addr} {vs : List Value} {news : Led} {Ret : Led → Value → Prop} (h : D ≤ D') (C : Claim w D f vs news Ret) : Claim w D' f vs news Ret :=
  fun mean mg mb dp un gd cn cs a ccd cl outer A₀ base h₀ L m s Q E B F X N T hk hd hu ret => C mean mg mb dp un gd cn cs a ccd cl outer A₀ base h₀ L m s Q E B F X N T hk (by omega) (by omega) ret
theorem Claim.at2 {w : World} {D : Nat} {f : Addr} {a : List Value} {l : Led} {d dx oct ml : Addr} {i : Int} {t1 t2 t3 : Tok} {vs : List Value} {nn : Nat} {news : Led} {text : PySem.Str}
    (C : Claim w D f a l (HRet w d dx oct ml (i + 1 + 1) t1 t2 t3 vs nn news text)) : Claim w D f a l (HRet w d dx oct ml (i + 2) t1 t2 t3 vs nn news text) := by
  have e : i + 1 + 1 = i + 2 := by omega
  rw [e] at C
  exact C
theorem claim_hit (w : World) (d dx oct ml : Addr) (i : Int) (ti t1 t2 t3 : Tok) (news : Led) (vs : List Value) (nn : Nat) (r : Nat) (row : RowD) (b : Int) (tb : Tok) (b1 : Int) (tb1 : Tok) (hrow : rows[r]? = some row) (hne10 : r ≠ 10)
    (h0 : 0 ≤ i) (h1 : i < 1000) (hb : vs[i.toNat]? = some (.int b tb)) (hb0 : 0 ≤ b) (hb1 : b < 256) (h2 : row.two = true → vs[(i + 1).toNat]? = some (.int b1 tb1) ∧ 0 ≤ b1 ∧ b1 < 256)
    (hMk : KstMark) (hne : d ≠ dx) (hne2 : oct ≠ dx) (hoff : OwnOff news [dx]) :
    Claim w 10 row.fn [.ref d] (self4 w d dx oct ml i ti t1 t2 t3 vs nn news) (HRet w d dx oct ml (i + (if row.two = true then 2 else 1)) t1 t2 t3 vs nn news (txt r b b1)) := by
  match r, hrow with
  | 0, h =>
    cases h
    exact Claim.weaken (by decide) (h_plus w d dx oct ml i ti t1 t2 t3 news vs nn b tb h0 h1 hb hb0 hb1 hMk hne hne2 hoff)
  | 1, h =>
    cases h
    exact Claim.weaken (by decide) (h_minus w d dx oct ml i ti t1 t2 t3 news vs nn b tb h0 h1 hb hb0 hb1 hMk hne hne2 hoff)
  | 2, h =>
    cases h
    obtain ⟨hc, hc0, hc1⟩ := h2 rfl
    exact Claim.weaken (by decide) (Claim.at2 (h_80 w d dx oct ml i ti t1 t2 t3 news vs nn b tb b1 tb1 h0 h1 hb hb0 hb1 hc hc0 hc1 hMk hne hne2 hoff))
  | 3, h =>
    cases h
    exact Claim.weaken (by decide) (h_9d w d dx oct ml i ti t1 t2 t3 news vs nn b tb h0 h1 hb hb0 hb1 hMk hne hne2 hoff)
  | 4, h =>
    cases h
    exact Claim.weaken (by decide) (h_9f w d dx oct ml i ti t1 t2 t3 news vs nn b tb h0 h1 hb hb0 hb1 hMk hne hne2 hoff)
  | 5, h =>
    cases h
    exact Claim.weaken (by decide) (h_reg w d dx oct ml i ti t1 t2 t3 news vs nn b tb h0 h1 hb hb0 hb1 hMk hne hne2 hoff)
  | 6, h =>
    cases h
    exact Claim.weaken (by decide) (h_a0 w d dx oct ml i ti t1 t2 t3 news vs nn b tb h0 h1 hb hb0 hb1 hMk hne hne2 hoff)
  | 7, h =>
    cases h
    exact Claim.weaken (by decide) (h_a8 w d dx oct ml i ti t1 t2 t3 news vs nn b tb h0 h1 hb hb0 hb1 hMk hne hne2 hoff)
  | 8, h =>
    cases h
    exact Claim.weaken (by decide) (h_fin w d dx oct ml i ti t1 t2 t3 news vs nn b tb h0 h1 hb hb0 hb1 hMk hne hne2 hoff)
  | 9, h =>
    cases h
    obtain ⟨hc, hc0, hc1⟩ := h2 rfl
    exact Claim.weaken (by decide) (Claim.at2 (h_b1 w d dx oct ml i ti t1 t2 t3 news vs nn b tb b1 tb1 h0 h1 hb hb0 hb1 hc hc0 hc1 hMk hne hne2 hoff))
  | 10, h => exact absurd rfl hne10
  | 11, h =>
    cases h
    obtain ⟨hc, hc0, hc1⟩ := h2 rfl
    exact Claim.weaken (by decide) (Claim.at2 (h_b3 w d dx oct ml i ti t1 t2 t3 news vs nn b tb b1 tb1 h0 h1 hb hb0 hb1 hc hc0 hc1 hMk hne hne2 hoff))
  | 12, h =>
    cases h
    exact Claim.weaken (by decide) (h_b4 w d dx oct ml i ti t1 t2 t3 news vs nn b tb h0 h1 hb hb0 hb1 hMk hne hne2 hoff)
  | 13, h =>
    cases h
    exact Claim.weaken (by decide) (h_b8 w d dx oct ml i ti t1 t2 t3 news vs nn b tb h0 h1 hb hb0 hb1 hMk hne hne2 hoff)
  | 14, h =>
    cases h
    obtain ⟨hc, hc0, hc1⟩ := h2 rfl
    exact Claim.weaken (by decide) (Claim.at2 (h_c6 w d dx oct ml i ti t1 t2 t3 news vs nn b tb b1 tb1 h0 h1 hb hb0 hb1 hc hc0 hc1 hMk hne hne2 hoff))
  | 15, h =>
    cases h
    obtain ⟨hc, hc0, hc1⟩ := h2 rfl
    exact Claim.weaken (by decide) (Claim.at2 (h_c7 w d dx oct ml i ti t1 t2 t3 news vs nn b tb b1 tb1 h0 h1 hb hb0 hb1 hc hc0 hc1 hMk hne hne2 hoff))
  | 16, h =>
    cases h
    obtain ⟨hc, hc0, hc1⟩ := h2 rfl
    exact Claim.weaken (by decide) (Claim.at2 (h_c8 w d dx oct ml i ti t1 t2 t3 news vs nn b tb b1 tb1 h0 h1 hb hb0 hb1 hc hc0 hc1 hMk hne hne2 hoff))
  | 17, h =>
    cases h
    obtain ⟨hc, hc0, hc1⟩ := h2 rfl
    exact Claim.weaken (by decide) (Claim.at2 (h_c9 w d dx oct ml i ti t1 t2 t3 news vs nn b tb b1 tb1 h0 h1 hb hb0 hb1 hc hc0 hc1 hMk hne hne2 hoff))
  | 18, h =>
    cases h
    exact Claim.weaken (by decide) (h_c8s w d dx oct ml i ti t1 t2 t3 news vs nn b tb h0 h1 hb hb0 hb1 hMk hne hne2 hoff)
  | 19, h =>
    cases h
    exact Claim.weaken (by decide) (h_c0 w d dx oct ml i ti t1 t2 t3 news vs nn b tb h0 h1 hb hb0 hb1 hMk hne hne2 hoff)
  | 20, h =>
    cases h
    exact Claim.weaken (by decide) (h_d0 w d dx oct ml i ti t1 t2 t3 news vs nn b tb h0 h1 hb hb0 hb1 hMk hne hne2 hoff)
  | 21, h =>
    cases h
    exact Claim.weaken (by decide) (h_ff w d dx oct ml i ti t1 t2 t3 news vs nn b tb h0 h1 hb hb0 hb1 hMk hne hne2 hoff)
  | r + 22, h => exact absurd h (by simp [rows])

theorem top_off11 : True := by
  w_top off
  exact True.intro
/-- a turn of the ring that does not fit; one that fits -/
def MissPost (h₀ : Heap) (L : Addr) (s : Shared) (I : Addr) (o : Obj) (news : Led) (M : (Str → Option Value) → Prop) (f : Flow) (s₃ : Shared) : Prop :=
  f = .next ∧ ∃ h' tk' m', s₃ = { s with heap := h', toks := tk' } ∧ Fr h₀ L h' m' ∧ News h₀ L h' ((I, o) :: news) ∧ M m'
def HitPost (Q : Flow → Shared → Prop) (f : Flow) (s₃ : Shared) : Prop := f = .brk ∧ Q .next s₃
theorem MissPost.intro {h₀ : Heap} {L : Addr} {s : Shared} {I : Addr} {o : Obj} {news : Led} {M : (Str → Option Value) → Prop} {h' : Heap} {tk' : Nat} {m' : Str → Option Value} (F : Fr h₀ L h' m') (N : News h₀ L h' ((I, o) :: news)) (hM : M m') :
    MissPost h₀ L s I o news M .next { s with heap := h', toks := tk' } := ⟨rfl, h', tk', m', rfl, F, N, hM⟩
theorem ring_go {prog : Program} {w : World} {A : Around} {E : Value → Shared → Prop} {h₀ : Heap} {env : Env} {target : Expr} {body : List Stmt} {Q : Flow → Shared → Prop} {s : Shared} {I : Addr} {news : Led} {vs : List Value} {r : Nat}
    (M : (Str → Option Value) → Prop) (hr : r < vs.length) (hI : ∀ p ∈ news, p.1 < I)
    (miss : ∀ j v m h tk o, j < r → vs[j]? = some v → M m → o.cls = .type "tuple_iterator" → Fr h₀ env.locals h m → News h₀ env.locals h ((I, o) :: news) →
      wpAny (model prog w) A (assign target env v) (fun _ s₂ => wpAny (model prog w) A (execs body env) (MissPost h₀ env.locals { s with heap := h, toks := tk } I o news M) E s₂) E { s with heap := h, toks := tk })
    (hit : ∀ v m h tk o, vs[r]? = some v → M m → o.cls = .type "tuple_iterator" → Fr h₀ env.locals h m → News h₀ env.locals h ((I, o) :: news) →
      wpAny (model prog w) A (assign target env v) (fun _ s₂ => wpAny (model prog w) A (execs body env) (HitPost Q) E s₂) E { s with heap := h, toks := tk }) :
    ∀ (n j : Nat) (m : Str → Option Value), j + n = r → M m → ItemsRest prog w A E h₀ env target body Q s [(I, "tuple_iterator")] [] ((vs.drop j).map .val) m news := by
  intro n
  induction n with
  | zero =>
    intro j m hj hM
    obtain rfl : j = r := by omega
    rw [List.drop_eq_getElem_cons hr, List.map_cons]
    refine ItemsRest.val fun h tk F => AllObj.cons fun o ho => AllObj.nil fun N => ?_
    refine wpAny_mono (hit _ m h tk o (List.getElem?_eq_getElem hr) hM ho F N) (fun _ s₂ h₂ => wpAny_mono h₂ (fun f s₃ h₃ => ?_) fun _ _ e => e) fun _ _ e => e
    obtain ⟨rfl, hq⟩ := h₃
    exact hq
  | succ n ih =>
    intro j m hj hM
    have hlt : j < vs.length := by omega
    rw [List.drop_eq_getElem_cons hlt, List.map_cons]
    refine ItemsRest.val fun h tk F => AllObj.cons fun o ho => AllObj.nil fun N => ?_
    refine wpAny_mono (miss j _ m h tk o (by omega) (List.getElem?_eq_getElem hlt) hM ho F N) (fun _ s₂ h₂ => wpAny_mono h₂ (fun f s₃ h₃ => ?_) fun _ _ e => e) fun _ _ e => e
    obtain ⟨rfl, h', tk', m', rfl, F', N', hM'⟩ := h₃
    refine ⟨h', tk', m', news, rfl, F', N', fun p hp q hq => ?_, trivial, ih (j + 1) m' (by omega) hM'⟩
    rw [List.mem_singleton.mp hq]
    exact Nat.ne_of_lt (hI p hp)
theorem ring_go0 {prog : Program} {w : World} {A : Around} {E : Value → Shared → Prop} {h₀ : Heap} {env : Env} {target : Expr} {body : List Stmt} {Q : Flow → Shared → Prop} {s : Shared} {I : Addr} {news : Led} {vs : List Value} {r : Nat} {m₀ : Str → Option Value}
    (M : (Str → Option Value) → Prop) (hr : r < vs.length) (hI : ∀ p ∈ news, p.1 < I)
    (miss : ∀ j v m h tk o, j < r → vs[j]? = some v → M m → o.cls = .type "tuple_iterator" → Fr h₀ env.locals h m → News h₀ env.locals h ((I, o) :: news) →
      wpAny (model prog w) A (assign target env v) (fun _ s₂ => wpAny (model prog w) A (execs body env) (MissPost h₀ env.locals { s with heap := h, toks := tk } I o news M) E s₂) E { s with heap := h, toks := tk })
    (hit : ∀ v m h tk o, vs[r]? = some v → M m → o.cls = .type "tuple_iterator" → Fr h₀ env.locals h m → News h₀ env.locals h ((I, o) :: news) →
      wpAny (model prog w) A (assign target env v) (fun _ s₂ => wpAny (model prog w) A (execs body env) (HitPost Q) E s₂) E { s with heap := h, toks := tk })
    (hM : M m₀) : ItemsRest prog w A E h₀ env target body Q s [(I, "tuple_iterator")] [] (vs.map .val) m₀ news := by
  have h := ring_go M hr hI miss hit r 0 m₀ (by omega) hM
  rw [List.drop_zero] at h
  exact h

theorem top_off12 : True := by
  w_top off
  exact True.intro
def ringVs : List Value := [.ref 229, .ref 230, .ref 231, .ref 232, .ref 233, .ref 234, .ref 235, .ref 236, .ref 237, .ref 238, .ref 239, .ref 240, .ref 241, .ref 242, .ref 243, .ref 244, .ref 245, .ref 246, .ref 247, .ref 248, .ref 249, .ref 250]
theorem rows_at (w : World) (j : Nat) (v : Value) (h : ringVs[j]? = some v) : ∃ row, rows[j]? = some row ∧ v = .ref (229 + j) ∧ RowOk w (229 + j) row := by
  match j, h with
  | 0, h => cases h; exact ⟨_, rfl, rfl, row0 w⟩
  | 1, h => cases h; exact ⟨_, rfl, rfl, row1 w⟩
  | 2, h => cases h; exact ⟨_, rfl, rfl, row2 w⟩
  | 3, h => cases h; exact ⟨_, rfl, rfl, row3 w⟩
  | 4, h => cases h; exact ⟨_, rfl, rfl, row4 w⟩
  | 5, h => cases h; exact ⟨_, rfl, rfl, row5 w⟩
  | 6, h => cases h; exact ⟨_, rfl, rfl, row6 w⟩
  | 7, h => cases h; exact ⟨_, rfl, rfl, row7 w⟩
  | 8, h => cases h; exact ⟨_, rfl, rfl, row8 w⟩
  | 9, h => cases h; exact ⟨_, rfl, rfl, row9 w⟩
  | 10, h => cases h; exact ⟨_, rfl, rfl, row10 w⟩
  | 11, h => cases h; exact ⟨_, rfl, rfl, row11 w⟩
  | 12, h => cases h; exact ⟨_, rfl, rfl, row12 w⟩
  | 13, h => cases h; exact ⟨_, rfl, rfl, row13 w⟩
  | 14, h => cases h; exact ⟨_, rfl, rfl, row14 w⟩
  | 15, h => cases h; exact ⟨_, rfl, rfl, row15 w⟩
  | 16, h => cases h; exact ⟨_, rfl, rfl, row16 w⟩
  | 17, h => cases h; exact ⟨_, rfl, rfl, row17 w⟩
  | 18, h => cases h; exact ⟨_, rfl, rfl, row18 w⟩
  | 19, h => cases h; exact ⟨_, rfl, rfl, row19 w⟩
  | 20, h => cases h; exact ⟨_, rfl, rfl, row20 w⟩
  | 21, h => cases h; exact ⟨_, rfl, rfl, row21 w⟩
  | j + 22, h => exact absurd h (by simp [ringVs])
theorem rows_lt {r : Nat} {row : RowD} (h : rows[r]? = some row) : r < ringVs.length := by
  obtain ⟨h', _⟩ := List.getElem?_eq_some_iff.mp h
  exact h'
/-- how octets are cut: the operations' octets, each with its words -/
inductive Dec : List Int → List (List Int × PySem.Str) → Prop
  | nil : Dec [] []
  | step {r : Nat} {row : RowD} {b b1 : Int} {chunk rest : List Int} {todo : List (List Int × PySem.Str)} (hrow : rows[r]? = some row) (hr10 : r ≠ 10) (hmiss : ∀ j rj, j < r → rows[j]? = some rj → Builtin.bitAnd b rj.mask ≠ rj.vl) (hhit : Builtin.bitAnd b row.mask = row.vl)
      (hb0 : 0 ≤ b) (hb1 : b < 256) (hch : chunk = if row.two = true then [b, b1] else [b]) (hc : row.two = true → 0 ≤ b1 ∧ b1 < 256) (t : Dec rest todo) : Dec (chunk ++ rest) ((chunk, txt r b b1) :: todo)
theorem ints_get : ∀ {vs : List Value} {all : List Int}, IntsAre vs all → ∀ {i : Nat} {b : Int}, all[i]? = some b → ∃ t, vs[i]? = some (.int b t)
  | _, _, .nil, i, b, e => by cases i <;> cases e
  | _, _, .cons n t h, 0, b, e => by cases e; exact ⟨t, rfl⟩
  | _, _, .cons n t h, i + 1, b, e => ints_get h (i := i) (b := b) e
/-- one item that the decoder has made -/
structure Item where
  x : Addr
  dx : Addr
  bl : Addr
  cvs : List Value
  nb : Nat
  chunk : List Int
  text : PySem.Str
  tt : Tok
  k1 : Tok
  k2 : Tok
abbrev itemD (w : World) (bl : Addr) (text : PySem.Str) (tt k1 k2 : Tok) : Obj :=
  dictOf [{ hash := PyData.keyHash w.params (Str.ofString "bytecode"), key := Value.str (Str.ofString "bytecode") k1, val := Value.ref bl },
    { hash := PyData.keyHash w.params (Str.ofString "mnemonic"), key := Value.str (Str.ofString "mnemonic") k2, val := Value.str text tt }] 2
def Item.led (w : World) (it : Item) : Led := [(it.x, instObj 280 it.dx), (it.dx, itemD w it.bl it.text it.tt it.k1 it.k2), (it.bl, listOf it.cvs.toArray it.nb)]
def itemsLed (w : World) (its : List Item) : Led := its.flatMap (Item.led w)
abbrev Item.pair (it : Item) : List Int × PySem.Str := (it.chunk, it.text)
/-- the decoder's own dict, with any value for the list -/
abbrev selfV (w : World) (oct : Addr) (i : Int) (ti : Tok) (v : Value) (t1 t2 t3 : Tok) : Obj :=
  dictOf [{ hash := PyData.keyHash w.params (Str.ofString "_bytecode_array"), key := Value.str (Str.ofString "_bytecode_array") t1, val := Value.ref oct },
    { hash := PyData.keyHash w.params (Str.ofString "_index"), key := Value.str (Str.ofString "_index") t2, val := Value.int i ti },
    { hash := PyData.keyHash w.params (Str.ofString "mnemonic_array"), key := Value.str (Str.ofString "mnemonic_array") t3, val := v }] 3
/-- the decoder, its dict, its octets, its list -/
abbrev self5 (w : World) (d dx oct ml : Addr) (i : Int) (ti t1 t2 t3 : Tok) (vs : List Value) (nn : Nat) (us : List Value) (nm : Nat) (R : Led) : Led :=
  (d, instObj 254 dx) :: (dx, selfD w oct i ti ml t1 t2 t3) :: (oct, listOf vs.toArray nn) :: (ml, listOf us.toArray nm) :: R
/-- between the turns of the while -/
def DJ (w : World) (d dx oct ml : Addr) (t1 t2 t3 : Tok) (vs : List Value) (nn : Nat) (all : List Int) (plan : List (List Int × PySem.Str)) (base : Led) (n : Nat) (m : Str → Option Value) (nx : Led) : Prop :=
  m (Str.ofString "self") = some (.ref d) ∧ ∃ (its : List Item) (i : Nat) (ti : Tok) (nm : Nat) (todo : List (List Int × PySem.Str)),
    nx = self5 w d dx oct ml (i : Int) ti t1 t2 t3 vs nn (its.map fun it => .ref it.x) nm (itemsLed w its ++ base) ∧ Dec (all.drop i) todo ∧ i ≤ all.length ∧ n = all.length - i ∧ its.length ≤ i ∧ its.map Item.pair ++ todo = plan ∧ (∀ it ∈ its, IntsAre it.cvs it.chunk) ∧ OwnOff (itemsLed w its ++ base) [dx, ml]
theorem fr_self {h₀ h : Heap} {L : Addr} {m : Str → Option Value} {x : Str} {v : Value} (F : Fr h₀ L h m) (hm : m x = some v) : Fr h₀ L h (fun y => if y = x then some v else m y) := by
  have e : (fun y => if y = x then some v else m y) = m := by
    funext y
    by_cases hy : y = x
    · rw [if_pos hy, hy, hm]
    · rw [if_neg hy]
  rw [e]; exact F
theorem dec_nil {todo : List (List Int × PySem.Str)} (h : Dec [] todo) : todo = [] := by
  generalize e : ([] : List Int) = l at h
  cases h with
  | nil => rfl
  | step hrow hr10 hmiss hhit hb0 hb1 hch hc t =>
    subst hch
    split at e <;> cases e
/-- the next operation, as the walk wants it -/
theorem dec_inv {vs : List Value} {all : List Int} {i : Nat} {todo : List (List Int × PySem.Str)} (hI : IntsAre vs all) (h : Dec (all.drop i) todo) (hlt : i < all.length) :
    ∃ (r : Nat) (row : RowD) (b b1 : Int) (tb tb1 : Tok) (chunk : List Int) (todo' : List (List Int × PySem.Str)) (len : Nat), rows[r]? = some row ∧ r ≠ 10 ∧ (∀ j rj, j < r → rows[j]? = some rj → Builtin.bitAnd b rj.mask ≠ rj.vl) ∧ Builtin.bitAnd b row.mask = row.vl ∧ 0 ≤ b ∧ b < 256 ∧
      vs[((i : Nat) : Int).toNat]? = some (.int b tb) ∧ (row.two = true → vs[((i : Int) + 1).toNat]? = some (.int b1 tb1) ∧ 0 ≤ b1 ∧ b1 < 256) ∧ len = chunk.length ∧ 1 ≤ len ∧ i + len ≤ all.length ∧ ((if row.two = true then 2 else 1 : Int)) = (len : Int) ∧
      (all.drop i).take len = chunk ∧ Dec (all.drop (i + len)) todo' ∧ todo = (chunk, txt r b b1) :: todo' := by
  generalize e : all.drop i = l at h
  cases h with
  | nil =>
    have := congrArg List.length e
    rw [List.length_drop, List.length_nil] at this
    omega
  | step hrow hr10 hmiss hhit hb0 hb1 hch hc t =>
    rename_i r row b b1 chunk rest todo'
    have hl : chunk.length + rest.length = all.length - i := by rw [← List.length_append, ← e, List.length_drop]
    have hat : ∀ k, (chunk ++ rest)[k]? = all[i + k]? := fun k => by rw [← e, List.getElem?_drop]
    have hrest : all.drop (i + chunk.length) = rest := by rw [← List.drop_drop, e, List.drop_left]
    cases h2 : row.two with
    | true =>
      rw [h2, if_pos rfl] at hch
      subst hch
      obtain ⟨tb, hb⟩ := ints_get hI (i := i) (b := b) (by have := hat 0; simpa using this.symm)
      obtain ⟨tb1, hbc⟩ := ints_get hI (i := i + 1) (b := b1) (by have := hat 1; simpa using this.symm)
      refine ⟨r, row, b, b1, tb, tb1, [b, b1], todo', 2, hrow, hr10, hmiss, hhit, hb0, hb1, by simpa using hb, fun _ => ⟨?_, hc h2⟩, rfl, by decide, ?_, by rw [h2]; rfl, ?_, ?_, rfl⟩
      · have e1 : ((i : Int) + 1).toNat = i + 1 := by omega
        rw [e1]; exact hbc
      · simp only [List.length_cons, List.length_nil] at hl; omega
      · rfl
      · rw [show i + 2 = i + [b, b1].length from rfl, hrest]; exact t
    | false =>
      rw [h2, if_neg (by decide)] at hch
      subst hch
      obtain ⟨tb, hb⟩ := ints_get hI (i := i) (b := b) (by have := hat 0; simpa using this.symm)
      refine ⟨r, row, b, b1, tb, tb, [b], todo', 1, hrow, hr10, hmiss, hhit, hb0, hb1, by simpa using hb, (fun x => by rw [h2] at x; cases x), rfl, by decide, ?_, by rw [h2]; rfl, ?_, ?_, rfl⟩
      · simp only [List.length_cons, List.length_nil] at hl; omega
      · rfl
      · rw [show i + 1 = i + [b].length from rfl, hrest]; exact t

theorem top_off13 : True := by
  w_top off
  exact True.intro
section
variable {w : World} {A : Around} {E : Value → Shared → Prop} {Q : Flow → Shared → Prop} {s : Shared} {env : Env} {h₀ : Heap} {L : Addr}
theorem dec_while {prog : Program} {test : Expr} {body : List Stmt} {pos : Pos} {m : Str → Option Value} {d dx oct ml : Addr} {ti t1 t2 t3 : Tok} {vs : List Value} {nn nm : Nat} {all : List Int} {plan : List (List Int × PySem.Str)} {base : Led}
    (N : News h₀ L s.heap ((ml, listOf [].toArray nm) :: (d, instObj 254 dx) :: (dx, selfD w oct 0 ti ml t1 t2 t3) :: (oct, listOf vs.toArray nn) :: base)) (F : Fr h₀ L s.heap m) (hm : m (Str.ofString "self") = some (.ref d))
    (hlen : all.length ≤ 100) (hD : Dec all plan) (hoff0 : OwnOff base [dx]) (hml : AllLt ml base)
    (turn : ∀ (its : List Item) (us : List Value) (i : Nat) (ti : Tok) (nm : Nat) (todo : List (List Int × PySem.Str)) (R : Led) (h : Heap) (tk : Nat) (u : Str → Option Value),
      R = itemsLed w its ++ base → us = its.map (fun it => .ref it.x) → us.length ≤ 100 → Dec (all.drop i) todo → i ≤ all.length → its.length ≤ i → its.map Item.pair ++ todo = plan → (∀ it ∈ its, IntsAre it.cvs it.chunk) → OwnOff R [dx, ml] →
      Fr h₀ L h (fun y => if y = Str.ofString "self" then some (.ref d) else u y) → News h₀ L h (self5 w d dx oct ml (i : Int) ti t1 t2 t3 vs nn us nm R) →
      wpAny (model prog w) A (isTrue test env (eval test env)) (fun b s₂ => if b = true then wpAny (model prog w) A (execs body env) (WhileStep2 h₀ L s (DJ w d dx oct ml t1 t2 t3 vs nn all plan base) Q (all.length - i)) E s₂ else Q .next s₂) E { s with heap := h, toks := tk })
    (hE : PassesOwn (model prog w) A env E := by passes_own) :
    wpAny (model prog w) A (exec (.While test body [] pos) env) Q E s := by
  refine While_inv2 (DJ w d dx oct ml t1 t2 t3 vs nn all plan base) (n₀ := all.length) F (newsSub N ?_)
    ⟨hm, [], 0, ti, nm, plan, rfl, hD, Nat.zero_le _, rfl, Nat.le_refl _, rfl, (fun _ h => nomatch h), ?_⟩ ?_ hE
  · intro p hp
    rcases List.mem_cons.mp hp with rfl | hp
    · exact .tail _ (.head _)
    rcases List.mem_cons.mp hp with rfl | hp
    · exact .tail _ (.tail _ (.head _))
    rcases List.mem_cons.mp hp with rfl | hp
    · exact .tail _ (.tail _ (.tail _ (.head _)))
    rcases List.mem_cons.mp hp with rfl | hp
    · exact .head _
    · exact .tail _ (.tail _ (.tail _ (.tail _ hp)))
  · intro p hp a ha
    have hp' : p ∈ base := hp
    rcases List.mem_cons.mp ha with rfl | ha
    · exact hoff0 p hp' _ (.head _)
    · rw [List.mem_singleton.mp ha]
      exact Nat.ne_of_lt (kst_ltOf hml p hp')
  · rintro n m₁ nx h tk F₁ N₁ ⟨hm₁, its, i, ti', nm', todo, rfl, hD', hi, rfl, hle, hp, hit, hoff⟩
    exact turn its _ i ti' nm' todo _ h tk m₁ rfl rfl (by rw [List.length_map]; omega) hD' hi hle hp hit hoff (fr_self F₁ hm₁) N₁
theorem dec_end {d dx oct ml x dxi bl : Addr} {i len : Nat} {ti t1 t2 t3 tt k1 k2 : Tok} {vs cvs : List Value} {nn nm nb : Nat} {us : List Value} {its : List Item} {all chunk : List Int} {text : PySem.Str} {todo plan : List (List Int × PySem.Str)} {base R : Led} {h' : Heap} {tk : Nat} {m' : Str → Option Value}
    (F : Fr h₀ L h' m') (hR : R = itemsLed w its ++ base) (hus : us = its.map (fun it => .ref it.x))
    (N : News h₀ L h' (self5 w d dx oct ml ((i : Int) + (len : Int)) ti t1 t2 t3 vs nn (us ++ [.ref x]) nm ((x, instObj 280 dxi) :: (dxi, itemD w bl text tt k1 k2) :: (bl, listOf cvs.toArray nb) :: R)))
    (hm : m' (Str.ofString "self") = some (.ref d)) (hD : Dec (all.drop (i + len)) todo) (hle : i + len ≤ all.length) (h1 : 1 ≤ len) (hits : its.length ≤ i) (hp : its.map Item.pair ++ (chunk, text) :: todo = plan) (hit : ∀ it ∈ its, IntsAre it.cvs it.chunk) (hc : IntsAre cvs chunk) (hoff : OwnOff R [dx, ml])
    (o1 : x ≠ dx) (o2 : x ≠ ml) (o3 : dxi ≠ dx) (o4 : dxi ≠ ml) (o5 : bl ≠ dx) (o6 : bl ≠ ml) :
    WhileStep2 h₀ L s (DJ w d dx oct ml t1 t2 t3 vs nn all plan base) Q (all.length - i) .next { s with heap := h', toks := tk } := by
  subst hR hus
  refine ⟨h', tk, m', _, all.length - (i + len), rfl, F, newsSub N ?_, by omega, hm, its ++ [⟨x, dxi, bl, cvs, nb, chunk, text, tt, k1, k2⟩], i + len, ti, nm, todo, rfl, hD, hle, rfl, by rw [List.length_append, List.length_singleton]; omega, by rw [List.map_append, List.append_assoc]; exact hp, ?_, ?_⟩
  · intro p hp
    rcases List.mem_cons.mp hp with rfl | hp
    · exact .head _
    rcases List.mem_cons.mp hp with rfl | hp
    · exact .tail _ (.head _)
    rcases List.mem_cons.mp hp with rfl | hp
    · exact .tail _ (.tail _ (.head _))
    rcases List.mem_cons.mp hp with rfl | hp
    · rw [List.map_append]; exact .tail _ (.tail _ (.tail _ (.head _)))
    · refine .tail _ (.tail _ (.tail _ (.tail _ ?_)))
      rw [itemsLed, List.flatMap_append, List.append_assoc] at hp
      rcases List.mem_append.mp hp with hp | hp
      · exact .tail _ (.tail _ (.tail _ (List.mem_append.mpr (.inl hp))))
      · rcases List.mem_append.mp hp with hp | hp
        · have hp' : p ∈ [(x, instObj 280 dxi), (dxi, itemD w bl text tt k1 k2), (bl, listOf cvs.toArray nb)] := by simpa [Item.led] using hp
          rcases List.mem_cons.mp hp' with rfl | hp'
          · exact .head _
          rcases List.mem_cons.mp hp' with rfl | hp'
          · exact .tail _ (.head _)
          · rw [List.mem_singleton.mp hp']; exact .tail _ (.tail _ (.head _))
        · exact .tail _ (.tail _ (.tail _ (List.mem_append.mpr (.inr hp))))
  · intro it hi
    rcases List.mem_append.mp hi with hi | hi
    · exact hit it hi
    · rw [List.mem_singleton.mp hi]; exact hc
  · intro p hp a ha
    rw [itemsLed, List.flatMap_append, List.append_assoc] at hp
    rcases List.mem_append.mp hp with hp | hp
    · exact hoff p (List.mem_append.mpr (.inl hp)) a ha
    · rcases List.mem_append.mp hp with hp | hp
      · have hp' : p ∈ [(x, instObj 280 dxi), (dxi, itemD w bl text tt k1 k2), (bl, listOf cvs.toArray nb)] := by simpa [Item.led] using hp
        rcases List.mem_cons.mp ha with rfl | ha
        · rcases List.mem_cons.mp hp' with rfl | hp'
          · exact o1
          rcases List.mem_cons.mp hp' with rfl | hp'
          · exact o3
          · rw [List.mem_singleton.mp hp']; exact o5
        · rw [List.mem_singleton.mp ha]
          rcases List.mem_cons.mp hp' with rfl | hp'
          · exact o2
          rcases List.mem_cons.mp hp' with rfl | hp'
          · exact o4
          · rw [List.mem_singleton.mp hp']; exact o6
      · exact hoff p (List.mem_append.mpr (.inr hp)) a ha
end
theorem fself {x : Str} {v : Value} {u : Str → Option Value} : (fun y => if y = x then some v else u y) x = some v := if_pos rfl
theorem off_ml {dx ml : Addr} {o : Obj} {R : Led} (h1 : dx < ml) (h : OwnOff R [dx, ml]) : OwnOff ((ml, o) :: R) [dx] := by
  intro p hp a ha
  rw [List.mem_singleton.mp ha]
  rcases List.mem_cons.mp hp with rfl | hp
  · exact Nat.ne_of_gt h1
  · exact h p hp _ (.head _)
theorem hit_prep (w : World) (d dx oct ml : Addr) (i : Nat) (ti t1 t2 t3 : Tok) (us : List Value) (nm : Nat) (R : Led) (vs : List Value) (nn : Nat) (all chunk : List Int) (r : Nat) (row : RowD) (b : Int) (tb : Tok) (b1 : Int) (tb1 : Tok) (len : Nat) (hrow : rows[r]? = some row) (hr10 : r ≠ 10)
    (hI : IntsAre vs all) (hlen : all.length ≤ 100) (hle : i + len ≤ all.length) (hl1 : 1 ≤ len) (hb : vs[((i : Nat) : Int).toNat]? = some (.int b tb)) (hb0 : 0 ≤ b) (hb1 : b < 256) (h2 : row.two = true → vs[((i : Int) + 1).toNat]? = some (.int b1 tb1) ∧ 0 ≤ b1 ∧ b1 < 256)
    (hif : (if row.two = true then 2 else 1 : Int) = (len : Int)) (hck : (all.drop i).take len = chunk) (hne : d ≠ dx) (hne2 : oct ≠ dx) (hd2 : dx < ml) (hoff : OwnOff R [dx, ml]) :
    Claim w 10 row.fn [.ref d] (self4 w d dx oct ml (i : Int) ti t1 t2 t3 vs nn ((ml, listOf us.toArray nm) :: R)) (HRet w d dx oct ml ((i : Int) + (len : Int)) t1 t2 t3 vs nn ((ml, listOf us.toArray nm) :: R) (txt r b b1)) ∧
      IntsAre (slicePick vs.toArray (some (i : Int)) (some ((i : Int) + (len : Int))) none).toList chunk ∧
      List.take (min ((i : Int) + (len : Int)).toNat all.length - (i : Int).toNat) (List.drop (i : Int).toNat all) = chunk := by
  have HC := claim_hit w d dx oct ml (i : Int) ti t1 t2 t3 ((ml, listOf us.toArray nm) :: R) vs nn r row b tb b1 tb1 hrow hr10 (by omega) (by omega) hb hb0 hb1 h2 kstMark hne hne2 (off_ml hd2 hoff)
  rw [hif] at HC
  have hpick := kmk_run hI (x := (i : Int)) (y := (i : Int) + (len : Int)) (by omega) (by omega)
  have hp1 : ((i : Int)).toNat = i := by omega
  have hp2 : min ((i : Int) + (len : Int)).toNat all.length - i = len := by omega
  rw [hp1, hp2, hck] at hpick
  exact ⟨HC, hpick, by rw [hp1, hp2, hck]⟩

theorem top_off14 : True := by
  w_top off
  exact True.intro
theorem decode (w : World) (d dx oct : Addr) (i0 : Int) (ti0 : Tok) (v0 : Value) (t1 t2 t3 : Tok) (bl0 : Led) (vs : List Value) (nn : Nat) (all : List Int) (plan : List (List Int × PySem.Str)) (hI : IntsAre vs all) (hlen : all.length ≤ 100) (hD : Dec all plan)
    (hne : d ≠ dx) (hne2 : oct ≠ dx) (hoff0 : OwnOff bl0 [dx]) :
    Claim w 16 49 [.ref d] ((d, instObj 254 dx) :: (dx, selfV w oct i0 ti0 v0 t1 t2 t3) :: (oct, listOf vs.toArray nn) :: bl0)
      (fun news' v => v = .none ∧ ∃ (its : List Item) (i : Int) (ti : Tok) (ml : Addr) (nm : Nat), news' = self5 w d dx oct ml i ti t1 t2 t3 vs nn (its.map fun it => .ref it.x) nm (itemsLed w its ++ bl0) ∧ its.map Item.pair = plan ∧ ∀ it ∈ its, IntsAre it.cvs it.chunk) := by
  k_with_none
  have hMk : KstMark := kstMark
  k_with "bsW" => ((rename Fr _ _ _ _ => wF); (rename News _ _ _ _ => wN); (rename (_ ∧ _ ∧ _ ∧ AllLt _ _) => wl); (obtain ⟨hd1, hd2, hd3, hml⟩ := wl); k_dflt (refine' dec_while (all := all) (plan := plan) wN wF rfl hlen hD hoff0 hml ?_ ?_; (case refine'_2 => passes_own)); intro its us i ti nm todo R h tk u hR hus hul hDi hi hits hplan hit hoff wF wN)
  k_with "bsF" => ((have hlt : i < all.length := by omega); obtain ⟨r, row, b, b1, tb, tb1, chunk, todo', len, hrow, hr10, hmiss, hhit, hb0, hb1, hb, h2, hcl, hl1, hle, hif, hck, hD2, htodo⟩ := dec_inv hI hDi hlt; (rename Fr _ _ _ _ => wF); k_dflt (refine' For_turns wF ?_))
  k_with "bsIt" => ((with_reducible show wpAny _ _ (pyIter (Value.ref _)) (fun it s₂ => TurnsAt _ _ _ _ _ _ _ _ _ it s₂) _ _); (rename Fr _ _ _ _ => wF); (rename News _ _ _ _ => wN); (with_unfolding_all refine' iter_tupK (vs := ringVs) ?h wF wN ?X ?k ?c ?d ?z ?_; (case h => with_unfolding_all rfl); (case X => k_asm); (case k => k_is); (case c => exact rfl); (case d => exact rfl); (case z => decide)); intro I hII; k_dflt (refine' ring_go0 (r := r) (fun m => m (Str.ofString "self") = some (.ref d)) (rows_lt hrow) hII ?_ ?_ ?hm); (case hm => k_dflt exact fself); intro j v m1 h tk o hj hv hm ho wF wN; obtain ⟨rwj, hrw, rfl, ok⟩ := rows_at w _ _ hv; obtain ⟨ta, tb9, tc, hobj⟩ := ok.obj; replace wF := fr_self wF hm; (have hmj := hmiss j rwj hj hrw); (try k_fold); rotate_left; intro v m1 h tk o hv hm ho wF wN; obtain ⟨rw1, hrw, rfl, ok⟩ := rows_at w _ _ hv; obtain rfl : rw1 = row := Option.some.inj (hrw.symm.trans hrow); obtain ⟨ta, tb9, tc, hobj⟩ := ok.obj; replace wF := fr_self wF hm; k_dflt (obtain ⟨HC, hpick, hsl⟩ := hit_prep w d dx oct _ i ti t1 t2 t3 us nm R vs nn all chunk r rw1 b tb b1 tb1 len hrow hr10 hI hlen hle hl1 hb hb0 hb1 h2 hif hck hne hne2 hd2 hoff); (try k_fold); rotate_left)
  k_with "bsU" => ((rename Fr _ _ _ _ => wF); (rename News _ _ _ _ => wN); k_dflt (refine' unpackK wF wN ?X hobj rfl rfl rfl rfl rfl ?_; (case X => k_asm)); intro h' F' N'; (try k_sweep))
  k_with "bsI" => first | (k_dflt (refine' oct_item ?l (by omega) (by omega) hb ?_; (case l => exact News.isList (by k_asm) (by k_mem)))) | (((rename Fr _ _ _ _ => wF); (rename News _ _ _ _ => wN); k_dflt (refine' kmk_slice_ints wF wN ?l (IsPart.int _ _) (IsPart.int _ _) hI hpick rfl ?_ ?s ?t ?z; (case l => exact News.isList (by k_asm) (by k_mem)); (case s => with_unfolding_all rfl); (case t => kmk_pure); (case z => (rw [List.size_toArray, hI.length, PySem.sizeLine_eq]; omega))); intro D' ws' h' F' N' l1 hI' _ _; (try k_lt l1); (try k_sweep)))
  k_with "bsG" => ((rename Fr _ _ _ _ => wF); (rename News _ _ _ _ => wN); k_dflt (refine' kbm_boundBy wF ?X wN ?I ok.hg (hasDict254 w) ok.ha ok.hf ok.hgf ok.ht ok.hc (ok.hl _ _ _ _ _ _ _ _) ?_; (case X => k_asm); (case I => k_inst)); intro q' h' F' N' l1; (try k_lt l1); (try k_sweep))
  k_with "bsC" => first | ((with_reducible show wpAny _ _ (call (Value.ref 28) _ _) _ _ _); (rename News _ _ _ _ => nwX); k_dflt (refine' Claim.use nwX (pe_name w _ _ _ ok.len ok.sl) ?B ?F ?X ?T rfl ?hd ?hu ?_; (case B => k_asm); (case F => k_asm); (case X => k_asm); (case T => k_asm); (case hd => k_room); (case hu => k_units)); intro v9 news9 h9 tk9 F9 N9 hR9; obtain ⟨rfl, rfl⟩ := hR9; (try k_sweep)) | (((rename News _ _ _ _ => nwX); k_dflt (refine' Claim.useM nwX (by k_mem) (by intro p hp; exact .tail _ (.tail _ hp)) HC ?B ?F ?X ?T rfl ?hd ?hu ?_; (case B => k_asm); (case F => k_asm); (case X => k_asm); (case T => k_asm); (case hd => k_room); (case hu => k_units)); intro v9 news9 h9 tk9 F9 N9 hR9; obtain ⟨ti9, t9, rfl, rfl⟩ := hR9; (try k_sweep)))
  k_with "bsCw" => ( k_dflt (refine' callWith_M0 ?X ok.hm ?_; (case X => k_meth)); (try dsimp only [List.nil_append, List.cons_append]))
  k_with "bsIte" => first | (with_reducible refine ite_neg (ne_true_of_eq_false (beq_false_of_ne hmj)) ?_) | (with_reducible refine ite_pos (beq_iff_eq.mpr hhit) ?_)
  dsimp only [Claim, KK, lse, selfV]
  k_fill
  intro mean mg mb dp un gd cn cs a ccd cl outer A₀ base h₀ L m s Q E B F X N T hk hdp hun hret
  obtain ⟨ck, c2, c3, c4, c5⟩ := cs
  dsimp only at hk
  subst hk
  k_dflt k_enter
  k_steps
  · exact MissPost.intro (by assumption) (by assumption) rfl
  · subst htodo
    rename News _ _ _ _ => wN
    simp only [List.push_toArray] at wN
    refine dec_end (by assumption) hR hus (news_cons wN (by k_mem) (news_cons wN (by k_mem) (news_cons wN (by k_mem) (news_cons wN (by k_mem) (news_cons wN (by k_mem) (news_cons wN (by k_mem) (news_cons wN (by k_mem) (newsSub wN (by intro p hp; repeat (first | exact hp | refine List.Mem.tail _ ?_)))))))))) rfl hD2 hle hl1 hits hplan hit (by rw [← hsl]; assumption) hoff ?_ ?_ ?_ ?_ ?_ ?_ <;> (refine neN ?_; omega)
  · have hz : all.drop i = [] := List.drop_eq_nil_of_le (by simp only [decide_eq_true_eq, decide_eq_false_iff_not] at *; omega)
    rw [hz] at hDi
    rw [dec_nil hDi, List.append_nil] at hplan
    exact hret .none _ _ _ (by assumption) (by assumption) ⟨rfl, its, i, ti, _, nm, by rw [hR, hus], hplan, hit⟩

theorem top_off15 : True := by
  w_top off
  exact True.intro
/-- what a call of the law's own recipe hands back: a pair of the octets and the words -/
abbrev OneRet (news : Led) (row : List Int) (words : PySem.Str) (news' : Led) (v : Value) : Prop :=
  ∃ (t r : Addr) (cvs : List Value) (tw : Tok) (c : Nat), v = .ref t ∧ news' = (t, { cls := .type "tuple", data := .seq #[.ref r, .str words tw] }) :: (r, listOf cvs.toArray c) :: news ∧ IntsAre cvs row ∧ AllLt r news ∧ @LT.lt Nat _ r t
theorem tm_mem (g : Int → PySem.Str) (n : Nat) (a : Int) (hg : ∀ k : Int, a ≤ k → k < a + (n : Int) → (g k).length ≤ 16) : ∀ y ∈ (rangeKs a n).map g, y.length ≤ 16 := by
  intro y hy
  obtain ⟨k, hk, rfl⟩ := List.mem_map.mp hy
  exact hg k (mem_rangeKs hk).1 (mem_rangeKs hk).2
theorem tm_len (g : Int → PySem.Str) (n : Nat) (a : Int) : ((rangeKs a n).map g).length = n := by rw [List.length_map, rangeKs_length]
theorem OneRet.mk' {news : Led} {t r : Addr} {cvs : List Value} {tw : Tok} {c : Nat} {row : List Int} {words text : PySem.Str} (e : text = words) (hi : IntsAre cvs row) (ha : AllLt r news) (hl : @LT.lt Nat _ r t) :
    OneRet news row words ((t, { cls := .type "tuple", data := .seq #[.ref r, .str text tw] }) :: (r, listOf cvs.toArray c) :: news) (.ref t) := ⟨t, r, cvs, tw, c, rfl, by rw [e], hi, ha, hl⟩
theorem ints1 {a b : Int} {t : Tok} (e : a = b) : IntsAre [.int a t] [b] := by subst e; exact .cons _ _ .nil
theorem ints2 {a b c d : Int} {t u : Tok} (e : a = c) (f : b = d) : IntsAre [.int a t, .int b u] [c, d] := by subst e f; exact .cons _ _ (.cons _ _ .nil)
def maskC (mask : Int) (n : Int) : Bool := decide ((mask.fdiv (2 ^ n.toNat)).fmod 2 = 1)
def gprN4 (n : Int) : PySem.Str := gprN (n + 4)
theorem add_strs {prog : Program} {w : World} {A : Around} {E : Value → Shared → Prop} {s : Shared} {h₀ : Heap} {L a b : Addr} {m : Str → Option Value} {news : Led} {vs ws : List Value} {ns ms : List PySem.Str} {Q : Value → Shared → Prop}
    (F : Fr h₀ L s.heap m) (N : News h₀ L s.heap news) (ha : s.heap.IsList a vs.toArray) (hb : s.heap.IsList b ws.toArray) (hi : StrsAre vs ns) (hj : StrsAre ws ms) (hz : ns.length + ms.length ≤ 1000)
    (h : ∀ D us h', Fr h₀ L h' m → News h₀ L h' ((D, listOf (List.toArray us) 0) :: news) → (∀ p ∈ news, p.1 < D) → StrsAre us (ns ++ ms) → Q (.ref D) { s with heap := h' }) : wpAny (model prog w) A (binaryOp .Add (.ref a) (.ref b)) Q E s :=
  kmk_add_lit F N ha hb rfl (fun D h' F' N' l => h D _ h' F' N' l (StrsAre.append' hi hj)) (by show vs.length + ws.length ≤ _; rw [hi.length, hj.length, PySem.sizeLine_eq]; omega)
theorem mem_app {ns ms : List PySem.Str} (h : ∀ y ∈ ns, y.length ≤ 16) (k : ∀ y ∈ ms, y.length ≤ 16) : ∀ y ∈ ns ++ ms, y.length ≤ 16 := fun y hy => (List.mem_append.mp hy).elim (h y) (k y)

theorem top_off16 : True := by
  w_top off
  exact True.intro
def popText (ys : List PySem.Str) : PySem.Str := Str.ofString "pop {" ++ Txt.join (Str.ofString ", ") ys ++ Str.ofString "}"
theorem law_pop (w : World) (nl : Addr) (o : Obj) (vs : List Value) (ys : List PySem.Str) (c : Nat) (news : Led) (hm : (nl, o) ∈ news) (ho : o = listOf vs.toArray c) (hs : StrsAre vs ys) (h16 : ∀ y ∈ ys, y.length ≤ 16) (hn : ys.length ≤ 1000) :
    Claim w 4 292 [.ref nl] news (fun news' v => news' = news ∧ ∃ t, v = .str (popText ys) t) := by
  subst ho
  k_with_none
  k_with "bsJ" => (refine join_list (News.isList (by k_asm) hm) hs (join_small h16 hn (by decide)) ?_; intro _ _; have hJ := join_le (x := Str.ofString ", ") h16 hn (by decide))
  dsimp only [Claim, KK, lse]
  k_fill
  intro mean mg mb dp un gd cn cs a ccd cl outer A₀ base h₀ L m s Q E B F X N T hk hdp hun hret
  obtain ⟨ck, c2, c3, c4, c5⟩ := cs
  dsimp only at hk
  subst hk
  k_dflt k_enter
  k_steps
  all_goals exact hret _ _ _ _ (by assumption) (newsSub (by assumption) (by intro p hp; repeat (first | exact hp | refine List.Mem.tail _ ?_))) ⟨rfl, _, rfl⟩
section
open PySem.Calls
variable {prog : Program} {w : World} {A : Around} {h₀ : Heap} {L : Addr} {m : Str → Option Value} {env : Env} {elt : Expr} {x : Str} {scope : Scope} {cl : List (Str × Addr)} {s : Shared} {S : Led → Prop} {Fin : List Value → Led → Prop} {news : Led}
/-- a comprehension of texts over a range -/
theorem tm_range {n : Nat} {a : Int} (g : Int → PySem.Str)
    (turn : ∀ k t I oI C oC D m₂ ys h tk (E' : Value → Shared → Prop), a ≤ k → k < a + (n : Int) → LCg.NsObj oC m₂ → m₂ x = some (.int k t) → Fr h₀ L h m → News h₀ L h ((I, oI) :: (C, oC) :: (D, LCg.lst ys) :: news) → LCg.Off3 I C D news → ((@Ne Nat I C) ∧ (@Ne Nat I D) ∧ (@Ne Nat C D)) → KPfMark →
      wpAny (model prog w) A (eval elt (compEnvC scope cl C env)) (LCg.CompEnd h₀ L m { s with heap := h, toks := tk } I oI C oC D (LCg.lst ys) S (fun y news' => TfEl news true (g k) y news')) E' { s with heap := h, toks := tk })
    (fin : KPfDone (∀ ys, StrsAre ys ((rangeKs a n).map g) → ys.length ≤ n → Fin ys news)) : LCg.CompRest prog w A h₀ L m env elt x scope cl s S (fun i v => ∃ t, v = .int (a + (i : Int)) t) Fin n 0 [] news := by
  unfold KPfDone at fin
  have key : ∀ (j i : Nat) (ys : List Value), i + j = n → StrsAre ys (((rangeKs a n).take i).map g) → LCg.CompRest prog w A h₀ L m env elt x scope cl s S (fun i v => ∃ t, v = .int (a + (i : Int)) t) Fin j i ys news := by
    intro j
    induction j with
    | zero =>
      intro i ys hi hy
      have e : i = (rangeKs a n).length := by rw [rangeKs_length]; omega
      rw [e, List.take_length] at hy
      refine LCg.CompRest.zero (fin ys hy ?_)
      rw [hy.length, List.length_map, rangeKs_length]
      exact Nat.le_refl _
    | succ j ih =>
      intro i ys hi hy
      refine LCg.CompRest.succ ?_
      intro v I oI C oC D m₂ h tk E' hv hC hx F N off ne
      obtain ⟨t, rfl⟩ := hv
      have hlt : i < n := by omega
      have hk : (rangeKs a n)[i]? = some (a + (i : Int)) := by simp [rangeKs, hlt]
      refine wpAny_mono (turn _ t I oI C oC D m₂ ys h tk E' (by omega) (by omega) hC hx F N off ne True.intro) (fun y s₂ hr => ?_) fun _ _ e => e
      obtain ⟨h', tk', nw, e, F', N', off', hS, hn, _, t', hy'⟩ := hr
      rw [hn] at N' off' hS
      refine ⟨h', tk', news, e, F', N', off', hS, ?_⟩
      rw [hy']
      refine ih (i + 1) _ (by omega) ?_
      rw [List.take_add_one, hk, List.map_append]
      exact strs_snoc hy
  exact key n 0 [] (by omega) (by simp only [List.take_zero, List.map_nil]; exact .nil)
end

theorem top_off17 : True := by
  w_top off
  exact True.intro
theorem one_0 (w : World) (x : Int) (tk tx : Tok) (news : Led) : Claim w 10 297 [.int 0 tk, .int x tx] news (OneRet news ([x.fmod 64]) (Str.ofString "vsp = vsp + " ++ Str.ofString (toString (x.fmod 64 * 4 + 4)))) := by
  k_with_none
  have hx0 : 0 ≤ x.fmod 64 := fmod_lo x (by decide)
  have hx1 : x.fmod 64 < 64 := fmod_hi x (by decide)
  dsimp only [Claim, KK, lse, OneRet]
  k_fill
  intro mean mg mb dp un gd cn cs a ccd cl outer A₀ base h₀ L m s Q E B F X N T hk hdp hun hret
  obtain ⟨ck, c2, c3, c4, c5⟩ := cs
  dsimp only at hk
  subst hk
  k_dflt k_enter
  k_steps
  all_goals (rename News _ _ _ _ => wN; refine hret _ _ _ _ (by assumption) (news_cons wN (by k_mem) (news_cons wN (by k_mem) (newsSub wN (by intro p hp; repeat (first | exact hp | refine List.Mem.tail _ ?_))))) ⟨_, _, _, _, _, rfl, rfl, (.cons _ _ .nil), by first | assumption | exact (And.right (by assumption)) | exact (And.right (And.right (by assumption))) | exact (And.right (And.right (And.right (by assumption)))) | exact (And.right (And.right (And.right (And.right (by assumption))))) | exact (And.right (And.right (And.right (And.right (And.right (by assumption)))))) | exact (And.right (And.right (And.right (And.right (And.right (And.right (by assumption))))))) | exact (And.right (And.right (And.right (And.right (And.right (And.right (And.right (by assumption)))))))) | exact (And.right (And.right (And.right (And.right (And.right (And.right (And.right (And.right (by assumption))))))))) | exact (And.right (And.right (And.right (And.right (And.right (And.right (And.right (And.right (And.right (by assumption)))))))))) | exact (And.right (And.right (And.right (And.right (And.right (And.right (And.right (And.right (And.right (And.right (by assumption))))))))))) | exact (And.right (And.right (And.right (And.right (And.right (And.right (And.right (And.right (And.right (And.right (And.right (by assumption)))))))))))) | exact (And.right (And.right (And.right (And.right (And.right (And.right (And.right (And.right (And.right (And.right (And.right (And.right (by assumption))))))))))))) | exact (And.right (And.right (And.right (And.right (And.right (And.right (And.right (And.right (And.right (And.right (And.right (And.right (And.right (by assumption)))))))))))))) | exact (And.right (And.right (And.right (And.right (And.right (And.right (And.right (And.right (And.right (And.right (And.right (And.right (And.right (And.right (by assumption))))))))))))))), by omega⟩)

theorem one_1 (w : World) (x : Int) (tk tx : Tok) (news : Led) : Claim w 10 297 [.int 1 tk, .int x tx] news (OneRet news ([64 + x.fmod 64]) (Str.ofString "vsp = vsp - " ++ Str.ofString (toString (x.fmod 64 * 4 + 4)))) := by
  k_with_none
  have hx0 : 0 ≤ x.fmod 64 := fmod_lo x (by decide)
  have hx1 : x.fmod 64 < 64 := fmod_hi x (by decide)
  dsimp only [Claim, KK, lse, OneRet]
  k_fill
  intro mean mg mb dp un gd cn cs a ccd cl outer A₀ base h₀ L m s Q E B F X N T hk hdp hun hret
  obtain ⟨ck, c2, c3, c4, c5⟩ := cs
  dsimp only at hk
  subst hk
  k_dflt k_enter
  k_steps
  all_goals (rename News _ _ _ _ => wN; refine hret _ _ _ _ (by assumption) (news_cons wN (by k_mem) (news_cons wN (by k_mem) (newsSub wN (by intro p hp; repeat (first | exact hp | refine List.Mem.tail _ ?_))))) ⟨_, _, _, _, _, rfl, rfl, (.cons _ _ .nil), by first | assumption | exact (And.right (by assumption)) | exact (And.right (And.right (by assumption))) | exact (And.right (And.right (And.right (by assumption)))) | exact (And.right (And.right (And.right (And.right (by assumption))))) | exact (And.right (And.right (And.right (And.right (And.right (by assumption)))))) | exact (And.right (And.right (And.right (And.right (And.right (And.right (by assumption))))))) | exact (And.right (And.right (And.right (And.right (And.right (And.right (And.right (by assumption)))))))) | exact (And.right (And.right (And.right (And.right (And.right (And.right (And.right (And.right (by assumption))))))))) | exact (And.right (And.right (And.right (And.right (And.right (And.right (And.right (And.right (And.right (by assumption)))))))))) | exact (And.right (And.right (And.right (And.right (And.right (And.right (And.right (And.right (And.right (And.right (by assumption))))))))))) | exact (And.right (And.right (And.right (And.right (And.right (And.right (And.right (And.right (And.right (And.right (And.right (by assumption)))))))))))) | exact (And.right (And.right (And.right (And.right (And.right (And.right (And.right (And.right (And.right (And.right (And.right (And.right (by assumption))))))))))))) | exact (And.right (And.right (And.right (And.right (And.right (And.right (And.right (And.right (And.right (And.right (And.right (And.right (And.right (by assumption)))))))))))))) | exact (And.right (And.right (And.right (And.right (And.right (And.right (And.right (And.right (And.right (And.right (And.right (And.right (And.right (And.right (by assumption))))))))))))))), by omega⟩)

theorem one_14 (w : World) (x : Int) (tk tx : Tok) (news : Led) : Claim w 10 297 [.int 14 tk, .int x tx] news (OneRet news ([184 + x.fmod 8]) (popText ((rangeKs 8 (9 + x.fmod 8 - 8).toNat).map (regN (Str.ofString "d"))))) := by
  k_with_none
  have hx0 : 0 ≤ x.fmod 8 := fmod_lo x (by decide)
  have hx1 : x.fmod 8 < 8 := fmod_hi x (by decide)
  have hsm : Builtin.Range.small 8 (9 + x.fmod 8) 1 = true := small_one (by omega) (by omega) (by omega) (by omega)
  have hsz : (9 + x.fmod 8 - 8).toNat ≤ sizeLine := by rw [PySem.sizeLine_eq]; omega
  have h16 := tm_mem (regN (Str.ofString "d")) (9 + x.fmod 8 - 8).toNat 8 (fun k h1 h2 => regN_len (by decide) (by omega) (by omega))
  have hn : ((rangeKs 8 (9 + x.fmod 8 - 8).toNat).map (regN (Str.ofString "d"))).length ≤ 1000 := by rw [tm_len]; omega
  k_with "bsS" => (k_dflt (refine LCg.CompSrc.range (by rfl) (by k_asm) (by k_asm) (by assumption) hsm (rangeSize_nat _ _) hsz ?_); intro g'; (refine' tm_range (regN (Str.ofString "d")) (fun k' t' I' oI' C' oC' D' m' ys' h' tk' E' hlo' hhi' hC' hx' F' N' off' ne' => ?_) ?_); (all_goals (try (simp only [LCg.Off3, and_true] at off'))); (all_goals (try ((show KPfMark → _); intro hMark'))))
  k_with "bsY" => rfl
  k_with "bsC" => ((with_reducible show wpAny _ _ (call (Value.ref 292) _ _) _ _ _); (rename News _ _ _ _ => nwX); (rename StrsAre _ _ => hsX); k_dflt (refine' Claim.use nwX (law_pop w _ _ _ _ _ _ (by k_mem) rfl hsX h16 hn) ?B ?F ?X ?T rfl ?hd ?hu ?_; (case B => k_asm); (case F => k_asm); (case X => k_asm); (case T => k_asm); (case hd => k_room); (case hu => k_units)); intro v9 news9 h9 tk9 F9 N9 hR9; obtain ⟨rfl, t9, rfl⟩ := hR9; (try k_sweep))
  dsimp only [Claim, KK, lse, OneRet]
  k_fill
  intro mean mg mb dp un gd cn cs a ccd cl outer A₀ base h₀ L m s Q E B F X N T hk hdp hun hret
  obtain ⟨ck, c2, c3, c4, c5⟩ := cs
  dsimp only at hk
  subst hk
  k_dflt k_enter
  k_steps
  all_goals (rename News _ _ _ _ => wN; refine hret _ _ _ _ (by assumption) (news_cons wN (by k_mem) (news_cons wN (by k_mem) (newsSub wN (by intro p hp; repeat (first | exact hp | refine List.Mem.tail _ ?_))))) ⟨_, _, _, _, _, rfl, rfl, (.cons _ _ .nil), by first | assumption | exact (And.right (by assumption)) | exact (And.right (And.right (by assumption))) | exact (And.right (And.right (And.right (by assumption)))) | exact (And.right (And.right (And.right (And.right (by assumption))))) | exact (And.right (And.right (And.right (And.right (And.right (by assumption)))))) | exact (And.right (And.right (And.right (And.right (And.right (And.right (by assumption))))))) | exact (And.right (And.right (And.right (And.right (And.right (And.right (And.right (by assumption)))))))) | exact (And.right (And.right (And.right (And.right (And.right (And.right (And.right (And.right (by assumption))))))))) | exact (And.right (And.right (And.right (And.right (And.right (And.right (And.right (And.right (And.right (by assumption)))))))))) | exact (And.right (And.right (And.right (And.right (And.right (And.right (And.right (And.right (And.right (And.right (by assumption))))))))))) | exact (And.right (And.right (And.right (And.right (And.right (And.right (And.right (And.right (And.right (And.right (And.right (by assumption)))))))))))) | exact (And.right (And.right (And.right (And.right (And.right (And.right (And.right (And.right (And.right (And.right (And.right (And.right (by assumption))))))))))))) | exact (And.right (And.right (And.right (And.right (And.right (And.right (And.right (And.right (And.right (And.right (And.right (And.right (And.right (by assumption)))))))))))))) | exact (And.right (And.right (And.right (And.right (And.right (And.right (And.right (And.right (And.right (And.right (And.right (And.right (And.right (And.right (by assumption))))))))))))))), by omega⟩)

theorem one_15 (w : World) (x : Int) (tk tx : Tok) (news : Led) : Claim w 10 297 [.int 15 tk, .int x tx] news (OneRet news ([208 + x.fmod 8]) (popText ((rangeKs 8 (9 + x.fmod 8 - 8).toNat).map (regN (Str.ofString "d"))))) := by
  k_with_none
  have hx0 : 0 ≤ x.fmod 8 := fmod_lo x (by decide)
  have hx1 : x.fmod 8 < 8 := fmod_hi x (by decide)
  have hsm : Builtin.Range.small 8 (9 + x.fmod 8) 1 = true := small_one (by omega) (by omega) (by omega) (by omega)
  have hsz : (9 + x.fmod 8 - 8).toNat ≤ sizeLine := by rw [PySem.sizeLine_eq]; omega
  have h16 := tm_mem (regN (Str.ofString "d")) (9 + x.fmod 8 - 8).toNat 8 (fun k h1 h2 => regN_len (by decide) (by omega) (by omega))
  have hn : ((rangeKs 8 (9 + x.fmod 8 - 8).toNat).map (regN (Str.ofString "d"))).length ≤ 1000 := by rw [tm_len]; omega
  k_with "bsS" => (k_dflt (refine LCg.CompSrc.range (by rfl) (by k_asm) (by k_asm) (by assumption) hsm (rangeSize_nat _ _) hsz ?_); intro g'; (refine' tm_range (regN (Str.ofString "d")) (fun k' t' I' oI' C' oC' D' m' ys' h' tk' E' hlo' hhi' hC' hx' F' N' off' ne' => ?_) ?_); (all_goals (try (simp only [LCg.Off3, and_true] at off'))); (all_goals (try ((show KPfMark → _); intro hMark'))))
  k_with "bsY" => rfl
  k_with "bsC" => ((with_reducible show wpAny _ _ (call (Value.ref 292) _ _) _ _ _); (rename News _ _ _ _ => nwX); (rename StrsAre _ _ => hsX); k_dflt (refine' Claim.use nwX (law_pop w _ _ _ _ _ _ (by k_mem) rfl hsX h16 hn) ?B ?F ?X ?T rfl ?hd ?hu ?_; (case B => k_asm); (case F => k_asm); (case X => k_asm); (case T => k_asm); (case hd => k_room); (case hu => k_units)); intro v9 news9 h9 tk9 F9 N9 hR9; obtain ⟨rfl, t9, rfl⟩ := hR9; (try k_sweep))
  dsimp only [Claim, KK, lse, OneRet]
  k_fill
  intro mean mg mb dp un gd cn cs a ccd cl outer A₀ base h₀ L m s Q E B F X N T hk hdp hun hret
  obtain ⟨ck, c2, c3, c4, c5⟩ := cs
  dsimp only at hk
  subst hk
  k_dflt k_enter
  k_steps
  all_goals (rename News _ _ _ _ => wN; refine hret _ _ _ _ (by assumption) (news_cons wN (by k_mem) (news_cons wN (by k_mem) (newsSub wN (by intro p hp; repeat (first | exact hp | refine List.Mem.tail _ ?_))))) ⟨_, _, _, _, _, rfl, rfl, (.cons _ _ .nil), by first | assumption | exact (And.right (by assumption)) | exact (And.right (And.right (by assumption))) | exact (And.right (And.right (And.right (by assumption)))) | exact (And.right (And.right (And.right (And.right (by assumption))))) | exact (And.right (And.right (And.right (And.right (And.right (by assumption)))))) | exact (And.right (And.right (And.right (And.right (And.right (And.right (by assumption))))))) | exact (And.right (And.right (And.right (And.right (And.right (And.right (And.right (by assumption)))))))) | exact (And.right (And.right (And.right (And.right (And.right (And.right (And.right (And.right (by assumption))))))))) | exact (And.right (And.right (And.right (And.right (And.right (And.right (And.right (And.right (And.right (by assumption)))))))))) | exact (And.right (And.right (And.right (And.right (And.right (And.right (And.right (And.right (And.right (And.right (by assumption))))))))))) | exact (And.right (And.right (And.right (And.right (And.right (And.right (And.right (And.right (And.right (And.right (And.right (by assumption)))))))))))) | exact (And.right (And.right (And.right (And.right (And.right (And.right (And.right (And.right (And.right (And.right (And.right (And.right (by assumption))))))))))))) | exact (And.right (And.right (And.right (And.right (And.right (And.right (And.right (And.right (And.right (And.right (And.right (And.right (And.right (by assumption)))))))))))))) | exact (And.right (And.right (And.right (And.right (And.right (And.right (And.right (And.right (And.right (And.right (And.right (And.right (And.right (And.right (by assumption))))))))))))))), by omega⟩)

theorem one_7 (w : World) (x : Int) (tk tx : Tok) (news : Led) : Claim w 10 297 [.int 7 tk, .int x tx] news (OneRet news ([176]) (Str.ofString "finish")) := by
  k_with_none
  dsimp only [Claim, KK, lse, OneRet]
  k_fill
  intro mean mg mb dp un gd cn cs a ccd cl outer A₀ base h₀ L m s Q E B F X N T hk hdp hun hret
  obtain ⟨ck, c2, c3, c4, c5⟩ := cs
  dsimp only at hk
  subst hk
  k_dflt k_enter
  k_steps
  all_goals (rename News _ _ _ _ => wN; refine hret _ _ _ _ (by assumption) (news_cons wN (by k_mem) (news_cons wN (by k_mem) (newsSub wN (by intro p hp; repeat (first | exact hp | refine List.Mem.tail _ ?_))))) ⟨_, _, _, _, _, rfl, rfl, (.cons _ _ .nil), by first | assumption | exact (And.right (by assumption)) | exact (And.right (And.right (by assumption))) | exact (And.right (And.right (And.right (by assumption)))) | exact (And.right (And.right (And.right (And.right (by assumption))))) | exact (And.right (And.right (And.right (And.right (And.right (by assumption)))))) | exact (And.right (And.right (And.right (And.right (And.right (And.right (by assumption))))))) | exact (And.right (And.right (And.right (And.right (And.right (And.right (And.right (by assumption)))))))) | exact (And.right (And.right (And.right (And.right (And.right (And.right (And.right (And.right (by assumption))))))))) | exact (And.right (And.right (And.right (And.right (And.right (And.right (And.right (And.right (And.right (by assumption)))))))))) | exact (And.right (And.right (And.right (And.right (And.right (And.right (And.right (And.right (And.right (And.right (by assumption))))))))))) | exact (And.right (And.right (And.right (And.right (And.right (And.right (And.right (And.right (And.right (And.right (And.right (by assumption)))))))))))) | exact (And.right (And.right (And.right (And.right (And.right (And.right (And.right (And.right (And.right (And.right (And.right (And.right (by assumption))))))))))))) | exact (And.right (And.right (And.right (And.right (And.right (And.right (And.right (And.right (And.right (And.right (And.right (And.right (And.right (by assumption)))))))))))))) | exact (And.right (And.right (And.right (And.right (And.right (And.right (And.right (And.right (And.right (And.right (And.right (And.right (And.right (And.right (by assumption))))))))))))))), by omega⟩)

theorem one_16 (w : World) (x : Int) (tk tx : Tok) (news : Led) : Claim w 10 297 [.int 16 tk, .int x tx] news (OneRet news ([192 + x.fmod 6]) (popText ((rangeKs 10 (11 + x.fmod 6 - 10).toNat).map (regN (Str.ofString "wR"))))) := by
  k_with_none
  have hx0 : 0 ≤ x.fmod 6 := fmod_lo x (by decide)
  have hx1 : x.fmod 6 < 6 := fmod_hi x (by decide)
  have hsm : Builtin.Range.small 10 (11 + x.fmod 6) 1 = true := small_one (by omega) (by omega) (by omega) (by omega)
  have hsz : (11 + x.fmod 6 - 10).toNat ≤ sizeLine := by rw [PySem.sizeLine_eq]; omega
  have h16 := tm_mem (regN (Str.ofString "wR")) (11 + x.fmod 6 - 10).toNat 10 (fun k h1 h2 => regN_len (by decide) (by omega) (by omega))
  have hn : ((rangeKs 10 (11 + x.fmod 6 - 10).toNat).map (regN (Str.ofString "wR"))).length ≤ 1000 := by rw [tm_len]; omega
  k_with "bsS" => (k_dflt (refine LCg.CompSrc.range (by rfl) (by k_asm) (by k_asm) (by assumption) hsm (rangeSize_nat _ _) hsz ?_); intro g'; (refine' tm_range (regN (Str.ofString "wR")) (fun k' t' I' oI' C' oC' D' m' ys' h' tk' E' hlo' hhi' hC' hx' F' N' off' ne' => ?_) ?_); (all_goals (try (simp only [LCg.Off3, and_true] at off'))); (all_goals (try ((show KPfMark → _); intro hMark'))))
  k_with "bsY" => rfl
  k_with "bsC" => ((with_reducible show wpAny _ _ (call (Value.ref 292) _ _) _ _ _); (rename News _ _ _ _ => nwX); (rename StrsAre _ _ => hsX); k_dflt (refine' Claim.use nwX (law_pop w _ _ _ _ _ _ (by k_mem) rfl hsX h16 hn) ?B ?F ?X ?T rfl ?hd ?hu ?_; (case B => k_asm); (case F => k_asm); (case X => k_asm); (case T => k_asm); (case hd => k_room); (case hu => k_units)); intro v9 news9 h9 tk9 F9 N9 hR9; obtain ⟨rfl, t9, rfl⟩ := hR9; (try k_sweep))
  dsimp only [Claim, KK, lse, OneRet]
  k_fill
  intro mean mg mb dp un gd cn cs a ccd cl outer A₀ base h₀ L m s Q E B F X N T hk hdp hun hret
  obtain ⟨ck, c2, c3, c4, c5⟩ := cs
  dsimp only at hk
  subst hk
  k_dflt k_enter
  k_steps
  all_goals (rename News _ _ _ _ => wN; refine hret _ _ _ _ (by assumption) (news_cons wN (by k_mem) (news_cons wN (by k_mem) (newsSub wN (by intro p hp; repeat (first | exact hp | refine List.Mem.tail _ ?_))))) ⟨_, _, _, _, _, rfl, rfl, (.cons _ _ .nil), by first | assumption | exact (And.right (by assumption)) | exact (And.right (And.right (by assumption))) | exact (And.right (And.right (And.right (by assumption)))) | exact (And.right (And.right (And.right (And.right (by assumption))))) | exact (And.right (And.right (And.right (And.right (And.right (by assumption)))))) | exact (And.right (And.right (And.right (And.right (And.right (And.right (by assumption))))))) | exact (And.right (And.right (And.right (And.right (And.right (And.right (And.right (by assumption)))))))) | exact (And.right (And.right (And.right (And.right (And.right (And.right (And.right (And.right (by assumption))))))))) | exact (And.right (And.right (And.right (And.right (And.right (And.right (And.right (And.right (And.right (by assumption)))))))))) | exact (And.right (And.right (And.right (And.right (And.right (And.right (And.right (And.right (And.right (And.right (by assumption))))))))))) | exact (And.right (And.right (And.right (And.right (And.right (And.right (And.right (And.right (And.right (And.right (And.right (by assumption)))))))))))) | exact (And.right (And.right (And.right (And.right (And.right (And.right (And.right (And.right (And.right (And.right (And.right (And.right (by assumption))))))))))))) | exact (And.right (And.right (And.right (And.right (And.right (And.right (And.right (And.right (And.right (And.right (And.right (And.right (And.right (by assumption)))))))))))))) | exact (And.right (And.right (And.right (And.right (And.right (And.right (And.right (And.right (And.right (And.right (And.right (And.right (And.right (And.right (by assumption))))))))))))))), by omega⟩)

theorem one_4 (w : World) (x : Int) (tk tx : Tok) (news : Led) : Claim w 10 297 [.int 4 tk, .int x tx] news (OneRet news ([144 + x.fmod 16]) (if x.fmod 16 = 13 then Str.ofString "reserved (ARM MOVrr)" else if x.fmod 16 = 15 then Str.ofString "reserved (WiMMX MOVrr)" else Str.ofString "vsp = r" ++ Str.ofString (toString (x.fmod 16)))) := by
  k_with_none
  have hx0 : 0 ≤ x.fmod 16 := fmod_lo x (by decide)
  have hx1 : x.fmod 16 < 16 := fmod_hi x (by decide)
  dsimp only [Claim, KK, lse, OneRet]
  k_fill
  intro mean mg mb dp un gd cn cs a ccd cl outer A₀ base h₀ L m s Q E B F X N T hk hdp hun hret
  obtain ⟨ck, c2, c3, c4, c5⟩ := cs
  dsimp only at hk
  subst hk
  k_dflt k_enter
  k_steps
  all_goals (rename News _ _ _ _ => wN; refine hret _ _ _ _ (by assumption) (news_cons wN (by k_mem) (news_cons wN (by k_mem) (newsSub wN (by intro p hp; repeat (first | exact hp | refine List.Mem.tail _ ?_))))) (OneRet.mk' (by first | rfl | exact (if_pos (by assumption)).symm | exact (if_neg (by assumption)).symm | exact ((if_neg (by assumption)).trans (if_pos (by assumption))).symm | exact ((if_neg (by assumption)).trans (if_neg (by assumption))).symm) (by exact ints1 (by first | rfl | exact (if_pos (by assumption)).symm | exact (if_neg (by assumption)).symm | exact ((if_neg (by assumption)).trans (if_pos (by assumption))).symm | exact ((if_neg (by assumption)).trans (if_neg (by assumption))).symm)) (by first | assumption | exact (And.right (by assumption)) | exact (And.right (And.right (by assumption))) | exact (And.right (And.right (And.right (by assumption)))) | exact (And.right (And.right (And.right (And.right (by assumption))))) | exact (And.right (And.right (And.right (And.right (And.right (by assumption)))))) | exact (And.right (And.right (And.right (And.right (And.right (And.right (by assumption))))))) | exact (And.right (And.right (And.right (And.right (And.right (And.right (And.right (by assumption)))))))) | exact (And.right (And.right (And.right (And.right (And.right (And.right (And.right (And.right (by assumption))))))))) | exact (And.right (And.right (And.right (And.right (And.right (And.right (And.right (And.right (And.right (by assumption)))))))))) | exact (And.right (And.right (And.right (And.right (And.right (And.right (And.right (And.right (And.right (And.right (by assumption))))))))))) | exact (And.right (And.right (And.right (And.right (And.right (And.right (And.right (And.right (And.right (And.right (And.right (by assumption)))))))))))) | exact (And.right (And.right (And.right (And.right (And.right (And.right (And.right (And.right (And.right (And.right (And.right (And.right (by assumption))))))))))))) | exact (And.right (And.right (And.right (And.right (And.right (And.right (And.right (And.right (And.right (And.right (And.right (And.right (And.right (by assumption)))))))))))))) | exact (And.right (And.right (And.right (And.right (And.right (And.right (And.right (And.right (And.right (And.right (And.right (And.right (And.right (And.right (by assumption)))))))))))))))) (by omega)))

theorem one_17 (w : World) (x : Int) (tk tx : Tok) (news : Led) : Claim w 10 297 [.int 17 tk, .int x tx] news (OneRet news ([if x.fmod 50 < 4 then 180 + x.fmod 50 else if x.fmod 50 < 10 then 198 + x.fmod 50 else 206 + x.fmod 50]) (Str.ofString "spare")) := by
  k_with_none
  have hx0 : 0 ≤ x.fmod 50 := fmod_lo x (by decide)
  have hx1 : x.fmod 50 < 50 := fmod_hi x (by decide)
  dsimp only [Claim, KK, lse, OneRet]
  k_fill
  intro mean mg mb dp un gd cn cs a ccd cl outer A₀ base h₀ L m s Q E B F X N T hk hdp hun hret
  obtain ⟨ck, c2, c3, c4, c5⟩ := cs
  dsimp only at hk
  subst hk
  k_dflt k_enter
  k_steps
  all_goals (rename News _ _ _ _ => wN; refine hret _ _ _ _ (by assumption) (news_cons wN (by k_mem) (news_cons wN (by k_mem) (newsSub wN (by intro p hp; repeat (first | exact hp | refine List.Mem.tail _ ?_))))) (OneRet.mk' (by first | rfl | exact (if_pos (by assumption)).symm | exact (if_neg (by assumption)).symm | exact ((if_neg (by assumption)).trans (if_pos (by assumption))).symm | exact ((if_neg (by assumption)).trans (if_neg (by assumption))).symm) (by exact ints1 (by first | rfl | exact (if_pos (by assumption)).symm | exact (if_neg (by assumption)).symm | exact ((if_neg (by assumption)).trans (if_pos (by assumption))).symm | exact ((if_neg (by assumption)).trans (if_neg (by assumption))).symm)) (by first | assumption | exact (And.right (by assumption)) | exact (And.right (And.right (by assumption))) | exact (And.right (And.right (And.right (by assumption)))) | exact (And.right (And.right (And.right (And.right (by assumption))))) | exact (And.right (And.right (And.right (And.right (And.right (by assumption)))))) | exact (And.right (And.right (And.right (And.right (And.right (And.right (by assumption))))))) | exact (And.right (And.right (And.right (And.right (And.right (And.right (And.right (by assumption)))))))) | exact (And.right (And.right (And.right (And.right (And.right (And.right (And.right (And.right (by assumption))))))))) | exact (And.right (And.right (And.right (And.right (And.right (And.right (And.right (And.right (And.right (by assumption)))))))))) | exact (And.right (And.right (And.right (And.right (And.right (And.right (And.right (And.right (And.right (And.right (by assumption))))))))))) | exact (And.right (And.right (And.right (And.right (And.right (And.right (And.right (And.right (And.right (And.right (And.right (by assumption)))))))))))) | exact (And.right (And.right (And.right (And.right (And.right (And.right (And.right (And.right (And.right (And.right (And.right (And.right (by assumption))))))))))))) | exact (And.right (And.right (And.right (And.right (And.right (And.right (And.right (And.right (And.right (And.right (And.right (And.right (And.right (by assumption)))))))))))))) | exact (And.right (And.right (And.right (And.right (And.right (And.right (And.right (And.right (And.right (And.right (And.right (And.right (And.right (And.right (by assumption)))))))))))))))) (by omega)))

theorem one_5 (w : World) (x : Int) (tk tx : Tok) (news : Led) : Claim w 10 297 [.int 5 tk, .int x tx] news (OneRet news ([160 + 0 + x.fmod 8]) (popText ((rangeKs 4 (5 + x.fmod 8 - 4).toNat).map gprN ++ []))) := by
  k_with_none
  have hMk : KstMark := kstMark
  have hx0 : 0 ≤ x.fmod 8 := fmod_lo x (by decide)
  have hx1 : x.fmod 8 < 8 := fmod_hi x (by decide)
  have hsm : Builtin.Range.small 4 (5 + x.fmod 8) 1 = true := small_one (by omega) (by omega) (by omega) (by omega)
  have hsz : (5 + x.fmod 8 - 4).toNat ≤ sizeLine := by rw [PySem.sizeLine_eq]; omega
  have h16 := mem_app (tm_mem gprN (5 + x.fmod 8 - 4).toNat 4 (fun k _ _ => gprN_len k)) (ms := []) (fun _ h => nomatch h)
  have hn : ((rangeKs 4 (5 + x.fmod 8 - 4).toNat).map gprN ++ []).length ≤ 1000 := by rw [List.length_append, tm_len]; (try simp only [List.length_cons, List.length_nil]); omega
  k_with "bsS" => (k_dflt (refine LCg.CompSrc.range (by rfl) (by k_asm) (by k_asm) (by assumption) hsm (rangeSize_nat _ _) hsz ?_); intro g'; (refine' tm_range (gprN) (fun k' t' I' oI' C' oC' D' m' ys' h' tk' E' hlo' hhi' hC' hx' F' N' off' ne' => ?_) ?_); (all_goals (try (simp only [LCg.Off3, and_true] at off'))); (all_goals (try ((show KPfMark → _); intro hMark'))))
  k_with "bsY" => rfl
  k_with "bsI" => ((with_reducible show wpAny _ _ (subscriptTail _ _ (Value.ref 285) (Value.int _ _)) _ _ _); k_dflt (refine' KTb.item_tup (ws := gprNames) ?l ?w (by omega) (by show _ < (16 : Int); omega) (by omega) ?_; (case l => ktb_isTup); (case w => unfold gprNames; repeat constructor)); intro _ _)
  k_with "bsA" => ((rename Fr _ _ _ _ => wF); (rename News _ _ _ _ => wN); (rename StrsAre _ _ => hsX); k_dflt (refine' add_strs wF wN ?ada ?adb hsX ?adj ?adz ?_; (case ada => exact News.isList wN (by k_mem)); (case adb => exact News.isList wN (by k_mem)); (case adj => first | exact .nil | exact .cons _ _ .nil); (case adz => (rw [tm_len]; (try simp only [List.length_cons, List.length_nil]); omega))); intro D' us' h' F' N' l1 hS'; (try k_lt l1); (try k_sweep))
  k_with "bsC" => ((with_reducible show wpAny _ _ (call (Value.ref 292) _ _) _ _ _); (rename News _ _ _ _ => nwX); (rename StrsAre _ _ => hsX); k_dflt (refine' Claim.use nwX (law_pop w _ _ _ _ _ _ (by k_mem) rfl hsX h16 hn) ?B ?F ?X ?T rfl ?hd ?hu ?_; (case B => k_asm); (case F => k_asm); (case X => k_asm); (case T => k_asm); (case hd => k_room); (case hu => k_units)); intro v9 news9 h9 tk9 F9 N9 hR9; obtain ⟨rfl, t9, rfl⟩ := hR9; (try k_sweep))
  dsimp only [Claim, KK, lse, OneRet]
  k_fill
  intro mean mg mb dp un gd cn cs a ccd cl outer A₀ base h₀ L m s Q E B F X N T hk hdp hun hret
  obtain ⟨ck, c2, c3, c4, c5⟩ := cs
  dsimp only at hk
  subst hk
  k_dflt k_enter
  k_steps
  all_goals (rename News _ _ _ _ => wN; refine hret _ _ _ _ (by assumption) (news_cons wN (by k_mem) (news_cons wN (by k_mem) (newsSub wN (by intro p hp; repeat (first | exact hp | refine List.Mem.tail _ ?_))))) ⟨_, _, _, _, _, rfl, rfl, (.cons _ _ .nil), by first | assumption | exact (And.right (by assumption)) | exact (And.right (And.right (by assumption))) | exact (And.right (And.right (And.right (by assumption)))) | exact (And.right (And.right (And.right (And.right (by assumption))))) | exact (And.right (And.right (And.right (And.right (And.right (by assumption)))))) | exact (And.right (And.right (And.right (And.right (And.right (And.right (by assumption))))))) | exact (And.right (And.right (And.right (And.right (And.right (And.right (And.right (by assumption)))))))) | exact (And.right (And.right (And.right (And.right (And.right (And.right (And.right (And.right (by assumption))))))))) | exact (And.right (And.right (And.right (And.right (And.right (And.right (And.right (And.right (And.right (by assumption)))))))))) | exact (And.right (And.right (And.right (And.right (And.right (And.right (And.right (And.right (And.right (And.right (by assumption))))))))))) | exact (And.right (And.right (And.right (And.right (And.right (And.right (And.right (And.right (And.right (And.right (And.right (by assumption)))))))))))) | exact (And.right (And.right (And.right (And.right (And.right (And.right (And.right (And.right (And.right (And.right (And.right (And.right (by assumption))))))))))))) | exact (And.right (And.right (And.right (And.right (And.right (And.right (And.right (And.right (And.right (And.right (And.right (And.right (And.right (by assumption)))))))))))))) | exact (And.right (And.right (And.right (And.right (And.right (And.right (And.right (And.right (And.right (And.right (And.right (And.right (And.right (And.right (by assumption))))))))))))))), by omega⟩)

theorem one_6 (w : World) (x : Int) (tk tx : Tok) (news : Led) : Claim w 10 297 [.int 6 tk, .int x tx] news (OneRet news ([160 + 8 + x.fmod 8]) (popText ((rangeKs 4 (5 + x.fmod 8 - 4).toNat).map gprN ++ [Str.ofString "lr"]))) := by
  k_with_none
  have hMk : KstMark := kstMark
  have hx0 : 0 ≤ x.fmod 8 := fmod_lo x (by decide)
  have hx1 : x.fmod 8 < 8 := fmod_hi x (by decide)
  have hsm : Builtin.Range.small 4 (5 + x.fmod 8) 1 = true := small_one (by omega) (by omega) (by omega) (by omega)
  have hsz : (5 + x.fmod 8 - 4).toNat ≤ sizeLine := by rw [PySem.sizeLine_eq]; omega
  have h16 := mem_app (tm_mem gprN (5 + x.fmod 8 - 4).toNat 4 (fun k _ _ => gprN_len k)) (ms := [Str.ofString "lr"]) (fun y h => by rw [List.mem_singleton.mp h]; decide)
  have hn : ((rangeKs 4 (5 + x.fmod 8 - 4).toNat).map gprN ++ [Str.ofString "lr"]).length ≤ 1000 := by rw [List.length_append, tm_len]; (try simp only [List.length_cons, List.length_nil]); omega
  k_with "bsS" => (k_dflt (refine LCg.CompSrc.range (by rfl) (by k_asm) (by k_asm) (by assumption) hsm (rangeSize_nat _ _) hsz ?_); intro g'; (refine' tm_range (gprN) (fun k' t' I' oI' C' oC' D' m' ys' h' tk' E' hlo' hhi' hC' hx' F' N' off' ne' => ?_) ?_); (all_goals (try (simp only [LCg.Off3, and_true] at off'))); (all_goals (try ((show KPfMark → _); intro hMark'))))
  k_with "bsY" => rfl
  k_with "bsI" => ((with_reducible show wpAny _ _ (subscriptTail _ _ (Value.ref 285) (Value.int _ _)) _ _ _); k_dflt (refine' KTb.item_tup (ws := gprNames) ?l ?w (by omega) (by show _ < (16 : Int); omega) (by omega) ?_; (case l => ktb_isTup); (case w => unfold gprNames; repeat constructor)); intro _ _)
  k_with "bsA" => ((rename Fr _ _ _ _ => wF); (rename News _ _ _ _ => wN); (rename StrsAre _ _ => hsX); k_dflt (refine' add_strs wF wN ?ada ?adb hsX ?adj ?adz ?_; (case ada => exact News.isList wN (by k_mem)); (case adb => exact News.isList wN (by k_mem)); (case adj => first | exact .nil | exact .cons _ _ .nil); (case adz => (rw [tm_len]; (try simp only [List.length_cons, List.length_nil]); omega))); intro D' us' h' F' N' l1 hS'; (try k_lt l1); (try k_sweep))
  k_with "bsC" => ((with_reducible show wpAny _ _ (call (Value.ref 292) _ _) _ _ _); (rename News _ _ _ _ => nwX); (rename StrsAre _ _ => hsX); k_dflt (refine' Claim.use nwX (law_pop w _ _ _ _ _ _ (by k_mem) rfl hsX h16 hn) ?B ?F ?X ?T rfl ?hd ?hu ?_; (case B => k_asm); (case F => k_asm); (case X => k_asm); (case T => k_asm); (case hd => k_room); (case hu => k_units)); intro v9 news9 h9 tk9 F9 N9 hR9; obtain ⟨rfl, t9, rfl⟩ := hR9; (try k_sweep))
  dsimp only [Claim, KK, lse, OneRet]
  k_fill
  intro mean mg mb dp un gd cn cs a ccd cl outer A₀ base h₀ L m s Q E B F X N T hk hdp hun hret
  obtain ⟨ck, c2, c3, c4, c5⟩ := cs
  dsimp only at hk
  subst hk
  k_dflt k_enter
  k_steps
  all_goals (rename News _ _ _ _ => wN; refine hret _ _ _ _ (by assumption) (news_cons wN (by k_mem) (news_cons wN (by k_mem) (newsSub wN (by intro p hp; repeat (first | exact hp | refine List.Mem.tail _ ?_))))) ⟨_, _, _, _, _, rfl, rfl, (.cons _ _ .nil), by first | assumption | exact (And.right (by assumption)) | exact (And.right (And.right (by assumption))) | exact (And.right (And.right (And.right (by assumption)))) | exact (And.right (And.right (And.right (And.right (by assumption))))) | exact (And.right (And.right (And.right (And.right (And.right (by assumption)))))) | exact (And.right (And.right (And.right (And.right (And.right (And.right (by assumption))))))) | exact (And.right (And.right (And.right (And.right (And.right (And.right (And.right (by assumption)))))))) | exact (And.right (And.right (And.right (And.right (And.right (And.right (And.right (And.right (by assumption))))))))) | exact (And.right (And.right (And.right (And.right (And.right (And.right (And.right (And.right (And.right (by assumption)))))))))) | exact (And.right (And.right (And.right (And.right (And.right (And.right (And.right (And.right (And.right (And.right (by assumption))))))))))) | exact (And.right (And.right (And.right (And.right (And.right (And.right (And.right (And.right (And.right (And.right (And.right (by assumption)))))))))))) | exact (And.right (And.right (And.right (And.right (And.right (And.right (And.right (And.right (And.right (And.right (And.right (And.right (by assumption))))))))))))) | exact (And.right (And.right (And.right (And.right (And.right (And.right (And.right (And.right (And.right (And.right (And.right (And.right (And.right (by assumption)))))))))))))) | exact (And.right (And.right (And.right (And.right (And.right (And.right (And.right (And.right (And.right (And.right (And.right (And.right (And.right (And.right (by assumption))))))))))))))), by omega⟩)

theorem one_2 (w : World) (x : Int) (tk tx : Tok) (news : Led) : Claim w 10 297 [.int 2 tk, .int x tx] news (OneRet news ([128 + (x.fmod 4096).fdiv 256, (x.fmod 4096).fmod 256]) (if x.fmod 4096 = 0 then Str.ofString "refuse to unwind" else popText (((rangeKs 0 12).filter (maskC (x.fmod 4096))).map gprN4))) := by
  k_with_none
  have hMk : KstMark := kstMark
  have hx0 : 0 ≤ x.fmod 4096 := fmod_lo x (by decide)
  have hx1 : x.fmod 4096 < 4096 := fmod_hi x (by decide)
  have h16 := hits_mem (maskC (x.fmod 4096)) gprN4 12 0 (fun k => gprN_len (k + 4))
  have hn : (((rangeKs 0 12).filter (maskC (x.fmod 4096))).map gprN4).length ≤ 1000 := Nat.le_trans (hits_len _ _ _ _) (by decide)
  k_with "bsT" => (k_dflt (refine LCt.CompSrcT.range (n := 12) (by rfl) (by k_asm) (by k_asm) (by assumption) (by decide) (by rfl) (by exact Nat.le_of_ble_eq_true rfl) ?_); intro g'; (refine' tf_range (maskC (x.fmod 4096)) (gprN4) (fun k' t' I' oI' C' oC' D' m' ys' h' tk' E' hlo' hhi' hC' hx' F' N' off' ne' => ?_) ?_); (all_goals (try (simp only [LCg.Off3, and_true] at off'))); (all_goals (try ((show KPfMark → _); intro hMark'))))
  k_with "bsI" => ((with_reducible show wpAny _ _ (subscriptTail _ _ (Value.ref 285) (Value.int _ _)) _ _ _); k_dflt (refine' KTb.item_tup (ws := gprNames) ?l ?w (by omega) (by show _ < (16 : Int); omega) (by omega) ?_; (case l => ktb_isTup); (case w => unfold gprNames; repeat constructor)); intro _ _)
  k_with "bsC" => ((with_reducible show wpAny _ _ (call (Value.ref 292) _ _) _ _ _); (rename News _ _ _ _ => nwX); (rename StrsAre _ _ => hsX); k_dflt (refine' Claim.use nwX (law_pop w _ _ _ _ _ _ (by k_mem) rfl hsX h16 hn) ?B ?F ?X ?T rfl ?hd ?hu ?_; (case B => k_asm); (case F => k_asm); (case X => k_asm); (case T => k_asm); (case hd => k_room); (case hu => k_units)); intro v9 news9 h9 tk9 F9 N9 hR9; obtain ⟨rfl, t9, rfl⟩ := hR9; (try k_sweep))
  k_with "bsY" => exact decide_eq_true (by assumption)
  k_with "bsN" => exact decide_eq_false (by assumption)
  dsimp only [Claim, KK, lse, OneRet]
  k_fill
  intro mean mg mb dp un gd cn cs a ccd cl outer A₀ base h₀ L m s Q E B F X N T hk hdp hun hret
  obtain ⟨ck, c2, c3, c4, c5⟩ := cs
  dsimp only at hk
  subst hk
  k_dflt k_enter
  k_steps
  all_goals (rename News _ _ _ _ => wN; refine hret _ _ _ _ (by assumption) (news_cons wN (by k_mem) (news_cons wN (by k_mem) (newsSub wN (by intro p hp; repeat (first | exact hp | refine List.Mem.tail _ ?_))))) (OneRet.mk' (by first | rfl | exact (if_pos (by assumption)).symm | exact (if_neg (by assumption)).symm | exact ((if_neg (by assumption)).trans (if_pos (by assumption))).symm | exact ((if_neg (by assumption)).trans (if_neg (by assumption))).symm) (by exact ints2 rfl rfl) (by first | assumption | exact (And.right (by assumption)) | exact (And.right (And.right (by assumption))) | exact (And.right (And.right (And.right (by assumption)))) | exact (And.right (And.right (And.right (And.right (by assumption))))) | exact (And.right (And.right (And.right (And.right (And.right (by assumption)))))) | exact (And.right (And.right (And.right (And.right (And.right (And.right (by assumption))))))) | exact (And.right (And.right (And.right (And.right (And.right (And.right (And.right (by assumption)))))))) | exact (And.right (And.right (And.right (And.right (And.right (And.right (And.right (And.right (by assumption))))))))) | exact (And.right (And.right (And.right (And.right (And.right (And.right (And.right (And.right (And.right (by assumption)))))))))) | exact (And.right (And.right (And.right (And.right (And.right (And.right (And.right (And.right (And.right (And.right (by assumption))))))))))) | exact (And.right (And.right (And.right (And.right (And.right (And.right (And.right (And.right (And.right (And.right (And.right (by assumption)))))))))))) | exact (And.right (And.right (And.right (And.right (And.right (And.right (And.right (And.right (And.right (And.right (And.right (And.right (by assumption))))))))))))) | exact (And.right (And.right (And.right (And.right (And.right (And.right (And.right (And.right (And.right (And.right (And.right (And.right (And.right (by assumption)))))))))))))) | exact (And.right (And.right (And.right (And.right (And.right (And.right (And.right (And.right (And.right (And.right (And.right (And.right (And.right (And.right (by assumption)))))))))))))))) (by omega)))

theorem one_3 (w : World) (x : Int) (tk tx : Tok) (news : Led) : Claim w 10 297 [.int 3 tk, .int x tx] news (OneRet news ([128 + ((2 : Int) ^ (x.fmod 12).toNat).fdiv 256, ((2 : Int) ^ (x.fmod 12).toNat).fmod 256]) (if (2 : Int) ^ (x.fmod 12).toNat = 0 then Str.ofString "refuse to unwind" else popText (((rangeKs 0 12).filter (maskC ((2 : Int) ^ (x.fmod 12).toNat))).map gprN4))) := by
  k_with_none
  have hMk : KstMark := kstMark
  have hx0 : 0 ≤ x.fmod 12 := fmod_lo x (by decide)
  have hx1 : x.fmod 12 < 12 := fmod_hi x (by decide)
  have hp0 : (0 : Int) < 2 ^ (x.fmod 12).toNat := Int.pow_pos (by decide)
  have h16 := hits_mem (maskC ((2 : Int) ^ (x.fmod 12).toNat)) gprN4 12 0 (fun k => gprN_len (k + 4))
  have hn : (((rangeKs 0 12).filter (maskC ((2 : Int) ^ (x.fmod 12).toNat))).map gprN4).length ≤ 1000 := Nat.le_trans (hits_len _ _ _ _) (by decide)
  k_with "bsT" => (k_dflt (refine LCt.CompSrcT.range (n := 12) (by rfl) (by k_asm) (by k_asm) (by assumption) (by decide) (by rfl) (by exact Nat.le_of_ble_eq_true rfl) ?_); intro g'; (refine' tf_range (maskC ((2 : Int) ^ (x.fmod 12).toNat)) (gprN4) (fun k' t' I' oI' C' oC' D' m' ys' h' tk' E' hlo' hhi' hC' hx' F' N' off' ne' => ?_) ?_); (all_goals (try (simp only [LCg.Off3, and_true] at off'))); (all_goals (try ((show KPfMark → _); intro hMark'))))
  k_with "bsI" => ((with_reducible show wpAny _ _ (subscriptTail _ _ (Value.ref 285) (Value.int _ _)) _ _ _); k_dflt (refine' KTb.item_tup (ws := gprNames) ?l ?w (by omega) (by show _ < (16 : Int); omega) (by omega) ?_; (case l => ktb_isTup); (case w => unfold gprNames; repeat constructor)); intro _ _)
  k_with "bsC" => ((with_reducible show wpAny _ _ (call (Value.ref 292) _ _) _ _ _); (rename News _ _ _ _ => nwX); (rename StrsAre _ _ => hsX); k_dflt (refine' Claim.use nwX (law_pop w _ _ _ _ _ _ (by k_mem) rfl hsX h16 hn) ?B ?F ?X ?T rfl ?hd ?hu ?_; (case B => k_asm); (case F => k_asm); (case X => k_asm); (case T => k_asm); (case hd => k_room); (case hu => k_units)); intro v9 news9 h9 tk9 F9 N9 hR9; obtain ⟨rfl, t9, rfl⟩ := hR9; (try k_sweep))
  k_with "bsY" => exact decide_eq_true (by assumption)
  k_with "bsN" => exact decide_eq_false (by assumption)
  dsimp only [Claim, KK, lse, OneRet]
  k_fill
  intro mean mg mb dp un gd cn cs a ccd cl outer A₀ base h₀ L m s Q E B F X N T hk hdp hun hret
  obtain ⟨ck, c2, c3, c4, c5⟩ := cs
  dsimp only at hk
  subst hk
  k_dflt k_enter
  k_steps
  all_goals (rename News _ _ _ _ => wN; refine hret _ _ _ _ (by assumption) (news_cons wN (by k_mem) (news_cons wN (by k_mem) (newsSub wN (by intro p hp; repeat (first | exact hp | refine List.Mem.tail _ ?_))))) (OneRet.mk' (by first | rfl | exact (if_pos (by assumption)).symm | exact (if_neg (by assumption)).symm | exact ((if_neg (by assumption)).trans (if_pos (by assumption))).symm | exact ((if_neg (by assumption)).trans (if_neg (by assumption))).symm) (by exact ints2 rfl rfl) (by first | assumption | exact (And.right (by assumption)) | exact (And.right (And.right (by assumption))) | exact (And.right (And.right (And.right (by assumption)))) | exact (And.right (And.right (And.right (And.right (by assumption))))) | exact (And.right (And.right (And.right (And.right (And.right (by assumption)))))) | exact (And.right (And.right (And.right (And.right (And.right (And.right (by assumption))))))) | exact (And.right (And.right (And.right (And.right (And.right (And.right (And.right (by assumption)))))))) | exact (And.right (And.right (And.right (And.right (And.right (And.right (And.right (And.right (by assumption))))))))) | exact (And.right (And.right (And.right (And.right (And.right (And.right (And.right (And.right (And.right (by assumption)))))))))) | exact (And.right (And.right (And.right (And.right (And.right (And.right (And.right (And.right (And.right (And.right (by assumption))))))))))) | exact (And.right (And.right (And.right (And.right (And.right (And.right (And.right (And.right (And.right (And.right (And.right (by assumption)))))))))))) | exact (And.right (And.right (And.right (And.right (And.right (And.right (And.right (And.right (And.right (And.right (And.right (And.right (by assumption))))))))))))) | exact (And.right (And.right (And.right (And.right (And.right (And.right (And.right (And.right (And.right (And.right (And.right (And.right (And.right (by assumption)))))))))))))) | exact (And.right (And.right (And.right (And.right (And.right (And.right (And.right (And.right (And.right (And.right (And.right (And.right (And.right (And.right (by assumption)))))))))))))))) (by omega)))

theorem one_8 (w : World) (x : Int) (tk tx : Tok) (news : Led) : Claim w 10 297 [.int 8 tk, .int x tx] news (OneRet news ([177, x.fmod 64]) (if x.fmod 64 = 0 then Str.ofString "spare" else if 15 < x.fmod 64 then Str.ofString "spare" else popText (((rangeKs 0 4).filter (maskC (x.fmod 64))).map (regN (Str.ofString "r"))))) := by
  k_with_none
  have hMk : KstMark := kstMark
  have hx0 : 0 ≤ x.fmod 64 := fmod_lo x (by decide)
  have hx1 : x.fmod 64 < 64 := fmod_hi x (by decide)
  have h16 := regs_mem (pre := Str.ofString "r") (by decide) (maskC (x.fmod 64)) 4 0 (by decide) (by decide)
  have hn : (((rangeKs 0 4).filter (maskC (x.fmod 64))).map (regN (Str.ofString "r"))).length ≤ 1000 := Nat.le_trans (hits_len _ _ _ _) (by decide)
  k_with "bsT" => (k_dflt (refine LCt.CompSrcT.range (n := 4) (by rfl) (by k_asm) (by k_asm) (by assumption) (by decide) (by rfl) (by exact Nat.le_of_ble_eq_true rfl) ?_); intro g'; (refine' tf_range (maskC (x.fmod 64)) (regN (Str.ofString "r")) (fun k' t' I' oI' C' oC' D' m' ys' h' tk' E' hlo' hhi' hC' hx' F' N' off' ne' => ?_) ?_); (all_goals (try (simp only [LCg.Off3, and_true] at off'))); (all_goals (try ((show KPfMark → _); intro hMark'))))
  k_with "bsC" => ((with_reducible show wpAny _ _ (call (Value.ref 292) _ _) _ _ _); (rename News _ _ _ _ => nwX); (rename StrsAre _ _ => hsX); k_dflt (refine' Claim.use nwX (law_pop w _ _ _ _ _ _ (by k_mem) rfl hsX h16 hn) ?B ?F ?X ?T rfl ?hd ?hu ?_; (case B => k_asm); (case F => k_asm); (case X => k_asm); (case T => k_asm); (case hd => k_room); (case hu => k_units)); intro v9 news9 h9 tk9 F9 N9 hR9; obtain ⟨rfl, t9, rfl⟩ := hR9; (try k_sweep))
  k_with "bsY" => exact decide_eq_true (by assumption)
  k_with "bsN" => exact decide_eq_false (by assumption)
  dsimp only [Claim, KK, lse, OneRet]
  k_fill
  intro mean mg mb dp un gd cn cs a ccd cl outer A₀ base h₀ L m s Q E B F X N T hk hdp hun hret
  obtain ⟨ck, c2, c3, c4, c5⟩ := cs
  dsimp only at hk
  subst hk
  k_dflt k_enter
  k_steps
  all_goals (rename News _ _ _ _ => wN; refine hret _ _ _ _ (by assumption) (news_cons wN (by k_mem) (news_cons wN (by k_mem) (newsSub wN (by intro p hp; repeat (first | exact hp | refine List.Mem.tail _ ?_))))) (OneRet.mk' (by first | rfl | exact (if_pos (by assumption)).symm | exact (if_neg (by assumption)).symm | exact ((if_neg (by assumption)).trans (if_pos (by assumption))).symm | exact ((if_neg (by assumption)).trans (if_neg (by assumption))).symm) (by exact ints2 rfl rfl) (by first | assumption | exact (And.right (by assumption)) | exact (And.right (And.right (by assumption))) | exact (And.right (And.right (And.right (by assumption)))) | exact (And.right (And.right (And.right (And.right (by assumption))))) | exact (And.right (And.right (And.right (And.right (And.right (by assumption)))))) | exact (And.right (And.right (And.right (And.right (And.right (And.right (by assumption))))))) | exact (And.right (And.right (And.right (And.right (And.right (And.right (And.right (by assumption)))))))) | exact (And.right (And.right (And.right (And.right (And.right (And.right (And.right (And.right (by assumption))))))))) | exact (And.right (And.right (And.right (And.right (And.right (And.right (And.right (And.right (And.right (by assumption)))))))))) | exact (And.right (And.right (And.right (And.right (And.right (And.right (And.right (And.right (And.right (And.right (by assumption))))))))))) | exact (And.right (And.right (And.right (And.right (And.right (And.right (And.right (And.right (And.right (And.right (And.right (by assumption)))))))))))) | exact (And.right (And.right (And.right (And.right (And.right (And.right (And.right (And.right (And.right (And.right (And.right (And.right (by assumption))))))))))))) | exact (And.right (And.right (And.right (And.right (And.right (And.right (And.right (And.right (And.right (And.right (And.right (And.right (And.right (by assumption)))))))))))))) | exact (And.right (And.right (And.right (And.right (And.right (And.right (And.right (And.right (And.right (And.right (And.right (And.right (And.right (And.right (by assumption)))))))))))))))) (by omega)))

theorem one_9 (w : World) (x : Int) (tk tx : Tok) (news : Led) : Claim w 10 297 [.int 9 tk, .int x tx] news (OneRet news ([199, x.fmod 64]) (if x.fmod 64 = 0 then Str.ofString "spare" else if 15 < x.fmod 64 then Str.ofString "spare" else popText (((rangeKs 0 4).filter (maskC (x.fmod 64))).map (regN (Str.ofString "wCGR"))))) := by
  k_with_none
  have hMk : KstMark := kstMark
  have hx0 : 0 ≤ x.fmod 64 := fmod_lo x (by decide)
  have hx1 : x.fmod 64 < 64 := fmod_hi x (by decide)
  have h16 := regs_mem (pre := Str.ofString "wCGR") (by decide) (maskC (x.fmod 64)) 4 0 (by decide) (by decide)
  have hn : (((rangeKs 0 4).filter (maskC (x.fmod 64))).map (regN (Str.ofString "wCGR"))).length ≤ 1000 := Nat.le_trans (hits_len _ _ _ _) (by decide)
  k_with "bsT" => (k_dflt (refine LCt.CompSrcT.range (n := 4) (by rfl) (by k_asm) (by k_asm) (by assumption) (by decide) (by rfl) (by exact Nat.le_of_ble_eq_true rfl) ?_); intro g'; (refine' tf_range (maskC (x.fmod 64)) (regN (Str.ofString "wCGR")) (fun k' t' I' oI' C' oC' D' m' ys' h' tk' E' hlo' hhi' hC' hx' F' N' off' ne' => ?_) ?_); (all_goals (try (simp only [LCg.Off3, and_true] at off'))); (all_goals (try ((show KPfMark → _); intro hMark'))))
  k_with "bsC" => ((with_reducible show wpAny _ _ (call (Value.ref 292) _ _) _ _ _); (rename News _ _ _ _ => nwX); (rename StrsAre _ _ => hsX); k_dflt (refine' Claim.use nwX (law_pop w _ _ _ _ _ _ (by k_mem) rfl hsX h16 hn) ?B ?F ?X ?T rfl ?hd ?hu ?_; (case B => k_asm); (case F => k_asm); (case X => k_asm); (case T => k_asm); (case hd => k_room); (case hu => k_units)); intro v9 news9 h9 tk9 F9 N9 hR9; obtain ⟨rfl, t9, rfl⟩ := hR9; (try k_sweep))
  k_with "bsY" => exact decide_eq_true (by assumption)
  k_with "bsN" => exact decide_eq_false (by assumption)
  dsimp only [Claim, KK, lse, OneRet]
  k_fill
  intro mean mg mb dp un gd cn cs a ccd cl outer A₀ base h₀ L m s Q E B F X N T hk hdp hun hret
  obtain ⟨ck, c2, c3, c4, c5⟩ := cs
  dsimp only at hk
  subst hk
  k_dflt k_enter
  k_steps
  all_goals (rename News _ _ _ _ => wN; refine hret _ _ _ _ (by assumption) (news_cons wN (by k_mem) (news_cons wN (by k_mem) (newsSub wN (by intro p hp; repeat (first | exact hp | refine List.Mem.tail _ ?_))))) (OneRet.mk' (by first | rfl | exact (if_pos (by assumption)).symm | exact (if_neg (by assumption)).symm | exact ((if_neg (by assumption)).trans (if_pos (by assumption))).symm | exact ((if_neg (by assumption)).trans (if_neg (by assumption))).symm) (by exact ints2 rfl rfl) (by first | assumption | exact (And.right (by assumption)) | exact (And.right (And.right (by assumption))) | exact (And.right (And.right (And.right (by assumption)))) | exact (And.right (And.right (And.right (And.right (by assumption))))) | exact (And.right (And.right (And.right (And.right (And.right (by assumption)))))) | exact (And.right (And.right (And.right (And.right (And.right (And.right (by assumption))))))) | exact (And.right (And.right (And.right (And.right (And.right (And.right (And.right (by assumption)))))))) | exact (And.right (And.right (And.right (And.right (And.right (And.right (And.right (And.right (by assumption))))))))) | exact (And.right (And.right (And.right (And.right (And.right (And.right (And.right (And.right (And.right (by assumption)))))))))) | exact (And.right (And.right (And.right (And.right (And.right (And.right (And.right (And.right (And.right (And.right (by assumption))))))))))) | exact (And.right (And.right (And.right (And.right (And.right (And.right (And.right (And.right (And.right (And.right (And.right (by assumption)))))))))))) | exact (And.right (And.right (And.right (And.right (And.right (And.right (And.right (And.right (And.right (And.right (And.right (And.right (by assumption))))))))))))) | exact (And.right (And.right (And.right (And.right (And.right (And.right (And.right (And.right (And.right (And.right (And.right (And.right (And.right (by assumption)))))))))))))) | exact (And.right (And.right (And.right (And.right (And.right (And.right (And.right (And.right (And.right (And.right (And.right (And.right (And.right (And.right (by assumption)))))))))))))))) (by omega)))

theorem one_10 (w : World) (x : Int) (tk tx : Tok) (news : Led) : Claim w 10 297 [.int 10 tk, .int x tx] news (OneRet news ([179, x.fmod 16 * 16 + (x.fdiv 16).fmod (16 - x.fmod 16)]) (popText ((rangeKs (x.fmod 16) (x.fmod 16 + (x.fdiv 16).fmod (16 - x.fmod 16) + 1 - (x.fmod 16)).toNat).map (regN (Str.ofString "d"))))) := by
  k_with_none
  have hMk : KstMark := kstMark
  have hx0 : 0 ≤ x.fmod 16 := fmod_lo x (by decide)
  have hx1 : x.fmod 16 < 16 := fmod_hi x (by decide)
  have hd0 : 0 < 16 - x.fmod 16 := by omega
  have hc0 : 0 ≤ (x.fdiv 16).fmod (16 - x.fmod 16) := Int.fmod_nonneg_of_pos _ hd0
  have hc1 : (x.fdiv 16).fmod (16 - x.fmod 16) < 16 - x.fmod 16 := Int.fmod_lt_of_pos _ hd0
  have hsm : Builtin.Range.small (x.fmod 16) (x.fmod 16 + (x.fdiv 16).fmod (16 - x.fmod 16) + 1) 1 = true := small_one (by omega) (by omega) (by omega) (by omega)
  have hsz : (x.fmod 16 + (x.fdiv 16).fmod (16 - x.fmod 16) + 1 - (x.fmod 16)).toNat ≤ sizeLine := by rw [PySem.sizeLine_eq]; omega
  have h16 := tm_mem (regN (Str.ofString "d")) (x.fmod 16 + (x.fdiv 16).fmod (16 - x.fmod 16) + 1 - (x.fmod 16)).toNat (x.fmod 16) (fun k h1 h2 => regN_len (by decide) (by omega) (by omega))
  have hn : ((rangeKs (x.fmod 16) (x.fmod 16 + (x.fdiv 16).fmod (16 - x.fmod 16) + 1 - (x.fmod 16)).toNat).map (regN (Str.ofString "d"))).length ≤ 1000 := by rw [tm_len]; omega
  k_with "bsS" => (k_dflt (refine LCg.CompSrc.range (by rfl) (by k_asm) (by k_asm) (by assumption) hsm (rangeSize_nat _ _) hsz ?_); intro g'; (refine' tm_range (regN (Str.ofString "d")) (fun k' t' I' oI' C' oC' D' m' ys' h' tk' E' hlo' hhi' hC' hx' F' N' off' ne' => ?_) ?_); (all_goals (try (simp only [LCg.Off3, and_true] at off'))); (all_goals (try ((show KPfMark → _); intro hMark'))))
  k_with "bsY" => rfl
  k_with "bsC" => ((with_reducible show wpAny _ _ (call (Value.ref 292) _ _) _ _ _); (rename News _ _ _ _ => nwX); (rename StrsAre _ _ => hsX); k_dflt (refine' Claim.use nwX (law_pop w _ _ _ _ _ _ (by k_mem) rfl hsX h16 hn) ?B ?F ?X ?T rfl ?hd ?hu ?_; (case B => k_asm); (case F => k_asm); (case X => k_asm); (case T => k_asm); (case hd => k_room); (case hu => k_units)); intro v9 news9 h9 tk9 F9 N9 hR9; obtain ⟨rfl, t9, rfl⟩ := hR9; (try k_sweep))
  dsimp only [Claim, KK, lse, OneRet]
  k_fill
  intro mean mg mb dp un gd cn cs a ccd cl outer A₀ base h₀ L m s Q E B F X N T hk hdp hun hret
  obtain ⟨ck, c2, c3, c4, c5⟩ := cs
  dsimp only at hk
  subst hk
  k_dflt k_enter
  k_steps
  all_goals (rename News _ _ _ _ => wN; refine hret _ _ _ _ (by assumption) (news_cons wN (by k_mem) (news_cons wN (by k_mem) (newsSub wN (by intro p hp; repeat (first | exact hp | refine List.Mem.tail _ ?_))))) (OneRet.mk' (by rfl) (by exact ints2 rfl rfl) (by first | assumption | exact (And.right (by assumption)) | exact (And.right (And.right (by assumption))) | exact (And.right (And.right (And.right (by assumption)))) | exact (And.right (And.right (And.right (And.right (by assumption))))) | exact (And.right (And.right (And.right (And.right (And.right (by assumption)))))) | exact (And.right (And.right (And.right (And.right (And.right (And.right (by assumption))))))) | exact (And.right (And.right (And.right (And.right (And.right (And.right (And.right (by assumption)))))))) | exact (And.right (And.right (And.right (And.right (And.right (And.right (And.right (And.right (by assumption))))))))) | exact (And.right (And.right (And.right (And.right (And.right (And.right (And.right (And.right (And.right (by assumption)))))))))) | exact (And.right (And.right (And.right (And.right (And.right (And.right (And.right (And.right (And.right (And.right (by assumption))))))))))) | exact (And.right (And.right (And.right (And.right (And.right (And.right (And.right (And.right (And.right (And.right (And.right (by assumption)))))))))))) | exact (And.right (And.right (And.right (And.right (And.right (And.right (And.right (And.right (And.right (And.right (And.right (And.right (by assumption))))))))))))) | exact (And.right (And.right (And.right (And.right (And.right (And.right (And.right (And.right (And.right (And.right (And.right (And.right (And.right (by assumption)))))))))))))) | exact (And.right (And.right (And.right (And.right (And.right (And.right (And.right (And.right (And.right (And.right (And.right (And.right (And.right (And.right (by assumption)))))))))))))))) (by omega)))

theorem one_11 (w : World) (x : Int) (tk tx : Tok) (news : Led) : Claim w 10 297 [.int 11 tk, .int x tx] news (OneRet news ([201, x.fmod 16 * 16 + (x.fdiv 16).fmod (16 - x.fmod 16)]) (popText ((rangeKs (x.fmod 16) (x.fmod 16 + (x.fdiv 16).fmod (16 - x.fmod 16) + 1 - (x.fmod 16)).toNat).map (regN (Str.ofString "d"))))) := by
  k_with_none
  have hMk : KstMark := kstMark
  have hx0 : 0 ≤ x.fmod 16 := fmod_lo x (by decide)
  have hx1 : x.fmod 16 < 16 := fmod_hi x (by decide)
  have hd0 : 0 < 16 - x.fmod 16 := by omega
  have hc0 : 0 ≤ (x.fdiv 16).fmod (16 - x.fmod 16) := Int.fmod_nonneg_of_pos _ hd0
  have hc1 : (x.fdiv 16).fmod (16 - x.fmod 16) < 16 - x.fmod 16 := Int.fmod_lt_of_pos _ hd0
  have hsm : Builtin.Range.small (x.fmod 16) (x.fmod 16 + (x.fdiv 16).fmod (16 - x.fmod 16) + 1) 1 = true := small_one (by omega) (by omega) (by omega) (by omega)
  have hsz : (x.fmod 16 + (x.fdiv 16).fmod (16 - x.fmod 16) + 1 - (x.fmod 16)).toNat ≤ sizeLine := by rw [PySem.sizeLine_eq]; omega
  have h16 := tm_mem (regN (Str.ofString "d")) (x.fmod 16 + (x.fdiv 16).fmod (16 - x.fmod 16) + 1 - (x.fmod 16)).toNat (x.fmod 16) (fun k h1 h2 => regN_len (by decide) (by omega) (by omega))
  have hn : ((rangeKs (x.fmod 16) (x.fmod 16 + (x.fdiv 16).fmod (16 - x.fmod 16) + 1 - (x.fmod 16)).toNat).map (regN (Str.ofString "d"))).length ≤ 1000 := by rw [tm_len]; omega
  k_with "bsS" => (k_dflt (refine LCg.CompSrc.range (by rfl) (by k_asm) (by k_asm) (by assumption) hsm (rangeSize_nat _ _) hsz ?_); intro g'; (refine' tm_range (regN (Str.ofString "d")) (fun k' t' I' oI' C' oC' D' m' ys' h' tk' E' hlo' hhi' hC' hx' F' N' off' ne' => ?_) ?_); (all_goals (try (simp only [LCg.Off3, and_true] at off'))); (all_goals (try ((show KPfMark → _); intro hMark'))))
  k_with "bsY" => rfl
  k_with "bsC" => ((with_reducible show wpAny _ _ (call (Value.ref 292) _ _) _ _ _); (rename News _ _ _ _ => nwX); (rename StrsAre _ _ => hsX); k_dflt (refine' Claim.use nwX (law_pop w _ _ _ _ _ _ (by k_mem) rfl hsX h16 hn) ?B ?F ?X ?T rfl ?hd ?hu ?_; (case B => k_asm); (case F => k_asm); (case X => k_asm); (case T => k_asm); (case hd => k_room); (case hu => k_units)); intro v9 news9 h9 tk9 F9 N9 hR9; obtain ⟨rfl, t9, rfl⟩ := hR9; (try k_sweep))
  dsimp only [Claim, KK, lse, OneRet]
  k_fill
  intro mean mg mb dp un gd cn cs a ccd cl outer A₀ base h₀ L m s Q E B F X N T hk hdp hun hret
  obtain ⟨ck, c2, c3, c4, c5⟩ := cs
  dsimp only at hk
  subst hk
  k_dflt k_enter
  k_steps
  all_goals (rename News _ _ _ _ => wN; refine hret _ _ _ _ (by assumption) (news_cons wN (by k_mem) (news_cons wN (by k_mem) (newsSub wN (by intro p hp; repeat (first | exact hp | refine List.Mem.tail _ ?_))))) (OneRet.mk' (by rfl) (by exact ints2 rfl rfl) (by first | assumption | exact (And.right (by assumption)) | exact (And.right (And.right (by assumption))) | exact (And.right (And.right (And.right (by assumption)))) | exact (And.right (And.right (And.right (And.right (by assumption))))) | exact (And.right (And.right (And.right (And.right (And.right (by assumption)))))) | exact (And.right (And.right (And.right (And.right (And.right (And.right (by assumption))))))) | exact (And.right (And.right (And.right (And.right (And.right (And.right (And.right (by assumption)))))))) | exact (And.right (And.right (And.right (And.right (And.right (And.right (And.right (And.right (by assumption))))))))) | exact (And.right (And.right (And.right (And.right (And.right (And.right (And.right (And.right (And.right (by assumption)))))))))) | exact (And.right (And.right (And.right (And.right (And.right (And.right (And.right (And.right (And.right (And.right (by assumption))))))))))) | exact (And.right (And.right (And.right (And.right (And.right (And.right (And.right (And.right (And.right (And.right (And.right (by assumption)))))))))))) | exact (And.right (And.right (And.right (And.right (And.right (And.right (And.right (And.right (And.right (And.right (And.right (And.right (by assumption))))))))))))) | exact (And.right (And.right (And.right (And.right (And.right (And.right (And.right (And.right (And.right (And.right (And.right (And.right (And.right (by assumption)))))))))))))) | exact (And.right (And.right (And.right (And.right (And.right (And.right (And.right (And.right (And.right (And.right (And.right (And.right (And.right (And.right (by assumption)))))))))))))))) (by omega)))

theorem one_12 (w : World) (x : Int) (tk tx : Tok) (news : Led) : Claim w 10 297 [.int 12 tk, .int x tx] news (OneRet news ([200, x.fmod 16 * 16 + (x.fdiv 16).fmod (16 - x.fmod 16)]) (popText ((rangeKs (16 + x.fmod 16) (16 + x.fmod 16 + (x.fdiv 16).fmod (16 - x.fmod 16) + 1 - (16 + x.fmod 16)).toNat).map (regN (Str.ofString "d"))))) := by
  k_with_none
  have hMk : KstMark := kstMark
  have hx0 : 0 ≤ x.fmod 16 := fmod_lo x (by decide)
  have hx1 : x.fmod 16 < 16 := fmod_hi x (by decide)
  have hd0 : 0 < 16 - x.fmod 16 := by omega
  have hc0 : 0 ≤ (x.fdiv 16).fmod (16 - x.fmod 16) := Int.fmod_nonneg_of_pos _ hd0
  have hc1 : (x.fdiv 16).fmod (16 - x.fmod 16) < 16 - x.fmod 16 := Int.fmod_lt_of_pos _ hd0
  have hsm : Builtin.Range.small (16 + x.fmod 16) (16 + x.fmod 16 + (x.fdiv 16).fmod (16 - x.fmod 16) + 1) 1 = true := small_one (by omega) (by omega) (by omega) (by omega)
  have hsz : (16 + x.fmod 16 + (x.fdiv 16).fmod (16 - x.fmod 16) + 1 - (16 + x.fmod 16)).toNat ≤ sizeLine := by rw [PySem.sizeLine_eq]; omega
  have h16 := tm_mem (regN (Str.ofString "d")) (16 + x.fmod 16 + (x.fdiv 16).fmod (16 - x.fmod 16) + 1 - (16 + x.fmod 16)).toNat (16 + x.fmod 16) (fun k h1 h2 => regN_len (by decide) (by omega) (by omega))
  have hn : ((rangeKs (16 + x.fmod 16) (16 + x.fmod 16 + (x.fdiv 16).fmod (16 - x.fmod 16) + 1 - (16 + x.fmod 16)).toNat).map (regN (Str.ofString "d"))).length ≤ 1000 := by rw [tm_len]; omega
  k_with "bsS" => (k_dflt (refine LCg.CompSrc.range (by rfl) (by k_asm) (by k_asm) (by assumption) hsm (rangeSize_nat _ _) hsz ?_); intro g'; (refine' tm_range (regN (Str.ofString "d")) (fun k' t' I' oI' C' oC' D' m' ys' h' tk' E' hlo' hhi' hC' hx' F' N' off' ne' => ?_) ?_); (all_goals (try (simp only [LCg.Off3, and_true] at off'))); (all_goals (try ((show KPfMark → _); intro hMark'))))
  k_with "bsY" => rfl
  k_with "bsC" => ((with_reducible show wpAny _ _ (call (Value.ref 292) _ _) _ _ _); (rename News _ _ _ _ => nwX); (rename StrsAre _ _ => hsX); k_dflt (refine' Claim.use nwX (law_pop w _ _ _ _ _ _ (by k_mem) rfl hsX h16 hn) ?B ?F ?X ?T rfl ?hd ?hu ?_; (case B => k_asm); (case F => k_asm); (case X => k_asm); (case T => k_asm); (case hd => k_room); (case hu => k_units)); intro v9 news9 h9 tk9 F9 N9 hR9; obtain ⟨rfl, t9, rfl⟩ := hR9; (try k_sweep))
  dsimp only [Claim, KK, lse, OneRet]
  k_fill
  intro mean mg mb dp un gd cn cs a ccd cl outer A₀ base h₀ L m s Q E B F X N T hk hdp hun hret
  obtain ⟨ck, c2, c3, c4, c5⟩ := cs
  dsimp only at hk
  subst hk
  k_dflt k_enter
  k_steps
  all_goals (rename News _ _ _ _ => wN; refine hret _ _ _ _ (by assumption) (news_cons wN (by k_mem) (news_cons wN (by k_mem) (newsSub wN (by intro p hp; repeat (first | exact hp | refine List.Mem.tail _ ?_))))) (OneRet.mk' (by rfl) (by exact ints2 rfl rfl) (by first | assumption | exact (And.right (by assumption)) | exact (And.right (And.right (by assumption))) | exact (And.right (And.right (And.right (by assumption)))) | exact (And.right (And.right (And.right (And.right (by assumption))))) | exact (And.right (And.right (And.right (And.right (And.right (by assumption)))))) | exact (And.right (And.right (And.right (And.right (And.right (And.right (by assumption))))))) | exact (And.right (And.right (And.right (And.right (And.right (And.right (And.right (by assumption)))))))) | exact (And.right (And.right (And.right (And.right (And.right (And.right (And.right (And.right (by assumption))))))))) | exact (And.right (And.right (And.right (And.right (And.right (And.right (And.right (And.right (And.right (by assumption)))))))))) | exact (And.right (And.right (And.right (And.right (And.right (And.right (And.right (And.right (And.right (And.right (by assumption))))))))))) | exact (And.right (And.right (And.right (And.right (And.right (And.right (And.right (And.right (And.right (And.right (And.right (by assumption)))))))))))) | exact (And.right (And.right (And.right (And.right (And.right (And.right (And.right (And.right (And.right (And.right (And.right (And.right (by assumption))))))))))))) | exact (And.right (And.right (And.right (And.right (And.right (And.right (And.right (And.right (And.right (And.right (And.right (And.right (And.right (by assumption)))))))))))))) | exact (And.right (And.right (And.right (And.right (And.right (And.right (And.right (And.right (And.right (And.right (And.right (And.right (And.right (And.right (by assumption)))))))))))))))) (by omega)))

theorem one_13 (w : World) (x : Int) (tk tx : Tok) (news : Led) : Claim w 10 297 [.int 13 tk, .int x tx] news (OneRet news ([198, x.fmod 16 * 16 + (x.fdiv 16).fmod (16 - x.fmod 16)]) (popText ((rangeKs (x.fmod 16) (x.fmod 16 + (x.fdiv 16).fmod (16 - x.fmod 16) + 1 - (x.fmod 16)).toNat).map (regN (Str.ofString "wR"))))) := by
  k_with_none
  have hMk : KstMark := kstMark
  have hx0 : 0 ≤ x.fmod 16 := fmod_lo x (by decide)
  have hx1 : x.fmod 16 < 16 := fmod_hi x (by decide)
  have hd0 : 0 < 16 - x.fmod 16 := by omega
  have hc0 : 0 ≤ (x.fdiv 16).fmod (16 - x.fmod 16) := Int.fmod_nonneg_of_pos _ hd0
  have hc1 : (x.fdiv 16).fmod (16 - x.fmod 16) < 16 - x.fmod 16 := Int.fmod_lt_of_pos _ hd0
  have hsm : Builtin.Range.small (x.fmod 16) (x.fmod 16 + (x.fdiv 16).fmod (16 - x.fmod 16) + 1) 1 = true := small_one (by omega) (by omega) (by omega) (by omega)
  have hsz : (x.fmod 16 + (x.fdiv 16).fmod (16 - x.fmod 16) + 1 - (x.fmod 16)).toNat ≤ sizeLine := by rw [PySem.sizeLine_eq]; omega
  have h16 := tm_mem (regN (Str.ofString "wR")) (x.fmod 16 + (x.fdiv 16).fmod (16 - x.fmod 16) + 1 - (x.fmod 16)).toNat (x.fmod 16) (fun k h1 h2 => regN_len (by decide) (by omega) (by omega))
  have hn : ((rangeKs (x.fmod 16) (x.fmod 16 + (x.fdiv 16).fmod (16 - x.fmod 16) + 1 - (x.fmod 16)).toNat).map (regN (Str.ofString "wR"))).length ≤ 1000 := by rw [tm_len]; omega
  k_with "bsS" => (k_dflt (refine LCg.CompSrc.range (by rfl) (by k_asm) (by k_asm) (by assumption) hsm (rangeSize_nat _ _) hsz ?_); intro g'; (refine' tm_range (regN (Str.ofString "wR")) (fun k' t' I' oI' C' oC' D' m' ys' h' tk' E' hlo' hhi' hC' hx' F' N' off' ne' => ?_) ?_); (all_goals (try (simp only [LCg.Off3, and_true] at off'))); (all_goals (try ((show KPfMark → _); intro hMark'))))
  k_with "bsY" => rfl
  k_with "bsC" => ((with_reducible show wpAny _ _ (call (Value.ref 292) _ _) _ _ _); (rename News _ _ _ _ => nwX); (rename StrsAre _ _ => hsX); k_dflt (refine' Claim.use nwX (law_pop w _ _ _ _ _ _ (by k_mem) rfl hsX h16 hn) ?B ?F ?X ?T rfl ?hd ?hu ?_; (case B => k_asm); (case F => k_asm); (case X => k_asm); (case T => k_asm); (case hd => k_room); (case hu => k_units)); intro v9 news9 h9 tk9 F9 N9 hR9; obtain ⟨rfl, t9, rfl⟩ := hR9; (try k_sweep))
  dsimp only [Claim, KK, lse, OneRet]
  k_fill
  intro mean mg mb dp un gd cn cs a ccd cl outer A₀ base h₀ L m s Q E B F X N T hk hdp hun hret
  obtain ⟨ck, c2, c3, c4, c5⟩ := cs
  dsimp only at hk
  subst hk
  k_dflt k_enter
  k_steps
  all_goals (rename News _ _ _ _ => wN; refine hret _ _ _ _ (by assumption) (news_cons wN (by k_mem) (news_cons wN (by k_mem) (newsSub wN (by intro p hp; repeat (first | exact hp | refine List.Mem.tail _ ?_))))) (OneRet.mk' (by rfl) (by exact ints2 rfl rfl) (by first | assumption | exact (And.right (by assumption)) | exact (And.right (And.right (by assumption))) | exact (And.right (And.right (And.right (by assumption)))) | exact (And.right (And.right (And.right (And.right (by assumption))))) | exact (And.right (And.right (And.right (And.right (And.right (by assumption)))))) | exact (And.right (And.right (And.right (And.right (And.right (And.right (by assumption))))))) | exact (And.right (And.right (And.right (And.right (And.right (And.right (And.right (by assumption)))))))) | exact (And.right (And.right (And.right (And.right (And.right (And.right (And.right (And.right (by assumption))))))))) | exact (And.right (And.right (And.right (And.right (And.right (And.right (And.right (And.right (And.right (by assumption)))))))))) | exact (And.right (And.right (And.right (And.right (And.right (And.right (And.right (And.right (And.right (And.right (by assumption))))))))))) | exact (And.right (And.right (And.right (And.right (And.right (And.right (And.right (And.right (And.right (And.right (And.right (by assumption)))))))))))) | exact (And.right (And.right (And.right (And.right (And.right (And.right (And.right (And.right (And.right (And.right (And.right (And.right (by assumption))))))))))))) | exact (And.right (And.right (And.right (And.right (And.right (And.right (And.right (And.right (And.right (And.right (And.right (And.right (And.right (by assumption)))))))))))))) | exact (And.right (And.right (And.right (And.right (And.right (And.right (And.right (And.right (And.right (And.right (And.right (And.right (And.right (And.right (by assumption)))))))))))))))) (by omega)))

theorem top_off18 : True := by
  w_top off
  exact True.intro
def rowOf (k : Nat) (x : Int) : List Int := match k with
  | 0 => [x.fmod 64]
  | 1 => [64 + x.fmod 64]
  | 2 => [128 + (x.fmod 4096).fdiv 256, (x.fmod 4096).fmod 256]
  | 3 => [128 + ((2 : Int) ^ (x.fmod 12).toNat).fdiv 256, ((2 : Int) ^ (x.fmod 12).toNat).fmod 256]
  | 4 => [144 + x.fmod 16]
  | 5 => [160 + 0 + x.fmod 8]
  | 6 => [160 + 8 + x.fmod 8]
  | 7 => [176]
  | 8 => [177, x.fmod 64]
  | 9 => [199, x.fmod 64]
  | 10 => [179, x.fmod 16 * 16 + (x.fdiv 16).fmod (16 - x.fmod 16)]
  | 11 => [201, x.fmod 16 * 16 + (x.fdiv 16).fmod (16 - x.fmod 16)]
  | 12 => [200, x.fmod 16 * 16 + (x.fdiv 16).fmod (16 - x.fmod 16)]
  | 13 => [198, x.fmod 16 * 16 + (x.fdiv 16).fmod (16 - x.fmod 16)]
  | 14 => [184 + x.fmod 8]
  | 15 => [208 + x.fmod 8]
  | 16 => [192 + x.fmod 6]
  | 17 => [if x.fmod 50 < 4 then 180 + x.fmod 50 else if x.fmod 50 < 10 then 198 + x.fmod 50 else 206 + x.fmod 50]
  | _ => []
def wrdOf (k : Nat) (x : Int) : PySem.Str := match k with
  | 0 => Str.ofString "vsp = vsp + " ++ Str.ofString (toString (x.fmod 64 * 4 + 4))
  | 1 => Str.ofString "vsp = vsp - " ++ Str.ofString (toString (x.fmod 64 * 4 + 4))
  | 2 => if x.fmod 4096 = 0 then Str.ofString "refuse to unwind" else popText (((rangeKs 0 12).filter (maskC (x.fmod 4096))).map gprN4)
  | 3 => if (2 : Int) ^ (x.fmod 12).toNat = 0 then Str.ofString "refuse to unwind" else popText (((rangeKs 0 12).filter (maskC ((2 : Int) ^ (x.fmod 12).toNat))).map gprN4)
  | 4 => if x.fmod 16 = 13 then Str.ofString "reserved (ARM MOVrr)" else if x.fmod 16 = 15 then Str.ofString "reserved (WiMMX MOVrr)" else Str.ofString "vsp = r" ++ Str.ofString (toString (x.fmod 16))
  | 5 => popText ((rangeKs 4 (5 + x.fmod 8 - 4).toNat).map gprN ++ [])
  | 6 => popText ((rangeKs 4 (5 + x.fmod 8 - 4).toNat).map gprN ++ [Str.ofString "lr"])
  | 7 => Str.ofString "finish"
  | 8 => if x.fmod 64 = 0 then Str.ofString "spare" else if 15 < x.fmod 64 then Str.ofString "spare" else popText (((rangeKs 0 4).filter (maskC (x.fmod 64))).map (regN (Str.ofString "r")))
  | 9 => if x.fmod 64 = 0 then Str.ofString "spare" else if 15 < x.fmod 64 then Str.ofString "spare" else popText (((rangeKs 0 4).filter (maskC (x.fmod 64))).map (regN (Str.ofString "wCGR")))
  | 10 => popText ((rangeKs (x.fmod 16) (x.fmod 16 + (x.fdiv 16).fmod (16 - x.fmod 16) + 1 - (x.fmod 16)).toNat).map (regN (Str.ofString "d")))
  | 11 => popText ((rangeKs (x.fmod 16) (x.fmod 16 + (x.fdiv 16).fmod (16 - x.fmod 16) + 1 - (x.fmod 16)).toNat).map (regN (Str.ofString "d")))
  | 12 => popText ((rangeKs (16 + x.fmod 16) (16 + x.fmod 16 + (x.fdiv 16).fmod (16 - x.fmod 16) + 1 - (16 + x.fmod 16)).toNat).map (regN (Str.ofString "d")))
  | 13 => popText ((rangeKs (x.fmod 16) (x.fmod 16 + (x.fdiv 16).fmod (16 - x.fmod 16) + 1 - (x.fmod 16)).toNat).map (regN (Str.ofString "wR")))
  | 14 => popText ((rangeKs 8 (9 + x.fmod 8 - 8).toNat).map (regN (Str.ofString "d")))
  | 15 => popText ((rangeKs 8 (9 + x.fmod 8 - 8).toNat).map (regN (Str.ofString "d")))
  | 16 => popText ((rangeKs 10 (11 + x.fmod 6 - 10).toNat).map (regN (Str.ofString "wR")))
  | 17 => Str.ofString "spare"
  | _ => Str.empty

theorem top_off19 : True := by
  w_top off
  exact True.intro
theorem one_all (w : World) (k : Nat) (hk : k < 18) (x : Int) (tk tx : Tok) (news : Led) : Claim w 10 297 [.int (k : Int) tk, .int x tx] news (OneRet news (rowOf k x) (wrdOf k x)) := by
  match k, hk with
  | 0, _ => exact one_0 w x tk tx news
  | 1, _ => exact one_1 w x tk tx news
  | 2, _ => exact one_2 w x tk tx news
  | 3, _ => exact one_3 w x tk tx news
  | 4, _ => exact one_4 w x tk tx news
  | 5, _ => exact one_5 w x tk tx news
  | 6, _ => exact one_6 w x tk tx news
  | 7, _ => exact one_7 w x tk tx news
  | 8, _ => exact one_8 w x tk tx news
  | 9, _ => exact one_9 w x tk tx news
  | 10, _ => exact one_10 w x tk tx news
  | 11, _ => exact one_11 w x tk tx news
  | 12, _ => exact one_12 w x tk tx news
  | 13, _ => exact one_13 w x tk tx news
  | 14, _ => exact one_14 w x tk tx news
  | 15, _ => exact one_15 w x tk tx news
  | 16, _ => exact one_16 w x tk tx news
  | 17, _ => exact one_17 w x tk tx news
  | k + 18, h => omega
theorem one_allZ (w : World) (k : Int) (h0 : 0 ≤ k) (h1 : k < 18) (x : Int) (tk tx : Tok) (news : Led) : Claim w 10 297 [.int k tk, .int x tx] news (OneRet news (rowOf k.toNat x) (wrdOf k.toNat x)) := by
  obtain ⟨n, rfl⟩ := Int.eq_ofNat_of_zero_le h0
  exact one_all w n (by omega) x tk tx news

theorem top_off20 : True := by
  w_top off
  exact True.intro
/-! the plain law: the rows cut the octets just so -/
def hitsAt (r : Nat) (b : Int) : Bool := ((rows.take r).all fun q => decide (Builtin.bitAnd b q.mask ≠ q.vl)) && ((rows[r]?).any fun q => decide (Builtin.bitAnd b q.mask = q.vl))
theorem hits_miss {r : Nat} {b : Int} (h : hitsAt r b = true) : ∀ j rj, j < r → rows[j]? = some rj → Builtin.bitAnd b rj.mask ≠ rj.vl := by
  intro j rj hj hr
  have h1 := (Bool.and_eq_true_iff.mp h).1
  refine of_decide_eq_true (List.all_eq_true.mp h1 rj ?_)
  exact List.mem_of_getElem? (by rw [List.getElem?_take_of_lt hj]; exact hr)
theorem hits_hit {r : Nat} {b : Int} {row : RowD} (h : hitsAt r b = true) (hr : rows[r]? = some row) : Builtin.bitAnd b row.mask = row.vl := by
  have h1 := (Bool.and_eq_true_iff.mp h).2
  rw [hr] at h1
  exact of_decide_eq_true h1
theorem dec1 {r : Nat} {row : RowD} {b : Int} {text : PySem.Str} {rest : List Int} {todo : List (List Int × PySem.Str)} (hrow : rows[r]? = some row) (hr10 : r ≠ 10) (hh : hitsAt r b = true) (h0 : 0 ≤ b) (h1 : b < 256) (h2 : row.two = false) (ht : text = txt r b 0) (t : Dec rest todo) : Dec ([b] ++ rest) (([b], text) :: todo) := by
  subst ht
  exact Dec.step hrow hr10 (hits_miss hh) (hits_hit hh hrow) h0 h1 (by rw [h2]; rfl) (fun x => by rw [h2] at x; cases x) t
theorem dec2 {r : Nat} {row : RowD} {b b1 : Int} {text : PySem.Str} {rest : List Int} {todo : List (List Int × PySem.Str)} (hrow : rows[r]? = some row) (hr10 : r ≠ 10) (hh : hitsAt r b = true) (h0 : 0 ≤ b) (h1 : b < 256) (h2 : row.two = true) (h3 : 0 ≤ b1) (h4 : b1 < 256) (ht : text = txt r b b1) (t : Dec rest todo) : Dec ([b, b1] ++ rest) (([b, b1], text) :: todo) := by
  subst ht
  exact Dec.step hrow hr10 (hits_miss hh) (hits_hit hh hrow) h0 h1 (by rw [h2]; rfl) (fun _ => ⟨h3, h4⟩) t
/-- a code's octets and words stand first -/
def Cuts (k : Nat) (x : Int) : Prop := ∀ rest todo, Dec rest todo → Dec (rowOf k x ++ rest) ((rowOf k x, wrdOf k x) :: todo)
theorem fm (x : Int) (k : Nat) (hk : (0 : Int) < (k : Int)) : ∃ n : Nat, n < k ∧ x.fmod (k : Int) = (n : Int) := by
  have h0 := fmod_lo x hk
  have h1 := fmod_hi x hk
  exact ⟨(x.fmod k).toNat, by omega, by omega⟩
theorem popg (ys : List PySem.Str) : popText ys = Str.ofString "pop " ++ (Str.ofString "{" ++ Txt.join (Str.ofString ", ") ys ++ Str.ofString "}") := by
  unfold popText
  rw [← Str.append_assoc, ← Str.append_assoc]
  rfl
theorem cut_0 (x : Int) : Cuts 0 x := by
  intro rest todo t
  obtain ⟨n, hn, e⟩ := fm x 64 (by decide)
  have hh : ∀ n : Nat, n < 64 → hitsAt 0 (n : Int) = true := by decide +kernel
  have e' : x.fmod 64 = (n : Int) := e
  show Dec ([x.fmod 64] ++ rest) (([x.fmod 64], Str.ofString "vsp = vsp + " ++ Str.ofString (toString (x.fmod 64 * 4 + 4))) :: todo)
  rw [e']
  refine dec1 rfl (by decide) (hh n hn) (by omega) (by omega) rfl ?_ t
  have e2 : (n : Int) % 64 = n := by omega
  show _ = Str.ofString "vsp = vsp + " ++ Str.ofString (toString ((n : Int) % 64 * 4 + 4))
  rw [e2]
theorem cut_1 (x : Int) : Cuts 1 x := by
  intro rest todo t
  obtain ⟨n, hn, e⟩ := fm x 64 (by decide)
  have hh : ∀ n : Nat, n < 64 → hitsAt 1 (64 + (n : Int)) = true := by decide +kernel
  have e' : x.fmod 64 = (n : Int) := e
  show Dec ([64 + x.fmod 64] ++ rest) (([64 + x.fmod 64], Str.ofString "vsp = vsp - " ++ Str.ofString (toString (x.fmod 64 * 4 + 4))) :: todo)
  rw [e']
  refine dec1 rfl (by decide) (hh n hn) (by omega) (by omega) rfl ?_ t
  have e2 : (64 + (n : Int)) % 64 = n := by omega
  show _ = Str.ofString "vsp = vsp - " ++ Str.ofString (toString ((64 + (n : Int)) % 64 * 4 + 4))
  rw [e2]
theorem gpr_list {mask : Int} {l : List Int} (h : (rangeKs 0 32).filter (bitC mask) = l) : gprText mask = Str.ofString "{" ++ Txt.join (Str.ofString ", ") (l.map gprN) ++ Str.ofString "}" := by
  unfold gprText gprHits
  rw [h]
theorem reg_list {pre : PySem.Str} {mask : Int} {l : List Int} (h : (rangeKs 0 32).filter (bitC mask) = l) : regText pre mask = Str.ofString "{" ++ Txt.join (Str.ofString ", ") (l.map (regN pre)) ++ Str.ofString "}" := by
  unfold regText regHits
  rw [h]
/-- the mask of twelve, moved up by four -/
theorem mask12 {M : Int} (h0 : 0 ≤ M) (h1 : M < 4096) : (rangeKs 0 32).filter (bitC (M * 16)) = ((rangeKs 0 12).filter (maskC M)).map (· + 4) := by
  have hs : rangeKs 0 32 = rangeKs 0 4 ++ ((rangeKs 0 12).map (· + 4) ++ rangeKs 16 16) := by decide +kernel
  rw [hs, List.filter_append, List.filter_append, List.filter_map]
  have a1 : (rangeKs 0 4).filter (bitC (M * 16)) = [] := by
    refine List.filter_eq_nil_iff.mpr fun k hk => ?_
    have hk' := mem_rangeKs hk
    obtain ⟨n, rfl⟩ := Int.eq_ofNat_of_zero_le hk'.1
    rw [bitC_eq, decide_eq_true_eq]
    have : n = 0 ∨ n = 1 ∨ n = 2 ∨ n = 3 := by omega
    rcases this with rfl | rfl | rfl | rfl <;> simp only [Int.reducePow] <;> omega
  have a2 : (rangeKs 16 16).filter (bitC (M * 16)) = [] := by
    refine List.filter_eq_nil_iff.mpr fun k hk hb => ?_
    have hk' := mem_rangeKs hk
    have := bitC_lt16 (mask := M * 16) (by omega) (by omega) k (by omega) hb
    omega
  rw [a1, a2, List.nil_append, List.append_nil]
  congr 1
  refine List.filter_congr fun k hk => ?_
  have hk' := mem_rangeKs hk
  obtain ⟨n, rfl⟩ := Int.eq_ofNat_of_zero_le hk'.1
  show bitC (M * 16) ((n : Int) + 4) = _
  have e : (n : Int) + 4 = ((n + 4 : Nat) : Int) := by omega
  rw [e, bitC_eq]
  unfold maskC
  rw [Int.toNat_natCast, Int.pow_add]
  have h2 : (0 : Int) < 2 ^ n := Int.pow_pos (by decide)
  rw [Int.fdiv_eq_ediv_of_nonneg _ (Int.le_of_lt h2), Int.fmod_eq_emod_of_nonneg _ (by decide)]
  have e16 : (2 : Int) ^ 4 = 16 := by decide
  rw [e16, Int.mul_ediv_mul_of_pos_left _ _ (by decide)]
theorem or12 : ∀ c : Nat, c < 16 → ∀ b : Nat, b < 256 → Builtin.bitOr ((b : Int) * 2 ^ Int.toNat 4) (Builtin.bitAnd (128 + (c : Int)) 15 * 2 ^ Int.toNat 12) = ((c : Int) * 256 + b) * 16 := by decide +kernel
theorem hits2 : ∀ c : Nat, c < 16 → hitsAt 2 (128 + (c : Int)) = true := by decide +kernel
theorem cutM {M : Int} (h0 : 0 ≤ M) (h1 : M < 4096) {rest : List Int} {todo : List (List Int × PySem.Str)} (t : Dec rest todo) :
    Dec ([128 + M.fdiv 256, M.fmod 256] ++ rest) (([128 + M.fdiv 256, M.fmod 256], if M = 0 then Str.ofString "refuse to unwind" else popText (((rangeKs 0 12).filter (maskC M)).map gprN4)) :: todo) := by
  rw [Int.fdiv_eq_ediv_of_nonneg _ (by decide), Int.fmod_eq_emod_of_nonneg _ (by decide)]
  obtain ⟨c, hc⟩ := Int.eq_ofNat_of_zero_le (show 0 ≤ M / 256 by omega)
  obtain ⟨b, hb⟩ := Int.eq_ofNat_of_zero_le (show 0 ≤ M % 256 by omega)
  have hM : M = (c : Int) * 256 + b := by omega
  rw [hc, hb]
  refine dec2 (r := 2) rfl (by decide) (hits2 c (by omega)) (by omega) (by omega) rfl (by omega) (by omega) ?_ t
  show _ = if Builtin.bitOr ((b : Int) * 2 ^ Int.toNat 4) (Builtin.bitAnd (128 + (c : Int)) 15 * 2 ^ Int.toNat 12) = 0 then Str.ofString "refuse to unwind" else Str.ofString "pop " ++ gprText (Builtin.bitOr ((b : Int) * 2 ^ Int.toNat 4) (Builtin.bitAnd (128 + (c : Int)) 15 * 2 ^ Int.toNat 12))
  rw [or12 c (by omega) b (by omega), ← hM]
  by_cases hz : M = 0
  · rw [if_pos hz, if_pos (by omega)]
  · rw [if_neg hz, if_neg (by omega), popg, gpr_list (mask12 h0 h1), List.map_map]
    rfl
theorem cut_2 (x : Int) : Cuts 2 x := fun _ _ t => cutM (fmod_lo x (by decide)) (fmod_hi x (by decide)) t
theorem cut_3 (x : Int) : Cuts 3 x := by
  intro rest todo t
  have hp : ∀ n : Nat, n < 12 → (0 : Int) ≤ 2 ^ n ∧ (2 : Int) ^ n < 4096 := by decide +kernel
  have h0 := fmod_lo x (show (0 : Int) < 12 by decide)
  have h1 := fmod_hi x (show (0 : Int) < 12 by decide)
  have h := hp (x.fmod 12).toNat (by omega)
  exact cutM h.1 h.2 t
theorem cut_4 (x : Int) : Cuts 4 x := by
  intro rest todo t
  obtain ⟨n, hn, e⟩ := fm x 16 (by decide)
  have e' : x.fmod 16 = (n : Int) := e
  have hh : ∀ n : Nat, n < 16 → (n = 13 → hitsAt 3 (144 + (n : Int)) = true) ∧ (n = 15 → hitsAt 4 (144 + (n : Int)) = true) ∧ (n ≠ 13 → n ≠ 15 → hitsAt 5 (144 + (n : Int)) = true) := by decide +kernel
  show Dec ([144 + x.fmod 16] ++ rest) (([144 + x.fmod 16], if x.fmod 16 = 13 then Str.ofString "reserved (ARM MOVrr)" else if x.fmod 16 = 15 then Str.ofString "reserved (WiMMX MOVrr)" else Str.ofString "vsp = r" ++ Str.ofString (toString (x.fmod 16))) :: todo)
  rw [e']
  obtain ⟨a, b, c⟩ := hh n hn
  by_cases h13 : n = 13
  · exact dec1 (r := 3) rfl (by decide) (a h13) (by omega) (by omega) rfl (by rw [if_pos (by omega)]; rfl) t
  by_cases h15 : n = 15
  · exact dec1 (r := 4) rfl (by decide) (b h15) (by omega) (by omega) rfl (by rw [if_neg (by omega), if_pos (by omega)]; rfl) t
  refine dec1 (r := 5) rfl (by decide) (c h13 h15) (by omega) (by omega) rfl ?_ t
  rw [if_neg (by omega), if_neg (by omega)]
  have e2 : (144 + (n : Int)) % 16 = n := by omega
  show _ = Str.ofString "vsp = r" ++ Str.ofString (toString ((144 + (n : Int)) % 16))
  rw [e2]
theorem run4 : ∀ n : Nat, n < 8 → hitsAt 6 (160 + 0 + (n : Int)) = true ∧ (rangeKs 0 32).filter (bitC (rangeM 4 (Builtin.bitAnd (160 + 0 + (n : Int)) 7))) = rangeKs 4 (5 + (n : Int) - 4).toNat := by decide +kernel
theorem run5 : ∀ n : Nat, n < 8 → hitsAt 7 (160 + 8 + (n : Int)) = true ∧ (rangeKs 0 32).filter (bitC (Builtin.bitOr (rangeM 4 (Builtin.bitAnd (160 + 8 + (n : Int)) 7)) (1 * 2 ^ Int.toNat 14))) = rangeKs 4 (5 + (n : Int) - 4).toNat ++ [14] := by decide +kernel
theorem cut_5 (x : Int) : Cuts 5 x := by
  intro rest todo t
  obtain ⟨n, hn, e⟩ := fm x 8 (by decide)
  have e' : x.fmod 8 = (n : Int) := e
  show Dec ([160 + 0 + x.fmod 8] ++ rest) (([160 + 0 + x.fmod 8], popText ((rangeKs 4 (5 + x.fmod 8 - 4).toNat).map gprN ++ [])) :: todo)
  rw [e']
  refine dec1 (r := 6) rfl (by decide) (run4 n hn).1 (by omega) (by omega) rfl ?_ t
  show _ = Str.ofString "pop " ++ gprText (rangeM 4 (Builtin.bitAnd (160 + 0 + (n : Int)) 7))
  rw [gpr_list (run4 n hn).2, popg, List.append_nil]
theorem cut_6 (x : Int) : Cuts 6 x := by
  intro rest todo t
  obtain ⟨n, hn, e⟩ := fm x 8 (by decide)
  have e' : x.fmod 8 = (n : Int) := e
  show Dec ([160 + 8 + x.fmod 8] ++ rest) (([160 + 8 + x.fmod 8], popText ((rangeKs 4 (5 + x.fmod 8 - 4).toNat).map gprN ++ [Str.ofString "lr"])) :: todo)
  rw [e']
  refine dec1 (r := 7) rfl (by decide) (run5 n hn).1 (by omega) (by omega) rfl ?_ t
  show _ = Str.ofString "pop " ++ gprText (Builtin.bitOr (rangeM 4 (Builtin.bitAnd (160 + 8 + (n : Int)) 7)) (1 * 2 ^ Int.toNat 14))
  rw [gpr_list (run5 n hn).2, popg, List.map_append]
  rfl
theorem cut_7 (x : Int) : Cuts 7 x := fun _ _ t => dec1 (r := 8) rfl (by decide) (by decide +kernel) (by decide) (by decide) rfl rfl t
theorem low4 : ∀ n : Nat, n < 64 → (decide (Builtin.bitAnd (n : Int) 240 ≠ 0) = decide (15 < n)) ∧ (n < 16 → (rangeKs 0 32).filter (bitC (Builtin.bitAnd (n : Int) 15)) = (rangeKs 0 4).filter (maskC (n : Int))) := by decide +kernel
theorem reg4 : ∀ n : Nat, n < 4 → gprN (n : Int) = regN (Str.ofString "r") (n : Int) := by decide +kernel
theorem reg4l (c : Int → Bool) : ((rangeKs 0 4).filter c).map gprN = ((rangeKs 0 4).filter c).map (regN (Str.ofString "r")) := by
  refine List.map_congr_left fun k hk => ?_
  have hk' := mem_rangeKs (List.mem_filter.mp hk).1
  obtain ⟨n, rfl⟩ := Int.eq_ofNat_of_zero_le hk'.1
  exact reg4 n (by omega)
theorem spare4 {n : Nat} (hn : n < 64) {a b : PySem.Str} (h : n < 16 → n ≠ 0 → a = b) : (if (n : Int) = 0 then Str.ofString "spare" else if 15 < (n : Int) then Str.ofString "spare" else a) = (if Builtin.bitAnd (n : Int) 240 ≠ 0 then Str.ofString "spare" else if (n : Int) = 0 then Str.ofString "spare" else b) := by
  have hb := (low4 n hn).1
  by_cases hl : 15 < n
  · rw [decide_eq_true hl] at hb
    rw [if_pos (of_decide_eq_true hb), if_neg (by omega), if_pos (by omega)]
  · rw [decide_eq_false hl] at hb
    rw [if_neg (of_decide_eq_false hb)]
    by_cases hz : n = 0
    · rw [if_pos (by omega), if_pos (by omega)]
    · rw [if_neg (by omega), if_neg (by omega), if_neg (by omega), h (by omega) hz]
theorem cut_8 (x : Int) : Cuts 8 x := by
  intro rest todo t
  obtain ⟨n, hn, e⟩ := fm x 64 (by decide)
  have e' : x.fmod 64 = (n : Int) := e
  show Dec ([177, x.fmod 64] ++ rest) (([177, x.fmod 64], if x.fmod 64 = 0 then Str.ofString "spare" else if 15 < x.fmod 64 then Str.ofString "spare" else popText (((rangeKs 0 4).filter (maskC (x.fmod 64))).map (regN (Str.ofString "r")))) :: todo)
  rw [e']
  refine dec2 (r := 9) rfl (by decide) (by decide +kernel) (by decide) (by decide) rfl (by omega) (by omega) ?_ t
  refine spare4 hn fun h16 _ => ?_
  rw [gpr_list ((low4 n hn).2 h16), popg, reg4l]
theorem cut_9 (x : Int) : Cuts 9 x := by
  intro rest todo t
  obtain ⟨n, hn, e⟩ := fm x 64 (by decide)
  have e' : x.fmod 64 = (n : Int) := e
  show Dec ([199, x.fmod 64] ++ rest) (([199, x.fmod 64], if x.fmod 64 = 0 then Str.ofString "spare" else if 15 < x.fmod 64 then Str.ofString "spare" else popText (((rangeKs 0 4).filter (maskC (x.fmod 64))).map (regN (Str.ofString "wCGR")))) :: todo)
  rw [e']
  refine dec2 (r := 15) rfl (by decide) (by decide +kernel) (by decide) (by decide) rfl (by omega) (by omega) ?_ t
  refine spare4 hn fun h16 _ => ?_
  rw [reg_list ((low4 n hn).2 h16), popg]
/-- a run of registers -/
theorem runs : ∀ f : Nat, f < 16 → ∀ m : Nat, m < 16 → f + m < 16 → (rangeKs 0 32).filter (bitC (rangeM (f : Int) (m : Int))) = rangeKs (f : Int) ((f : Int) + (m : Int) + 1 - (f : Int)).toNat ∧ (rangeKs 0 32).filter (bitC (rangeM (16 + (f : Int)) (m : Int))) = rangeKs (16 + (f : Int)) (16 + (f : Int) + (m : Int) + 1 - (16 + (f : Int))).toNat := by decide +kernel
theorem run_of (x : Int) : ∃ f m : Nat, f < 16 ∧ m < 16 ∧ f + m < 16 ∧ x.fmod 16 = (f : Int) ∧ (x.fdiv 16).fmod (16 - (f : Int)) = (m : Int) ∧ ((f : Int) * 16 + m) / 16 = f ∧ ((f : Int) * 16 + m) % 16 = m := by
  obtain ⟨f, hf, e⟩ := fm x 16 (by decide)
  have h0 := fmod_lo (x.fdiv 16) (show (0 : Int) < 16 - (f : Int) by omega)
  have h1 := fmod_hi (x.fdiv 16) (show (0 : Int) < 16 - (f : Int) by omega)
  obtain ⟨m, hm⟩ := Int.eq_ofNat_of_zero_le h0
  exact ⟨f, m, hf, by omega, by omega, e, hm, by omega, by omega⟩
theorem cut_10 (x : Int) : Cuts 10 x := by
  intro rest todo t
  obtain ⟨f, m, hf, hm, hfm, e, e1, e2, e3⟩ := run_of x
  show Dec ([179, x.fmod 16 * 16 + (x.fdiv 16).fmod (16 - x.fmod 16)] ++ rest) (([179, x.fmod 16 * 16 + (x.fdiv 16).fmod (16 - x.fmod 16)], popText ((rangeKs (x.fmod 16) (x.fmod 16 + (x.fdiv 16).fmod (16 - x.fmod 16) + 1 - (x.fmod 16)).toNat).map (regN (Str.ofString "d")))) :: todo)
  rw [e, e1]
  refine dec2 (r := 11) rfl (by decide) (by decide +kernel) (by decide) (by decide) rfl (by omega) (by omega) ?_ t
  show _ = Str.ofString "pop " ++ regText (Str.ofString "d") (rangeM (((f : Int) * 16 + m) / 16) (((f : Int) * 16 + m) % 16))
  rw [e2, e3, reg_list (runs f hf m hm hfm).1, popg]
theorem cut_11 (x : Int) : Cuts 11 x := by
  intro rest todo t
  obtain ⟨f, m, hf, hm, hfm, e, e1, e2, e3⟩ := run_of x
  show Dec ([201, x.fmod 16 * 16 + (x.fdiv 16).fmod (16 - x.fmod 16)] ++ rest) (([201, x.fmod 16 * 16 + (x.fdiv 16).fmod (16 - x.fmod 16)], popText ((rangeKs (x.fmod 16) (x.fmod 16 + (x.fdiv 16).fmod (16 - x.fmod 16) + 1 - (x.fmod 16)).toNat).map (regN (Str.ofString "d")))) :: todo)
  rw [e, e1]
  refine dec2 (r := 17) rfl (by decide) (by decide +kernel) (by decide) (by decide) rfl (by omega) (by omega) ?_ t
  show _ = Str.ofString "pop " ++ regText (Str.ofString "d") (rangeM (((f : Int) * 16 + m) / 16) (((f : Int) * 16 + m) % 16))
  rw [e2, e3, reg_list (runs f hf m hm hfm).1, popg]
theorem cut_12 (x : Int) : Cuts 12 x := by
  intro rest todo t
  obtain ⟨f, m, hf, hm, hfm, e, e1, e2, e3⟩ := run_of x
  show Dec ([200, x.fmod 16 * 16 + (x.fdiv 16).fmod (16 - x.fmod 16)] ++ rest) (([200, x.fmod 16 * 16 + (x.fdiv 16).fmod (16 - x.fmod 16)], popText ((rangeKs (16 + x.fmod 16) (16 + x.fmod 16 + (x.fdiv 16).fmod (16 - x.fmod 16) + 1 - (16 + x.fmod 16)).toNat).map (regN (Str.ofString "d")))) :: todo)
  rw [e, e1]
  refine dec2 (r := 16) rfl (by decide) (by decide +kernel) (by decide) (by decide) rfl (by omega) (by omega) ?_ t
  show _ = Str.ofString "pop " ++ regText (Str.ofString "d") (rangeM (16 + ((f : Int) * 16 + m) / 16) (((f : Int) * 16 + m) % 16))
  rw [e2, e3, reg_list (runs f hf m hm hfm).2, popg]
theorem cut_13 (x : Int) : Cuts 13 x := by
  intro rest todo t
  obtain ⟨f, m, hf, hm, hfm, e, e1, e2, e3⟩ := run_of x
  show Dec ([198, x.fmod 16 * 16 + (x.fdiv 16).fmod (16 - x.fmod 16)] ++ rest) (([198, x.fmod 16 * 16 + (x.fdiv 16).fmod (16 - x.fmod 16)], popText ((rangeKs (x.fmod 16) (x.fmod 16 + (x.fdiv 16).fmod (16 - x.fmod 16) + 1 - (x.fmod 16)).toNat).map (regN (Str.ofString "wR")))) :: todo)
  rw [e, e1]
  refine dec2 (r := 14) rfl (by decide) (by decide +kernel) (by decide) (by decide) rfl (by omega) (by omega) ?_ t
  show _ = Str.ofString "pop " ++ regText (Str.ofString "wR") (rangeM (((f : Int) * 16 + m) / 16) (((f : Int) * 16 + m) % 16))
  rw [e2, e3, reg_list (runs f hf m hm hfm).1, popg]
theorem run8 : ∀ n : Nat, n < 8 → hitsAt 13 (184 + (n : Int)) = true ∧ hitsAt 20 (208 + (n : Int)) = true ∧ (rangeKs 0 32).filter (bitC (rangeM 8 (Builtin.bitAnd (184 + (n : Int)) 7))) = rangeKs 8 (9 + (n : Int) - 8).toNat ∧ (rangeKs 0 32).filter (bitC (rangeM 8 (Builtin.bitAnd (208 + (n : Int)) 7))) = rangeKs 8 (9 + (n : Int) - 8).toNat := by decide +kernel
theorem run10 : ∀ n : Nat, n < 6 → hitsAt 19 (192 + (n : Int)) = true ∧ (rangeKs 0 32).filter (bitC (rangeM 10 (Builtin.bitAnd (192 + (n : Int)) 7))) = rangeKs 10 (11 + (n : Int) - 10).toNat := by decide +kernel
theorem cut_14 (x : Int) : Cuts 14 x := by
  intro rest todo t
  obtain ⟨n, hn, e⟩ := fm x 8 (by decide)
  have e' : x.fmod 8 = (n : Int) := e
  show Dec ([184 + x.fmod 8] ++ rest) (([184 + x.fmod 8], popText ((rangeKs 8 (9 + x.fmod 8 - 8).toNat).map (regN (Str.ofString "d")))) :: todo)
  rw [e']
  obtain ⟨a1, a2, a3, a4⟩ := run8 n hn
  refine dec1 (r := 13) rfl (by decide) a1 (by omega) (by omega) rfl ?_ t
  show _ = Str.ofString "pop " ++ regText (Str.ofString "d") (rangeM 8 (Builtin.bitAnd (184 + (n : Int)) 7))
  rw [reg_list a3, popg]
theorem cut_15 (x : Int) : Cuts 15 x := by
  intro rest todo t
  obtain ⟨n, hn, e⟩ := fm x 8 (by decide)
  have e' : x.fmod 8 = (n : Int) := e
  show Dec ([208 + x.fmod 8] ++ rest) (([208 + x.fmod 8], popText ((rangeKs 8 (9 + x.fmod 8 - 8).toNat).map (regN (Str.ofString "d")))) :: todo)
  rw [e']
  obtain ⟨a1, a2, a3, a4⟩ := run8 n hn
  refine dec1 (r := 20) rfl (by decide) a2 (by omega) (by omega) rfl ?_ t
  show _ = Str.ofString "pop " ++ regText (Str.ofString "d") (rangeM 8 (Builtin.bitAnd (208 + (n : Int)) 7))
  rw [reg_list a4, popg]
theorem cut_16 (x : Int) : Cuts 16 x := by
  intro rest todo t
  obtain ⟨n, hn, e⟩ := fm x 6 (by decide)
  have e' : x.fmod 6 = (n : Int) := e
  show Dec ([192 + x.fmod 6] ++ rest) (([192 + x.fmod 6], popText ((rangeKs 10 (11 + x.fmod 6 - 10).toNat).map (regN (Str.ofString "wR")))) :: todo)
  rw [e']
  obtain ⟨a1, a3⟩ := run10 n hn
  refine dec1 (r := 19) rfl (by decide) a1 (by omega) (by omega) rfl ?_ t
  show _ = Str.ofString "pop " ++ regText (Str.ofString "wR") (rangeM 10 (Builtin.bitAnd (192 + (n : Int)) 7))
  rw [reg_list a3, popg]
theorem spares : ∀ n : Nat, n < 50 → (n < 4 → hitsAt 12 (180 + (n : Int)) = true) ∧ (4 ≤ n → n < 10 → hitsAt 18 (198 + (n : Int)) = true) ∧ (10 ≤ n → hitsAt 18 (206 + (n : Int)) = true ∨ hitsAt 21 (206 + (n : Int)) = true) := by decide +kernel
theorem cut_17 (x : Int) : Cuts 17 x := by
  intro rest todo t
  obtain ⟨n, hn, e⟩ := fm x 50 (by decide)
  have e' : x.fmod 50 = (n : Int) := e
  show Dec ([if x.fmod 50 < 4 then 180 + x.fmod 50 else if x.fmod 50 < 10 then 198 + x.fmod 50 else 206 + x.fmod 50] ++ rest) (([if x.fmod 50 < 4 then 180 + x.fmod 50 else if x.fmod 50 < 10 then 198 + x.fmod 50 else 206 + x.fmod 50], Str.ofString "spare") :: todo)
  rw [e']
  obtain ⟨a1, a2, a3⟩ := spares n hn
  by_cases h4 : n < 4
  · rw [if_pos (by omega)]
    exact dec1 (r := 12) rfl (by decide) (a1 h4) (by omega) (by omega) rfl rfl t
  rw [if_neg (by omega)]
  by_cases h10 : n < 10
  · rw [if_pos (by omega)]
    exact dec1 (r := 18) rfl (by decide) (a2 (by omega) h10) (by omega) (by omega) rfl rfl t
  rw [if_neg (by omega)]
  rcases a3 (by omega) with a3 | a3
  · exact dec1 (r := 18) rfl (by decide) a3 (by omega) (by omega) rfl rfl t
  · exact dec1 (r := 21) rfl (by decide) a3 (by omega) (by omega) rfl rfl t
theorem cut_all : ∀ (k : Nat), k < 18 → ∀ x, Cuts k x
  | 0, _ => cut_0
  | 1, _ => cut_1
  | 2, _ => cut_2
  | 3, _ => cut_3
  | 4, _ => cut_4
  | 5, _ => cut_5
  | 6, _ => cut_6
  | 7, _ => cut_7
  | 8, _ => cut_8
  | 9, _ => cut_9
  | 10, _ => cut_10
  | 11, _ => cut_11
  | 12, _ => cut_12
  | 13, _ => cut_13
  | 14, _ => cut_14
  | 15, _ => cut_15
  | 16, _ => cut_16
  | 17, _ => cut_17
  | k + 18, h => by omega
/-- the operation of a number of the script -/
def opOf (n : Int) : List Int × PySem.Str := (rowOf (n.fmod 18).toNat (n.fdiv 18), wrdOf (n.fmod 18).toNat (n.fdiv 18))
theorem dec_ops : ∀ (ns : List Int), Dec (ns.flatMap fun n => (opOf n).1) (ns.map opOf)
  | [] => .nil
  | n :: ns => by
    have h0 := fmod_lo n (show (0 : Int) < 18 by decide)
    have h1 := fmod_hi n (show (0 : Int) < 18 by decide)
    rw [List.flatMap_cons, List.map_cons]
    exact cut_all (n.fmod 18).toNat (by omega) (n.fdiv 18) _ _ (dec_ops ns)

theorem top_off21 : True := by
  w_top off
  exact True.intro
def toDat (p : List Int × PySem.Str) : Dat := .tuple [.list (p.1.map Dat.int), .str p.2]
/-- what the law has built of the numbers ns -/
structure Built (wl oct I ax : Addr) (lo : Obj) (ns : List Int) (ovs wvs : List Value) (R : Led) : Prop where
  oi : IntsAre ovs (ns.flatMap fun n => (opOf n).1)
  da : DatAll R wvs (ns.map fun n => toDat (opOf n))
  off : OwnOff R [wl, I]
  o1 : oct ≠ wl
  o2 : oct ≠ I
  hm : (ax, lo) ∈ R
def BuildEnd (h₀ : Heap) (L : Addr) (s : Shared) (wl I ax : Addr) (o lo : Obj) (ns : List Int) (f : Flow) (s₃ : Shared) : Prop :=
  f = .next ∧ ∃ h' tk' m' oct ovs oc wvs wc R, s₃ = { s with heap := h', toks := tk' } ∧ Fr h₀ L h' m' ∧ News h₀ L h' ((I, o) :: (wl, listOf (List.toArray wvs) wc) :: (oct, listOf (List.toArray ovs) oc) :: R) ∧ m' (Str.ofString "octets") = some (.ref oct) ∧ m' (Str.ofString "want") = some (.ref wl) ∧ Built wl oct I ax lo ns ovs wvs R
theorem fr_two {h₀ h : Heap} {L : Addr} {m : Str → Option Value} {x y : Str} {v u : Value} (F : Fr h₀ L h m) (hx : m x = some v) (hy : m y = some u) : Fr h₀ L h (fun z => if z = x then some v else if z = y then some u else m z) := by
  have e : (fun z => if z = x then some v else if z = y then some u else m z) = m := by
    funext z
    by_cases h1 : z = x
    · rw [if_pos h1, h1, hx]
    · rw [if_neg h1]
      by_cases h2 : z = y
      · rw [if_pos h2, h2, hy]
      · rw [if_neg h2]
  rw [e]; exact F
theorem build_go {prog : Program} {w : World} {A : Around} {E : Value → Shared → Prop} {h₀ : Heap} {env : Env} {target : Expr} {body : List Stmt} {Q : Flow → Shared → Prop} {s : Shared} {I wl ax : Addr} {lo : Obj} {ns : List Int} (hwl : wl ≠ I) (_hlen : ns.length ≤ 18)
    (turn : ∀ (pre : List Int) n t oct ovs oc wvs wc R (u : Str → Option Value) h tk o, pre.length < ns.length → Built wl oct I ax lo pre ovs wvs R → o.cls = .type "list_iterator" →
      Fr h₀ env.locals h (fun y => if y = Str.ofString "octets" then some (.ref oct) else if y = Str.ofString "want" then some (.ref wl) else u y) → News h₀ env.locals h ((I, o) :: (wl, listOf (List.toArray wvs) wc) :: (oct, listOf (List.toArray ovs) oc) :: R) →
      wpAny (model prog w) A (assign target env (.int n t)) (fun _ s₂ => wpAny (model prog w) A (execs body env) (BuildEnd h₀ env.locals { s with heap := h, toks := tk } wl I ax o lo (pre ++ [n])) E s₂) E { s with heap := h, toks := tk })
    (done : ∀ oct ovs oc wvs wc R (u : Str → Option Value) h tk, Built wl oct I ax lo ns ovs wvs R →
      Fr h₀ env.locals h (fun y => if y = Str.ofString "octets" then some (.ref oct) else if y = Str.ofString "want" then some (.ref wl) else u y) → News h₀ env.locals h ((wl, listOf (List.toArray wvs) wc) :: (oct, listOf (List.toArray ovs) oc) :: R) → Q .next { s with heap := h, toks := tk }) :
    ∀ (vs : List Value) (suf : List Int), IntsAre vs suf → ∀ (pre : List Int) oct ovs oc wvs wc R (m : Str → Option Value), pre ++ suf = ns → Built wl oct I ax lo pre ovs wvs R → m (Str.ofString "octets") = some (.ref oct) → m (Str.ofString "want") = some (.ref wl) →
      ItemsRest prog w A E h₀ env target body Q s [(I, "list_iterator")] [(ax, lo)] (vs.map .val) m ((wl, listOf (List.toArray wvs) wc) :: (oct, listOf (List.toArray ovs) oc) :: R) := by
  intro vs
  induction vs with
  | nil =>
    intro suf hI pre oct ovs oc wvs wc R m hp hB h1 h2
    cases hI
    rw [List.append_nil] at hp
    subst hp
    refine ItemsRest.zero fun h tk F N => ?_
    exact done oct ovs oc wvs wc R m h tk hB (fr_two F h1 h2) N
  | cons v vs ih =>
    intro suf hI pre oct ovs oc wvs wc R m hp hB h1 h2
    cases hI with
    | cons n t hr =>
    rename_i suf
    rw [List.map_cons]
    have hl : pre.length < ns.length := by rw [← hp, List.length_append, List.length_cons]; omega
    refine ItemsRest.val fun h tk F => AllObj.cons fun o ho => AllObj.nil fun N => ?_
    refine wpAny_mono (turn pre n t oct ovs oc wvs wc R m h tk o hl hB ho (fr_two F h1 h2) N) (fun _ s₂ h₂ => wpAny_mono h₂ (fun f s₃ h₃ => ?_) fun _ _ e => e) fun _ _ e => e
    obtain ⟨rfl, h', tk', m', oct', ovs', oc', wvs', wc', R', rfl, F', N', h1', h2', hB'⟩ := h₃
    refine ⟨h', tk', m', _, rfl, F', N', fun p hp' q hq => ?_, ⟨.tail _ (.tail _ hB'.hm), trivial⟩, ih suf hr (pre ++ [n]) oct' ovs' oc' wvs' wc' R' m' (by rw [List.append_assoc]; exact hp) hB' h1' h2'⟩
    rw [List.mem_singleton.mp hq]
    rcases List.mem_cons.mp hp' with rfl | hp'
    · exact hwl
    rcases List.mem_cons.mp hp' with rfl | hp'
    · exact hB'.o2
    · exact hB'.off p hp' _ (.tail _ (.head _))
theorem row_len (n : Int) : (opOf n).1.length ≤ 2 := by
  have h0 := fmod_lo n (show (0 : Int) < 18 by decide)
  have h1 := fmod_hi n (show (0 : Int) < 18 by decide)
  have : ∀ k : Nat, k < 18 → ∀ x, (rowOf k x).length ≤ 2 := by
    intro k hk x
    match k, hk with
    | 0, _ | 1, _ | 2, _ | 3, _ | 4, _ | 5, _ | 6, _ | 7, _ | 8, _ | 9, _ | 10, _ | 11, _ | 12, _ | 13, _ | 14, _ | 15, _ | 16, _ | 17, _ => (show List.length (_ :: _) ≤ 2; simp only [rowOf, List.length_cons, List.length_nil]; decide)
    | k + 18, h => omega
  exact this _ (by omega) _
theorem rows_len : ∀ ns : List Int, (ns.flatMap fun n => (opOf n).1).length ≤ 2 * ns.length
  | [] => by simp
  | n :: ns => by
    have h1 := row_len n
    have h2 := rows_len ns
    rw [List.flatMap_cons, List.length_append, List.length_cons]
    omega
theorem dat_ints {R : Led} : ∀ {vs : List Value} {ns : List Int}, IntsAre vs ns → DatAll R vs (ns.map Dat.int)
  | _, _, .nil => .nil
  | _, _, .cons n t h => .cons (.int n t) (dat_ints h)
theorem dat_pair {R : Led} {t r : Addr} {x : PySem.Str} {tx : Tok} {k c : Nat} {cvs : List Value} {row : List Int} (h1 : (t, ({ cls := .type "tuple", data := .seq #[.ref r, .str x tx] k } : Obj)) ∈ R) (h2 : (r, listOf cvs.toArray c) ∈ R) (hi : IntsAre cvs row) : DatIn R (.ref t) (toDat (row, x)) :=
  .tuple (vs := [.ref r, .str x tx]) h1 (.cons (.list h2 (dat_ints hi)) (.cons (.str x tx) .nil))
theorem built_step {wl oct oct' I ax T r : Addr} {lo : Obj} {pre : List Int} {n : Int} {ovs ovs' wvs cvs : List Value} {R : Led} {c k : Nat} {tx : Tok}
    (B : Built wl oct I ax lo pre ovs wvs R) (hi : IntsAre cvs (opOf n).1) (ho : IntsAre ovs' ((pre.flatMap fun n => (opOf n).1) ++ (opOf n).1)) (a1 : T ≠ wl) (a2 : T ≠ I) (b1 : r ≠ wl) (b2 : r ≠ I) (c1 : oct' ≠ wl) (c2 : oct' ≠ I) :
    Built wl oct' I ax lo (pre ++ [n]) ovs' (wvs ++ [.ref T]) ((T, { cls := .type "tuple", data := .seq #[.ref r, .str (opOf n).2 tx] k }) :: (r, listOf cvs.toArray c) :: R) where
  oi := by rw [List.flatMap_append]; simpa using ho
  da := by
    rw [List.map_append]
    exact DatAll.append (B.da.mono fun p hp => .tail _ (.tail _ hp)) (DatAll.one (dat_pair (.head _) (.tail _ (.head _)) hi))
  off := by
    intro p hp b hb
    have hb' : b = wl ∨ b = I := by simpa using hb
    rcases List.mem_cons.mp hp with rfl | hp
    · rcases hb' with rfl | rfl
      · exact a1
      · exact a2
    rcases List.mem_cons.mp hp with rfl | hp
    · rcases hb' with rfl | rfl
      · exact b1
      · exact b2
    · exact B.off p hp b hb
  o1 := c1
  o2 := c2
  hm := .tail _ (.tail _ B.hm)
theorem build_start {prog : Program} {w : World} {A : Around} {E : Value → Shared → Prop} {h₀ : Heap} {env : Env} {target : Expr} {body : List Stmt} {Q : Flow → Shared → Prop} {s : Shared} {wl oct ax : Addr} {wc oc nx : Nat} {ns : List Int} {vs : List Value} {m : Str → Option Value} {news : Led}
    (hh : A.handled = none) (F : Fr h₀ env.locals s.heap m) (N : News h₀ env.locals s.heap news) (hm : (ax, listOf vs.toArray nx) ∈ news) (h1 : m (Str.ofString "octets") = some (.ref oct)) (h2 : m (Str.ofString "want") = some (.ref wl))
    (hw : (wl, listOf #[] wc) ∈ news) (ho : (oct, listOf #[] oc) ∈ news) (hne : oct ≠ wl) (hax : ax ≠ wl) (hI : IntsAre vs ns) (hlen : ns.length ≤ 18)
    (turn : ∀ I lo (_ : wl ≠ I) (pre : List Int) n t oct ovs oc wvs wc R (u : Str → Option Value) h tk o, pre.length < ns.length → Built wl oct I ax lo pre ovs wvs R → o.cls = .type "list_iterator" → (pre.flatMap fun n => (opOf n).1).length ≤ 36 → OwnOff R [wl, I] → oct ≠ wl → oct ≠ I → wvs.length ≤ 18 → IntsAre ovs (pre.flatMap fun n => (opOf n).1) →
      Fr h₀ env.locals h (fun y => if y = Str.ofString "octets" then some (.ref oct) else if y = Str.ofString "want" then some (.ref wl) else u y) → News h₀ env.locals h ((I, o) :: (wl, listOf (List.toArray wvs) wc) :: (oct, listOf (List.toArray ovs) oc) :: R) →
      wpAny (model prog w) A (assign target env (.int n t)) (fun _ s₂ => wpAny (model prog w) A (execs body env) (BuildEnd h₀ env.locals { s with heap := h, toks := tk } wl I ax o lo (pre ++ [n])) E s₂) E { s with heap := h, toks := tk })
    (done : ∀ W oct ovs oc wvs wc R (u : Str → Option Value) h tk, OwnOff R [W] → oct ≠ W → IntsAre ovs (ns.flatMap fun n => (opOf n).1) → (ns.flatMap fun n => (opOf n).1).length ≤ 36 → DatAll R wvs (ns.map fun n => toDat (opOf n)) →
      Fr h₀ env.locals h (fun y => if y = Str.ofString "octets" then some (.ref oct) else if y = Str.ofString "want" then some (.ref W) else u y) → News h₀ env.locals h ((W, listOf (List.toArray wvs) wc) :: (oct, listOf (List.toArray ovs) oc) :: R) → Q .next { s with heap := h, toks := tk }) :
    wpAny (model prog w) A (pyIter (.ref ax)) (fun it s₂ => TurnsAt prog w A h₀ env target body Q E it s₂) E s := by
  have N2 : News h₀ env.locals s.heap [(wl, listOf (List.toArray []) wc), (oct, listOf (List.toArray []) oc), (ax, listOf vs.toArray nx)] := newsSub N (by
    intro p hp
    rcases List.mem_cons.mp hp with rfl | hp
    · exact hw
    rcases List.mem_cons.mp hp with rfl | hp
    · exact ho
    · rw [List.mem_singleton.mp hp]; exact hm)
  refine iter_listTurns hh F N2 (List.Mem.tail _ (.tail _ (.head _))) rfl rfl fun I hI2 => ?_
  have k1 : wl ≠ I := Nat.ne_of_lt (hI2 _ (.head _))
  have k2 : oct ≠ I := Nat.ne_of_lt (hI2 _ (.tail _ (.head _)))
  have k3 : ax ≠ I := Nat.ne_of_lt (hI2 _ (.tail _ (.tail _ (.head _))))
  refine build_go k1 hlen ?_ ?_ vs ns hI [] oct [] oc [] wc _ m rfl ⟨.nil, .nil, ?_, hne, k2, .head _⟩ h1 h2
  · intro pre n t oct ovs oc wvs wc R u h tk o hl B ho
    have r1 := rows_len pre
    have r2 := B.da.length
    rw [List.length_map] at r2
    exact turn I _ k1 pre n t oct ovs oc wvs wc R u h tk o hl B ho (by omega) B.off B.o1 B.o2 (by omega) B.oi
  · intro oct ovs oc wvs wc R u h tk B
    have r1 := rows_len ns
    exact done wl oct ovs oc wvs wc R u h tk (fun p hp b hb => B.off p hp b (by rw [List.mem_singleton.mp hb]; exact .head _)) B.o1 B.oi (by omega) B.da
  · intro p hp b hb
    rw [List.mem_singleton.mp hp]
    have hb' : b = wl ∨ b = I := by simpa using hb
    rcases hb' with rfl | rfl
    · exact hax
    · exact k3

theorem off_nil {dx : Addr} : OwnOff [] [dx] := fun _ h => nomatch h
theorem off_lt {dx : Addr} {R : Led} (h : AllLt dx R) : OwnOff R [dx] := by
  intro p hp a ha
  rw [List.mem_singleton.mp ha]
  exact Nat.ne_of_lt (kst_ltOf h p hp)
theorem off_cons {dx a : Addr} {o : Obj} {R : Led} (h : a ≠ dx) (t : OwnOff R [dx]) : OwnOff ((a, o) :: R) [dx] := by
  intro p hp b hb
  rcases List.mem_cons.mp hp with rfl | hp
  · rw [List.mem_singleton.mp hb]; exact h
  · exact t p hp b hb

theorem top_off22 : True := by
  w_top off
  exact True.intro
/-! all texts are plain -/
theorem ok_app {a b : PySem.Str} (h : PyData.strOk a = true) (k : PyData.strOk b = true) : PyData.strOk (a ++ b) = true := by
  have e : (a ++ b).cps = a.cps ++ b.cps := rfl
  unfold PyData.strOk at *
  rw [e, Array.all_append, h, k]; rfl
theorem ok_join {x : PySem.Str} (hx : PyData.strOk x = true) : ∀ ys : List PySem.Str, (∀ y ∈ ys, PyData.strOk y = true) → PyData.strOk (PySem.Str.join x ys) = true
  | [], _ => by show PyData.strOk Str.empty = true; decide +kernel
  | [y], h => h y (.head _)
  | y :: z :: r, h => ok_app (ok_app (h y (.head _)) hx) (ok_join hx (z :: r) fun u hu => h u (.tail _ hu))
theorem ok_pop {ys : List PySem.Str} (h : ∀ y ∈ ys, PyData.strOk y = true) : PyData.strOk (popText ys) = true := by
  unfold popText
  refine ok_app (ok_app (by decide +kernel) ?_) (by decide +kernel)
  show PyData.strOk (Builtin.Str.glued _ ys) = true
  rw [StrLaws.glued_eq_join]
  exact ok_join (by decide +kernel) ys h
theorem ok_gpr (k : Int) : PyData.strOk (gprN k) = true := by
  unfold gprN
  rcases Nat.lt_or_ge k.toNat 16 with h | h
  · have : ∀ n : Nat, n < 16 → PyData.strOk (gprNames.getD n Str.empty) = true := by decide +kernel
    exact this _ h
  · rw [List.getD_eq_getElem?_getD, List.getElem?_eq_none (by show 16 ≤ _; exact h)]; show PyData.strOk Str.empty = true; decide +kernel
theorem ok_num : ∀ n : Nat, n < 300 → PyData.strOk (Str.ofString (toString (n : Int))) = true := by decide +kernel
theorem ok_reg {pre : PySem.Str} (hp : PyData.strOk pre = true) {k : Int} (h0 : 0 ≤ k) (h1 : k < 300) : PyData.strOk (regN pre k) = true := by
  obtain ⟨n, rfl⟩ := Int.eq_ofNat_of_zero_le h0
  exact ok_app hp (ok_num n (by omega))
theorem ok_regs {pre : PySem.Str} (hp : PyData.strOk pre = true) {l : List Int} (h : ∀ k ∈ l, 0 ≤ k ∧ k < 300) : ∀ y ∈ l.map (regN pre), PyData.strOk y = true := by
  intro y hy
  obtain ⟨k, hk, rfl⟩ := List.mem_map.mp hy
  exact ok_reg hp (h k hk).1 (h k hk).2
theorem ok_gprs (l : List Int) : ∀ y ∈ l.map gprN, PyData.strOk y = true := by
  intro y hy
  obtain ⟨k, _, rfl⟩ := List.mem_map.mp hy
  exact ok_gpr k
theorem ok_gprs4 (l : List Int) : ∀ y ∈ l.map gprN4, PyData.strOk y = true := by
  intro y hy
  obtain ⟨k, _, rfl⟩ := List.mem_map.mp hy
  exact ok_gpr (k + 4)
theorem ok_snoc {l : List PySem.Str} {x : PySem.Str} (h : ∀ y ∈ l, PyData.strOk y = true) (hx : PyData.strOk x = true) : ∀ y ∈ l ++ [x], PyData.strOk y = true := by
  intro y hy
  rcases List.mem_append.mp hy with hy | hy
  · exact h y hy
  · rw [List.mem_singleton.mp hy]; exact hx
theorem ok_ite {p : Prop} [Decidable p] {a b : PySem.Str} (h : PyData.strOk a = true) (k : PyData.strOk b = true) : PyData.strOk (if p then a else b) = true := by
  by_cases hp : p
  · rw [if_pos hp]; exact h
  · rw [if_neg hp]; exact k
theorem range_bnd {a : Int} {n : Nat} (h0 : 0 ≤ a) (h1 : a + (n : Int) ≤ 300) : ∀ k ∈ rangeKs a n, 0 ≤ k ∧ k < 300 := by
  intro k hk
  have := mem_rangeKs hk
  omega
theorem ok_numI {k : Int} (h0 : 0 ≤ k) (h1 : k < 300) : PyData.strOk (Str.ofString (toString k)) = true := by
  obtain ⟨n, rfl⟩ := Int.eq_ofNat_of_zero_le h0
  exact ok_num n (by omega)
theorem filt_bnd {c : Int → Bool} {a : Int} {n : Nat} (h0 : 0 ≤ a) (h1 : a + (n : Int) ≤ 300) : ∀ k ∈ (rangeKs a n).filter c, 0 ≤ k ∧ k < 300 :=
  fun k hk => range_bnd h0 h1 k (List.mem_filter.mp hk).1
theorem wrd_ok (x : Int) : ∀ k : Nat, k < 18 → PyData.strOk (wrdOf k x) = true
  | 0, _ => ok_app (by decide +kernel) (ok_numI (by have := fmod_lo x (show (0 : Int) < 64 by decide); omega) (by have := fmod_hi x (show (0 : Int) < 64 by decide); omega))
  | 1, _ => ok_app (by decide +kernel) (ok_numI (by have := fmod_lo x (show (0 : Int) < 64 by decide); omega) (by have := fmod_hi x (show (0 : Int) < 64 by decide); omega))
  | 2, _ => ok_ite (by decide +kernel) (ok_pop (ok_gprs4 _))
  | 3, _ => ok_ite (by decide +kernel) (ok_pop (ok_gprs4 _))
  | 4, _ => ok_ite (by decide +kernel) (ok_ite (by decide +kernel) (ok_app (by decide +kernel) (ok_numI (fmod_lo x (by decide)) (by have := fmod_hi x (show (0 : Int) < 16 by decide); omega))))
  | 5, _ => by
    show PyData.strOk (popText ((rangeKs 4 (5 + x.fmod 8 - 4).toNat).map gprN ++ [])) = true
    rw [List.append_nil]; exact ok_pop (ok_gprs _)
  | 6, _ => ok_pop (ok_snoc (ok_gprs _) (by decide +kernel))
  | 7, _ => by show PyData.strOk (Str.ofString "finish") = true; decide +kernel
  | 8, _ => ok_ite (by decide +kernel) (ok_ite (by decide +kernel) (ok_pop (ok_regs (by decide +kernel) (filt_bnd (by decide) (by decide)))))
  | 9, _ => ok_ite (by decide +kernel) (ok_ite (by decide +kernel) (ok_pop (ok_regs (by decide +kernel) (filt_bnd (by decide) (by decide)))))
  | 10, _ => ok_pop (ok_regs (by decide +kernel) (by obtain ⟨f, m, hf, hm, hfm, e, e1, e2, e3⟩ := run_of x; rw [e, e1]; exact range_bnd (by omega) (by omega)))
  | 11, _ => ok_pop (ok_regs (by decide +kernel) (by obtain ⟨f, m, hf, hm, hfm, e, e1, e2, e3⟩ := run_of x; rw [e, e1]; exact range_bnd (by omega) (by omega)))
  | 12, _ => ok_pop (ok_regs (by decide +kernel) (by obtain ⟨f, m, hf, hm, hfm, e, e1, e2, e3⟩ := run_of x; rw [e, e1]; exact range_bnd (by omega) (by omega)))
  | 13, _ => ok_pop (ok_regs (by decide +kernel) (by obtain ⟨f, m, hf, hm, hfm, e, e1, e2, e3⟩ := run_of x; rw [e, e1]; exact range_bnd (by omega) (by omega)))
  | 14, _ => ok_pop (ok_regs (by decide +kernel) (by have := fmod_lo x (show (0 : Int) < 8 by decide); have := fmod_hi x (show (0 : Int) < 8 by decide); exact range_bnd (by omega) (by omega)))
  | 15, _ => ok_pop (ok_regs (by decide +kernel) (by have := fmod_lo x (show (0 : Int) < 8 by decide); have := fmod_hi x (show (0 : Int) < 8 by decide); exact range_bnd (by omega) (by omega)))
  | 16, _ => ok_pop (ok_regs (by decide +kernel) (by have := fmod_lo x (show (0 : Int) < 6 by decide); have := fmod_hi x (show (0 : Int) < 6 by decide); exact range_bnd (by omega) (by omega)))
  | 17, _ => by show PyData.strOk (Str.ofString "spare") = true; decide +kernel
  | k + 18, h => by omega
theorem op_ok (n : Int) : PyData.strOk (opOf n).2 = true := by
  have h0 := fmod_lo n (show (0 : Int) < 18 by decide)
  have h1 := fmod_hi n (show (0 : Int) < 18 by decide)
  exact wrd_ok _ _ (by omega)
theorem dat_ok {ns : List Int} : ∀ d ∈ (ns.map fun n => toDat (opOf n)), kqdOk 8 d = true := by
  intro d hd
  obtain ⟨n, _, rfl⟩ := List.mem_map.mp hd
  have h := op_ok n
  unfold toDat
  simp only [kqdOk, List.all_cons, List.all_nil, h, Bool.and_true]
  exact List.all_eq_true.mpr fun e he => by
    obtain ⟨i, _, rfl⟩ := List.mem_map.mp he
    rfl

theorem top_off23 : True := by
  w_top off
  exact True.intro
theorem use_dec {w : World} {d dx oct : Addr} {i0 : Int} {ti0 : Tok} {v0 : Value} {t1 t2 t3 : Tok} {vs : List Value} {nn : Nat} {all : List Int} {plan : List (List Int × PySem.Str)} {news : Led} {mean : ExcName → Option Value} {mg mb : Str → Option Value} {dp un : Nat} {gd : Option (List Code)} {cn : Str} {cs : Scope} {a : Addr} {ccd : Value} {cl : List (Str × Addr)} {outer : List Env} {A₀ : Around} {base h₀ : Heap} {L : Addr} {m : Str → Option Value} {s : Shared} {Q E : Value → Shared → Prop}
    (N : News h₀ L s.heap news) (bl0 : Led) (m1 : (d, instObj 254 dx) ∈ news) (m2 : (dx, selfV w oct i0 ti0 v0 t1 t2 t3) ∈ news) (m3 : (oct, listOf vs.toArray nn) ∈ news) (m4 : ∀ p ∈ bl0, p ∈ news)
    (hI : IntsAre vs all) (hlen : all.length ≤ 100) (hD : Dec all plan) (hne : d ≠ dx) (hne2 : oct ≠ dx) (hoff0 : OwnOff bl0 [dx])
    (B : Below A₀ base outer h₀) (F : Fr h₀ L s.heap m) (X : (KK w).In h₀) (T : Top hd.view_39 lse mean mg mb h₀) (hk : cs.kind = .function) (hd : dp + 16 < recursionLimit) (hu : un + 20 * 16 < cLine)
    (ret : ∀ (its : List Item) (i : Int) (ti : Tok) (ml : Addr) (nm : Nat) (us : List Value) (h' : Heap) (tk' : Nat), us = its.map (fun it => .ref it.x) → its.map Item.pair = plan → (∀ it ∈ its, IntsAre it.cvs it.chunk) → its.length = plan.length →
      Fr h₀ L h' m → News h₀ L h' (self5 w d dx oct ml i ti t1 t2 t3 vs nn us nm (itemsLed w its ++ bl0)) → Q .none { s with heap := h', toks := tk' }) :
    wpAny (model PySem.Challenge.rw_bs0027_01.row.prog w) (ktrTop dp un gd cn cs L a ccd cl outer) (call (.ref 49) [.ref d]) Q E s := by
  refine Claim.use (newsSub N ?_) (decode w d dx oct i0 ti0 v0 t1 t2 t3 bl0 vs nn all plan hI hlen hD hne hne2 hoff0) B F X T hk hd hu ?_
  · intro p hp
    rcases List.mem_cons.mp hp with rfl | hp
    · exact m1
    rcases List.mem_cons.mp hp with rfl | hp
    · exact m2
    rcases List.mem_cons.mp hp with rfl | hp
    · exact m3
    · exact m4 p hp
  · rintro v news' h' tk' F' N' ⟨rfl, its, i, ti, ml, nm, rfl, hp, hit⟩
    exact ret its i ti ml nm _ h' tk' rfl hp hit (by rw [← hp, List.length_map]) F' N'

theorem use_dec2 {w : World} {d dx oct W : Addr} {ow : Obj} {R : Led} {i0 : Int} {ti0 : Tok} {v0 : Value} {t1 t2 t3 : Tok} {vs : List Value} {nn : Nat} {all : List Int} {plan : List (List Int × PySem.Str)} {news : Led} {mean : ExcName → Option Value} {mg mb : Str → Option Value} {dp un : Nat} {gd : Option (List Code)} {cn : Str} {cs : Scope} {a : Addr} {ccd : Value} {cl : List (Str × Addr)} {outer : List Env} {A₀ : Around} {base h₀ : Heap} {L : Addr} {m : Str → Option Value} {s : Shared} {Q E : Value → Shared → Prop}
    (N : News h₀ L s.heap news) (m1 : (d, instObj 254 dx) ∈ news) (m2 : (dx, selfV w oct i0 ti0 v0 t1 t2 t3) ∈ news) (m3 : (oct, listOf vs.toArray nn) ∈ news) (m4 : (W, ow) ∈ news) (m5 : ∀ p ∈ R, p ∈ news)
    (hI : IntsAre vs all) (hlen : all.length ≤ 36) (hD : Dec all plan) (hpl : plan.length ≤ 18) (hne : d ≠ dx) (hne2 : oct ≠ dx) (hW : W ≠ dx) (hoff0 : OwnOff R [dx])
    (B : Below A₀ base outer h₀) (F : Fr h₀ L s.heap m) (X : (KK w).In h₀) (T : Top hd.view_39 lse mean mg mb h₀) (hk : cs.kind = .function) (hd : dp + 16 < recursionLimit) (hu : un + 20 * 16 < cLine)
    (ret : ∀ (its : List Item) (i : Int) (ti : Tok) (ml : Addr) (nm : Nat) (us : List Value) (R2 : Led) (h' : Heap) (tk' : Nat), us = its.map (fun it => .ref it.x) → its.map Item.pair = plan → (∀ it ∈ its, IntsAre it.cvs it.chunk) → its.length ≤ 100 → (∀ p ∈ R, p ∈ R2) → (∀ it ∈ its, ∀ p ∈ Item.led w it, p ∈ R2) →
      Fr h₀ L h' m → News h₀ L h' ((d, instObj 254 dx) :: (dx, selfD w oct i ti ml t1 t2 t3) :: (oct, listOf vs.toArray nn) :: (ml, listOf us.toArray nm) :: (W, ow) :: R2) → Q .none { s with heap := h', toks := tk' }) :
    wpAny (model PySem.Challenge.rw_bs0027_01.row.prog w) (ktrTop dp un gd cn cs L a ccd cl outer) (call (.ref 49) [.ref d]) Q E s := by
  refine use_dec N ((W, ow) :: R) m1 m2 m3 (fun p hp => ?_) hI (by omega) hD hne hne2 (off_cons hW hoff0) B F X T hk hd hu ?_
  · rcases List.mem_cons.mp hp with rfl | hp
    · exact m4
    · exact m5 p hp
  · intro its i ti ml nm us h' tk' hus hp hit hl F' N'
    refine ret its i ti ml nm us (itemsLed w its ++ R) h' tk' hus hp hit (by omega) (fun p hp => List.mem_append.mpr (.inr hp)) (fun it hi p hp => List.mem_append.mpr (.inl (List.mem_flatMap.mpr ⟨it, hi, hp⟩))) F' (newsSub N' fun p hp => ?_)
    rcases List.mem_cons.mp hp with rfl | hp
    · exact .head _
    rcases List.mem_cons.mp hp with rfl | hp
    · exact .tail _ (.head _)
    rcases List.mem_cons.mp hp with rfl | hp
    · exact .tail _ (.tail _ (.head _))
    rcases List.mem_cons.mp hp with rfl | hp
    · exact .tail _ (.tail _ (.tail _ (.head _)))
    refine .tail _ (.tail _ (.tail _ (.tail _ ?_)))
    rcases List.mem_cons.mp hp with rfl | hp
    · exact List.mem_append.mpr (.inr (.head _))
    rcases List.mem_append.mp hp with hp | hp
    · exact List.mem_append.mpr (.inl hp)
    · exact List.mem_append.mpr (.inr (.tail _ hp))

theorem top_off24 : True := by
  w_top off
  exact True.intro
def ItEnd (h₀ : Heap) (L : Addr) (m : Str → Option Value) (s₁ : Shared) (I : Addr) (oI : Obj) (C : Addr) (oC : Obj) (D : Addr) (oD : Obj) (R : Led) (it : Item) (y : Value) (s₂ : Shared) : Prop :=
  ∃ h' tk T t k, y = .ref T ∧ s₂ = { s₁ with heap := h', toks := tk } ∧ Fr h₀ L h' m ∧ News h₀ L h' ((I, oI) :: (C, oC) :: (D, oD) :: (T, { cls := .type "tuple", data := .seq #[.ref it.bl, .str it.text t] k }) :: R) ∧ @Ne Nat T I ∧ @Ne Nat T C ∧ @Ne Nat T D
section
open PySem.Calls
variable {prog : Program} {w : World} {A : Around} {h₀ : Heap} {L : Addr} {m : Str → Option Value} {env : Env} {elt : Expr} {x : Str} {scope : Scope} {cl : List (Str × Addr)} {s : Shared} {S : Led → Prop} {Fin : List Value → Led → Prop} {news : Led}
/-- the comprehension of pairs over the decoder's items -/
theorem tm_items {its : List Item} {us : List Value} {plan : List (List Int × PySem.Str)} (hus : us = its.map fun it => .ref it.x) (hpl : its.map Item.pair = plan) (hS : ∀ R, (∀ p ∈ news, p ∈ R) → S R) (hin : ∀ it ∈ its, ∀ p ∈ Item.led w it, p ∈ news) (hcv : ∀ it ∈ its, IntsAre it.cvs it.chunk)
    (turn : ∀ (it : Item) I oI C oC D m₂ ys h tk R (E' : Value → Shared → Prop), LCg.NsObj oC m₂ → m₂ x = some (.ref it.x) → Fr h₀ L h m → News h₀ L h ((I, oI) :: (C, oC) :: (D, LCg.lst ys) :: (it.x, instObj 280 it.dx) :: (it.dx, itemD w it.bl it.text it.tt it.k1 it.k2) :: (it.bl, listOf it.cvs.toArray it.nb) :: R) → ((@Ne Nat I C) ∧ (@Ne Nat I D) ∧ (@Ne Nat C D)) → KPfMark →
      wpAny (model prog w) A (eval elt (compEnvC scope cl C env)) (ItEnd h₀ L m { s with heap := h, toks := tk } I oI C oC D (LCg.lst ys) R it) E' { s with heap := h, toks := tk })
    (fin : KPfDone (∀ ys R, DatAll R ys (plan.map toDat) → (∀ p ∈ news, p ∈ R) → Fin ys R)) : LCg.CompRest prog w A h₀ L m env elt x scope cl s S (fun i v => us.toArray[i]? = some v) Fin us.toArray.size 0 [] news := by
  unfold KPfDone at fin
  have key : ∀ (j i : Nat) (ys : List Value) (R : Led), i + j = its.length → (∀ p ∈ news, p ∈ R) → DatAll R ys ((its.take i).map fun it => toDat it.pair) → LCg.CompRest prog w A h₀ L m env elt x scope cl s S (fun i v => us.toArray[i]? = some v) Fin j i ys R := by
    intro j
    induction j with
    | zero =>
      intro i ys R hi hs hy
      have e : i = its.length := by omega
      rw [e, List.take_length] at hy
      refine LCg.CompRest.zero (fin ys R ?_ hs)
      rw [← hpl, List.map_map]
      exact hy
    | succ j ih =>
      intro i ys R hi hs hy
      refine LCg.CompRest.succ ?_
      intro v I oI C oC D m₂ h tk E' hv hC hx F N off ne
      have hlt : i < its.length := by omega
      have hv' : v = .ref (its[i]).x := by
        have h1 : us.toArray[i]? = some v := hv
        rw [hus, List.getElem?_toArray, List.getElem?_map, List.getElem?_eq_getElem hlt] at h1
        exact (Option.some.inj h1).symm
      subst hv'
      have hmem : its[i] ∈ its := List.getElem_mem hlt
      have hled := hin _ hmem
      have N2 : ∀ p ∈ Item.led w its[i], News h₀ L h [p] := fun p hp q hq => by
        rw [List.mem_singleton.mp hq]
        exact N p (.tail _ (.tail _ (.tail _ (hs p (hled p hp)))))
      have N3 : News h₀ L h ((I, oI) :: (C, oC) :: (D, LCg.lst ys) :: ((its[i]).x, instObj 280 (its[i]).dx) :: ((its[i]).dx, itemD w (its[i]).bl (its[i]).text (its[i]).tt (its[i]).k1 (its[i]).k2) :: ((its[i]).bl, listOf (its[i]).cvs.toArray (its[i]).nb) :: R) := by
        refine news_cons N (.head _) (news_cons N (.tail _ (.head _)) (news_cons N (.tail _ (.tail _ (.head _))) ?_))
        refine news_cons N (.tail _ (.tail _ (.tail _ (hs _ (hled _ (.head _)))))) (news_cons N (.tail _ (.tail _ (.tail _ (hs _ (hled _ (.tail _ (.head _))))))) (news_cons N (.tail _ (.tail _ (.tail _ (hs _ (hled _ (.tail _ (.tail _ (.head _)))))))) ?_))
        exact newsSub N fun p hp => .tail _ (.tail _ (.tail _ hp))
      refine wpAny_mono (turn its[i] I oI C oC D m₂ ys h tk R E' hC hx F N3 ne True.intro) (fun y s₂ hr => ?_) fun _ _ e => e
      obtain ⟨h', tk', T, t, k, rfl, e, F', N', a1, a2, a3⟩ := hr
      refine ⟨h', tk', _, e, F', N', ⟨⟨a1, a2, a3⟩, off⟩, hS _ fun p hp => .tail _ (hs p hp), ?_⟩
      refine ih (i + 1) _ _ (by omega) (fun p hp => .tail _ (hs p hp)) ?_
      rw [List.take_add_one, List.getElem?_eq_getElem hlt, List.map_append]
      refine DatAll.append (hy.mono fun p hp => .tail _ hp) (DatAll.one ?_)
      exact dat_pair (.head _) (.tail _ (hs _ (hled _ (.tail _ (.tail _ (.head _)))))) (hcv _ hmem)
  have hn : us.toArray.size = its.length := by rw [hus, List.size_toArray, List.length_map]
  rw [hn]
  exact key its.length 0 [] news (by omega) (fun _ h => h) (by simp only [List.take_zero, List.map_nil]; exact .nil)
end
/-- the pairs, read off the source list in the ledger -/
theorem src_items {prog : Program} {w : World} {A : Around} {h₀ : Heap} {L : Addr} {m : Str → Option Value} {env : Env} {elt : Expr} {x : Str} {scope : Scope} {cl : List (Str × Addr)} {Fin : Shared → List Value → Led → Prop} {ml : Addr} {k : Nat} {news : Led} {s₁ : Shared}
    {its : List Item} {us : List Value} {plan : List (List Int × PySem.Str)} (hh : A.handled = none) (F : Fr h₀ L s₁.heap m) (N : News h₀ L s₁.heap news) (hm : (ml, listOf us.toArray k) ∈ news) (hus : us = its.map fun it => .ref it.x) (hpl : its.map Item.pair = plan) (hlen : its.length ≤ 100) (hin : ∀ it ∈ its, ∀ p ∈ Item.led w it, p ∈ news) (hcv : ∀ it ∈ its, IntsAre it.cvs it.chunk)
    (turn : ∀ g (it : Item) I oI C oC D m₂ ys h tk R (E' : Value → Shared → Prop), LCg.NsObj oC m₂ → m₂ x = some (.ref it.x) → Fr h₀ L h m → News h₀ L h ((I, oI) :: (C, oC) :: (D, LCg.lst ys) :: (it.x, instObj 280 it.dx) :: (it.dx, itemD w it.bl it.text it.tt it.k1 it.k2) :: (it.bl, listOf it.cvs.toArray it.nb) :: R) → ((@Ne Nat I C) ∧ (@Ne Nat I D) ∧ (@Ne Nat C D)) → KPfMark →
      wpAny (model prog w) A (eval elt (compEnvC scope cl C env)) (ItEnd h₀ L m { s₁ with heap := h, toks := tk } I oI C oC D (LCg.lst ys) R it) E' { { s₁ with heap := g } with heap := h, toks := tk })
    (fin : ∀ g ys R, DatAll R ys (plan.map toDat) → (∀ p ∈ news, p ∈ R) → Fin { s₁ with heap := g } ys R) :
    LCg.CompSrc prog w A h₀ L m env elt x scope cl Fin (.ref ml) s₁ := by
  refine LCg.CompSrc.ledger hh F N hm ?_ fun g => tm_items hus hpl (fun R hR => .inr ⟨_, hR _ hm, rfl, _, rfl⟩) hin hcv (fun it I oI C oC D m₂ ys h tk R E' => turn g it I oI C oC D m₂ ys h tk R E') (fin g)
  rw [hus, List.size_toArray, List.length_map, PySem.sizeLine_eq]
  omega
theorem news_join {h₀ h : Heap} {L D : Addr} {o : Obj} {nb R9 : Led} (N : News h₀ L h ((D, o) :: R9)) (hs : ∀ p ∈ nb, p ∈ R9) : News h₀ L h ((D, o) :: (nb ++ R9)) := by
  refine newsSub N fun p hp => ?_
  rcases List.mem_cons.mp hp with rfl | hp
  · exact .head _
  rcases List.mem_append.mp hp with hp | hp
  · exact .tail _ (hs p hp)
  · exact .tail _ hp
section
variable {prog : Program} {w : World} {A : Around} {E : Value → Shared → Prop} {s : Shared} {h₀ : Heap} {L a b : Addr} {news n₁ n₂ : Led} {oa ob : Obj} {xs ys : List Value} {ka kb : Nat} {ns : List Int} {Q : Value → Shared → Prop}
theorem cmp_ne (N : News h₀ L s.heap news) (ma : (a, LCg.lst xs) ∈ news) (Da : DatAll n₁ xs ((ns.map opOf).map toDat)) (sa : ∀ p ∈ n₁, p ∈ news)
    (mb : (b, listOf ys.toArray kb) ∈ news) (Db : DatAll n₂ ys (ns.map fun n => toDat (opOf n))) (sb : ∀ p ∈ n₂, p ∈ news) (hu : A.units + 64 < cLine) (h : Q (.bool false) s) : wpAny (model prog w) A (compareOp .NotEq (.ref a) (.ref b)) Q E s := by
  rw [List.map_map] at Da
  replace Da : DatAll n₁ xs (ns.map fun n => toDat (opOf n)) := Da
  refine kqd_ne N ma rfl rfl Da sa mb rfl rfl Db sb dat_ok dat_ok hu ?_
  simpa using h
theorem cmp_eq (N : News h₀ L s.heap news) (ma : (a, LCg.lst xs) ∈ news) (Da : DatAll n₁ xs ((ns.map opOf).map toDat)) (sa : ∀ p ∈ n₁, p ∈ news)
    (mb : (b, listOf ys.toArray kb) ∈ news) (Db : DatAll n₂ ys (ns.map fun n => toDat (opOf n))) (sb : ∀ p ∈ n₂, p ∈ news) (hu : A.units + 64 < cLine) (h : Q (.bool true) s) : wpAny (model prog w) A (compareOp .Eq (.ref a) (.ref b)) Q E s := by
  rw [List.map_map] at Da
  replace Da : DatAll n₁ xs (ns.map fun n => toDat (opOf n)) := Da
  refine kqd_eq N ma rfl rfl Da sa mb rfl rfl Db sb dat_ok dat_ok hu ?_
  simpa using h
end
theorem build_fin {h₀ h' : Heap} {L : Addr} {s : Shared} {tk' : Nat} {m' : Str → Option Value} {news R : Led} {wl oct I ax T r D8 : Addr} {o lo : Obj} {pre : List Int} {n : Int} {ovs wvs us8 cvs : List Value} {wc oc c k : Nat} {tx : Tok}
    (F : Fr h₀ L h' m') (N : News h₀ L h' news) (B : Built wl oct I ax lo pre ovs wvs R) (hw : (wl, listOf (List.toArray (wvs ++ [.ref T])) wc) ∈ news) (hI : (I, o) ∈ news) (h1 : m' (Str.ofString "octets") = some (.ref D8)) (h2 : m' (Str.ofString "want") = some (.ref wl)) (hD : (D8, listOf us8.toArray oc) ∈ news)
    (hT : (T, ({ cls := .type "tuple", data := .seq #[.ref r, .str (wrdOf (n.fmod 18).toNat (n.fdiv 18)) tx] k } : Obj)) ∈ news) (hr : (r, listOf cvs.toArray c) ∈ news) (hR : ∀ p ∈ R, p ∈ news)
    (hi : IntsAre cvs (rowOf (n.fmod 18).toNat (n.fdiv 18))) (ho : IntsAre us8 ((pre.flatMap fun n => (opOf n).1) ++ rowOf (n.fmod 18).toNat (n.fdiv 18))) (a1 : @Ne Nat T wl) (a2 : @Ne Nat T I) (b1 : @Ne Nat r wl) (b2 : @Ne Nat r I) (c1 : @Ne Nat D8 wl) (c2 : @Ne Nat D8 I) :
    BuildEnd h₀ L s wl I ax o lo (pre ++ [n]) .next { s with heap := h', toks := tk' } :=
  ⟨rfl, h', tk', m', D8, us8, oc, wvs ++ [.ref T], wc, _, rfl, F, news_cons N hI (news_cons N hw (news_cons N hD (news_cons N hT (news_cons N hr (newsSub N hR))))), h1, h2, built_step B hi ho a1 a2 b1 b2 c1 c2⟩
theorem it_end {h₀ h' : Heap} {L : Addr} {s : Shared} {tk' : Nat} {m : Str → Option Value} {I C D T : Addr} {oI oC oD : Obj} {R : Led} {it : Item} {t : Tok} {k : Nat} {a b c : Addr × Obj}
    (F : Fr h₀ L h' m) (N : News h₀ L h' ((T, { cls := .type "tuple", data := .seq #[.ref it.bl, .str it.text t] k }) :: (I, oI) :: (C, oC) :: (D, oD) :: a :: b :: c :: R)) (a1 : @Ne Nat T I) (a2 : @Ne Nat T C) (a3 : @Ne Nat T D) :
    ItEnd h₀ L m s I oI C oC D oD R it (.ref T) { s with heap := h', toks := tk' } :=
  ⟨h', tk', T, t, k, rfl, rfl, F, news_cons N (.tail _ (.head _)) (news_cons N (.tail _ (.tail _ (.head _))) (news_cons N (.tail _ (.tail _ (.tail _ (.head _)))) (news_cons N (.head _) (newsSub N fun p hp => .tail _ (.tail _ (.tail _ (.tail _ (.tail _ (.tail _ (.tail _ hp))))))))))
, a1, a2, a3⟩

theorem top_off25 : True := by
  w_top off
  exact True.intro
theorem law_holds : PySem.Challenge.rw_bs0027_01.Holds := hd (by
  k_with_none
  k_with "bsF" => ((rename Fr _ _ _ _ => wF); k_dflt (refine' For_turns wF ?_))
  k_with "bsIt" => ((with_reducible show wpAny _ _ (pyIter (Value.ref _)) (fun it s₂ => TurnsAt _ _ _ _ _ _ _ _ _ it s₂) _ _); (rename Fr _ _ _ _ => wF); (rename News _ _ _ _ => wN); (rename IntsAre _ (_ ++ _) => wI); k_dflt (refine' build_start ?bh wF wN ?bm rfl rfl ?bw ?bo ?bn ?bx wI ?bl ?_ ?_; (case bh => exact rfl); (case bm => k_mem); (case bw => k_mem); (case bo => k_mem); (case bn => (refine neN ?_; omega)); (case bx => (refine neN ?_; omega)); (case bl => (rw [List.length_append, List.length_take]; simp only [List.length_cons, List.length_nil]; omega))); (intro I lo hwI pre n t oct ovs oc wvs wc R u h tk o hlp hB ho hl36 hoff hc1 hc2 hl18 hIo wF wN); (have hwI2 := Ne.symm hwI); (have hn0 := fmod_lo n (show (0 : Int) < 18 by decide)); (have hn1 := fmod_hi n (show (0 : Int) < 18 by decide)); (have hrl : (rowOf (n.fmod 18).toNat (n.fdiv 18)).length ≤ 2 := by k_dflt exact row_len n); (try k_fold); rotate_left; (intro W oct ovs oc wvs wc R u h tk hoff hc1 hIo hl36 hDA wF wN); (try k_fold); rotate_left)
  k_with "bsA" => ((rename Fr _ _ _ _ => wF); (rename News _ _ _ _ => wN); k_dflt (refine' kmk_add_ints wF wN ?ka ?kb hIo hi9 ?_ ?kz; (case ka => exact News.isList (by k_asm) (by k_mem)); (case kb => exact News.isList (by k_asm) (by k_mem)); (case kz => (rw [PySem.sizeLine_eq]; omega))); intro D8 us8 h8 F8 N8 l1 hI8; (try k_lt l1); (try k_sweep))
  k_with "bsC" => first
    | ((with_reducible show wpAny _ _ (call (Value.ref 297) _ _) _ _ _); ((rename News _ _ _ _ => nwX); k_dflt (refine' Claim.use nwX (one_allZ _ _ (fmod_lo n (show (0 : Int) < 18 by decide)) (fmod_hi n (show (0 : Int) < 18 by decide)) (n.fdiv 18) _ _ _) ?B ?F ?X ?T rfl ?hd ?hu ?_; (case B => k_asm); (case F => k_asm); (case X => k_asm); (case T => k_asm); (case hd => k_room); (case hu => k_units)); intro v9 news9 h9 tk9 F9 N9 hR9; obtain ⟨t9, r9, cvs9, tw9, c9, rfl, rfl, hi9, ha9, hl9⟩ := hR9; (simp only [AllLt, and_true] at ha9); (try k_sweep)))
    | ((with_reducible show wpAny _ _ (call (Value.ref 49) _ _) _ _ _); first
      | ((fail_if_success have := hlm2); (fail_if_success have := hpr); ((rename Fr _ _ _ _ => wF); (rename News _ _ _ _ => wN); k_dflt (refine' use_dec wN ((W, listOf (List.toArray wvs) _) :: (oct, listOf (List.toArray ovs) _) :: R) ?q1 ?q2 ?q3 ?q4 .nil (by decide) .nil ?q5 ?q6 ?q7 ?B ?F ?X ?T rfl ?hd ?hu ?_; (case q1 => k_mem); (case q2 => k_mem); (case q3 => k_mem); (case B => k_asm); (case F => k_asm); (case X => k_asm); (case T => k_asm); (case hd => k_room); (case hu => k_units); (case q5 => (refine neN ?_; omega)); (case q6 => (refine neN ?_; omega)); (case q4 => (intro p hp; repeat (first | exact hp | refine List.Mem.tail _ ?_))); (case q7 => (refine off_cons (by (refine neN ?_; omega)) (off_cons (by (refine neN ?_; omega)) (by rename (_ ∧ _ ∧ _ ∧ AllLt _ _) => wl; exact off_lt wl.2.2.2))))); intro its i9 ti9 ml nm us9 h9 tk9 hus hpr hit hil F9 N9; (have hz : its = [] := List.map_eq_nil_iff.mp hpr); subst hz; (simp only [List.map_nil] at hus); subst hus; (simp only [itemsLed, List.flatMap_nil, List.nil_append] at N9); (try k_sweep)))
      | ((fail_if_success have := hlm2); ((rename (_ ∧ _ ∧ _ ∧ _ ∧ _ ∧ _ ∧ _ ∧ AllLt _ R) => wl); (have hRdx := off_lt wl.2.2.2.2.2.2.2); (rename Fr _ _ _ _ => wF); (rename News _ _ _ _ => wN); k_dflt (refine' use_dec2 (W := W) (R := R) wN ?q1 ?q2 ?q3 ?q4 ?q5 hIo hl36 (dec_ops _) ?qp ?q6 ?q7 ?q8 ?q9 ?B ?F ?X ?T rfl ?hd ?hu ?_; (case q1 => k_mem); (case q2 => k_mem); (case q3 => k_mem); (case q4 => k_mem); (case q5 => (intro p hp; repeat (first | exact hp | refine List.Mem.tail _ ?_))); (case qp => (rw [List.length_map, List.length_append, List.length_take]; simp only [List.length_cons, List.length_nil]; omega)); (case B => k_asm); (case F => k_asm); (case X => k_asm); (case T => k_asm); (case hd => k_room); (case hu => k_units); (case q6 => (refine neN ?_; omega)); (case q7 => (refine neN ?_; omega)); (case q8 => (refine neN ?_; omega)); (case q9 => exact hRdx));  intro its2 i2 ti2 ml2 nm2 us2 R2 h9 tk9 hus2 hpr2 hit2 hlm2 hsub2 hin2 F9 N9; (try k_sweep)))
      | (((rename Fr _ _ _ _ => wF); (rename News _ _ _ _ => wN); k_dflt (refine' use_dec2 (W := W) (R := R) wN ?q1 ?q2 ?q3 ?q4 ?q5 hIo hl36 (dec_ops _) ?qp ?q6 ?q7 ?q8 ?q9 ?B ?F ?X ?T rfl ?hd ?hu ?_; (case q1 => k_mem); (case q2 => k_mem); (case q3 => k_mem); (case q4 => k_mem); (case q5 => (intro p hp; (have hq := hRR3 p hp); repeat (first | exact hq | refine List.Mem.tail _ ?_))); (case qp => (rw [List.length_map, List.length_append, List.length_take]; simp only [List.length_cons, List.length_nil]; omega)); (case B => k_asm); (case F => k_asm); (case X => k_asm); (case T => k_asm); (case hd => k_room); (case hu => k_units); (case q6 => (refine neN ?_; omega)); (case q7 => (refine neN ?_; omega)); (case q8 => (refine neN ?_; omega)); (case q9 => exact hRdx));  intro its2 i2 ti2 ml2 nm2 us2 R2 h9 tk9 hus2 hpr2 hit2 hlm2 hsub2 hin2 F9 N9; (try k_sweep))))
  k_with "bsS" => ((rename Fr _ _ _ _ => wF); (rename News _ _ _ _ => wN); k_dflt (refine' src_items ?ch wF wN ?cm hus2 hpr2 hlm2 ?ci hit2 ?_ ?_; (case ch => exact rfl); (case cm => k_mem); (case ci => (intro it hi p hp; (have hq := hin2 it hi p hp); repeat (first | exact hq | refine List.Mem.tail _ ?_)))); (intro g it I oI C oC D m9 ys h tk R9 E9 hC hx F9 N9 ne9; (show KPfMark → _); intro hMark'); (try k_fold); rotate_left; (intro g ys R9 hda9 hsub9); k_dflt (intro D h tk F9 N9 off9); (have N10 := news_join N9 hsub9); clear N9; (simp only [List.cons_append, List.nil_append] at N10); (generalize hR3 : R2 ++ R9 = R3 at N10); (have h93 : ∀ p ∈ R9, p ∈ R3 := fun p hp => hR3 ▸ List.mem_append_right R2 hp); (have hRR3 : ∀ p ∈ R, p ∈ R3 := fun p hp => hR3 ▸ List.mem_append_left R9 (hsub2 p hp)); (try k_fold); rotate_left)
  k_with "bsNe" => ((rename News _ _ _ _ => wN); k_dflt (refine' cmp_ne wN ?ma hda9 ?sa ?mb hDA ?sb ?hu ?_; (case ma => k_mem); (case mb => k_mem); (case hu => k_units); (case sa => (intro p hp; (have hq := h93 p hp); repeat (first | exact hq | refine List.Mem.tail _ ?_))); (case sb => (intro p hp; (have hq := hRR3 p hp); repeat (first | exact hq | refine List.Mem.tail _ ?_)))))
  k_with "bsEq" => ((rename News _ _ _ _ => wN); k_dflt (refine' cmp_eq wN ?ma hda9 ?sa ?mb hDA ?sb ?hu ?_; (case ma => k_mem); (case mb => k_mem); (case hu => k_units); (case sa => (intro p hp; (have hq := h93 p hp); repeat (first | exact hq | refine List.Mem.tail _ ?_))); (case sb => (intro p hp; (have hq := hRR3 p hp); repeat (first | exact hq | refine List.Mem.tail _ ?_)))))
  k_go0
  all_goals try k_fold
  all_goals k_steps
  · rename News _ _ _ _ => wN
    simp only [List.push_toArray] at wN
    (k_dflt (refine' build_fin (by assumption) wN hB ?w1 ?w2 rfl rfl ?w3 ?w4 ?w5 ?w6 hi9 hI8 ?v1 ?v2 ?v3 ?v4 ?v5 ?v6; (case w1 => k_mem); (case w2 => k_mem); (case w3 => k_mem); (case w4 => k_mem); (case w5 => k_mem); (case w6 => (intro p hp; repeat (first | exact hp | refine List.Mem.tail _ ?_))); (case v1 => (refine neN ?_; omega)); (case v2 => (refine neN ?_; omega)); (case v3 => (refine neN ?_; omega)); (case v4 => (refine neN ?_; omega)); (case v5 => (refine neN ?_; omega)); (case v6 => (refine neN ?_; omega))))
  all_goals (refine it_end (by assumption) (by assumption) ?_ ?_ ?_ <;> (refine neN ?_; omega)))

end Bs
theorem PySem.Challenge.cw_bs0027_01_holds : PySem.Challenge.rw_bs0027_01.Holds := by
  exact Bs.law_holds
