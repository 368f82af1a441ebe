import PyProof.Rows.All
import Wide.All
import OpenK.AllK
import Wide.FinOn
import PySem.Challenge.RW_sh0017_01
open PySem PySem.W PyProof.Rows PySem.Calls PySem.Spec
set_option Elab.async false
set_option maxRecDepth 100000
set_option linter.all false
set_option compiler.extract_closed false
namespace Mine
-- part Head1
section
set_option maxHeartbeats 8000000
open_top hd for PySem.Challenge.rw_sh0017_01

end
theorem top_off : True := by
  w_top off
  exact True.intro
section
local macro_rules | `(tactic| omega) => `(tactic| lia)
-- part InL
section
theorem cons_fst {α β : Type} {l : List (α × β)} {a : α} {r : List α} (h : l.map Prod.fst = a :: r) : ∃ u l', l = (a, u) :: l' ∧ l'.map Prod.fst = r := by
  cases l with
  | nil => cases h
  | cons x l => rw [List.map_cons] at h; injection h with h1 h2; exact ⟨x.2, l, by rw [← h1], h2⟩
theorem nil_fst {α β : Type} {l : List (α × β)} (h : l.map Prod.fst = []) : l = [] := List.map_eq_nil_iff.mp h
theorem cons_len {α : Type} {l : List α} {n : Nat} (h : l.length = n + 1) : ∃ a l', l = a :: l' ∧ l'.length = n := by
  cases l with
  | nil => cases h
  | cons a l => exact ⟨a, l, rfl, Nat.succ.inj h⟩
def inL (x : Str) (c : Nat) : Bool := !(Builtin.Str.occurrences x ⟨#[c]⟩ 0 x.length 1).isEmpty
theorem inL_t {x : Str} {c : Nat} (h : (Builtin.Str.occurrences x ⟨#[c]⟩ 0 x.length 1).isEmpty = false) : inL x c = true := by unfold inL; rw [h]; rfl
theorem inL_f {x : Str} {c : Nat} (h : (Builtin.Str.occurrences x ⟨#[c]⟩ 0 x.length 1).isEmpty = true) : inL x c = false := by unfold inL; rw [h]; rfl
theorem shaped1 {a : Str} (h : PyData.strOk a = true) : SeqAt.shaped (.list [.str a]) = true := by
  simp [SeqAt.shaped, PyData.canLay0, PyData.canLayAll0, PyData.depth, PyData.depthAll, h]
theorem shaped2 {a b : Str} (h : PyData.strOk a = true) (h2 : PyData.strOk b = true) : SeqAt.shaped (.list [.str a, .str b]) = true := by
  simp [SeqAt.shaped, PyData.canLay0, PyData.canLayAll0, PyData.depth, PyData.depthAll, h, h2]

end
-- part Base
section
def Ctr (w : World) (n : Nat) (fv : Value) (args : List Value) (news : List (Addr × Obj)) (Out : Value → List (Addr × Obj) → Prop) : Prop :=
  ∀ (p : Program) (loose : List Str) (mean : ExcName → Option Value) (mg mb : Str → Option Value)
    (dp un : Nat) (gd : Option (List Code)) (cn : Str) (cs : Scope) (a : Addr) (ccd : Value) (cl : List (Str × Addr)) (outer : List Env) (A₀ : Around) (base h₀ : Heap) (L : Addr)
    (m : Str → Option Value) (s : Shared) (Q E : Value → Shared → Prop),
    Below A₀ base outer h₀ → Fr h₀ L s.heap m → (hd.heap_39 w.params).In h₀ → News h₀ L s.heap news → Top p loose mean mg mb h₀ → cs.kind = .function → dp + n < recursionLimit → un + 8 * n < cLine →
    (∀ (v : Value) (news' : List (Addr × Obj)) (h' : Heap) (tk' : Nat), Fr h₀ L h' m → News h₀ L h' news' → Out v news' → Q v { s with heap := h', toks := tk' }) →
    wpAny (model PySem.Challenge.rw_sh0017_01.prog w) (ktrTop dp un gd cn cs L a ccd cl outer) (call fv args) Q E s

theorem Ctr.use {w : World} {n : Nat} {fv : Value} {args : List Value} {news : List (Addr × Obj)} {Out : Value → List (Addr × Obj) → Prop} (C : Ctr w n fv args news Out)
    {p : Program} {loose : List Str} {mean : ExcName → Option Value} {mg mb : Str → Option Value}
    {dp un : Nat} {gd : Option (List Code)} {cn : Str} {cs : Scope} {a : Addr} {ccd : Value} {cl : List (Str × Addr)} {outer : List Env} {A₀ : Around} {base h₀ : Heap} {L : Addr}
    {m : Str → Option Value} {s : Shared} {Q E : Value → Shared → Prop}
    (B : Below A₀ base outer h₀) (F : Fr h₀ L s.heap m) (X : (hd.heap_39 w.params).In h₀) (N : News h₀ L s.heap news) (T : Top p loose mean mg mb h₀) (hk : cs.kind = .function) (hd : dp + n < recursionLimit) (hu : un + 8 * n < cLine)
    (ret : ∀ (v : Value) (news' : List (Addr × Obj)) (h' : Heap) (tk' : Nat), Fr h₀ L h' m → News h₀ L h' news' → Out v news' → Q v { s with heap := h', toks := tk' }) :
    wpAny (model PySem.Challenge.rw_sh0017_01.prog w) (ktrTop dp un gd cn cs L a ccd cl outer) (call fv args) Q E s :=
  C p loose mean mg mb dp un gd cn cs a ccd cl outer A₀ base h₀ L m s Q E B F X N T hk hd hu ret

theorem AllLt.ne {d : Addr} : ∀ {l : List (Addr × Obj)}, AllLt d l → ∀ p ∈ l, p.1 ≠ d
  | [], _, _, h => nomatch h
  | _ :: _, x, p, h => by
    rcases List.mem_cons.mp h with rfl | h
    · exact Nat.ne_of_lt x.1
    · exact AllLt.ne x.2 p h

inductive Pick (q : Addr × Obj) : List (Addr × Obj) → List (Addr × Obj) → Prop
  | head {r} : Pick q (q :: r) r
  | tail {p r r'} : Pick q r r' → Pick q (p :: r) (p :: r')
theorem Pick.sub {q : Addr × Obj} : ∀ {l l' : List (Addr × Obj)}, Pick q l l' → ∀ p ∈ q :: l', p ∈ l
  | _, _, .head, p, h => h
  | _, _, .tail k, p, h => by
    rcases List.mem_cons.mp h with rfl | h
    · exact .tail _ (k.sub _ (.head _))
    · rcases List.mem_cons.mp h with rfl | h
      · exact .head _
      · exact .tail _ (k.sub _ (.tail _ h))
theorem unrEnd_pick {h₀ : Heap} {L I : Addr} {it : Obj} {rest : (Str → Option Value) → List (Addr × Obj) → Prop} {s₁ : Shared} {h' : Heap} {tk : Nat} {m' : Str → Option Value} {all news' : List (Addr × Obj)} (F : Fr h₀ L h' m') (N : News h₀ L h' all)
    (pk : Pick (I, it) all news') (off : ∀ p ∈ news', p.1 ≠ I) (r : rest m' news') : UnrEnd h₀ L s₁ I it rest { s₁ with heap := h', toks := tk } :=
  UnrEnd.intro F N news' pk.sub off r

end
-- part Hide
section
def Kq {α : Type} (q : α → Shared → Prop) (v : α) (s : Shared) : Prop := q v s
theorem hideQ {α : Type} {M : Model} {A : Around} {c : Sem α} {Q : α → Shared → Prop} {E : Value → Shared → Prop} {s : Shared}
    (k : ∀ (q : α → Shared → Prop) (e : Value → Shared → Prop), (∀ v s', Q v s' → Kq q v s') → wpAny M A c (Kq q) e s) : wpAny M A c Q E s := k Q E fun _ _ h => h
theorem hideQ1 {α : Type} {M : Model} {A : Around} {c : Sem α} {Q : α → Shared → Prop} {E : Value → Shared → Prop} {s : Shared}
    (k : ∀ (q : α → Shared → Prop), (∀ v s', Q v s' → Kq q v s') → wpAny M A c (Kq q) E s) : wpAny M A c Q E s := k Q fun _ _ h => h
theorem Kq.of {α : Type} {q Q : α → Shared → Prop} {v : α} {s : Shared} (h : ∀ v s', Q v s' → Kq q v s') (x : Q v s) : Kq q v s := h v s x
theorem hideP {P : Prop} (k : ∀ G : Prop, (P → G) → G) : P := k P id

end
-- part Base2
section
open Builtin Builtin.Str in
theorem gives_find4 (x y : Str) (i : Int) (t u v v2 : Tok) : Gives («str.find» ⟨[.str x t, .str y u, .int i v, .int (x.length : Int) v2], []⟩) (.int (Txt.find3 x y i)) := by
  have e : min (max 0 (if ((x.length : Int)) < 0 then (x.length : Int) + x.length else (x.length : Int))).toNat x.length = x.length := by
    rw [if_neg (by omega)]; omega
  show Gives (match occurrences x y (fromIndex x.length i) (min (max 0 (if ((x.length : Int)) < 0 then (x.length : Int) + x.length else (x.length : Int))).toNat x.length) 1 with | k :: _ => retInt k | [] => (do rule "str.find.not-found"; retInt (-1))) _
  rw [e]
  unfold Txt.find3
  cases occurrences x y (fromIndex x.length i) x.length 1 with
  | nil => exact .rule (.of_eq rfl)
  | cons k _ => exact .of_eq rfl
theorem find4_call {prog : Program} {w : World} {A : Around} {E : Value → Shared → Prop} {s : Shared} {x y : Str} {t u v v2 : Tok} {i : Int} {Q : Value → Shared → Prop}
    (hq : Q (.int (Txt.find3 x y i) s.toks) { s with toks := s.toks + 1 }) : wpAny (model prog w) A (call (.builtin "str.find") [.str x t, .str y u, .int i v, .int (x.length : Int) v2]) Q E s :=
  call_gives F.slot_str_find (typeIs_str _ _ _) F.entry_str_find (F.args_str_find_4 _ _ _ _) (gives_find4 x y i t u v v2) hq
open StrLaws Builtin Builtin.Str in
theorem find3_empty (x : Str) (i : Int) (h0 : 0 ≤ i) (h1 : i ≤ x.length) : Txt.find3 x ⟨#[]⟩ i = i := by
  unfold Txt.find3
  have hf : fromIndex x.length i = i.toNat := by unfold fromIndex; rw [if_neg (by omega)]; omega
  have hat : StrLaws.At x ⟨#[]⟩ x.length (fromIndex x.length i) := by
    refine ⟨?_, ?_⟩
    · rw [hf]; show i.toNat + 0 ≤ x.length; omega
    · rw [subAt_eq]; show (List.take 0 _ == []) = true; simp
  rcases occ_head_from x ⟨#[]⟩ (fromIndex x.length i) 1 (Nat.le_refl 1) with ⟨_, hn⟩ | ⟨k, r, e, hk, ha, hn⟩
  · exact absurd hat (hn _ (Nat.le_refl _))
  · rw [e]
    have : k = fromIndex x.length i := by
      rcases Nat.lt_or_ge (fromIndex x.length i) k with h | h
      · exact absurd hat (hn _ (Nat.le_refl _) h)
      · omega
    show (k : Int) = i
    rw [this, hf]; omega
theorem find3_one (x : Str) (c : Nat) : (Txt.find3 x ⟨#[c]⟩ 0 < 0 ∧ x.cps.contains c = false) ∨ (0 ≤ Txt.find3 x ⟨#[c]⟩ 0 ∧ Txt.find3 x ⟨#[c]⟩ 0 + 1 ≤ x.length ∧ x.cps.contains c = true) := by
  have hz : PySem.fromIndex x.length 0 = 0 := rfl
  rcases StrLaws.find3_spec x c 0 with ⟨e, hn⟩ | ⟨k, e, _, hk, hc, _⟩
  · refine .inl ⟨by rw [e]; decide, ?_⟩
    rw [Bool.eq_false_iff]
    intro h
    rw [Array.contains_iff_mem] at h
    obtain ⟨v, hv, hv2⟩ := Array.mem_iff_getElem.mp h
    exact hn v (by rw [hz]; exact Nat.zero_le _) hv (by rw [Array.getD_eq_getD_getElem?, Array.getElem?_eq_getElem hv, hv2]; rfl)
  · refine .inr ⟨by rw [e]; omega, by rw [e]; omega, ?_⟩
    rw [Array.contains_iff_mem]
    refine Array.mem_iff_getElem.mpr ⟨k, hk, ?_⟩
    rw [Array.getD_eq_getD_getElem?, Array.getElem?_eq_getElem (show k < x.cps.size from hk)] at hc
    exact hc

end
-- part Base3
section
abbrev CtrP (w : World) (n : Nat) (fv : Value) (args : List Value) (news : List (Addr × Obj)) (P : Value → Prop) : Prop := Ctr w n fv args news (fun v n' => n' = news ∧ P v)
theorem ret_pure {h₀ : Heap} {L : Addr} {m : Str → Option Value} {news : List (Addr × Obj)} {P : Value → Prop} {s : Shared} {Q : Value → Shared → Prop}
    (hret : ∀ (v : Value) (news' : List (Addr × Obj)) (h' : Heap) (tk' : Nat), Fr h₀ L h' m → News h₀ L h' news' → (news' = news ∧ P v) → Q v { s with heap := h', toks := tk' })
    (v : Value) (h' : Heap) (tk' : Nat) (nw : List (Addr × Obj)) (F : Fr h₀ L h' m) (N : News h₀ L h' nw) (sub : ∀ p ∈ news, p ∈ nw) (p : P v) : Q v { s with heap := h', toks := tk' } :=
  hret v news h' tk' F (cb_drop N sub) ⟨rfl, p⟩
theorem unrEnd_pickL {h₀ : Heap} {L I : Addr} {it : Obj} {lp : Addr × Obj} {rest : (Str → Option Value) → List (Addr × Obj) → Prop} {s₁ : Shared} {h' : Heap} {tk : Nat} {m' : Str → Option Value} {all news' : List (Addr × Obj)} (F : Fr h₀ L h' m') (N : News h₀ L h' all)
    (pk : Pick (I, it) all news') (off : ∀ p ∈ news', p.1 ≠ I) (hl : lp ∈ news') (r : rest m' news') : UnrEnd h₀ L s₁ I it (fun m n => lp ∈ n ∧ rest m n) { s₁ with heap := h', toks := tk } :=
  unrEnd_pick F N pk off ⟨hl, r⟩
theorem split3_call {prog : Program} {w : World} {A : Around} {E : Value → Shared → Prop} {s : Shared} {h₀ : Heap} {L : Addr} {m : Str → Option Value} {news : List (Addr × Obj)} {x y a b c : Str} {t u : Tok} {Q : Value → Shared → Prop}
    (hF : Fr h₀ L s.heap m) (hN : News h₀ L s.heap news) (hs : Txt.split x y = [a, b, c]) (hy : (y.length == 0) = false)
    (h : ∀ D h' k t1 t2 t3, (∀ p ∈ news, p.1 < D) → Fr h₀ L h' m → News h₀ L h' ((D, listOf #[Value.str a t1, Value.str b t2, Value.str c t3] 0) :: news) → Q (.ref D) { s with heap := h', toks := k })
    (hsz : x.length + 2 ≤ sizeLine) : wpAny (model prog w) A (call (.builtin "str.split") [.str x t, .str y u]) Q E s := by
  refine splitN1 hF hN hy (fun l h' k e F N => ?_) hsz
  rw [hs] at e
  refine hideP ?_
  intro G hG
  obtain ⟨t1, l1, rfl, eq1⟩ := cons_fst e
  obtain ⟨t2, l2, rfl, eq2⟩ := cons_fst eq1
  obtain ⟨t3, l3, rfl, eq3⟩ := cons_fst eq2
  obtain rfl := nil_fst eq3
  exact hG (h _ h' k t1 t2 t3 (fun p hp => Heap.lt_size (hN p hp).1) F N)
def dots : Str := Str.ofString "..."
theorem six (c : Nat) (h : 97 ≤ c) (h2 : c ≤ 102) : c = 97 ∨ c = 98 ∨ c = 99 ∨ c = 100 ∨ c = 101 ∨ c = 102 := by omega
theorem dots_split (c : Nat) (h : 97 ≤ c) (h2 : c ≤ 102) : Txt.split (Str.ofString "..." ++ ⟨#[c]⟩ ++ Str.ofString "...") (Str.ofString "...") = [⟨#[]⟩, ⟨#[c]⟩, ⟨#[]⟩] := by
  rcases six c h h2 with rfl | rfl | rfl | rfl | rfl | rfl <;> decide +kernel
theorem dots_in (c : Nat) (h : 97 ≤ c) (h2 : c ≤ 102) : (Builtin.Str.occurrences (Str.ofString "..." ++ ⟨#[c]⟩ ++ Str.ofString "...") (Str.ofString "...") 0 (Str.ofString "..." ++ ⟨#[c]⟩ ++ Str.ofString "...").length 1).isEmpty = false := by
  rcases six c h h2 with rfl | rfl | rfl | rfl | rfl | rfl <;> decide +kernel
theorem dots_len (c : Nat) : (Str.ofString "..." ++ ⟨#[c]⟩ ++ Str.ofString "..." : Str).length = 7 := rfl
theorem ell_ends (x : Str) (c : Nat) : Txt.find3 x ⟨#[]⟩ 0 = 0 ∧ (¬ Txt.find3 x ⟨#[c]⟩ 0 < 0 → Txt.find3 x ⟨#[]⟩ (Txt.find3 x ⟨#[c]⟩ 0 + 1) = Txt.find3 x ⟨#[c]⟩ 0 + 1) ∧ (x.cps.contains c = !decide (Txt.find3 x ⟨#[c]⟩ 0 < 0)) := by
  refine ⟨find3_empty x 0 (by omega) (by omega), fun h => ?_, ?_⟩
  · rcases find3_one x c with ⟨a, _⟩ | ⟨a, b, _⟩
    · exact absurd a h
    · exact find3_empty x _ (by omega) (by omega)
  · rcases find3_one x c with ⟨a, b⟩ | ⟨a, _, b⟩
    · rw [b]; simp [a]
    · rw [b]; simp; omega
section
variable {x : Str} {c : Nat} {P : Prop}
end

end
-- part Base4
section
@[irreducible] def pbOf (vs : List Value) (n : Nat) : Obj := listOf vs.toArray n
theorem pbOf_eq (vs : List Value) (n : Nat) : pbOf vs n = listOf vs.toArray n := by unfold pbOf; rfl
structure MachE where
  h1 : Int
  t1 : Tok
  ln : Value
  h2 : Int
  t2 : Tok
  st : Value
  h3 : Int
  t3 : Tok
  ws : Value
  h4 : Int
  t4 : Tok
@[irreducible] def machD (e : MachE) (ap : Addr) (k : Nat) : Obj := dictOf [⟨e.h1, .str (Str.ofString "lineno") e.t1, e.ln⟩, ⟨e.h2, .str (Str.ofString "instream") e.t2, e.st⟩, ⟨e.h3, .str (Str.ofString "whitespace") e.t3, e.ws⟩, ⟨e.h4, .str (Str.ofString "pushback") e.t4, .ref ap⟩] k
theorem machD_eq (e : MachE) (ap : Addr) (k : Nat) : machD e ap k = dictOf [⟨e.h1, .str (Str.ofString "lineno") e.t1, e.ln⟩, ⟨e.h2, .str (Str.ofString "instream") e.t2, e.st⟩, ⟨e.h3, .str (Str.ofString "whitespace") e.t3, e.ws⟩, ⟨e.h4, .str (Str.ofString "pushback") e.t4, .ref ap⟩] k := by unfold machD; rfl
def Mach (news : List (Addr × Obj)) (am ap : Addr) : Prop := ∃ dx e k, (am, instObj 90 dx) ∈ news ∧ (dx, machD e ap k) ∈ news
theorem Mach.mono {l l' : List (Addr × Obj)} {am ap : Addr} (h : Mach l am ap) (hs : ∀ p ∈ l, p ∈ l') : Mach l' am ap := by
  obtain ⟨dx, e, k, a, b⟩ := h
  exact ⟨dx, e, k, hs _ a, hs _ b⟩
theorem News.pick {h₀ h : Heap} {L : Addr} {l l' : List (Addr × Obj)} {q : Addr × Obj} (N : News h₀ L h l) (pk : Pick q l l') : News h₀ L h (q :: l') := fun p hp => N p (pk.sub p hp)
theorem seqIndex_zero (n : Nat) : seqIndex? 0 (n + 1) = some 0 := by
  unfold seqIndex?
  have h : (0 : Int) < ((n + 1 : Nat) : Int) := by omega
  simp [h]
def topA : List (Addr × Obj) → Nat
  | [] => 0
  | p :: r => max (Nat.succ p.1) (topA r)
theorem allLt_top (d : Nat) : ∀ l : List (Addr × Obj), AllLt d l = (@LE.le Nat _ (topA l) d)
  | [] => by simp [AllLt, topA]
  | p :: r => by
    unfold AllLt topA
    rw [allLt_top d r]
    refine propext ⟨fun h => ?_, fun h => ?_⟩
    · have h1 : @LT.lt Nat _ p.1 d := h.1
      have h2 := h.2
      omega
    · have h1 : @LE.le Nat _ (max (Nat.succ p.1) (topA r)) d := h
      exact ⟨by omega, by omega⟩
theorem ne_of_top {d : Nat} {l : List (Addr × Obj)} (h : @LE.le Nat _ (topA l) d) : ∀ p ∈ l, p.1 ≠ d := AllLt.ne (by rw [allLt_top]; exact h)
theorem lt_of_top {d : Nat} {l : List (Addr × Obj)} (h : @LE.le Nat _ (topA l) d) : ∀ p ∈ l, p.1 < d := by
  intro p hp
  have : AllLt d l := by rw [allLt_top]; exact h
  clear h
  induction l with
  | nil => cases hp
  | cons q r ih =>
    rcases List.mem_cons.mp hp with rfl | hp
    · exact this.1
    · exact ih hp this.2
section
variable {prog : Program} {w : World} {h₀ : Heap} {L : Addr} {m : Str → Option Value} {news : List (Addr × Obj)} {A : Around} {s : Shared} {Q : Value → Shared → Prop} {E : Value → Shared → Prop} {D : Addr} {its : Array Value} {n : Nat} {news' : List (Addr × Obj)}
theorem popU {i : Int} {u : Tok} {k : Nat} {p q : List Value} {y : Value} (F : Fr h₀ L s.heap m) (N : News h₀ L s.heap news) (U : Upd D (listOf its n) (listOf (p ++ q).toArray (n + 1)) news news')
    (hf : Builtin.List.listFitsIndex i = true) (hk : seqIndex? i its.size = some k) (e : kl_cut its.toList k = some (p, y, q)) (hz : its.toList.length ≤ sizeLine)
    (h : ∀ h', Fr h₀ L h' m → News h₀ L h' news' → Q y { s with heap := h' }) : wpAny (model prog w) A (call (.builtin "list.pop") [.ref D, .int i u]) Q E s := kl_popAt F N hf hk e U hz h
end

end
-- part Base5
section
def DTab (a b : Nat) (dq : Str) (P : Addr) (ps : Array Value) (q : Addr × Obj) : Prop :=
  (ps = #[] ∧ q = (P, tabObj #[])) ∨ (∃ c' oc vs t, ps = #[rawInt a, rawInt b, .ref c'] ∧ q = (c', oc) ∧ oc.data = .fields vs ∧ vs[1]? = some (.str dq t))
section
variable {M : Model} {A : Around} {E : Value → Shared → Prop} {s : Shared} {h₀ : Heap} {L a c P : Addr} {m mg mb : Str → Option Value} {cn : Str} {cs : Scope} {ccd : Value} {cl : List (Str × Addr)} {own rest : List (Addr × Obj)}
  {p : Program} {loose : List Str} {mean : ExcName → Option Value} {name qual : Str} {params : Arguments} {body : List Stmt} {scope : Scope} {ps : Array Value} {pos : Pos} {firstLine : Nat} {clos : List (Str × Addr)} {q : Addr × Obj}
theorem updF_mid {P : Addr} {o : Obj} : ∀ (own rest : List (Addr × Obj)), (∀ p ∈ own, p.1 ≠ P) → (∀ p ∈ rest, p.1 ≠ P) → UpdF P o (own ++ (P, o) :: rest) (fun o' => own ++ (P, o') :: rest)
  | [], rest, _, h => UpdF.head h
  | x :: r, rest, h1, h => UpdF.tail (h1 x (.head _)) (updF_mid r rest (fun p hp => h1 p (.tail _ hp)) h)
theorem nest_both {Q : Value → Shared → Prop} (F : Fr h₀ L s.heap m) (N : News h₀ L s.heap (own ++ (P, tabObj ps) :: q :: rest)) (T : Top p loose mean mg mb h₀) (C : CodeHd h₀ c P) (hcd : ccd = .ref c)
    (hD : DTab pos.line pos.col qual P ps q) (ho : ∀ p ∈ own, p.1 ≠ P) (hr : ∀ p ∈ rest, p.1 ≠ P) (hoq : ∀ p ∈ own, p.1 ≠ q.1)
    (hcl : closureFor scope (envX cn cs L a ccd cl) = pure clos)
    (h : ∀ f c' oc vs t ctv doc h' tk, Fr h₀ L h' m →
      News h₀ L h' ((f, fnMade name qual params body scope clos doc ((mg "__name__").getD .none) c' ctv) :: (own ++ (P, tabObj #[rawInt pos.line, rawInt pos.col, .ref c']) :: (c', oc) :: rest)) →
      oc.data = .fields vs → vs[1]? = some (.str qual t) → (∀ p ∈ own, p.1 ≠ c') → (∀ p ∈ own ++ (P, tabObj ps) :: rest, p.1 < f) → c' < f → ((c', oc) = q ∨ ∀ p ∈ rest, p.1 < c') → Q (.ref f) { s with heap := h', toks := tk }) :
    wpAny M A (makeFunction name qual params (.stmts body) scope (envX cn cs L a ccd cl) [] [] [] pos firstLine) Q E s := by
  rcases hD with ⟨rfl, rfl⟩ | ⟨c', oc, vs, t, rfl, rfl, hd, hv⟩
  · have N' : News h₀ L s.heap (own ++ (P, tabObj #[]) :: rest) := fun p hp => N p (by
      rcases List.mem_append.mp hp with hp | hp
      · exact List.mem_append_left _ hp
      · rcases List.mem_cons.mp hp with rfl | hp
        · exact List.mem_append_right _ (.head _)
        · exact List.mem_append_right _ (.tail _ (.tail _ hp)))
    refine nest_K F N' T C hcd (updF_mid own rest ho hr) (by exact True.intro) rfl hcl ?_
    intro f c' oc vs t ctv doc h' tk F' N'' hd hv hlt hcf
    refine h f c' oc vs t ctv doc h' tk F' (fun p hp => N'' p ?_) hd hv (fun p hp => Nat.ne_of_lt (hlt p (List.mem_append_left _ hp))) (fun p hp => Nat.lt_trans (hlt p hp) hcf) hcf (.inr fun p hp => hlt p (List.mem_append_right _ (.tail _ hp)))
    rcases List.mem_cons.mp hp with rfl | hp
    · exact .head _
    · rcases List.mem_append.mp hp with hp | hp
      · exact .tail _ (.tail _ (List.mem_append_left _ hp))
      · rcases List.mem_cons.mp hp with rfl | hp
        · exact .tail _ (.tail _ (List.mem_append_right _ (.head _)))
        · rcases List.mem_cons.mp hp with rfl | hp
          · exact .tail _ (.head _)
          · exact .tail _ (.tail _ (List.mem_append_right _ (.tail _ hp)))
  · refine nestHit_K (c' := c') F N T C hcd (List.mem_append_right _ (.head _)) (by simp [TriplesOk, rawInt]) (by simp [codeAmong, rawInt]) hcl ?_
    intro f ctv doc h' tk F' N'' hlt
    refine h f c' oc vs t ctv doc h' tk F' N'' hd hv hoq (fun p hp => hlt p ?_) (hlt _ (List.mem_append_right _ (.tail _ (.head _)))) (.inl rfl)
    rcases List.mem_append.mp hp with hp | hp
    · exact List.mem_append_left _ hp
    · rcases List.mem_cons.mp hp with rfl | hp
      · exact List.mem_append_right _ (.head _)
      · exact List.mem_append_right _ (.tail _ (.tail _ hp))
end

end
-- part Base6
section
section
variable {prog : Program} {w : World} {A : Around} {E : Value → Shared → Prop} {s : Shared} {env : Env} {h₀ : Heap} {x : Str} {body : List Stmt} {Q : Flow → Shared → Prop}
theorem unrEnd_mono {h₀ : Heap} {L I : Addr} {it : Obj} {rest rest' : (Str → Option Value) → List (Addr × Obj) → Prop} {s₁ s₂ : Shared} (h : ∀ m n, rest m n → rest' m n) (u : UnrEnd h₀ L s₁ I it rest s₂) : UnrEnd h₀ L s₁ I it rest' s₂ := by
  obtain ⟨h', tk, m', n', e, F, N, o, r⟩ := u
  exact ⟨h', tk, m', n', e, F, N, o, h _ _ r⟩
theorem unrPost_mono {h₀ : Heap} {L I : Addr} {it : Obj} {rest rest' : (Str → Option Value) → List (Addr × Obj) → Prop} {s₁ s₂ : Shared} {f : Flow} (h : ∀ m n, rest m n → rest' m n) (u : UnrPost h₀ L s₁ I it rest Q f s₂) : UnrPost h₀ L s₁ I it rest' Q f s₂ := by
  cases f with
  | ret v => exact u
  | brk => exact u
  | next => exact unrEnd_mono h u
  | cont => exact unrEnd_mono h u
theorem listRest_inv {I : Addr} {lp : Addr × Obj} {vs : List Value} {m₀ : Str → Option Value} {news₀ : List (Addr × Obj)} (J : Nat → (Str → Option Value) → List (Addr × Obj) → Prop)
    (start : J 0 m₀ news₀)
    (turn : ∀ i v m news it h tk, vs[i]? = some v → J i m news → it.cls = .type "list_iterator" → Fr h₀ env.locals h (fun y => if y = x then some v else m y) → News h₀ env.locals h ((I, it) :: news) →
      wpAny (model prog w) A (execs body env) (UnrPost h₀ env.locals { s with heap := h, toks := tk } I it (fun m' n' => lp ∈ n' ∧ J (i + 1) m' n') Q) E { s with heap := h, toks := tk })
    (done : ∀ m news h tk, J vs.length m news → Fr h₀ env.locals h m → News h₀ env.locals h news → Q .next { s with heap := h, toks := tk }) :
    ListRest prog w A E h₀ env x body Q s I lp vs m₀ news₀ := by
  have key : ∀ (r : List Value) (i : Nat) m news, vs.drop i = r → i ≤ vs.length → J i m news → ListRest prog w A E h₀ env x body Q s I lp r m news := by
    intro r
    induction r with
    | nil =>
      intro i m news e hi hJ
      have : i = vs.length := by have := List.drop_eq_nil_iff.mp e; omega
      subst this
      exact fun h tk F N => done m news h tk hJ F N
    | cons v r ih =>
      intro i m news e hi hJ
      have hv : vs[i]? = some v := by
        have := congrArg List.head? e
        rwa [List.head?_drop] at this
      have hlt : i < vs.length := by
        rcases Nat.lt_or_ge i vs.length with h | h
        · exact h
        · rw [List.getElem?_eq_none h] at hv; cases hv
      have hr : vs.drop (i + 1) = r := by
        have := congrArg List.tail e
        simpa using this
      refine ListRest.succ fun it h tk hit F N => ?_
      refine wpAny_mono (turn i v m news it h tk hv hJ hit F N) (fun f s₂ u => unrPost_mono ?_ u) fun _ _ e => e
      rintro m' n' ⟨hl, hJ'⟩
      exact ⟨hl, ih (i + 1) m' n' hr hlt hJ'⟩
  exact key vs 0 m₀ news₀ (by simp) (Nat.zero_le _) start
theorem rangeRest_inv {I : Addr} {a : Int} {n : Nat} {m₀ : Str → Option Value} {news₀ : List (Addr × Obj)} (J : Nat → (Str → Option Value) → List (Addr × Obj) → Prop)
    (start : J 0 m₀ news₀)
    (turn : ∀ i t m news h tk, i < n → J i m news → Fr h₀ env.locals h (fun y => if y = x then some (.int (a + (i : Int)) t) else m y) →
      News h₀ env.locals h ((I, itR (a + ((i + 1 : Nat) : Int)) ((n : Int) - ((i + 1 : Nat) : Int))) :: news) →
      wpAny (model prog w) A (execs body env) (UnrPost h₀ env.locals { s with heap := h, toks := tk } I (itR (a + ((i + 1 : Nat) : Int)) ((n : Int) - ((i + 1 : Nat) : Int))) (J (i + 1)) Q) E { s with heap := h, toks := tk })
    (done : ∀ m news h tk, J n m news → Fr h₀ env.locals h m → News h₀ env.locals h news → Q .next { s with heap := h, toks := tk }) :
    RangeRest prog w A E h₀ env x body Q s I a n n 0 m₀ news₀ := by
  have key : ∀ (k i : Nat) m news, i + k = n → J i m news → RangeRest prog w A E h₀ env x body Q s I a n k i m news := by
    intro k
    induction k with
    | zero =>
      intro i m news e hJ
      have : i = n := by omega
      subst this
      exact fun h tk F N => done m news h tk hJ F N
    | succ k ih =>
      intro i m news e hJ
      refine RangeRest.succ fun t h tk F N => ?_
      refine wpAny_mono (turn i t m news h tk (by omega) hJ F N) (fun f s₂ u => unrPost_mono ?_ u) fun _ _ e => e
      exact fun m' n' hJ' => ih (i + 1) m' n' (by omega) hJ'
  exact key n 0 m₀ news₀ (by omega) start
end
section
variable {prog : Program} {w : World} {A : Around} {E : Value → Shared → Prop} {s : Shared} {env : Env} {h₀ : Heap} {x : Str} {body : List Stmt} {Q : Flow → Shared → Prop}
theorem ite_self' {x : Str} {m₀ : Str → Option Value} : (fun y => if y = x then m₀ x else m₀ y) = m₀ := by
  funext y
  by_cases h : y = x
  · subst h; simp
  · simp [h]
theorem ite_twice {x : Str} {u v : Option Value} {m₀ : Str → Option Value} : (fun y => if y = x then u else (fun y => if y = x then v else m₀ y) y) = fun y => if y = x then u else m₀ y := by
  funext y
  by_cases h : y = x <;> simp [h]
theorem listRest_inv1 {I : Addr} {lp : Addr × Obj} {vs : List Value} {m₀ : Str → Option Value} {news₀ : List (Addr × Obj)} (R : Nat → List (Addr × Obj) → Prop)
    (start : R 0 news₀)
    (turn : ∀ i v news it h tk, vs[i]? = some v → R i news → it.cls = .type "list_iterator" → Fr h₀ env.locals h (fun y => if y = x then some v else m₀ y) → News h₀ env.locals h ((I, it) :: news) →
      wpAny (model prog w) A (execs body env) (UnrPost h₀ env.locals { s with heap := h, toks := tk } I it (fun m' n' => lp ∈ n' ∧ (∃ u, m' = fun y => if y = x then u else m₀ y) ∧ R (i + 1) n') Q) E { s with heap := h, toks := tk })
    (done : ∀ u news h tk, R vs.length news → Fr h₀ env.locals h (fun y => if y = x then u else m₀ y) → News h₀ env.locals h news → Q .next { s with heap := h, toks := tk }) :
    ListRest prog w A E h₀ env x body Q s I lp vs m₀ news₀ := by
  refine listRest_inv (fun i m news => (∃ u, m = fun y => if y = x then u else m₀ y) ∧ R i news) ⟨⟨m₀ x, ite_self'.symm⟩, start⟩ ?_ ?_
  · rintro i v m news it h tk hv ⟨⟨u, rfl⟩, hR⟩ hit F N
    rw [ite_twice] at F
    exact turn i v news it h tk hv hR hit F N
  · rintro m news h tk ⟨⟨u, rfl⟩, hR⟩ F N
    exact done u news h tk hR F N
theorem rangeRest_inv1 {I : Addr} {a : Int} {n : Nat} {m₀ : Str → Option Value} {news₀ : List (Addr × Obj)} {y : Str} (R : Nat → List (Addr × Obj) → Prop) (hxy : x ≠ y)
    (start : R 0 news₀)
    (turn : ∀ i t v news h tk, i < n → R i news → Fr h₀ env.locals h (fun z => if z = x then some (.int (a + (i : Int)) t) else if z = y then v else m₀ z) →
      News h₀ env.locals h ((I, itR (a + ((i + 1 : Nat) : Int)) ((n : Int) - ((i + 1 : Nat) : Int))) :: news) →
      wpAny (model prog w) A (execs body env) (UnrPost h₀ env.locals { s with heap := h, toks := tk } I (itR (a + ((i + 1 : Nat) : Int)) ((n : Int) - ((i + 1 : Nat) : Int))) (fun m' n' => (∃ u v, m' = fun z => if z = x then u else if z = y then v else m₀ z) ∧ R (i + 1) n') Q) E { s with heap := h, toks := tk })
    (done : ∀ u v news h tk, R n news → Fr h₀ env.locals h (fun z => if z = x then u else if z = y then v else m₀ z) → News h₀ env.locals h news → Q .next { s with heap := h, toks := tk }) :
    RangeRest prog w A E h₀ env x body Q s I a n n 0 m₀ news₀ := by
  refine rangeRest_inv (fun i m news => (∃ u v, m = fun z => if z = x then u else if z = y then v else m₀ z) ∧ R i news) ⟨⟨m₀ x, m₀ y, ?_⟩, start⟩ ?_ ?_
  · funext z
    by_cases h : z = x
    · subst h; simp
    · by_cases h2 : z = y
      · subst h2; simp [h]
      · simp [h, h2]
  · rintro i t m news h tk hi ⟨⟨u, v, rfl⟩, hR⟩ F N
    have e : (fun z => if z = x then some (Value.int (a + (i : Int)) t) else (fun z => if z = x then u else if z = y then v else m₀ z) z) = fun z => if z = x then some (Value.int (a + (i : Int)) t) else if z = y then v else m₀ z := by
      funext z
      by_cases h : z = x <;> simp [h]
    rw [e] at F
    exact turn i t v news h tk hi hR F N
  · rintro m news h tk ⟨⟨u, v, rfl⟩, hR⟩ F N
    exact done u v news h tk hR F N
end

end
-- part Base7
section
structure Halt (P : Prop) : Prop where
  h : P
theorem halt {P : Prop} (h : Halt P) : P := h.h
theorem ne_cons {a : Addr × Obj} {l : List (Addr × Obj)} {d : Addr} (h : @Ne Nat a.1 d) (h2 : ∀ p ∈ l, p.1 ≠ d) : ∀ p ∈ a :: l, p.1 ≠ d := fun p hp => by
  rcases List.mem_cons.mp hp with rfl | hp
  · exact h
  · exact h2 p hp
theorem fr_like {h₀ : Heap} {L : Addr} {h h' : Heap} {m m' : Str → Option Value} (_ : Fr h₀ L h m) (F : Fr h₀ L h' m') : Fr h₀ L h' m' := F
theorem news_like {h₀ : Heap} {L : Addr} {h h' : Heap} {m : Str → Option Value} {n : List (Addr × Obj)} (_ : Fr h₀ L h m) (F : News h₀ L h' n) : News h₀ L h' n := F
theorem sub_cons {a : Addr × Obj} {l l' : List (Addr × Obj)} (h : ∀ p ∈ l, p ∈ l') : ∀ p ∈ a :: l, p ∈ a :: l' := fun p hp => by
  rcases List.mem_cons.mp hp with rfl | hp
  · exact .head _
  · exact .tail _ (h p hp)
theorem sub_swap {a b : Addr × Obj} {l l' : List (Addr × Obj)} (h : ∀ p ∈ l, p ∈ l') : ∀ p ∈ a :: b :: l, p ∈ b :: a :: l' := fun p hp => by
  rcases List.mem_cons.mp hp with rfl | hp
  · exact .tail _ (.head _)
  · rcases List.mem_cons.mp hp with rfl | hp
    · exact .head _
    · exact .tail _ (.tail _ (h p hp))
theorem sub_rfl {l : List (Addr × Obj)} : ∀ p ∈ l, p ∈ l := fun _ h => h
theorem news_pick2 {h₀ h : Heap} {L : Addr} {l l1 l2 : List (Addr × Obj)} {a b : Addr × Obj} (N : News h₀ L h l) (p1 : Pick a l l1) (p2 : Pick b l1 l2) : News h₀ L h (a :: b :: l2) := fun p hp => N p (by
  rcases List.mem_cons.mp hp with rfl | hp
  · exact p1.sub _ (.head _)
  · exact p1.sub _ (.tail _ (p2.sub _ hp)))
def Two (x y : Str) (m₀ m' : Str → Option Value) : Prop := ∃ u v, m' = fun z => if z = x then u else if z = y then v else m₀ z
theorem Two.of {x y : Str} {m₀ m' : Str → Option Value} (h : ∀ z, z ≠ x → z ≠ y → m' z = m₀ z) : Two x y m₀ m' := by
  refine ⟨m' x, m' y, funext fun z => ?_⟩
  by_cases h1 : z = x
  · subst h1; simp
  · by_cases h2 : z = y
    · subst h2; simp [h1]
    · simp [h1, h2, h z h1 h2]
section
variable {prog : Program} {w : World} {A : Around} {E : Value → Shared → Prop} {s : Shared} {env : Env} {h₀ : Heap} {x : Str} {body : List Stmt} {Q : Flow → Shared → Prop}
theorem rangeRest_inv2 {I : Addr} {a : Int} {n : Nat} {m₀ : Str → Option Value} {news₀ : List (Addr × Obj)} {y : Str} (R : Nat → List (Addr × Obj) → Prop) (hxy : x ≠ y)
    (start : R 0 news₀)
    (turn : ∀ i t v news h tk, i < n → R i news → Fr h₀ env.locals h (fun z => if z = x then some (.int (a + (i : Int)) t) else if z = y then v else m₀ z) →
      News h₀ env.locals h ((I, itR (a + ((i + 1 : Nat) : Int)) ((n : Int) - ((i + 1 : Nat) : Int))) :: news) →
      wpAny (model prog w) A (execs body env) (UnrPost h₀ env.locals { s with heap := h, toks := tk } I (itR (a + ((i + 1 : Nat) : Int)) ((n : Int) - ((i + 1 : Nat) : Int))) (fun m' n' => Two x y m₀ m' ∧ R (i + 1) n') Q) E { s with heap := h, toks := tk })
    (done : ∀ u v news h tk, R n news → Fr h₀ env.locals h (fun z => if z = x then u else if z = y then v else m₀ z) → News h₀ env.locals h news → Q .next { s with heap := h, toks := tk }) :
    RangeRest prog w A E h₀ env x body Q s I a n n 0 m₀ news₀ :=
  rangeRest_inv1 R hxy start turn done
def One (x : Str) (m₀ m' : Str → Option Value) : Prop := ∃ u, m' = fun z => if z = x then u else m₀ z
theorem One.of {x : Str} {m₀ m' : Str → Option Value} (h : ∀ z, z ≠ x → m' z = m₀ z) : One x m₀ m' := by
  refine ⟨m' x, funext fun z => ?_⟩
  by_cases h1 : z = x
  · subst h1; simp
  · simp [h1, h z h1]
theorem listRest_inv2 {I : Addr} {lp : Addr × Obj} {vs : List Value} {m₀ : Str → Option Value} {news₀ : List (Addr × Obj)} (R : Nat → List (Addr × Obj) → Prop)
    (start : R 0 news₀)
    (turn : ∀ i v news it h tk, vs[i]? = some v → R i news → it.cls = .type "list_iterator" → Fr h₀ env.locals h (fun y => if y = x then some v else m₀ y) → News h₀ env.locals h ((I, it) :: news) →
      wpAny (model prog w) A (execs body env) (UnrPost h₀ env.locals { s with heap := h, toks := tk } I it (fun m' n' => lp ∈ n' ∧ One x m₀ m' ∧ R (i + 1) n') Q) E { s with heap := h, toks := tk })
    (done : ∀ u news h tk, R vs.length news → Fr h₀ env.locals h (fun y => if y = x then u else m₀ y) → News h₀ env.locals h news → Q .next { s with heap := h, toks := tk }) :
    ListRest prog w A E h₀ env x body Q s I lp vs m₀ news₀ := listRest_inv1 R start turn done
inductive Acc (x y : Str) (m₀ : Str → Option Value) (R : Nat → Int → Prop) (i : Nat) (m' : Str → Option Value) : Prop
  | mk (p : Int) (t : Tok) (h : ∀ z, z ≠ x → z ≠ y → m' z = m₀ z) (hy : m' y = some (.int p t)) (hR : R i p)
theorem listRest_acc {I : Addr} {lp : Addr × Obj} {vs : List Value} {m₀ : Str → Option Value} {news₀ : List (Addr × Obj)} {y : Str} (R : Nat → Int → Prop) (hxy : x ≠ y) (p₀ : Int) (t₀ : Tok) (h0 : m₀ y = some (.int p₀ t₀)) (start : R 0 p₀)
    (turn : ∀ i v p t it h tk, vs[i]? = some v → R i p → it.cls = .type "list_iterator" → Fr h₀ env.locals h (fun z => if z = x then some v else if z = y then some (.int p t) else m₀ z) → News h₀ env.locals h ((I, it) :: news₀) →
      wpAny (model prog w) A (execs body env) (UnrPost h₀ env.locals { s with heap := h, toks := tk } I it (fun m' n' => lp ∈ n' ∧ n' = news₀ ∧ Acc x y m₀ R (i + 1) m') Q) E { s with heap := h, toks := tk })
    (done : ∀ u p t h tk, R vs.length p → Fr h₀ env.locals h (fun z => if z = x then u else if z = y then some (.int p t) else m₀ z) → News h₀ env.locals h news₀ → Q .next { s with heap := h, toks := tk }) :
    ListRest prog w A E h₀ env x body Q s I lp vs m₀ news₀ := by
  have key : ∀ {v : Option Value} {p : Int} {t : Tok} {m : Str → Option Value}, (∀ z, z ≠ x → z ≠ y → m z = m₀ z) → m y = some (.int p t) → (fun z => if z = x then v else m z) = fun z => if z = x then v else if z = y then some (.int p t) else m₀ z := fun h1 h2 => by
    funext z
    by_cases e1 : z = x
    · rw [if_pos e1, if_pos e1]
    · rw [if_neg e1, if_neg e1]
      by_cases e2 : z = y
      · rw [if_pos e2, e2, h2]
      · rw [if_neg e2, h1 z e1 e2]
  refine listRest_inv (fun i m news => news = news₀ ∧ Acc x y m₀ R i m) ⟨rfl, p₀, t₀, fun _ _ _ => rfl, h0, start⟩ ?_ ?_
  · rintro i v m news it h tk hv ⟨rfl, p, t, h1, h2, hR⟩ hit F N
    rw [key h1 h2] at F
    exact turn i v p t it h tk hv hR hit F N
  · rintro m news h tk ⟨rfl, p, t, h1, h2, hR⟩ F N
    have e : m = fun z => if z = x then m x else if z = y then some (.int p t) else m₀ z := by
      rw [← key h1 h2]; exact ite_self'.symm
    rw [e] at F
    exact done _ p t h tk hR F N
end

end
-- part Base8
section
open PyProof.Rows.LCg (NsObj lst Off3 Off1 CompEnd CompRest FinE FinA SrcAt)
open PyProof.Rows.LCt (CompRestT)
inductive Src (prog : Program) (w : World) (A : Around) (h₀ : Heap) (L : Addr) (xv : Value) (s₁ : Shared) (n : Nat) (P : Nat → Value → Prop) (S : List (Addr × Obj) → Prop) (news : List (Addr × Obj)) : Prop
  | mk (I : Addr) (fp : List Addr) (St : Nat → Heap → Prop) (c1 : Walks prog w A I fp [I] n P St) (c2 : n ≤ sizeLine) (c3 : ∀ i h, St i h → ∃ o, h.get? I = some o) (c4 : (∀ i h h' o nw, St i h → h.get? I = some o → h'.get? I = some o → (∀ b o, h₀.get? b = some o → h'.get? b = some o) → News h₀ L h' nw → S nw → St i h')) (c5 : L ≠ I) (c6 : h₀.get? I = none) (c7 : ∀ p ∈ news, p.1 ≠ I) (c8 : S news) (c9 : ∀ (Q' E' : Value → Shared → Prop), (∀ h', (∀ b o, s₁.heap.get? b = some o → h'.get? b = some o) → St 0 h' → (∀ b ∈ fp, b < h'.objs.size) → Q' (.ref I) { s₁ with heap := h' }) → wpAny (model prog w) A (pyIter xv) Q' E' s₁)
section
variable {prog : Program} {w : World} {A : Around} {h₀ : Heap} {L : Addr} {m : Str → Option Value} {s₁ : Shared} {news : List (Addr × Obj)}
theorem Src.list {ax : Addr} {its : Array Value} (hh : A.handled = none) (F : Fr h₀ L s₁.heap m) (N : News h₀ L s₁.heap news) (S : SrcAt h₀ ax its news) (hsz : its.size ≤ sizeLine) :
    Src prog w A h₀ L (.ref ax) s₁ its.size (fun i v => its[i]? = some v) (SrcAt h₀ ax its) news := by
  have hl := S.list F.keep N
  have hlt : ax < s₁.heap.objs.size := by obtain ⟨_, e, _⟩ := hl; exact Heap.lt_size e
  refine ⟨s₁.heap.objs.size, [s₁.heap.objs.size, ax], _, Walks.list hh s₁.heap.objs.size ax (Nat.ne_of_lt hlt) its, hsz, fun i h st => ?_, LCg.list_st, Nat.ne_of_lt F.ns.lt, next_is_new F, fun p hp => Nat.ne_of_lt (Heap.lt_size (N p hp).1), S, fun Q' E' hq => ?_⟩
  · obtain ⟨o, e, _⟩ := st.1; exact ⟨o, e⟩
  · refine wpAny_pyIter_list hl (hq _ (fun b o e => Heap.get?_push_of_some _ e) ⟨⟨_, Heap.get?_push_size _ rfl, rfl, rfl⟩, hl.push _⟩ fun b hb => ?_)
    rw [Heap.size_push]
    rcases List.mem_cons.mp hb with rfl | hb
    · exact Nat.lt_succ_self _
    · rw [List.mem_singleton.mp hb]; exact Nat.lt_succ_of_lt hlt
theorem Src.range {r : Addr} {a b c : Int} {t u v : Tok} {n : Nat} (hh : A.handled = none) (F : Fr h₀ L s₁.heap m) (N : News h₀ L s₁.heap news) (hr : IsRange s₁.heap r a b c t u v) (hsm : Builtin.Range.small a b c = true) (hn : Builtin.Range.rangeSize a b c = ((n : Nat) : Int)) (hsz : n ≤ sizeLine) :
    Src prog w A h₀ L (.ref r) s₁ n (fun i v => ∃ t, v = .int (a + i * c) t) (fun _ => True) news := by
  refine ⟨s₁.heap.objs.size, [s₁.heap.objs.size], _, Walks.range hh s₁.heap.objs.size a c n, hsz, fun i h st => ⟨_, st⟩, ?_, Nat.ne_of_lt F.ns.lt, next_is_new F, fun p hp => Nat.ne_of_lt (Heap.lt_size (N p hp).1), trivial, fun Q' E' hq => ?_⟩
  · intro i h h' o nw st e e' _ _ _
    have st' : h.get? _ = some _ := st
    show h'.get? _ = some _
    rw [e', ← e]; exact st'
  · refine wpAny_pyIter_range hr hsm (hq _ (fun b o e => Heap.get?_push_of_some _ e) ?_ fun b hb => ?_)
    · show IsRangeIter _ _ _ _ _
      rw [hn]; simpa using Heap.get?_push_size _ rfl
    · rw [List.mem_singleton.mp hb, Heap.size_push]; exact Nat.lt_succ_self _
theorem Src.str {x : Str} {t : Tok} (hh : A.handled = none) (F : Fr h₀ L s₁.heap m) (N : News h₀ L s₁.heap news) (ha : x.cps.all (· < 128) = true) (hsz : x.cps.size ≤ sizeLine) :
    Src prog w A h₀ L (.str x t) s₁ x.cps.size (SignAt x) (fun _ => True) news := by
  refine ⟨s₁.heap.objs.size, [s₁.heap.objs.size], _, Walks.strAscii hh s₁.heap.objs.size x t, hsz, fun i h st => ?_, ?_, Nat.ne_of_lt F.ns.lt, next_is_new F, fun p hp => Nat.ne_of_lt (Heap.lt_size (N p hp).1), trivial, fun Q' E' hq => ?_⟩
  · obtain ⟨o, e, _⟩ := st; exact ⟨o, e⟩
  · intro i h h' o nw st e e' _ _ _
    obtain ⟨o', q, r⟩ := st
    rw [e] at q; cases q
    exact ⟨o, e', r⟩
  · refine wpAny_pyIter_ascii ha (hq _ (fun b o e => Heap.get?_push_of_some _ e) ⟨_, Heap.get?_push_size _ rfl, rfl, rfl⟩ fun b hb => ?_)
    rw [List.mem_singleton.mp hb, Heap.size_push]; exact Nat.lt_succ_self _
end
inductive CompT (prog : Program) (w : World) (A : Around) (h₀ : Heap) (L : Addr) (m : Str → Option Value) (env : Env) (ct elt : Expr) (x : Str) (scope : Scope) (cl : List (Str × Addr)) (Fin : Shared → List Value → List (Addr × Obj) → Prop) (xv : Value) (s₁ : Shared) : Prop
  | mk (n : _) (P : _) (S : _) (news : _) (c1 : Src prog w A h₀ L xv s₁ n P S news) (c2 : Fr h₀ L s₁.heap m) (c3 : News h₀ L s₁.heap news) (c4 : ∀ g, CompRestT prog w A h₀ L m env ct elt x scope cl { s₁ with heap := g } S P (Fin { s₁ with heap := g }) n 0 [] news)
inductive CompU (prog : Program) (w : World) (A : Around) (h₀ : Heap) (L : Addr) (m : Str → Option Value) (env : Env) (elt : Expr) (x : Str) (scope : Scope) (cl : List (Str × Addr)) (Fin : Shared → List Value → List (Addr × Obj) → Prop) (xv : Value) (s₁ : Shared) : Prop
  | mk (n : _) (P : _) (S : _) (news : _) (c1 : Src prog w A h₀ L xv s₁ n P S news) (c2 : Fr h₀ L s₁.heap m) (c3 : News h₀ L s₁.heap news) (c4 : ∀ g, CompRest prog w A h₀ L m env elt x scope cl { s₁ with heap := g } S P (Fin { s₁ with heap := g }) n 0 [] news)
section
variable {prog : Program} {w : World} {A : Around} {E : Value → Shared → Prop} {s : Shared} {h₀ : Heap} {L : Addr} {m : Str → Option Value} {env : Env}
theorem evalT {ct elt iter : Expr} {x : Str} {px : Pos} {scope : Scope} {cl : List (Str × Addr)} {pos : Pos} {Q : Value → Shared → Prop} (F₀ : Fr h₀ L s.heap m)
    (hclos : closureFor scope env = pure cl) (hcell : ∀ y ∈ scope.names, y.2 ≠ .cell) (hkind : scope.kind = .function)
    (hnames : ∀ y ∈ scope.names, y.2 = .local → scope.names.lookup y.1 = some .local) (hx : scope.names.lookup x = some .local)
    (h : wpAny (model prog w) A (eval iter env) (CompT prog w A h₀ L m env ct elt x scope cl (fun s₂ => FinE h₀ L m s₂ Q)) E s)
    (hs : ∀ x, foldedSetIterable iter env x = pure x := by intro _; rfl) :
    wpAny (model prog w) A (eval (.ListComp elt [⟨.Name x px, iter, [ct], 0⟩] scope pos) env) Q E s := by
  rw [eval_ListComp]
  refine wpAny_comprehension_free (use := none) rfl hs hclos hkind hnames (wpAny_mono h (fun xv s₁ h₁ => ?_) fun _ _ e => e)
  refine hideP ?_
  intro Gq hGq
  obtain ⟨n, P, S, news, ⟨I, fp, St, W, hsz, hIo, hSt, hIL, hI₀, off, hS, hit⟩, F, N, R⟩ := h₁
  refine hGq ?_
  clear hGq Gq
  refine hit _ _ fun h' up st hfp => ?_
  refine LCt.block_T W hsz hIo hSt hcell hkind hx st hfp (F.keeps up) (N.grown up) hIL hI₀ off hS (R h') ?_
  intro D C h tk m' ys news' F' N' o1 hn hC₀ hD₀ hCL hDL hCD offC fin
  refine ⟨m', hn, fun h'' hs'' => fin D h'' tk (F'.change hs'' hCL hC₀) (fun p hp => ?_) o1⟩
  refine ⟨hs''.extBut _ _ ?_ (N' p hp).1, (N' p hp).2⟩
  rcases List.mem_cons.mp hp with rfl | hp
  · exact Ne.symm hCD
  · exact offC p hp
theorem evalU {elt iter : Expr} {x : Str} {px : Pos} {scope : Scope} {cl : List (Str × Addr)} {pos : Pos} {Q : Value → Shared → Prop} (F₀ : Fr h₀ L s.heap m)
    (hclos : closureFor scope env = pure cl) (hcell : ∀ y ∈ scope.names, y.2 ≠ .cell) (hkind : scope.kind = .function)
    (hnames : ∀ y ∈ scope.names, y.2 = .local → scope.names.lookup y.1 = some .local) (hx : scope.names.lookup x = some .local)
    (h : wpAny (model prog w) A (eval iter env) (CompU prog w A h₀ L m env elt x scope cl (fun s₂ => FinE h₀ L m s₂ Q)) E s)
    (hs : ∀ x, foldedSetIterable iter env x = pure x := by intro _; rfl) :
    wpAny (model prog w) A (eval (.ListComp elt [⟨.Name x px, iter, [], 0⟩] scope pos) env) Q E s := by
  rw [eval_ListComp]
  refine wpAny_comprehension_free (use := none) rfl hs hclos hkind hnames (wpAny_mono h (fun xv s₁ h₁ => ?_) fun _ _ e => e)
  refine hideP ?_
  intro Gq hGq
  obtain ⟨n, P, S, news, ⟨I, fp, St, W, hsz, hIo, hSt, hIL, hI₀, off, hS, hit⟩, F, N, R⟩ := h₁
  refine hGq ?_
  clear hGq Gq
  refine hit _ _ fun h' up st hfp => ?_
  refine LCg.block_U W hsz hIo hSt hcell hkind hx st hfp (F.keeps up) (N.grown up) hIL hI₀ off hS (R h') ?_
  intro D C h tk m' ys news' F' N' o1 hn hC₀ hD₀ hCL hDL hCD offC fin
  refine ⟨m', hn, fun h'' hs'' => fin D h'' tk (F'.change hs'' hCL hC₀) (fun p hp => ?_) o1⟩
  refine ⟨hs''.extBut _ _ ?_ (N' p hp).1, (N' p hp).2⟩
  rcases List.mem_cons.mp hp with rfl | hp
  · exact Ne.symm hCD
  · exact offC p hp
theorem assign_fin {y : Str} {py : Pos} {Q : Flow → Shared → Prop} {D C : Addr} {h' : Heap} {tk : Nat} {m' : Str → Option Value} {ys : List Value} {news' : List (Addr × Obj)} {s₀ : Shared}
    (hy : env.kindOf y = some .local) (hp : (env.scope.kind == .class || (env.scope.kind == .module && env.locals != env.globals)) = false)
    (F' : Fr h₀ env.locals h' m) (N' : News h₀ env.locals h' ((D, lst ys) :: news')) (o1 : Off1 D news') (hn : h'.Ns C m') (hC₀ : h₀.get? C = none) (hCL : C ≠ env.locals) (hCD : C ≠ D) (offC : ∀ p ∈ news', p.1 ≠ C) (fin : FinA h₀ env.locals m s₀ y Q ys news') :
    wpAny (model prog w) A (assign (.Name y py) env (.ref D)) (fun _ s' => ∃ m'', s'.heap.Ns C m'' ∧ ∀ h'', Heap.SameBut C s'.heap h'' → Q .next { s' with heap := h'' }) E { s₀ with heap := h', toks := tk } := by
  refine wpAny_assign_Name (wpAny_storeName_local hy F'.ns (fun h₂ hn₂ hs₂ => ?_) hp)
  have hL₀ : h₀.get? env.locals = none := Heap.get?_none_of_le F'.above
  have F₂ : Fr h₀ env.locals h₂ (fun z => if z = y then some (.ref D) else m z) := ⟨hn₂, fun b o e => hs₂.extBut b o (fun q => by rw [q, hL₀] at e; cases e) (F'.keep b o e), F'.above⟩
  refine ⟨m', hn.sameBut hs₂ hCL, fun h'' hs'' => fin D h'' _ (F₂.change hs'' hCL hC₀) (fun p hp => ?_) o1⟩
  have z : h₂.get? p.1 = some p.2 := hs₂.extBut _ _ (N' p hp).2.1 (N' p hp).1
  refine ⟨hs''.extBut _ _ ?_ z, (N' p hp).2⟩
  rcases List.mem_cons.mp hp with rfl | hp
  · exact Ne.symm hCD
  · exact offC p hp
theorem assignT {ct elt iter : Expr} {x y : Str} {px py : Pos} {scope : Scope} {cl : List (Str × Addr)} {pos spos : Pos} {Q : Flow → Shared → Prop} (F₀ : Fr h₀ L s.heap m) (hLe : env.locals = L)
    (hsw : swapsWith (.ListComp elt [⟨.Name x px, iter, [ct], 0⟩] scope pos) (some (.Name y py)) spos.line env = pure true)
    (hclos : closureFor scope env = pure cl) (hcell : ∀ z ∈ scope.names, z.2 ≠ .cell) (hkind : scope.kind = .function)
    (hnames : ∀ z ∈ scope.names, z.2 = .local → scope.names.lookup z.1 = some .local) (hx : scope.names.lookup x = some .local)
    (hy : env.kindOf y = some .local) (hp : (env.scope.kind == .class || (env.scope.kind == .module && env.locals != env.globals)) = false)
    (h : wpAny (model prog w) A (eval iter env) (CompT prog w A h₀ L m env ct elt x scope cl (fun s₂ => FinA h₀ L m s₂ y Q)) E s)
    (hs : ∀ x, foldedSetIterable iter env x = pure x := by intro _; rfl) :
    wpAny (model prog w) A (exec (.Assign [.Name y py] (.ListComp elt [⟨.Name x px, iter, [ct], 0⟩] scope pos) spos) env) Q E s := by
  subst hLe
  rw [exec_Assign_Name_used _ _ _ _ hsw]
  refine wpAny_bind (wpAny_standAt (wpAny_bind ?_))
  show wpAny _ A (do let _ ← comprehension (.ListComp elt [⟨.Name x px, iter, [ct], 0⟩] scope pos) scope env _ (newList []) false (eval iter env) (some (assign (.Name y py) env))) _ _ s
  refine wpAny_bind (wpAny_mono (wpAny_comprehension_free (use := some (assign (.Name y py) env)) (Q := fun _ s' => Q .next s') rfl hs hclos hkind hnames
    (wpAny_mono h (fun xv s₁ h₁ => ?_) fun _ _ e => e)) (fun _ s' hq => wpAny_pure (wpAny_pure hq)) fun _ _ e => e)
  refine hideP ?_
  intro Gq hGq
  obtain ⟨n, P, S, news, ⟨I, fp, St, W, hsz, hIo, hSt, hIL, hI₀, off, hS, hit⟩, F, N, R⟩ := h₁
  refine hGq ?_
  clear hGq Gq
  refine hit _ _ fun h' up st hfp => ?_
  refine LCt.block_T W hsz hIo hSt hcell hkind hx st hfp (F.keeps up) (N.grown up) hIL hI₀ off hS (R h') ?_
  intro D C h tk m' ys news' F' N' o1 hn hC₀ hD₀ hCL hDL hCD offC fin
  exact assign_fin hy hp F' N' o1 hn hC₀ hCL hCD offC fin
theorem assignU {elt iter : Expr} {x y : Str} {px py : Pos} {scope : Scope} {cl : List (Str × Addr)} {pos spos : Pos} {Q : Flow → Shared → Prop} (F₀ : Fr h₀ L s.heap m) (hLe : env.locals = L)
    (hsw : swapsWith (.ListComp elt [⟨.Name x px, iter, [], 0⟩] scope pos) (some (.Name y py)) spos.line env = pure true)
    (hclos : closureFor scope env = pure cl) (hcell : ∀ z ∈ scope.names, z.2 ≠ .cell) (hkind : scope.kind = .function)
    (hnames : ∀ z ∈ scope.names, z.2 = .local → scope.names.lookup z.1 = some .local) (hx : scope.names.lookup x = some .local)
    (hy : env.kindOf y = some .local) (hp : (env.scope.kind == .class || (env.scope.kind == .module && env.locals != env.globals)) = false)
    (h : wpAny (model prog w) A (eval iter env) (CompU prog w A h₀ L m env elt x scope cl (fun s₂ => FinA h₀ L m s₂ y Q)) E s)
    (hs : ∀ x, foldedSetIterable iter env x = pure x := by intro _; rfl) :
    wpAny (model prog w) A (exec (.Assign [.Name y py] (.ListComp elt [⟨.Name x px, iter, [], 0⟩] scope pos) spos) env) Q E s := by
  subst hLe
  rw [exec_Assign_Name_used _ _ _ _ hsw]
  refine wpAny_bind (wpAny_standAt (wpAny_bind ?_))
  show wpAny _ A (do let _ ← comprehension (.ListComp elt [⟨.Name x px, iter, [], 0⟩] scope pos) scope env _ (newList []) false (eval iter env) (some (assign (.Name y py) env))) _ _ s
  refine wpAny_bind (wpAny_mono (wpAny_comprehension_free (use := some (assign (.Name y py) env)) (Q := fun _ s' => Q .next s') rfl hs hclos hkind hnames
    (wpAny_mono h (fun xv s₁ h₁ => ?_) fun _ _ e => e)) (fun _ s' hq => wpAny_pure (wpAny_pure hq)) fun _ _ e => e)
  refine hideP ?_
  intro Gq hGq
  obtain ⟨n, P, S, news, ⟨I, fp, St, W, hsz, hIo, hSt, hIL, hI₀, off, hS, hit⟩, F, N, R⟩ := h₁
  refine hGq ?_
  clear hGq Gq
  refine hit _ _ fun h' up st hfp => ?_
  refine LCg.block_U W hsz hIo hSt hcell hkind hx st hfp (F.keeps up) (N.grown up) hIL hI₀ off hS (R h') ?_
  intro D C h tk m' ys news' F' N' o1 hn hC₀ hD₀ hCL hDL hCD offC fin
  exact assign_fin hy hp F' N' o1 hn hC₀ hCL hCD offC fin
end

end
-- part Base9
section
open PyProof.Rows.LCg (NsObj lst Off3 Off1 CompEnd CompRest FinE FinA SrcAt)
open PyProof.Rows.LCt (CompRestT)
def All2 {α : Type} (rel : α → Value → Prop) : List α → List Value → Prop
  | [], [] => True
  | a :: l, v :: vs => rel a v ∧ All2 rel l vs
  | _, _ => False
theorem All2.snoc {α : Type} {rel : α → Value → Prop} {a : α} {v : Value} : ∀ {l : List α} {vs : List Value}, All2 rel l vs → rel a v → All2 rel (l ++ [a]) (vs ++ [v])
  | [], [], _, h => ⟨h, trivial⟩
  | _ :: _, _ :: _, x, h => ⟨x.1, All2.snoc x.2 h⟩
  | [], _ :: _, x, _ => x.elim
  | _ :: _, [], x, _ => x.elim
theorem All2.length {α : Type} {rel : α → Value → Prop} : ∀ {l : List α} {vs : List Value}, All2 rel l vs → vs.length = l.length
  | [], [], _ => rfl
  | _ :: _, _ :: _, x => congrArg Nat.succ (All2.length x.2)
  | [], _ :: _, x => x.elim
  | _ :: _, [], x => x.elim
theorem All2.eq {l : List Value} : ∀ {vs : List Value}, All2 (fun a v => v = a) l vs → vs = l := by
  induction l with
  | nil => intro vs h; cases vs with
    | nil => rfl
    | cons v vs => exact h.elim
  | cons a l ih => intro vs h; cases vs with
    | nil => exact h.elim
    | cons v vs => obtain ⟨rfl, h⟩ := h; rw [ih h]
def EndY {α : Type} (rel : α → Value → Prop) (f : α → Bool) (a : α) (news : List (Addr × Obj)) (y : Value) (news' : List (Addr × Obj)) : Prop := news' = news ∧ f a = true ∧ rel a y
def EndN {α : Type} (f : α → Bool) (a : α) (news : List (Addr × Obj)) (news' : List (Addr × Obj)) : Prop := news' = news ∧ f a = false
def EndM {α : Type} (rel : α → Value → Prop) (a : α) (news : List (Addr × Obj)) (y : Value) (news' : List (Addr × Obj)) : Prop := news' = news ∧ rel a y
theorem compEnd_of {h₀ : Heap} {L I C D : Addr} {m : Str → Option Value} {s₁ : Shared} {oI oC oD : Obj} {S : List (Addr × Obj) → Prop} {rest : Value → List (Addr × Obj) → Prop} {y : Value} {h' : Heap} {tk : Nat} {all news : List (Addr × Obj)}
    (F : Fr h₀ L h' m) (N : News h₀ L h' all) (off : Off3 I C D news) (sub : ∀ p ∈ (I, oI) :: (C, oC) :: (D, oD) :: news, p ∈ all) (hS : S news) (r : rest y news) :
    CompEnd h₀ L m s₁ I oI C oC D oD S rest y { s₁ with heap := h', toks := tk } := CompEnd.intro F N news sub off hS r
section
variable {prog : Program} {w : World} {A : Around} {h₀ : Heap} {L : Addr} {m : Str → Option Value} {env : Env} {s₁ : Shared} {news : List (Addr × Obj)}
theorem CompEnd.mono {I C D : Addr} {s : Shared} {oI oC oD : Obj} {S : List (Addr × Obj) → Prop} {r r' : Value → List (Addr × Obj) → Prop} {y : Value} {s₂ : Shared} (h : ∀ y n, r y n → r' y n) (e : LCg.CompEnd h₀ L m s I oI C oC D oD S r y s₂) : LCg.CompEnd h₀ L m s I oI C oC D oD S r' y s₂ := by
  refine hideP ?_
  intro Gq hGq
  obtain ⟨h', tk, nw, e1, e2, e3, e4, e5, e6⟩ := e
  refine hGq ?_
  clear hGq Gq
  exact ⟨h', tk, nw, e1, e2, e3, e4, e5, h _ _ e6⟩
theorem restT_inv {ct elt : Expr} {x : Str} {scope : Scope} {cl : List (Str × Addr)} {s : Shared} {S : List (Addr × Obj) → Prop} {P : Nat → Value → Prop} {Fin : List Value → List (Addr × Obj) → Prop} {n : Nat} (J : Nat → List Value → List (Addr × Obj) → Prop)
    (start : J 0 [] news)
    (turn : ∀ i v ys news I oI C oC D m₂ h tk (E' : Value → Shared → Prop), i < n → P i v → J i ys news → NsObj oC m₂ → m₂ x = some v → Fr h₀ L h m → News h₀ L h ((I, oI) :: (C, oC) :: (D, lst ys) :: news) → Off3 I C D news → ((@Ne Nat I C) ∧ (@Ne Nat I D) ∧ (@Ne Nat C D)) →
      wpAny (model prog w) A (isTrue ct (compEnvC scope cl C env) (eval ct (compEnvC scope cl C env))) (fun ok s' => if ok = true then
        wpAny (model prog w) A (eval elt (compEnvC scope cl C env)) (CompEnd h₀ L m { s with heap := h, toks := tk } I oI C oC D (lst ys) S (fun y news' => J (i + 1) (ys ++ [y]) news')) E' s'
        else CompEnd h₀ L m { s with heap := h, toks := tk } I oI C oC D (lst ys) S (fun _ news' => J (i + 1) ys news') Value.none s') E' { s with heap := h, toks := tk })
    (fin : ∀ ys news, J n ys news → Fin ys news) : CompRestT prog w A h₀ L m env ct elt x scope cl s S P Fin n 0 [] news := by
  have key : ∀ (k i : Nat) ys news, i + k = n → J i ys news → CompRestT prog w A h₀ L m env ct elt x scope cl s S P Fin k i ys news := by
    intro k
    induction k with
    | zero =>
      intro i ys news e hJ
      obtain rfl : i = n := by omega
      exact CompRestT.zero (fin _ _ hJ)
    | succ k ih =>
      intro i ys news e hJ
      refine CompRestT.succ fun v I oI C oC D m₂ h tk E' hP hC hx F N off ne => ?_
      refine wpAny_mono (turn i v ys news I oI C oC D m₂ h tk E' (by omega) hP hJ hC hx F N off ne) (fun ok s' hq => ?_) fun _ _ e => e
      cases ok with
      | true =>
        rw [if_pos rfl] at hq ⊢
        exact wpAny_mono hq (fun y s₂ u => CompEnd.mono (fun y nw hj => ih (i + 1) _ _ (by omega) hj) u) fun _ _ e => e
      | false =>
        rw [if_neg (by decide)] at hq ⊢
        exact CompEnd.mono (fun y nw hj => ih (i + 1) _ _ (by omega) hj) hq
  exact key n 0 [] news (by omega) start
theorem restU_inv {elt : Expr} {x : Str} {scope : Scope} {cl : List (Str × Addr)} {s : Shared} {S : List (Addr × Obj) → Prop} {P : Nat → Value → Prop} {Fin : List Value → List (Addr × Obj) → Prop} {n : Nat} (J : Nat → List Value → List (Addr × Obj) → Prop)
    (start : J 0 [] news)
    (turn : ∀ i v ys news I oI C oC D m₂ h tk (E' : Value → Shared → Prop), i < n → P i v → J i ys news → NsObj oC m₂ → m₂ x = some v → Fr h₀ L h m → News h₀ L h ((I, oI) :: (C, oC) :: (D, lst ys) :: news) → Off3 I C D news → ((@Ne Nat I C) ∧ (@Ne Nat I D) ∧ (@Ne Nat C D)) →
      wpAny (model prog w) A (eval elt (compEnvC scope cl C env)) (CompEnd h₀ L m { s with heap := h, toks := tk } I oI C oC D (lst ys) S (fun y news' => J (i + 1) (ys ++ [y]) news')) E' { s with heap := h, toks := tk })
    (fin : ∀ ys news, J n ys news → Fin ys news) : CompRest prog w A h₀ L m env elt x scope cl s S P Fin n 0 [] news := by
  have key : ∀ (k i : Nat) ys news, i + k = n → J i ys news → CompRest prog w A h₀ L m env elt x scope cl s S P Fin k i ys news := by
    intro k
    induction k with
    | zero =>
      intro i ys news e hJ
      obtain rfl : i = n := by omega
      exact CompRest.zero (fin _ _ hJ)
    | succ k ih =>
      intro i ys news e hJ
      refine CompRest.succ fun v I oI C oC D m₂ h tk E' hP hC hx F N off ne => ?_
      exact wpAny_mono (turn i v ys news I oI C oC D m₂ h tk E' (by omega) hP hJ hC hx F N off ne) (fun y s₂ u => CompEnd.mono (fun y nw hj => ih (i + 1) _ _ (by omega) hj) u) fun _ _ e => e
  exact key n 0 [] news (by omega) start
theorem CompT.filter {α : Type} (rel rel' : α → Value → Prop) (f : α → Bool) (items : List α) {ct elt : Expr} {x : Str} {scope : Scope} {cl : List (Str × Addr)} {Fin : Shared → List Value → List (Addr × Obj) → Prop} {xv : Value} {n : Nat} {P : Nat → Value → Prop} {S : List (Addr × Obj) → Prop}
    (src : Src prog w A h₀ L xv s₁ n P S news) (F : Fr h₀ L s₁.heap m) (N : News h₀ L s₁.heap news) (hlen : items.length = n) (hP : ∀ i v, P i v → i < n → ∃ a, items[i]? = some a ∧ rel a v)
    (turn : ∀ g a v ys I oI C oC D m₂ h tk (E' : Value → Shared → Prop), a ∈ items → rel a v → S news → NsObj oC m₂ → m₂ x = some v → Fr h₀ L h m → News h₀ L h ((I, oI) :: (C, oC) :: (D, lst ys) :: news) → Off3 I C D news → ((@Ne Nat I C) ∧ (@Ne Nat I D) ∧ (@Ne Nat C D)) →
      wpAny (model prog w) A (isTrue ct (compEnvC scope cl C env) (eval ct (compEnvC scope cl C env))) (fun ok s' => if ok = true then
        wpAny (model prog w) A (eval elt (compEnvC scope cl C env)) (CompEnd h₀ L m { { s₁ with heap := g } with heap := h, toks := tk } I oI C oC D (lst ys) S (EndY rel' f a news)) E' s'
        else CompEnd h₀ L m { { s₁ with heap := g } with heap := h, toks := tk } I oI C oC D (lst ys) S (fun _ news' => EndN f a news news') Value.none s') E' { { s₁ with heap := g } with heap := h, toks := tk })
    (fin : ∀ g ys, All2 rel' (items.filter f) ys → Fin { s₁ with heap := g } ys news) : CompT prog w A h₀ L m env ct elt x scope cl Fin xv s₁ := by
  have hS : S news := by obtain ⟨I, fp, St, W, hsz, hIo, hSt, hIL, hI₀, off, hS, hit⟩ := src; exact hS
  refine ⟨n, P, S, news, src, F, N, fun g => restT_inv (fun i ys nw => nw = news ∧ All2 rel' ((items.take i).filter f) ys) ⟨rfl, trivial⟩ ?_ ?_⟩
  · rintro i v ys nw I oI C oC D m₂ h tk E' hi hPv ⟨rfl, hJ⟩ hC hx F' N' off ne
    obtain ⟨a, ha, hr⟩ := hP i v hPv hi
    have hy : ∀ y nw', EndY rel' f a nw y nw' → nw' = nw ∧ All2 rel' ((items.take (i + 1)).filter f) (ys ++ [y]) := by
      rintro y nw' ⟨rfl, h1, h2⟩
      refine ⟨rfl, ?_⟩
      rw [List.take_add_one, ha, Option.toList_some, List.filter_append]
      have : [a].filter f = [a] := by simp [h1]
      rw [this]
      exact hJ.snoc h2
    have hn : ∀ nw', EndN f a nw nw' → nw' = nw ∧ All2 rel' ((items.take (i + 1)).filter f) ys := by
      rintro nw' ⟨rfl, h1⟩
      refine ⟨rfl, ?_⟩
      rw [List.take_add_one, ha, Option.toList_some, List.filter_append]
      have : [a].filter f = [] := by simp [h1]
      rw [this, List.append_nil]
      exact hJ
    refine wpAny_mono (turn g a v ys I oI C oC D m₂ h tk E' (List.mem_of_getElem? ha) hr hS hC hx F' N' off ne) (fun ok s' hq => ?_) fun _ _ e => e
    cases ok with
    | true =>
      rw [if_pos rfl] at hq ⊢
      exact wpAny_mono hq (fun y s₂ u => CompEnd.mono (fun y nw hj => hy y nw hj) u) fun _ _ e => e
    | false =>
      rw [if_neg (by decide)] at hq ⊢
      exact CompEnd.mono (fun y nw hj => hn nw hj) hq
  · rintro ys nw ⟨rfl, hJ⟩
    rw [← hlen, List.take_length] at hJ
    exact fin g ys hJ
theorem CompU.map {α : Type} (rel rel' : α → Value → Prop) (items : List α) {elt : Expr} {x : Str} {scope : Scope} {cl : List (Str × Addr)} {Fin : Shared → List Value → List (Addr × Obj) → Prop} {xv : Value} {n : Nat} {P : Nat → Value → Prop} {S : List (Addr × Obj) → Prop}
    (src : Src prog w A h₀ L xv s₁ n P S news) (F : Fr h₀ L s₁.heap m) (N : News h₀ L s₁.heap news) (hlen : items.length = n) (hP : ∀ i v, P i v → i < n → ∃ a, items[i]? = some a ∧ rel a v)
    (turn : ∀ g a v ys I oI C oC D m₂ h tk (E' : Value → Shared → Prop), a ∈ items → rel a v → S news → NsObj oC m₂ → m₂ x = some v → Fr h₀ L h m → News h₀ L h ((I, oI) :: (C, oC) :: (D, lst ys) :: news) → Off3 I C D news → ((@Ne Nat I C) ∧ (@Ne Nat I D) ∧ (@Ne Nat C D)) →
      wpAny (model prog w) A (eval elt (compEnvC scope cl C env)) (CompEnd h₀ L m { { s₁ with heap := g } with heap := h, toks := tk } I oI C oC D (lst ys) S (EndM rel' a news)) E' { { s₁ with heap := g } with heap := h, toks := tk })
    (fin : ∀ g ys, All2 rel' items ys → Fin { s₁ with heap := g } ys news) : CompU prog w A h₀ L m env elt x scope cl Fin xv s₁ := by
  have hS : S news := by obtain ⟨I, fp, St, W, hsz, hIo, hSt, hIL, hI₀, off, hS, hit⟩ := src; exact hS
  refine ⟨n, P, S, news, src, F, N, fun g => restU_inv (fun i ys nw => nw = news ∧ All2 rel' (items.take i) ys) ⟨rfl, trivial⟩ ?_ ?_⟩
  · rintro i v ys nw I oI C oC D m₂ h tk E' hi hPv ⟨rfl, hJ⟩ hC hx F' N' off ne
    obtain ⟨a, ha, hr⟩ := hP i v hPv hi
    have hy : ∀ y nw', EndM rel' a nw y nw' → nw' = nw ∧ All2 rel' (items.take (i + 1)) (ys ++ [y]) := by
      rintro y nw' ⟨rfl, h2⟩
      refine ⟨rfl, ?_⟩
      rw [List.take_add_one, ha, Option.toList_some]
      exact hJ.snoc h2
    exact wpAny_mono (turn g a v ys I oI C oC D m₂ h tk E' (List.mem_of_getElem? ha) hr hS hC hx F' N' off ne) (fun y s₂ u => CompEnd.mono (fun y nw hj => hy y nw hj) u) fun _ _ e => e
  · rintro ys nw ⟨rfl, hJ⟩
    rw [← hlen, List.take_length] at hJ
    exact fin g ys hJ
end

end
-- part Base10
section
def TurnEnd (h₀ : Heap) (L : Addr) (y : Str) (m₀ : Str → Option Value) (all : List (Addr × Obj)) (D : Option Value → Prop) (s₁ : Shared) (f : Flow) (s₂ : Shared) : Prop :=
  (f = .next ∨ f = .cont) ∧ ∃ h' tk' m' u, s₂ = { s₁ with heap := h', toks := tk' } ∧ Fr h₀ L h' m' ∧ (m' = fun z => if z = y then u else m₀ z) ∧ News h₀ L h' all ∧ D u
theorem TurnEnd.of {h₀ : Heap} {L : Addr} {y : Str} {m₀ : Str → Option Value} {all : List (Addr × Obj)} {D : Option Value → Prop} {s₁ : Shared} {f : Flow} {h' : Heap} {tk' : Nat} {m' : Str → Option Value}
    (hf : f = .next ∨ f = .cont) (F : Fr h₀ L h' m') (hm : ∀ z, z ≠ y → m' z = m₀ z) (N : News h₀ L h' all) (hD : D (m' y)) : TurnEnd h₀ L y m₀ all D s₁ f { s₁ with heap := h', toks := tk' } := by
  refine ⟨hf, h', tk', m', m' y, rfl, F, funext fun z => ?_, N, hD⟩
  by_cases e : z = y
  · subst e; simp
  · simp [e, hm z e]
inductive CellLoop (prog : Program) (w : World) (A : Around) (E : Value → Shared → Prop) (h₀ : Heap) (env : Env) (c : Addr) (y : Str) (m₀ : Str → Option Value) (body : List Stmt) (Q : Flow → Shared → Prop) (xv : Value) (s₁ : Shared) : Prop
  | mk (ax : Addr) (n : Nat) (vs : List Value) (oc : Obj) (news : List (Addr × Obj)) (D : Nat → Option Value → Prop) (c1 : xv = .ref ax) (c2 : A.handled = none) (c3 : Fr h₀ env.locals s₁.heap m₀) (c4 : News h₀ env.locals s₁.heap ((c, oc) :: news)) (c5 : ∀ p ∈ news, p.1 ≠ c) (c6 : (ax, W.listOf vs.toArray n) ∈ news) (c7 : ∃ v₀, oc.data = .cell v₀) (c8 : D 0 (m₀ y)) (c9 : (∀ i v u oc' h tk I it, vs[i]? = some v → D i u → oc'.data = .cell (some v) → (∀ p ∈ (c, oc) :: news, p.1 < I) → Fr h₀ env.locals h (fun z => if z = y then u else m₀ z) → News h₀ env.locals h ((I, it) :: (c, oc') :: news) → wpAny (model prog w) A (execs body env) (TurnEnd h₀ env.locals y m₀ ((I, it) :: (c, oc') :: news) (D (i + 1)) { s₁ with heap := h, toks := tk }) E { s₁ with heap := h, toks := tk })) (c10 : ∀ u oc' h tk, D vs.length u → Fr h₀ env.locals h (fun z => if z = y then u else m₀ z) → News h₀ env.locals h ((c, oc') :: news) → Q .next { s₁ with heap := h, toks := tk })
section
variable {prog : Program} {w : World} {A : Around} {E : Value → Shared → Prop} {s : Shared} {h₀ : Heap} {env : Env} {L : Addr}
inductive FInv (h₀ : Heap) (L : Addr) (y : Str) (m₀ : Str → Option Value) (c : Addr) (s₁ : Shared) (I ax N : Nat) (news : List (Addr × Obj)) (D : Nat → Option Value → Prop) : Nat → Shared → Prop
  | mk (h' : Heap) (tk : Nat) (u : Option Value) (oc' : Obj) (vo : Option Value) (i : Nat) (hit : h'.IsListIter I ax i) (F : Fr h₀ L h' (fun z => if z = y then u else m₀ z)) (Nw : News h₀ L h' ((c, oc') :: news)) (hv : oc'.data = .cell vo) (hD : D i u) (hi : i ≤ N) :
    FInv h₀ L y m₀ c s₁ I ax N news D (N + 1 - i) { s₁ with heap := h', toks := tk }
theorem forCell {x y : Str} {px pos : Pos} {iter : Expr} {body : List Stmt} {Q : Flow → Shared → Prop} {m₀ : Str → Option Value} {c : Addr} (_F : Fr h₀ L s.heap m₀) (hLe : env.locals = L)
    (hc : env.cells.lookup x = some c) (h : wpAny (model prog w) A (eval iter env) (CellLoop prog w A E h₀ env c y m₀ body Q) E s)
    (hk : env.scope.kind = .function) (hx : env.kindOf x = some .cell)
    (hs : ∀ x, foldedSetIterable iter env x = pure x)
    (hE : PassesOwn (model prog w) A env E) :
    wpAny (model prog w) A (exec (.For (.Name x px) iter body [] pos) env) Q E s := by
  subst hLe
  refine wpAny_For (wpAny_mono h (fun xv s₁ h₁ => ?_) fun _ _ e => e) hs
  refine hideP ?_
  intro Gq hGq
  obtain ⟨ax, n, vs, oc, news, D, rfl, hh, F, N, hcn, hm, ⟨v₀, hoc⟩, hD0, turn, done⟩ := h₁
  refine hGq ?_
  clear hGq Gq
  have F : Fr h₀ env.locals s₁.heap m₀ := F
  have N : News h₀ env.locals s₁.heap ((c, oc) :: news) := N
  have hax := N _ (.tail _ hm)
  have hl : s₁.heap.IsList ax vs.toArray := ⟨_, hax.1, rfl, n, rfl⟩
  have hlt : ax < s₁.heap.objs.size := Heap.lt_size hax.1
  have hne : ax ≠ s₁.heap.objs.size := Nat.ne_of_lt hlt
  have hcz := N (c, oc) (.head _)
  have hca : c ≠ ax := Ne.symm (hcn _ hm)
  have hcI : c ≠ s₁.heap.objs.size := Nat.ne_of_lt (Heap.lt_size hcz.1)
  refine wpAny_pyIter_list hl ?_
  have W := Walks.list (prog := prog) (w := w) hh s₁.heap.objs.size ax hne vs.toArray
  have hlen : vs.toArray.size = vs.length := by simp
  rw [hlen] at W
  have hI₀ := next_is_new F
  have hIL : env.locals ≠ s₁.heap.objs.size := Nat.ne_of_lt F.ns.lt
  refine codeAny_forLoop (FInv h₀ env.locals y m₀ c s₁ s₁.heap.objs.size ax vs.length news D) ?_ (vs.length + 1)
    (.mk _ s₁.toks (m₀ y) oc _ 0 ⟨_, Heap.get?_push_size _ rfl, rfl, rfl⟩ (by rw [ite_self']; exact F.push _) (fun p hp => ⟨Heap.get?_push_of_some _ (N p hp).1, (N p hp).2⟩) hoc hD0 (Nat.zero_le _))
  intro k s' hq
  induction hq with | mk h' tk u oc' vo i hit F' N' hvo hD hi => ?_
  have zax := N' _ (.tail _ hm)
  have hl' : h'.IsList ax vs.toArray := ⟨_, zax.1, rfl, n, rfl⟩
  have old : ∀ b o, h₀.get? b = some o → b ≠ s₁.heap.objs.size := fun b o e q => by rw [q, hI₀] at e; cases e
  have offI : ∀ p ∈ (c, oc') :: news, p.1 ≠ s₁.heap.objs.size := fun p hp => by
    rcases List.mem_cons.mp hp with rfl | hp
    · exact hcI
    · exact Nat.ne_of_lt (Heap.lt_size (N p (.tail _ hp)).1)
  by_cases hlt2 : i < vs.length
  · refine W.item i _ _ _ hlt2 ⟨hit, hl'⟩ fun v h₁ tk₁ hP hst₁ hk₁ => ?_
    have k1 : ∀ b o, b ≠ s₁.heap.objs.size → h'.get? b = some o → h₁.get? b = some o := fun b o hb e => hk₁ b o (by simpa using hb) e
    have F₁ : Fr h₀ env.locals h₁ (fun z => if z = y then u else m₀ z) := ⟨F'.ns.at' fun o e => k1 _ o hIL e, fun b o e => k1 b o (old b o e) (F'.keep b o e), F'.above⟩
    have N₁ : News h₀ env.locals h₁ ((c, oc') :: news) := fun p hp => ⟨k1 _ _ (offI p hp) (N' p hp).1, (N' p hp).2⟩
    have zc := N₁ (c, oc') (.head _)
    refine wpAny_assign_Name (wpAny_storeName_cell hk hx hc ⟨oc', zc.1, hvo⟩ fun h₂ hv₂ hs₂ => ?_)
    obtain ⟨o₂, ho₂, hd₂⟩ := hv₂
    have F₂ : Fr h₀ env.locals h₂ (fun z => if z = y then u else m₀ z) := F₁.change hs₂ zc.2.1 zc.2.2
    have N₂ : News h₀ env.locals h₂ ((c, o₂) :: news) := news_set (pre := []) N₁ (by simp) hcn hs₂ ho₂
    refine hideP ?_
    intro Gq hGq
    obtain ⟨it, hit₂, hic, hid⟩ := hst₁.1
    refine hGq ?_
    clear hGq Gq
    have hit₃ : h₂.get? s₁.heap.objs.size = some it := (hs₂.2 _ (Ne.symm hcI)).trans hit₂
    have N₃ : News h₀ env.locals h₂ ((s₁.heap.objs.size, it) :: (c, o₂) :: news) := fun p hp => by
      rcases List.mem_cons.mp hp with rfl | hp
      · exact ⟨hit₃, Ne.symm hIL, hI₀⟩
      · exact N₂ p hp
    have hv : vs[i]? = some v := by simpa using hP
    refine wpAny_passesOwn hE (wpAny_mono (turn i v u o₂ h₂ tk₁ s₁.heap.objs.size it hv hD hd₂ (fun p hp => Heap.lt_size (N p hp).1) F₂ N₃) (fun f s₃ h₃ => ?_) fun _ _ e => e)
    refine hideP ?_
    intro Gq hGq
    obtain ⟨hf, h₃', tk₃, m₃, u₃, rfl, F₃, rfl, N₄, hD₃⟩ := h₃
    refine hGq ?_
    clear hGq Gq
    have fin : ∃ m', m' < vs.length + 1 - i ∧ FInv h₀ env.locals y m₀ c s₁ s₁.heap.objs.size ax vs.length news D m' { s₁ with heap := h₃', toks := tk₃ } :=
      ⟨vs.length + 1 - (i + 1), by omega, .mk h₃' tk₃ u₃ o₂ _ (i + 1) ⟨it, (N₄ _ (.head _)).1, hic, hid⟩ F₃ (fun p hp => N₄ p (.tail _ hp)) hd₂ hD₃ hlt2⟩
    rcases hf with rfl | rfl
    · exact fin
    · exact fin
  · have hin : i = vs.length := by omega
    subst hin
    refine W.done _ _ _ ⟨hit, hl'⟩ fun h₁ tk₁ hk₁ => wpAny_execs_nil ?_
    have k1 : ∀ b o, b ≠ s₁.heap.objs.size → h'.get? b = some o → h₁.get? b = some o := fun b o hb e => hk₁ b o (by simpa using hb) e
    exact done u oc' h₁ tk₁ hD ⟨F'.ns.at' fun o e => k1 _ o hIL e, fun b o e => k1 b o (old b o e) (F'.keep b o e), F'.above⟩ fun p hp => ⟨k1 _ _ (offI p hp) (N' p hp).1, (N' p hp).2⟩
end

end
-- part Base11
section
open PyProof.Rows.LCg (NsObj lst Off3 Off1 CompEnd CompRest FinE FinA SrcAt)
open PyProof.Rows.LCt (CompRestT)
abbrev dictE : Obj := { cls := .type "dict", data := .dict #[] }
inductive EndK (h₀ : Heap) (L : Addr) (m : Str → Option Value) (s₁ : Shared) (I : Addr) (oI : Obj) (C D : Addr) (oD : Obj) (K : Addr) (oK : Obj) (S : List (Addr × Obj) → Prop) (rest : Value → List (Addr × Obj) → Prop) (y : Value) (s₂ : Shared) : Prop
  | mk (h' : _) (tk : _) (news' : _) (c1 : s₂ = { s₁ with heap := h', toks := tk }) (c2 : Fr h₀ L h' m) (c3 : News h₀ L h' ((I, oI) :: (C, dictE) :: (D, oD) :: (K, oK) :: news')) (c4 : ∀ p ∈ news', p.1 ≠ I ∧ p.1 ≠ C ∧ p.1 ≠ D ∧ p.1 ≠ K) (c5 : S news') (c6 : rest y news')
section
variable {prog : Program} {w : World} {A : Around} {E : Value → Shared → Prop} {s : Shared} {h₀ : Heap} {L : Addr} {m : Str → Option Value} {env : Env}
theorem newEnv_cell {scope : Scope} {cl : List (Str × Addr)} {x : Str} {g : Addr} {q : Str} {Q : Env → Shared → Prop} (hcf : ∀ n, cellsFrom n scope.names cl = (x, n) :: cl) (hpc : ∀ h, pushCells h scope.names = h.push { cls := .type "cell", data := .cell none })
    (hQ : Q { scope, locals := s.heap.objs.size, globals := g, cells := (x, s.heap.objs.size + 1) :: cl, qual := q, func := none, code := env.code, frame := env.frame, builtins := env.builtins } { s with heap := (s.heap.push dictE).push { cls := .type "cell", data := .cell none } }) :
    wpAny (model prog w) A (newFunctionEnv scope g cl [] q none .none (some env)) Q E s := by
  simp only [newFunctionEnv, Option.isSome_some, if_true]
  refine wpAny_bind (wpAny_alloc ?_)
  refine wpAny_bind (wpAny_layCells _ (fun name kind cells => by cases hkc : kind == NameKind.cell <;> simp [hkc]) _ _ _ _ ?_)
  rw [hcf, hpc]
  rw [show ({ s with heap := s.heap.push { cls := .type "dict", data := .dict #[] } } : Shared).heap.objs.size = s.heap.objs.size + 1 from Heap.size_push ..]
  refine wpAny_bind ?_
  rw [List.forIn_nil]
  exact wpAny_pure (wpAny_pure hQ)
def TurnsK (prog : Program) (w : World) (A : Around) (h₀ : Heap) (L : Addr) (m : Str → Option Value) (env : Env) (ifs : List Expr) (elt : Expr) (x : Str) (scope : Scope) (cl : List (Str × Addr)) (s : Shared) (S : List (Addr × Obj) → Prop) (P : Nat → Value → Prop) (n : Nat) (J : Nat → List Value → List (Addr × Obj) → Prop) : Prop :=
  ∀ i v ys news I oI C D K oK h tk (E' : Value → Shared → Prop), i < n → P i v → J i ys news → S news → oK.data = .cell (some v) → Fr h₀ L h m → News h₀ L h ((I, oI) :: (C, dictE) :: (D, lst ys) :: (K, oK) :: news) → (∀ p ∈ news, p.1 ≠ I ∧ p.1 ≠ C ∧ p.1 ≠ D ∧ p.1 ≠ K) → (@Ne Nat I C ∧ @Ne Nat I D ∧ @Ne Nat I K ∧ @Ne Nat C D ∧ @Ne Nat C K ∧ @Ne Nat D K) →
    wpAny (model prog w) A (forIn ifs true fun c r => if r = true then do let ok ← isTrue c (compEnvC scope ((x, K) :: cl) C env) (eval c (compEnvC scope ((x, K) :: cl) C env)); pure (ForInStep.yield ok) else pure (ForInStep.yield r)) (fun ok s' => if ok = true then
      wpAny (model prog w) A (eval elt (compEnvC scope ((x, K) :: cl) C env)) (EndK h₀ L m { s with heap := h, toks := tk } I oI C D (lst ys) K oK S (fun y news' => J (i + 1) (ys ++ [y]) news')) E' s'
      else EndK h₀ L m { s with heap := h, toks := tk } I oI C D (lst ys) K oK S (fun _ news' => J (i + 1) ys news') Value.none s') E' { s with heap := h, toks := tk }
inductive KInv (h₀ : Heap) (L : Addr) (m : Str → Option Value) (s₂ : Shared) (I D n : Nat) (St : Nat → Heap → Prop) (S : List (Addr × Obj) → Prop) (J : Nat → List Value → List (Addr × Obj) → Prop) : Nat → Shared → Prop
  | mk (h' : Heap) (tk i : Nat) (ys : List Value) (oK : Obj) (v₀ : Option Value) (news' : List (Addr × Obj)) (hi : i ≤ n) (hyl : ys.length ≤ i) (hst : St i h') (F : Fr h₀ L h' m) (N : News h₀ L h' ((D + 1, dictE) :: (D, lst ys) :: (D + 1 + 1, oK) :: news'))
    (hv : oK.data = .cell v₀) (off : ∀ p ∈ news', p.1 ≠ I ∧ p.1 ≠ D + 1 ∧ p.1 ≠ D ∧ p.1 ≠ D + 1 + 1) (hS : S news') (hJ : J i ys news') : KInv h₀ L m s₂ I D n St S J (n + 1 - i) { s₂ with heap := h', toks := tk }
theorem blockK {ifs : List Expr} {elt iter : Expr} {x : Str} {px : Pos} {scope : Scope} {cl : List (Str × Addr)} {pos : Pos} {s₂ : Shared} {I : Addr} {fp : List Addr} {n : Nat} {P : Nat → Value → Prop} {St : Nat → Heap → Prop} {S : List (Addr × Obj) → Prop} {news : List (Addr × Obj)}
    {J : Nat → List Value → List (Addr × Obj) → Prop} {RR : Value → Addr → Result → Shared → Prop}
    (W : Walks prog w A I fp [I] n P St) (hsz : n ≤ sizeLine) (hIo : ∀ i h, St i h → ∃ o, h.get? I = some o)
    (hSt : ∀ i h h' o nw, St i h → h.get? I = some o → h'.get? I = some o → (∀ b o, h₀.get? b = some o → h'.get? b = some o) → News h₀ L h' nw → S nw → St i h')
    (hcf : ∀ n, cellsFrom n scope.names cl = (x, n) :: cl) (hpc : ∀ h, pushCells h scope.names = h.push { cls := .type "cell", data := .cell none })
    (hkind : scope.kind = .function) (hx : ∀ K C, (compEnvC scope ((x, K) :: cl) C env).kindOf x = some .cell) (hst : St 0 s₂.heap) (hfp : ∀ b ∈ fp, b < s₂.heap.objs.size)
    (F : Fr h₀ L s₂.heap m) (N : News h₀ L s₂.heap news) (hIL : L ≠ I) (hI₀ : h₀.get? I = none) (off : ∀ p ∈ news, p.1 ≠ I) (hS : S news)
    (J0 : J 0 [] news) (turns : TurnsK prog w A h₀ L m env ifs elt x scope cl s₂ S P n J)
    (hRR : ∀ D C h tk ys news', Fr h₀ L h m → News h₀ L h ((D, lst ys) :: news') → (∀ p ∈ news', p.1 ≠ D) → h.get? C = some dictE → h₀.get? C = none → h₀.get? D = none → C ≠ L → D ≠ L → C ≠ D → (∀ p ∈ news', p.1 ≠ C) → J n ys news' → RR (.ref D) C (.ok .next) { s₂ with heap := h, toks := tk }) :
    wpAny (model prog w) A (newList []) (fun acc s₃ => wpAny (model prog w) A (newFunctionEnv scope env.globals cl [] env.qual none .none (some env)) (fun cenv s₄ =>
      codeAny (model prog w) A (.compStart (.ListComp elt [⟨.Name x px, iter, ifs, 0⟩] scope pos) 0 (.ref I) acc { cenv with scope := relabel scope env }) (RR acc cenv.locals) s₄) E s₃) E s₂ := by
  refine wpAny_newObj_type (newEnv_cell hcf hpc ?_)
  generalize hD : s₂.heap.objs.size = D
  have eC : (s₂.heap.push (lst [])).objs.size = D + 1 := by rw [Heap.size_push, hD]
  have eK : ((s₂.heap.push (lst [])).push dictE).objs.size = D + 1 + 1 := by rw [Heap.size_push, eC]
  generalize hh₁ : ((s₂.heap.push (lst [])).push dictE).push { cls := .type "cell", data := .cell none } = h₁
  have old : ∀ b o, s₂.heap.get? b = some o → h₁.get? b = some o := fun b o e => by
    rw [← hh₁]; exact Heap.get?_push_of_some _ (Heap.get?_push_of_some _ (Heap.get?_push_of_some _ e))
  have zD : h₁.get? D = some (lst []) := by
    rw [← hh₁]; refine Heap.get?_push_of_some _ (Heap.get?_push_of_some _ ?_); rw [← hD]; exact Heap.get?_push_size _ rfl
  have zC : h₁.get? (D + 1) = some dictE := by
    rw [← hh₁]; refine Heap.get?_push_of_some _ ?_; rw [← eC]; exact Heap.get?_push_size _ rfl
  have zK : h₁.get? (D + 1 + 1) = some { cls := .type "cell", data := .cell none } := by
    rw [← hh₁, ← eK]; exact Heap.get?_push_size _ rfl
  have lt : ∀ b o, s₂.heap.get? b = some o → b < D := fun b o e => hD ▸ Heap.lt_size e
  have hLlt : L < D := hD ▸ F.ns.lt
  have fresh₀ : ∀ a, D ≤ a → h₀.get? a = none := fun a ha => by
    cases e : h₀.get? a with
    | none => rfl
    | some o' => exact absurd (lt _ _ (F.keep a o' e)) (Nat.not_lt.mpr ha)
  have hIlt : I < D := hD ▸ hfp I (W.sub I (List.mem_singleton.mpr rfl))
  have fplt : ∀ b ∈ fp, b < D := fun b hb => hD ▸ hfp b hb
  have ne1 : ∀ b, b < D → b ≠ I → b ≠ I ∧ b ≠ D + 1 ∧ b ≠ D ∧ b ≠ D + 1 + 1 := fun b hb hi => ⟨hi, Nat.ne_of_lt (Nat.lt_succ_of_lt hb), Nat.ne_of_lt hb, Nat.ne_of_lt (Nat.lt_succ_of_lt (Nat.lt_succ_of_lt hb))⟩
  have hD₀ : h₀.get? D = none := fresh₀ _ (Nat.le_refl _)
  have hC₀ : h₀.get? (D + 1) = none := fresh₀ _ (Nat.le_succ _)
  have hK₀ : h₀.get? (D + 1 + 1) = none := fresh₀ _ (Nat.le_succ_of_le (Nat.le_succ _))
  have hDL : D ≠ L := Ne.symm (Nat.ne_of_lt hLlt)
  have hCL : D + 1 ≠ L := Ne.symm (Nat.ne_of_lt (Nat.lt_succ_of_lt hLlt))
  have hKL : D + 1 + 1 ≠ L := Ne.symm (Nat.ne_of_lt (Nat.lt_succ_of_lt (Nat.lt_succ_of_lt hLlt)))
  have hID : I ≠ D := Nat.ne_of_lt hIlt
  have hIC : I ≠ D + 1 := Nat.ne_of_lt (Nat.lt_succ_of_lt hIlt)
  have hIK : I ≠ D + 1 + 1 := Nat.ne_of_lt (Nat.lt_succ_of_lt (Nat.lt_succ_of_lt hIlt))
  have hCD : D + 1 ≠ D := Nat.succ_ne_self D
  have hCK : D + 1 ≠ D + 1 + 1 := Ne.symm (Nat.succ_ne_self (D + 1))
  have hDK : D ≠ D + 1 + 1 := Nat.ne_of_lt (Nat.lt_succ_of_lt (Nat.lt_succ_self D))
  have dis : @Ne Nat I (D + 1) ∧ @Ne Nat I D ∧ @Ne Nat I (D + 1 + 1) ∧ @Ne Nat (D + 1) D ∧ @Ne Nat (D + 1) (D + 1 + 1) ∧ @Ne Nat D (D + 1 + 1) := ⟨hIC, hID, hIK, hCD, hCK, hDK⟩
  have hst₁ : St 0 h₁ := W.frame _ _ _ hst fun b _ o e => old b o e
  have off₀ : ∀ p ∈ news, p.1 ≠ I ∧ p.1 ≠ D + 1 ∧ p.1 ≠ D ∧ p.1 ≠ D + 1 + 1 := fun p hp => ne1 _ (lt _ _ (N p hp).1) (off p hp)
  have four : ∀ {h' : Heap} {ys : List Value} {oK : Obj} {nw : List (Addr × Obj)}, News h₀ L h' nw → h'.get? (D + 1) = some dictE → h'.get? D = some (lst ys) → h'.get? (D + 1 + 1) = some oK → News h₀ L h' ((D + 1, dictE) :: (D, lst ys) :: (D + 1 + 1, oK) :: nw) := fun Nn e1 e2 e3 p hp => by
    rcases List.mem_cons.mp hp with rfl | hp
    · exact ⟨e1, hCL, hC₀⟩
    · rcases List.mem_cons.mp hp with rfl | hp
      · exact ⟨e2, hDL, hD₀⟩
      · rcases List.mem_cons.mp hp with rfl | hp
        · exact ⟨e3, hKL, hK₀⟩
        · exact Nn p hp
  show codeAny (model prog w) A (.compStart (.ListComp elt [⟨.Name x px, iter, ifs, 0⟩] scope pos) 0 (.ref I) (.ref D) (compEnvC scope ((x, (s₂.heap.push (lst [])).objs.size + 1) :: cl) (s₂.heap.push (lst [])).objs.size env)) (RR (.ref D) (s₂.heap.push (lst [])).objs.size) { s₂ with heap := h₁ }
  rw [eC]
  have loop : codeAny (model prog w) A (.compLoop (.ListComp elt [⟨.Name x px, iter, ifs, 0⟩] scope pos) 0 (.ref I) (.ref D) (compEnvC scope ((x, D + 1 + 1) :: cl) (D + 1) env)) (RR (.ref D) (D + 1)) { s₂ with heap := h₁ } := by
    refine codeAny_compLoop_tests (KInv h₀ L m s₂ I D n St S J) ?_ (n + 1)
      (.mk h₁ _ 0 [] _ _ news (Nat.zero_le _) (Nat.le_refl _) hst₁ (F.keeps old) (four (fun p hp => ⟨old _ _ (N p hp).1, (N p hp).2⟩) zC zD zK) rfl off₀ hS J0)
    intro k s' hq
    induction hq with | mk h' tk i ys oK v₀ news' hi hyl hst' F' N' hv₀ off' hS' hJ => ?_
    have offI : ∀ p ∈ (D + 1, dictE) :: (D, lst ys) :: (D + 1 + 1, oK) :: news', p.1 ≠ I := fun p hp => by
      rcases List.mem_cons.mp hp with rfl | hp
      · exact Ne.symm hIC
      · rcases List.mem_cons.mp hp with rfl | hp
        · exact Ne.symm hID
        · rcases List.mem_cons.mp hp with rfl | hp
          · exact Ne.symm hIK
          · exact (off' p hp).1
    by_cases hlt : i < n
    · refine W.item i _ _ _ hlt hst' fun v h₂ tk₂ hPv hst₂ hk₂ => ?_
      have F₂ : Fr h₀ L h₂ m := LCg.fr_but F' hk₂ hIL hI₀
      have N₂ : News h₀ L h₂ ((D + 1, dictE) :: (D, lst ys) :: (D + 1 + 1, oK) :: news') := LCg.news_but N' hk₂ offI
      have z2 := N₂ (D + 1 + 1, oK) (.tail _ (.tail _ (.head _)))
      refine wpAny_assign_Name (wpAny_storeName_cell (c := D + 1 + 1) hkind (hx _ _) (by show List.lookup x ((x, D + 1 + 1) :: cl) = _; simp) ⟨oK, z2.1, hv₀⟩ fun h₃ hv₃ hs₃ => ?_)
      obtain ⟨oK₃, hoK₃, hd₃⟩ := hv₃
      have F₃ : Fr h₀ L h₃ m := F₂.change hs₃ hKL hK₀
      have hst₃ : St (i + 1) h₃ := W.frame _ _ _ hst₂ fun b hb o e => hs₃.extBut b o (fun q => by have := fplt b hb; rw [q] at this; exact absurd this (Nat.not_lt.mpr (Nat.le_succ_of_le (Nat.le_succ D)))) e
      obtain ⟨oI, heI⟩ := hIo _ _ hst₃
      have N₃ : News h₀ L h₃ ((I, oI) :: (D + 1, dictE) :: (D, lst ys) :: (D + 1 + 1, oK₃) :: news') := fun p hp => by
        rcases List.mem_cons.mp hp with rfl | hp
        · exact ⟨heI, Ne.symm hIL, hI₀⟩
        · refine four (fun p hp => ⟨hs₃.extBut _ _ (off' p hp).2.2.2 (N₂ p (.tail _ (.tail _ (.tail _ hp)))).1, (N₂ p (.tail _ (.tail _ (.tail _ hp)))).2⟩) (hs₃.extBut _ _ hCK (N₂ _ (.head _)).1) (hs₃.extBut _ _ hDK (N₂ _ (.tail _ (.head _))).1) hoK₃ p hp
      have next : ∀ (ys' : List Value) (nw : List (Addr × Obj)) (h₄ : Heap) (tk₄ : Nat), ys'.length ≤ i + 1 → Fr h₀ L h₄ m → News h₀ L h₄ ((I, oI) :: (D + 1, dictE) :: (D, lst ys') :: (D + 1 + 1, oK₃) :: nw) → (∀ p ∈ nw, p.1 ≠ I ∧ p.1 ≠ D + 1 ∧ p.1 ≠ D ∧ p.1 ≠ D + 1 + 1) → S nw → J (i + 1) ys' nw →
          ∃ m', m' < n + 1 - i ∧ KInv h₀ L m s₂ I D n St S J m' { s₂ with heap := h₄, toks := tk₄ } := fun ys' nw h₄ tk₄ hl F₄ N₄ o₄ S₄ J₄ =>
        ⟨n + 1 - (i + 1), by omega, .mk h₄ tk₄ (i + 1) ys' oK₃ _ nw hlt hl (hSt _ _ _ _ _ hst₃ heI (N₄ (I, oI) (.head _)).1 F₄.keep (fun p hp => N₄ p (.tail _ (.tail _ (.tail _ (.tail _ hp))))) S₄) F₄ (fun p hp => N₄ p (.tail _ hp)) hd₃ o₄ S₄ J₄⟩
      refine wpAny_mono (turns i v ys news' I oI (D + 1) D (D + 1 + 1) oK₃ h₃ tk₂ _ hlt hPv hJ hS' hd₃ F₃ N₃ off' dis) (fun ok s₄ h₄ => ?_) fun _ _ e => e
      cases ok with
      | true =>
        rw [if_pos rfl] at h₄ ⊢
        refine wpAny_mono h₄ (fun y s₅ h₅ => ?_) fun _ _ e => e
        refine hideP ?_
        intro Gq hGq
        obtain ⟨h₅, tk₅, nw, rfl, F₅, N₅, o₅, S₅, J₅⟩ := h₅
        refine hGq ?_
        clear hGq Gq
        have z5 := N₅ (D, lst ys) (.tail _ (.tail _ (.head _)))
        refine append_at (hsz := by show ys.toArray.size ≤ sizeLine; rw [List.size_toArray]; exact Nat.le_trans (Nat.le_trans hyl hi) hsz) z5.1 fun h₆ hs₆ hD₆ => ?_
        refine next (ys ++ [y]) nw h₆ tk₅ (by rw [List.length_append, List.length_singleton]; omega) (F₅.change hs₆ hDL hD₀) (fun p hp => ?_) o₅ S₅ J₅
        rcases List.mem_cons.mp hp with rfl | hp
        · exact ⟨hs₆.extBut _ _ hID (N₅ _ (.head _)).1, Ne.symm hIL, hI₀⟩
        · exact four (fun p hp => ⟨hs₆.extBut _ _ (o₅ p hp).2.2.1 (N₅ p (.tail _ (.tail _ (.tail _ (.tail _ hp))))).1, (N₅ p (.tail _ (.tail _ (.tail _ (.tail _ hp))))).2⟩) (hs₆.extBut _ _ hCD (N₅ _ (.tail _ (.head _))).1) (hD₆.trans (congrArg some (LCg.lst_snoc ys y))) (hs₆.extBut _ _ (Ne.symm hDK) (N₅ _ (.tail _ (.tail _ (.tail _ (.head _))))).1) p hp
      | false =>
        rw [if_neg (by decide)] at h₄ ⊢
        refine hideP ?_
        intro Gq hGq
        obtain ⟨h₅, tk₅, nw, rfl, F₅, N₅, o₅, S₅, J₅⟩ := h₄
        refine hGq ?_
        clear hGq Gq
        exact next ys nw h₅ tk₅ (Nat.le_succ_of_le hyl) F₅ N₅ o₅ S₅ J₅
    · obtain rfl : n = i := Nat.le_antisymm (Nat.not_lt.mp hlt) hi
      refine W.done _ _ _ hst' fun h₂ tk₂ hk₂ => ?_
      have N₂ := LCg.news_but N' hk₂ offI
      exact hRR D (D + 1) h₂ tk₂ ys news' (LCg.fr_but F' hk₂ hIL hI₀) (fun p hp => N₂ p (by
        rcases List.mem_cons.mp hp with rfl | hp
        · exact .tail _ (.head _)
        · exact .tail _ (.tail _ (.tail _ hp)))) (fun p hp => (off' p hp).2.2.1) (N₂ _ (.head _)).1 hC₀ hD₀ hCL hDL hCD (fun p hp => (off' p hp).2.1) hJ
  exact codeAny_compStart_list loop (W.self 0 _ _ _ hst₁ loop)
end

end
-- part Base12
section
open PyProof.Rows.LCg (NsObj lst Off3 Off1 CompEnd CompRest FinE FinA SrcAt)
theorem off1_of {D : Addr} : ∀ {l : List (Addr × Obj)}, (∀ p ∈ l, p.1 ≠ D) → Off1 D l
  | [], _ => trivial
  | _ :: _, h => ⟨h _ (.head _), off1_of fun p hp => h p (.tail _ hp)⟩
theorem ns_dictE {h : Heap} {C : Addr} (e : h.get? C = some dictE) : h.Ns C (fun _ => none) :=
  ⟨_, #[], 0, e, rfl, fun _ he => by simp at he, fun _ => rfl⟩
inductive CompK (prog : Program) (w : World) (A : Around) (h₀ : Heap) (L : Addr) (m : Str → Option Value) (env : Env) (ifs : List Expr) (elt : Expr) (x : Str) (scope : Scope) (cl : List (Str × Addr)) (Fin : Shared → List Value → List (Addr × Obj) → Prop) (xv : Value) (s₁ : Shared) : Prop
  | mk (n : _) (P : _) (S : _) (news : _) (J : _) (c1 : Src prog w A h₀ L xv s₁ n P S news) (c2 : Fr h₀ L s₁.heap m) (c3 : News h₀ L s₁.heap news) (c4 : J 0 [] news) (c5 : ∀ g, TurnsK prog w A h₀ L m env ifs elt x scope cl { s₁ with heap := g } S P n J) (c6 : ∀ g ys nw, J n ys nw → Fin { s₁ with heap := g } ys nw)
section
variable {prog : Program} {w : World} {A : Around} {E : Value → Shared → Prop} {s : Shared} {h₀ : Heap} {L : Addr} {m : Str → Option Value} {env : Env}
theorem evalK {ifs : List Expr} {elt iter : Expr} {x : Str} {px : Pos} {scope : Scope} {cl : List (Str × Addr)} {pos : Pos} {Q : Value → Shared → Prop} (_F₀ : Fr h₀ L s.heap m)
    (hclos : closureFor scope env = pure cl) (hcf : ∀ n, cellsFrom n scope.names cl = (x, n) :: cl) (hpc : ∀ h, pushCells h scope.names = h.push { cls := .type "cell", data := .cell none }) (hkind : scope.kind = .function)
    (hnames : ∀ y ∈ scope.names, y.2 = .local → scope.names.lookup y.1 = some .local) (hx : ∀ K C, (compEnvC scope ((x, K) :: cl) C env).kindOf x = some .cell)
    (h : wpAny (model prog w) A (eval iter env) (CompK prog w A h₀ L m env ifs elt x scope cl (fun s₂ => FinE h₀ L m s₂ Q)) E s)
    (hs : ∀ x, foldedSetIterable iter env x = pure x := by intro _; rfl) :
    wpAny (model prog w) A (eval (.ListComp elt [⟨.Name x px, iter, ifs, 0⟩] scope pos) env) Q E s := by
  rw [eval_ListComp]
  refine wpAny_comprehension_free (use := none) rfl hs hclos hkind hnames (wpAny_mono h (fun xv s₁ h₁ => ?_) fun _ _ e => e)
  refine hideP ?_
  intro Gq hGq
  obtain ⟨n, P, S, news, J, ⟨I, fp, St, W, hsz, hIo, hSt, hIL, hI₀, off, hS, hit⟩, F, N, J0, T, fin⟩ := h₁
  refine hGq ?_
  clear hGq Gq
  refine hit _ _ fun h' up st hfp => ?_
  refine blockK W hsz hIo hSt hcf hpc hkind hx st hfp (F.keeps up) (N.grown up) hIL hI₀ off hS J0 (T h') ?_
  intro D C h tk ys news' F' N' o1 hn hC₀ hD₀ hCL hDL hCD offC hJ
  refine ⟨_, ns_dictE hn, fun h'' hs'' => fin h' ys news' hJ D h'' tk (F'.change hs'' hCL hC₀) (fun p hp => ?_) (off1_of o1)⟩
  refine ⟨hs''.extBut _ _ ?_ (N' p hp).1, (N' p hp).2⟩
  rcases List.mem_cons.mp hp with rfl | hp
  · exact Ne.symm hCD
  · exact offC p hp
end

end
-- part Base13
section
theorem item_at {prog : Program} {w : World} {A : Around} {E : Value → Shared → Prop} {s : Shared} {value slice : PySem.Expr} {l : Addr} {vs : List Value} {k : Int} {u : Tok} {v : Value} {Q : Value → Shared → Prop}
    (hl : s.heap.IsList l vs.toArray) (hx : vs[k.toNat]? = some v) (h0 : 0 ≤ k) (hj : k < 100) (h : Q v s)
    (hs : subscripted slice false (.ref l) (.int k u) = operate [.ref l, .int k u] (getItem (.ref l) (.int k u)) := by with_unfolding_all rfl) :
    wpAny (model prog w) A (subscriptTail value slice (.ref l) (.int k u)) Q E s :=
  tail_any hl.typeIs slot_list_getitem.lookup (wpAny_getItem_list hl h0 (by omega) (by simpa using hx) h) hs
theorem kl_cut_mid (y : Value) (ys : List Value) : ∀ xs : List Value, kl_cut (xs ++ y :: ys) xs.length = some (xs, y, ys)
  | [] => rfl
  | x :: xs => by
    show (match kl_cut (xs ++ y :: ys) xs.length with | some (p, y, q) => some (x :: p, y, q) | none => none) = _
    rw [kl_cut_mid y ys xs]
theorem pop_mid {prog : Program} {w : World} {A : Around} {E : Value → Shared → Prop} {s : Shared} {h₀ : Heap} {L D : Addr} {m : Str → Option Value} {news news' : List (Addr × Obj)} {n : Nat} {i : Int} {u : Tok} {xs ys : List Value} {y : Value} {Q : Value → Shared → Prop}
    (F : Fr h₀ L s.heap m) (N : News h₀ L s.heap news) (hi : i = (xs.length : Int)) (hl : (xs ++ y :: ys).length < 100)
    (U : Upd D (listOf (xs ++ y :: ys).toArray n) (listOf (xs ++ ys).toArray (n + 1)) news news')
    (h : ∀ h', Fr h₀ L h' m → News h₀ L h' news' → Q y { s with heap := h' }) : wpAny (model prog w) A (call (.builtin "list.pop") [.ref D, .int i u]) Q E s := by
  have hlt : xs.length < (xs ++ y :: ys).length := by simp
  refine kl_popAt F N ?_ (k := xs.length) ?_ (kl_cut_mid y ys xs) U ?_ h
  · subst hi
    unfold Builtin.List.listFitsIndex
    simp; omega
  · subst hi
    unfold seqIndex?
    have e : ¬ ((xs.length : Int) < 0) := by omega
    have e2 : (xs.length : Int) < ((xs ++ y :: ys).toArray.size : Nat) := by rw [List.size_toArray]; omega
    simp only [if_neg e]
    rw [if_pos (by simp only [Bool.and_eq_true, decide_eq_true_eq]; exact ⟨by omega, e2⟩)]
    simp
  · rw [sizeLine_eq]; show (xs ++ y :: ys).length ≤ _; omega
theorem ext_two {prog : Program} {w : World} {A : Around} {E : Value → Shared → Prop} {s : Shared} {h₀ : Heap} {L D b : Addr} {m : Str → Option Value} {news news' : List (Addr × Obj)} {n n2 : Nat} {xs : List Value} {v1 v2 : Value} {Q : Value → Shared → Prop}
    (F : Fr h₀ L s.heap m) (N : News h₀ L s.heap news) (hb : (b, listOf #[v1, v2] n2) ∈ news)
    (U : Upd D (listOf xs.toArray n) (listOf (xs ++ [v1, v2]).toArray (n + 1)) news news') (hl : xs.length < 100)
    (h : ∀ h', Fr h₀ L h' m → News h₀ L h' news' → Q .none { s with heap := h' }) : wpAny (model prog w) A (call (.builtin "list.extend") [.ref D, .ref b]) Q E s := by
  have z : xs.toArray.size + (#[v1, v2] : Array Value).size ≤ sizeLine := by
    rw [sizeLine_eq]; simp only [List.size_toArray]; show xs.length + 2 ≤ _; omega
  refine kl_extend F N hb rfl (by simp) U (extend_door z) ?_ (Nat.le_succ_of_le z) h
  rw [sizeLine_eq]; show xs.length ≤ _; omega
def Four (x y1 y2 y3 : Str) (m₀ m' : Str → Option Value) : Prop := ∃ u1 u2 u3 u4, m' = fun z => if z = x then u1 else if z = y1 then u2 else if z = y2 then u3 else if z = y3 then u4 else m₀ z
theorem Four.of {x y1 y2 y3 : Str} {m₀ m' : Str → Option Value} (h : ∀ z, z ≠ x → z ≠ y1 → z ≠ y2 → z ≠ y3 → m' z = m₀ z) : Four x y1 y2 y3 m₀ m' := by
  refine ⟨m' x, m' y1, m' y2, m' y3, funext fun z => ?_⟩
  by_cases h1 : z = x
  · subst h1; simp
  by_cases h2 : z = y1
  · subst h2; simp [h1]
  by_cases h3 : z = y2
  · subst h3; simp [h1, h2]
  by_cases h4 : z = y3
  · subst h4; simp [h1, h2, h3]
  simp [h1, h2, h3, h4, h z h1 h2 h3 h4]
section
variable {prog : Program} {w : World} {A : Around} {E : Value → Shared → Prop} {s : Shared} {env : Env} {h₀ : Heap} {x : Str} {body : List Stmt} {Q : Flow → Shared → Prop}
theorem rangeRest_four {I : Addr} {a : Int} {n : Nat} {m₀ : Str → Option Value} {news₀ : List (Addr × Obj)} {y1 y2 y3 : Str} (R : Nat → List (Addr × Obj) → Prop)
    (start : R 0 news₀)
    (turn : ∀ i t u2 u3 u4 news h tk, i < n → R i news → Fr h₀ env.locals h (fun z => if z = x then some (.int (a + (i : Int)) t) else if z = y1 then u2 else if z = y2 then u3 else if z = y3 then u4 else m₀ z) →
      News h₀ env.locals h ((I, itR (a + ((i + 1 : Nat) : Int)) ((n : Int) - ((i + 1 : Nat) : Int))) :: news) →
      wpAny (model prog w) A (execs body env) (UnrPost h₀ env.locals { s with heap := h, toks := tk } I (itR (a + ((i + 1 : Nat) : Int)) ((n : Int) - ((i + 1 : Nat) : Int))) (fun m' n' => Four x y1 y2 y3 m₀ m' ∧ R (i + 1) n') Q) E { s with heap := h, toks := tk })
    (done : ∀ u1 u2 u3 u4 news h tk, R n news → Fr h₀ env.locals h (fun z => if z = x then u1 else if z = y1 then u2 else if z = y2 then u3 else if z = y3 then u4 else m₀ z) → News h₀ env.locals h news → Q .next { s with heap := h, toks := tk }) :
    RangeRest prog w A E h₀ env x body Q s I a n n 0 m₀ news₀ := by
  refine rangeRest_inv (fun i m news => Four x y1 y2 y3 m₀ m ∧ R i news) ⟨Four.of fun _ _ _ _ _ => rfl, start⟩ ?_ ?_
  · rintro i t m news h tk hi ⟨⟨u1, u2, u3, u4, rfl⟩, hR⟩ F N
    have e : (fun z => if z = x then some (Value.int (a + (i : Int)) t) else (fun z => if z = x then u1 else if z = y1 then u2 else if z = y2 then u3 else if z = y3 then u4 else m₀ z) z) = fun z => if z = x then some (Value.int (a + (i : Int)) t) else if z = y1 then u2 else if z = y2 then u3 else if z = y3 then u4 else m₀ z := by
      funext z
      by_cases h : z = x <;> simp [h]
    rw [e] at F
    exact turn i t u2 u3 u4 news h tk hi hR F N
  · rintro m news h tk ⟨⟨u1, u2, u3, u4, rfl⟩, hR⟩ F N
    exact done u1 u2 u3 u4 news h tk hR F N
end
theorem sub_step {a : Addr × Obj} {l l' : List (Addr × Obj)} (h : a ∈ l') (r : ∀ p ∈ l, p ∈ l') : ∀ p ∈ a :: l, p ∈ l' := fun p hp => by
  rcases List.mem_cons.mp hp with rfl | hp
  · exact h
  · exact r p hp
def cv (fs : List (Nat × Tok)) : List Value := fs.map fun p => .str ⟨#[p.1]⟩ p.2
def iv (cs : List (Int × Tok)) : List Value := cs.map fun p => .int p.1 p.2
theorem iv_at {cs : List (Int × Tok)} {i : Nat} (h : i < cs.length) (k : Int) (hk : k = (i : Int)) : ∃ z t, cs[i]? = some (z, t) ∧ (iv cs)[k.toNat]? = some (.int z t) := by
  subst hk
  refine ⟨cs[i].1, cs[i].2, by simp [h], ?_⟩
  simp [iv, h]
theorem cut_at {α : Type} {fs : List α} {j : Int} (h0 : 0 ≤ j) (h1 : j < fs.length) : ∃ pre a post, fs = pre ++ a :: post ∧ j = (pre.length : Int) := by
  refine ⟨fs.take j.toNat, fs[j.toNat]'(by omega), fs.drop (j.toNat + 1), ?_, ?_⟩
  · rw [← List.drop_eq_getElem_cons, List.take_append_drop]
  · rw [List.length_take]; omega
theorem fmod_cut {α : Type} {fs : List α} {z n : Int} (hn : n = (fs.length : Int)) (h : 0 < fs.length) : ∃ pre a post, fs = pre ++ a :: post ∧ z.fmod n = (pre.length : Int) := by
  refine cut_at ?_ ?_
  · exact Int.fmod_nonneg_of_pos z (by omega)
  · rw [← hn]; exact Int.fmod_lt_of_pos z (by omega)

end
-- part Base14
section
open PyProof.Rows.LCg (NsObj lst Off3 Off1 CompEnd CompRest FinE FinA SrcAt)
theorem lst_is (ys : List Value) : lst ys = listOf ys.toArray ys.length := rfl
theorem news_get {h₀ h : Heap} {L a : Addr} {o : Obj} {l : List (Addr × Obj)} (N : News h₀ L h l) (hm : (a, o) ∈ l) : h.get? a = some o := (N _ hm).1
structure Sub (l l' : List (Addr × Obj)) : Prop where
  h : ∀ p ∈ l, p ∈ l'
theorem Sub.cons {l l' : List (Addr × Obj)} {a : Addr × Obj} (h : Sub l l') : Sub l (a :: l') := ⟨fun p hp => .tail _ (h.h p hp)⟩
theorem q_keep {q q' : Addr × Obj} {R : List (Addr × Obj)} (h : q' = q ∨ ∀ p ∈ R, p.1 < q'.1) : @Eq Nat q'.1 q.1 ∨ AllLt q'.1 R :=
  h.imp (fun e => by rw [e]) allLt_of
structure QK (q q' : Addr × Obj) (R : List (Addr × Obj)) : Prop where
  h : q' = q ∨ ∀ p ∈ R, p.1 < q'.1
theorem q_off {q q' : Addr × Obj} {R : List (Addr × Obj)} (h : q' = q ∨ ∀ p ∈ R, p.1 < q'.1) (h0 : ∀ p ∈ R, p.1 ≠ q.1) : ∀ p ∈ R, p.1 ≠ q'.1 := fun p hp => by
  rcases h with rfl | h
  · exact h0 p hp
  · exact Nat.ne_of_lt (h p hp)
section
variable {prog : Program} {w : World} {A : Around} {h₀ : Heap} {L : Addr} {m : Str → Option Value} {env : Env} {s₁ : Shared} {P1 : Addr} {R : List (Addr × Obj)}
theorem endK_of {I C D K : Addr} {oI oD oK o1 : Obj} {q' : Addr × Obj} {s₁ : Shared} {S : List (Addr × Obj) → Prop} {rest : Value → List (Addr × Obj) → Prop} {y : Value} {h' : Heap} {tk : Nat} {all : List (Addr × Obj)}
    (F : Fr h₀ L h' m) (N : News h₀ L h' all) (sub : ∀ p ∈ (I, oI) :: (C, dictE) :: (D, oD) :: (K, oK) :: (P1, o1) :: q' :: R, p ∈ all)
    (hP : @Ne Nat P1 I ∧ @Ne Nat P1 C ∧ @Ne Nat P1 D ∧ @Ne Nat P1 K) (hq : @Ne Nat q'.1 I ∧ @Ne Nat q'.1 C ∧ @Ne Nat q'.1 D ∧ @Ne Nat q'.1 K) (off : ∀ p ∈ R, p.1 ≠ I ∧ p.1 ≠ C ∧ p.1 ≠ D ∧ p.1 ≠ K)
    (hS : S ((P1, o1) :: q' :: R)) (r : rest y ((P1, o1) :: q' :: R)) : EndK h₀ L m s₁ I oI C D oD K oK S rest y { s₁ with heap := h', toks := tk } := by
  refine ⟨h', tk, (P1, o1) :: q' :: R, rfl, F, cb_drop N sub, fun p hp => ?_, hS, r⟩
  rcases List.mem_cons.mp hp with rfl | hp
  · exact hP
  · rcases List.mem_cons.mp hp with rfl | hp
    · exact hq
    · exact off p hp
theorem CompK.two {α : Type} (relI rel : α → Value → Prop) (items : List α) (K0 : Obj → (Addr × Obj) → Prop) {o1 : Obj} {q : Addr × Obj} {elt : Expr} {x : Str} {scope : Scope} {cl : List (Str × Addr)} {Fin : Shared → List Value → List (Addr × Obj) → Prop} {xv : Value} {n : Nat} {P : Nat → Value → Prop} {S : List (Addr × Obj) → Prop}
    (src : Src prog w A h₀ L xv s₁ n P S ((P1, o1) :: q :: R)) (F : Fr h₀ L s₁.heap m) (N : News h₀ L s₁.heap ((P1, o1) :: q :: R)) (hlen : items.length = n) (hPi : ∀ i v, P i v → i < n → ∃ a, items[i]? = some a ∧ relI a v) (start : K0 o1 q)
    (turn : ∀ g a v ys o1 q I oI C D K oK h tk (E' : Value → Shared → Prop), a ∈ items → relI a v → K0 o1 q → oK.data = .cell (some v) → Fr h₀ L h m → News h₀ L h ((I, oI) :: (C, dictE) :: (D, lst ys) :: (K, oK) :: (P1, o1) :: q :: R) → S ((P1, o1) :: q :: R) →
      (@Ne Nat P1 I ∧ @Ne Nat P1 C ∧ @Ne Nat P1 D ∧ @Ne Nat P1 K) → (@Ne Nat q.1 I ∧ @Ne Nat q.1 C ∧ @Ne Nat q.1 D ∧ @Ne Nat q.1 K) → (∀ p ∈ R, p.1 ≠ I ∧ p.1 ≠ C ∧ p.1 ≠ D ∧ p.1 ≠ K) → (@Ne Nat I C ∧ @Ne Nat I D ∧ @Ne Nat I K ∧ @Ne Nat C D ∧ @Ne Nat C K ∧ @Ne Nat D K) →
      wpAny (model prog w) A (eval elt (compEnvC scope ((x, K) :: cl) C env)) (EndK h₀ L m { { s₁ with heap := g } with heap := h, toks := tk } I oI C D (lst ys) K oK S (fun y news' => ∃ o1' q', news' = (P1, o1') :: q' :: R ∧ K0 o1' q' ∧ rel a y)) E' { { s₁ with heap := g } with heap := h, toks := tk })
    (fin : ∀ g ys o1 q, K0 o1 q → All2 rel items ys → Fin { s₁ with heap := g } ys ((P1, o1) :: q :: R)) : CompK prog w A h₀ L m env [] elt x scope cl Fin xv s₁ := by
  refine ⟨n, P, S, _, fun i ys nw => ∃ o1' q', nw = (P1, o1') :: q' :: R ∧ K0 o1' q' ∧ All2 rel (items.take i) ys, src, F, N, ⟨o1, q, rfl, start, trivial⟩, fun g => ?_, ?_⟩
  · intro i v ys nw I oI C D K oK h tk E' hi hPv hpq1 hS hoK F' N' off ne
    refine hideP ?_
    intro Gq hGq
    obtain ⟨o1', q', rfl, hK, hJ⟩ := hpq1
    refine hGq ?_
    clear hGq Gq
    obtain ⟨a, ha, hr⟩ := hPi i v hPv hi
    rw [List.forIn_nil]
    refine wpAny_pure ?_
    rw [if_pos rfl]
    refine wpAny_mono (turn g a v ys o1' q' I oI C D K oK h tk E' (List.mem_of_getElem? ha) hr hK hoK F' N' hS (off _ (.head _)) (off _ (.tail _ (.head _))) (fun p hp => off p (.tail _ (.tail _ hp))) ne) (fun y s₂ u => ?_) fun _ _ e => e
    refine hideP ?_
    intro Gq hGq
    obtain ⟨h', tk', nw', e1, e2, e3, e4, e5, o1'', q'', rfl, hK', hrel⟩ := u
    refine hGq ?_
    clear hGq Gq
    refine ⟨h', tk', _, e1, e2, e3, e4, e5, o1'', q'', rfl, hK', ?_⟩
    rw [List.take_add_one, ha, Option.toList_some]
    exact hJ.snoc hrel
  · intro g ys nw hpq2
    refine hideP ?_
    intro Gq hGq
    obtain ⟨o1', q', rfl, hK, hJ⟩ := hpq2
    refine hGq ?_
    clear hGq Gq
    rw [← hlen, List.take_length] at hJ
    exact fin g ys o1' q' hK hJ
theorem CompK.codes {α : Type} (relI rel : α → Value → Prop) (items : List α) (Kd : Array Value → (Addr × Obj) → Prop) {ps : Array Value} {q : Addr × Obj} {elt : Expr} {x : Str} {scope : Scope} {cl : List (Str × Addr)} {Fin : Shared → List Value → List (Addr × Obj) → Prop} {xv : Value} {n : Nat} {P : Nat → Value → Prop} {S : List (Addr × Obj) → Prop}
    (src : Src prog w A h₀ L xv s₁ n P S ((P1, tabObj ps) :: q :: R)) (F : Fr h₀ L s₁.heap m) (N : News h₀ L s₁.heap ((P1, tabObj ps) :: q :: R)) (hlen : items.length = n) (hPi : ∀ i v, P i v → i < n → ∃ a, items[i]? = some a ∧ relI a v) (start : Kd ps q) (start2 : ∀ p ∈ R, p.1 ≠ q.1)
    (turn : ∀ g a v ys ps q I oI C D K oK h tk (E' : Value → Shared → Prop), a ∈ items → relI a v → Kd ps q → (∀ p ∈ R, p.1 ≠ q.1) → oK.data = .cell (some v) → Fr h₀ L h m → News h₀ L h ((I, oI) :: (C, dictE) :: (D, lst ys) :: (K, oK) :: (P1, tabObj ps) :: q :: R) → S ((P1, tabObj ps) :: q :: R) →
      (@Ne Nat P1 I ∧ @Ne Nat P1 C ∧ @Ne Nat P1 D ∧ @Ne Nat P1 K) → (@Ne Nat q.1 I ∧ @Ne Nat q.1 C ∧ @Ne Nat q.1 D ∧ @Ne Nat q.1 K) → (∀ p ∈ R, p.1 ≠ I ∧ p.1 ≠ C ∧ p.1 ≠ D ∧ p.1 ≠ K) → (@Ne Nat I C ∧ @Ne Nat I D ∧ @Ne Nat I K ∧ @Ne Nat C D ∧ @Ne Nat C K ∧ @Ne Nat D K) →
      wpAny (model prog w) A (eval elt (compEnvC scope ((x, K) :: cl) C env)) (EndK h₀ L m { { s₁ with heap := g } with heap := h, toks := tk } I oI C D (lst ys) K oK S (fun y news' => ∃ ps' q', news' = (P1, tabObj ps') :: q' :: R ∧ Kd ps' q' ∧ (∀ p ∈ R, p.1 ≠ q'.1) ∧ rel a y)) E' { { s₁ with heap := g } with heap := h, toks := tk })
    (fin : ∀ g ys ps q, Kd ps q → (∀ p ∈ R, p.1 ≠ q.1) → All2 rel items ys → Fin { s₁ with heap := g } ys ((P1, tabObj ps) :: q :: R)) : CompK prog w A h₀ L m env [] elt x scope cl Fin xv s₁ := by
  refine CompK.two relI rel items (fun o q => (∃ ps, o = tabObj ps ∧ Kd ps q) ∧ ∀ p ∈ R, p.1 ≠ q.1) src F N hlen hPi ⟨⟨ps, rfl, start⟩, start2⟩ ?_ ?_
  · intro g a v ys o1 q I oI C D K oK h tk E' ha hr hpq3 hoK F' N' hS hP hq off ne
    refine hideP ?_
    intro Gq hGq
    obtain ⟨⟨ps, rfl, hK⟩, hR⟩ := hpq3
    refine hGq ?_
    clear hGq Gq
    refine wpAny_mono (turn g a v ys ps q I oI C D K oK h tk E' ha hr hK hR hoK F' N' hS hP hq off ne) (fun y s₂ u => ?_) fun _ _ e => e
    refine hideP ?_
    intro Gq hGq
    obtain ⟨h', tk', nw', e1, e2, e3, e4, e5, ps', q', rfl, hK', hR', hrel⟩ := u
    refine hGq ?_
    clear hGq Gq
    exact ⟨h', tk', _, e1, e2, e3, e4, e5, _, q', rfl, ⟨⟨ps', rfl, hK'⟩, hR'⟩, hrel⟩
  · intro g ys o1 q hpq4 hA
    refine hideP ?_
    intro Gq hGq
    obtain ⟨⟨ps, rfl, hK⟩, hR⟩ := hpq4
    refine hGq ?_
    clear hGq Gq
    exact fin g ys ps q hK hR hA
end

end
-- part ReEng
section
open PySem.Sre (M)
open PySem.Builtin.Re
theorem runFor_done {m : M} (h : m.outcome.isSome = true) : ∀ n, m.runFor n = m
  | 0 => rfl
  | n + 1 => by show (if m.outcome.isSome then m else M.runFor n m.step) = m; rw [if_pos h]
theorem runFor_add : ∀ (a b : Nat) (m : M), m.runFor (a + b) = (m.runFor a).runFor b
  | 0, b, m => by rw [Nat.zero_add]; rfl
  | a + 1, b, m => by
    rw [Nat.add_right_comm]
    show (if m.outcome.isSome then m else M.runFor (a + b) m.step) = (if m.outcome.isSome then m else M.runFor a m.step).runFor b
    by_cases h : m.outcome.isSome
    · rw [if_pos h, if_pos h, runFor_done h]
    · rw [if_neg h, if_neg h, runFor_add]
theorem runFor_succ {m : M} (h : m.outcome = none) (n : Nat) : m.runFor (n + 1) = m.step.runFor n := by
  show (if m.outcome.isSome then m else M.runFor n m.step) = _
  rw [h]; rfl
section
variable {MM : Model} {A : Around} {E : Value → Shared → Prop} {s : Shared}
theorem drive_wp {Q : M → Shared → Prop} : ∀ (T : Nat) (m : M) (N : Nat), N ≤ 4 * T → 0 < T → (m.runFor N).outcome.isSome = true → Q (m.runFor N) s → wpAny MM A (reDrive T m) Q E s
  | 0, _, _, _, h, _, _ => absurd h (Nat.lt_irrefl 0)
  | T + 1, m, N, hN, _, ho, hq => by
    show wpAny MM A (if (m.runFor reTurnSteps).outcome.isSome then pure (m.runFor reTurnSteps) else (rule "sre.turn" >>= fun _ => reDrive T (m.runFor reTurnSteps))) Q E s
    show wpAny MM A (if (m.runFor 4).outcome.isSome then pure (m.runFor 4) else (rule "sre.turn" >>= fun _ => reDrive T (m.runFor 4))) Q E s
    by_cases h : (m.runFor 4).outcome.isSome
    · rw [if_pos h]
      refine wpAny_pure ?_
      have e : m.runFor 4 = m.runFor N := by
        rcases Nat.le_total N 4 with l | l
        · obtain ⟨k, hk⟩ := Nat.exists_eq_add_of_le l
          rw [hk, runFor_add, runFor_done ho]
        · obtain ⟨k, hk⟩ := Nat.exists_eq_add_of_le l
          rw [hk, runFor_add, runFor_done h]
      rw [e]; exact hq
    · rw [if_neg h]
      refine wpAny_bind (wpAny_rule ?_)
      have l : 4 < N := by
        rcases Nat.lt_or_ge 4 N with l | l
        · exact l
        · obtain ⟨k, hk⟩ := Nat.exists_eq_add_of_le l
          exact absurd (by rw [hk, runFor_add, runFor_done ho]; exact ho) h
      obtain ⟨k, hk⟩ := Nat.exists_eq_add_of_le (Nat.le_of_lt l)
      have hT : 0 < T := by omega
      rw [hk, runFor_add] at ho hq
      exact drive_wp T (m.runFor 4) k (by omega) hT ho hq
theorem ruleLoop_wp (c : Nat → Bool) (t : Nat → String) {Q : PUnit → Shared → Prop} : ∀ (l : List Nat), Q PUnit.unit s → wpAny MM A (forIn l PUnit.unit fun i (_ : PUnit) => do
      if c i then rule (t i)
      pure (ForInStep.yield PUnit.unit)) Q E s
  | [], h => wpAny_pure h
  | i :: l, h => by
    rw [List.forIn_cons]
    refine wpAny_bind ?_
    by_cases hc : c i
    · rw [if_pos hc]
      refine wpAny_bind (wpAny_rule (wpAny_pure ?_))
      exact ruleLoop_wp c t l h
    · rw [if_neg hc]
      refine wpAny_bind (wpAny_pure (wpAny_pure ?_))
      exact ruleLoop_wp c t l h
theorem runToEnd_wp {Q : Option M → Shared → Prop} (m : M) (N : Nat) (hN : N ≤ 1000) (o : Bool) (ho : (m.runFor N).outcome = some (if o then .matched else .failed)) (hq : Q (if o then some (m.runFor N) else none) s) : wpAny MM A (reRunToEnd m) Q E s := by
  unfold reRunToEnd
  refine wpAny_bind (drive_wp _ m N (Nat.le_trans hN (by decide)) (by decide) (by rw [ho]; rfl) ?_)
  refine wpAny_bind (ruleLoop_wp (fun i => (m.runFor N).seen.has i) (fun i => Sre.names.getD i "") _ ?_)
  rw [ho]
  cases o
  · exact wpAny_pure hq
  · exact wpAny_pure hq
end
def code2 : Array Nat := #[14, 9, 4, 1, 2, 16, 10, 16, 13, 0, 7, 7, 16, 13, 16, 10, 15, 18, 5, 16, 10, 15, 13, 11, 16, 13, 5, 5, 0, 16, 10, 1, 15, 2, 0, 1]
def code1 : Array Nat := #[14, 4, 0, 1, 1, 6, 1, 16, 46, 1]
theorem inSet2 (c : Nat) (h : c ≠ 10) (h2 : c ≠ 13) (seen : Sre.Seen) : ∃ seen', Sre.inSet code2 c code2.size 5 true seen = .ok (false, seen') := by
  have e1 : (c == 10) = false := by simp [h]
  have e2 : (c == 13) = false := by simp [h2]
  have e : Sre.inSet code2 c code2.size 5 true seen = if (c == 10) = true then .ok (true, seen.add 16) else if (c == 13) = true then .ok (true, (seen.add 16).add 16) else .ok (false, ((seen.add 16).add 16).add 0) := rfl
  rw [e, e1, e2]
  exact ⟨_, rfl⟩
theorem admitted2 (m : M) (hc : m.code = code2) (ht : ∀ i, m.text.getD i 0 ≠ 10 ∧ m.text.getD i 0 ≠ 13) : ∀ (f s : Nat) (seen : Sre.Seen), ∃ seen', m.admitted f s seen = .ok (none, seen')
  | 0, _, seen => ⟨seen, rfl⟩
  | f + 1, s, seen => by
    obtain ⟨sn, hs⟩ := inSet2 (m.text.getD s 0) (ht s).1 (ht s).2 seen
    obtain ⟨sn2, h2⟩ := admitted2 m hc ht f (s + 1) sn
    by_cases h : s ≥ m.lim
    · exact ⟨seen, by unfold M.admitted; rw [if_pos h]⟩
    · refine ⟨sn2, ?_⟩
      unfold M.admitted
      rw [if_neg h, hc, hs]
      exact h2
def fr (code text : Array Nat) (pos lim pc : Nat) (must : Bool) (last : Nat) : M :=
  { code, text, lim, start := pos, pc, pos, handed := pos, marks := Array.replicate 0 none, mustAdvance := must, lastStart := last, seen := ({} : Sre.Seen).add 14 }
theorem fs2 (text : Array Nat) (lim start : Nat) (must : Bool) : Sre.forSearch code2 text 0 start lim must = if (decide (start > lim) || decide (lim - start < 1)) = true then (fr code2 text start lim 10 must 0).say false else (fr code2 text start lim 10 must lim).attemptFrom start true := rfl
theorem fs1 (text : Array Nat) (lim start : Nat) (must : Bool) : Sre.forSearch code1 text 0 start lim must = if (decide (start > lim) || decide (lim - start < 1)) = true then (fr code1 text start lim 5 must 0).say false else (fr code1 text start lim 5 must lim).attemptFrom start true := rfl
theorem search2 (text : Array Nat) (lim start : Nat) (must : Bool) (ht : ∀ i, text.getD i 0 ≠ 10 ∧ text.getD i 0 ≠ 13) : ((Sre.forSearch code2 text 0 start lim must).runFor 1).outcome = some .failed := by
  rw [fs2]
  split
  · rfl
  · obtain ⟨sn, h⟩ := admitted2 (fr code2 text start lim 10 must lim) rfl ht (lim + 1 - start) start (({} : Sre.Seen).add 14)
    have e : (fr code2 text start lim 10 must lim).attemptFrom start true = (match M.admitted (fr code2 text start lim 10 must lim) (lim + 1 - start) start (({} : Sre.Seen).add 14) with
      | .ok (some s, seen) => { fr code2 text start lim 10 must lim with mustAdvance := false, seen }.attemptAt s true
      | .ok (none, seen) => { fr code2 text start lim 10 must lim with seen }.say false
      | .error why => (fr code2 text start lim 10 must lim).stick why) := rfl
    rw [e, h]
    rfl
structure AtP (m : M) (tx : Array Nat) (lm p : Nat) (first : Bool) : Prop where
  code : m.code = code1
  text : m.text = tx
  lim : m.lim = lm
  pc : m.pc = 5
  pos : m.pos = p
  start : m.start = p
  ans : m.answer = none
  out : m.outcome = none
  last : m.lastStart = lm
  whole : m.wholeText = false
  om : m.outermost = first
  fs : ∃ f, m.frames = [f] ∧ f.wait = .nextStart ∧ f.pos = p ∧ f.pc = 5 ∧ f.kept.marks.size = 0
  wt : m.weight = 1
theorem attemptFrom1 {m : M} {tx : Array Nat} {lm : Nat} (s : Nat) (first : Bool) (h1 : m.code = code1) (h2 : m.text = tx) (h3 : m.lim = lm) (h4 : m.pc = 5) (h5 : m.answer = none) (h6 : m.outcome = none) (h7 : m.lastStart = lm) (h8 : m.wholeText = false) (h9 : m.frames = []) (h10 : m.weight = 0) :
    AtP (m.attemptFrom s first) tx lm s first ∧ (m.attemptFrom s first).mustAdvance = m.mustAdvance := by
  refine hideP ?_
  intro Gq hGq
  obtain ⟨code, text, lim, start, lastStart, wholeText, mustAdvance, pc, pos, handed, outermost, marks, lastmark, lastindex, loops, inner, frames, weight, answer, seen, outcome⟩ := m
  refine hGq ?_
  clear hGq Gq
  simp only at h1 h2 h3 h4 h5 h6 h7 h8 h9 h10
  subst h1 h2 h3 h4 h5 h6 h7 h8 h9 h10
  exact ⟨⟨rfl, rfl, rfl, rfl, rfl, rfl, rfl, rfl, rfl, rfl, rfl, ⟨_, rfl, rfl, rfl, rfl, rfl⟩, rfl⟩, rfl⟩
theorem step_at {m : M} {tx : Array Nat} {lm p : Nat} {first : Bool} (a : AtP m tx lm p first) :
    m.step = if (p == 0 || tx.getD (p - 1) 0 == 10) = true then { m with seen := (m.seen.add 6).add 44, pc := 7 } else { m with seen := (m.seen.add 6).add 44, answer := some false } := by
  refine hideP ?_
  intro Gq hGq
  obtain ⟨code, text, lim, start, lastStart, wholeText, mustAdvance, pc, pos, handed, outermost, marks, lastmark, lastindex, loops, inner, frames, weight, answer, seen, outcome⟩ := m
  refine hGq ?_
  clear hGq Gq
  refine hideP ?_
  intro Gq hGq
  obtain ⟨h1, h2, h3, h4, h5, h5', h6, h7, h8, h9, h9', _, _⟩ := a
  refine hGq ?_
  clear hGq Gq
  simp only at h1 h2 h3 h4 h5 h5' h6 h7 h8 h9 h9'
  subst h1 h2 h3 h4 h5 h5' h6 h7 h8 h9 h9'
  rfl
theorem step_no {m : M} {tx : Array Nat} {lm p : Nat} {first : Bool} {m' : M} {sn : Sre.Seen} {c : Nat} (a : AtP m tx lm p first) (e : m' = { m with seen := sn, pc := c, answer := some false }) :
    (p < lm → AtP m'.step tx lm (p + 1) false) ∧ (¬ p < lm → m'.step.answer = some false ∧ m'.step.frames = [] ∧ m'.step.outcome = none) := by
  subst e
  refine hideP ?_
  intro Gq hGq
  obtain ⟨code, text, lim, start, lastStart, wholeText, mustAdvance, pc, pos, handed, outermost, marks, lastmark, lastindex, loops, inner, frames, weight, answer, seen, outcome⟩ := m
  refine hGq ?_
  clear hGq Gq
  refine hideP ?_
  intro Gq hGq
  obtain ⟨h1, h2, h3, h4, h5, h5', h6, h7, h8, h9, h9', ⟨f, h10, h11, h12, h13, h14⟩, h15⟩ := a
  refine hGq ?_
  clear hGq Gq
  simp only at h1 h2 h3 h4 h5 h5' h6 h7 h8 h9 h9' h10 h15
  subst h1 h2 h3 h4 h5 h5' h6 h7 h8 h9 h9' h10 h15
  refine hideP ?_
  intro Gq hGq
  obtain ⟨wait, fpc, fpos, fom, fc, fk, fl, fb⟩ := f
  refine hGq ?_
  clear hGq Gq
  simp only at h11 h12 h13 h14
  subst h11 h12 h13
  refine ⟨fun h => ?_, fun h => ?_⟩
  · have e : ∀ (m : M), (if fpos < lastStart then m else m) = m := fun m => by split <;> rfl
    show AtP (if false = true then _ else if fpos < lastStart then M.attemptFrom _ (fpos + 1) false else _) _ _ _ _
    rw [if_neg (by decide), if_pos h]
    exact (attemptFrom1 (fpos + 1) false rfl rfl rfl rfl rfl rfl rfl rfl rfl (by show 1 - (1 + fk.marks.size) = 0; rw [h14])).1
  · have e : ∀ (b : M) (c : M), (if false = true then b else if fpos < lastStart then b else c) = c := fun b c => by rw [if_neg (by decide), if_neg h]
    refine ⟨?_, ?_, ?_⟩
    · show M.answer (if false = true then _ else if fpos < lastStart then M.attemptFrom _ (fpos + 1) false else _) = _
      rw [if_neg (by decide), if_neg h]; rfl
    · show M.frames (if false = true then _ else if fpos < lastStart then M.attemptFrom _ (fpos + 1) false else _) = _
      rw [if_neg (by decide), if_neg h]; rfl
    · show M.outcome (if false = true then _ else if fpos < lastStart then M.attemptFrom _ (fpos + 1) false else _) = _
      rw [if_neg (by decide), if_neg h]; rfl
theorem step_last {m : M} (h : m.answer = some false) (h2 : m.frames = []) (h3 : m.outcome = none) : m.step.outcome = some .failed := by
  refine hideP ?_
  intro Gq hGq
  obtain ⟨code, text, lim, start, lastStart, wholeText, mustAdvance, pc, pos, handed, outermost, marks, lastmark, lastindex, loops, inner, frames, weight, answer, seen, outcome⟩ := m
  refine hGq ?_
  clear hGq Gq
  simp only at h h2 h3
  subst h h2 h3
  rfl
theorem tail1 (tx : Array Nat) (lm : Nat) (ht : ∀ i, tx.getD i 0 ≠ 10) : ∀ (d p : Nat) (m : M) (first : Bool), p + d = lm → 0 < p → AtP m tx lm p first → (m.runFor (2 * d + 3)).outcome = some .failed
  | d, p, m, first, hp, h0, a => by
    have e0 : (p == 0) = false := by simp; omega
    have e1 : (tx.getD (p - 1) 0 == 10) = false := by rw [beq_eq_false_iff_ne]; exact ht _
    have s1 := step_at a
    rw [e0, e1, Bool.or_false, if_neg (by decide)] at s1
    have n := step_no (c := m.pc) a s1
    rw [show 2 * d + 3 = (2 * d + 1 + 1) + 1 from by omega, runFor_succ a.out, runFor_succ (by rw [s1]; exact a.out)]
    cases d with
    | zero =>
      obtain ⟨g1, g2, g3⟩ := n.2 (by omega)
      rw [runFor_succ g3]
      exact step_last g1 g2 g3
    | succ d =>
      exact tail1 tx lm ht d (p + 1) _ false (by omega) (by omega) (n.1 (by omega))
theorem search1_tail (tx : Array Nat) (lm p : Nat) (must : Bool) (ht : ∀ i, tx.getD i 0 ≠ 10) (h0 : 0 < p) (hl : p < lm) : ((Sre.forSearch code1 tx 0 p lm must).runFor (2 * (lm - p) + 3)).outcome = some .failed := by
  rw [fs1, if_neg (by simp; omega)]
  exact tail1 tx lm ht (lm - p) p _ true (by omega) h0 (attemptFrom1 p true rfl rfl rfl rfl rfl rfl rfl rfl rfl rfl).1
theorem step_lit {m m' : M} {tx : Array Nat} {lm p : Nat} {first : Bool} {sn : Sre.Seen} (a : AtP m tx lm p first) (e : m' = { m with seen := sn, pc := 7 }) (hp : p < lm) :
    m'.step = if (tx.getD p 0 == 46) = true then { m with seen := sn.add 16, pc := 9, pos := p + 1 } else { m with seen := sn.add 16, pc := 7, answer := some false } := by
  subst e
  refine hideP ?_
  intro Gq hGq
  obtain ⟨code, text, lim, start, lastStart, wholeText, mustAdvance, pc, pos, handed, outermost, marks, lastmark, lastindex, loops, inner, frames, weight, answer, seen, outcome⟩ := m
  refine hGq ?_
  clear hGq Gq
  refine hideP ?_
  intro Gq hGq
  obtain ⟨h1, h2, h3, h4, h5, h5', h6, h7, h8, h9, h9', _, _⟩ := a
  refine hGq ?_
  clear hGq Gq
  simp only at h1 h2 h3 h4 h5 h5' h6 h7 h8 h9 h9'
  subst h1 h2 h3 h4 h5 h5' h6 h7 h8 h9 h9'
  show (if start ≥ lastStart then _ else (match (Except.ok (text.getD start 0 == 46, sn.add 16) : Except String (Bool × Sre.Seen)) with
    | .error why => M.stick _ why
    | .ok (false, seen) => M.say _ false
    | .ok (true, seen) => _)) = _
  rw [if_neg (by omega)]
  cases text.getD start 0 == 46 <;> rfl
theorem search1_no (tx : Array Nat) (lm : Nat) (ht : ∀ i, tx.getD i 0 ≠ 10) (h0 : 1 < lm) (hd : tx.getD 0 0 ≠ 46) : ((Sre.forSearch code1 tx 0 0 lm false).runFor (3 + (2 * (lm - 1) + 3))).outcome = some .failed := by
  rw [fs1, if_neg (by simp; omega)]
  have a := (attemptFrom1 (m := fr code1 tx 0 lm 5 false lm) (tx := tx) (lm := lm) 0 true rfl rfl rfl rfl rfl rfl rfl rfl rfl rfl).1
  have s1 := step_at a
  rw [show ((0 : Nat) == 0 || tx.getD (0 - 1) 0 == 10) = true from rfl, if_pos rfl] at s1
  have s2 := step_lit a s1 (by omega)
  rw [if_neg (by simpa using hd)] at s2
  have n := (step_no a s2).1 (by omega)
  rw [show 3 + (2 * (lm - 1) + 3) = (2 * (lm - 1) + 3 + 1 + 1) + 1 from by omega, runFor_succ a.out, runFor_succ (by rw [s1]; exact a.out), runFor_succ (by rw [s2]; exact a.out)]
  exact tail1 tx lm ht (lm - 1) 1 _ false (by omega) (by omega) n
theorem search1_yes (tx : Array Nat) (lm : Nat) (h0 : 1 < lm) (hd : tx.getD 0 0 = 46) : ((Sre.forSearch code1 tx 0 0 lm false).runFor 5).outcome = some .matched ∧ ((Sre.forSearch code1 tx 0 0 lm false).runFor 5).start = 0 ∧ ((Sre.forSearch code1 tx 0 0 lm false).runFor 5).handed = 1 := by
  rw [fs1, if_neg (by simp; omega)]
  have a := attemptFrom1 (m := fr code1 tx 0 lm 5 false lm) (tx := tx) (lm := lm) 0 true rfl rfl rfl rfl rfl rfl rfl rfl rfl rfl
  generalize M.attemptFrom (fr code1 tx 0 lm 5 false lm) 0 true = m at a
  obtain ⟨a, am⟩ := a
  have s1 := step_at a
  rw [show ((0 : Nat) == 0 || tx.getD (0 - 1) 0 == 10) = true from rfl, if_pos rfl] at s1
  have s2 := step_lit a s1 (by omega)
  rw [hd, show ((46 : Nat) == 46) = true from rfl, if_pos rfl] at s2
  rw [runFor_succ a.out, runFor_succ (by rw [s1]; exact a.out), s2]
  refine hideP ?_
  intro Gq hGq
  obtain ⟨code, text, lim, start, lastStart, wholeText, mustAdvance, pc, pos, handed, outermost, marks, lastmark, lastindex, loops, inner, frames, weight, answer, seen, outcome⟩ := m
  refine hGq ?_
  clear hGq Gq
  refine hideP ?_
  intro Gq hGq
  obtain ⟨h1, h2, h3, h4, h5, h5', h6, h7, h8, h9, h9', ⟨f, h10, h11, h12, h13, h14⟩, h15⟩ := a
  refine hGq ?_
  clear hGq Gq
  simp only at h1 h2 h3 h4 h5 h5' h6 h7 h8 h9 h9' h10 h15 am
  refine hideP ?_
  intro Gq hGq
  obtain ⟨wait, fpc, fpos, fom, fc, fk, fl, fb⟩ := f
  refine hGq ?_
  clear hGq Gq
  simp only at h11 h12 h13 h14
  subst h1 h2 h3 h4 h6 h7 h8 h9 h9' h10 h11 h12 h13 h15
  subst h5 h5'
  have am : mustAdvance = false := am
  subst am
  exact ⟨rfl, rfl, rfl⟩

end
end
-- part ReSub
section
open PySem.Sre (M)
open PySem.Builtin.Re
theorem plainAttrsP : PlainAttrs "re.Pattern" :=
  ⟨⟨"object.__getattribute__", by rw [typeLookup_type, builtinLookup_eq_fast]; kernel_rfl, by decide +kernel⟩, by rw [typeLookup_type, builtinLookup_eq_fast]; kernel_rfl⟩
theorem slotP : Slot "re.Pattern" "sub" "re.Pattern.sub" :=
  .of (owner := "re.Pattern") (n := "sub") (by rw [typeLookup_type, builtinLookup_eq_fast]; kernel_rfl) (by decide +kernel) (by decide +kernel) (by decide +kernel)
    (by first | exact .inl (by decide +kernel) | exact .inr (by decide +kernel)) (by rw [isSubtype_type]; kernel_rfl)
theorem typeP : typeOf (.builtin "re.Pattern.sub") = pure (.type "method_descriptor") := by show builtinType _ = _; rw [builtinType_eq_fast]; kernel_rfl
theorem entryP : entryFor table "re.Pattern.sub" = some Builtin.«re.Pattern.sub» := entryFor_of_tree (by kernel_rfl)
theorem entryPL : entryFor table "re.Pattern.sub.loop" = some Builtin.«re.Pattern.sub.loop» := entryFor_of_tree (by kernel_rfl)
theorem plainPL : plainId "re.Pattern.sub.loop" = true := by decide +kernel
theorem ownerP : Manifest.owners.lookup (String.ofList ['n', 'r', 'e', 't', 't', 'a', 'P', '.', 'e', 'r'].reverse) = some Manifest.sig_re_Pattern := by kernel_rfl
theorem argsP (a b c : Value) : argsOk "re.Pattern.sub" ⟨[a, b, c], []⟩ := by
  unfold argsOk; rw [signature?_of (id := "re.Pattern.sub") (n := ['b', 'u', 's']) (o := ['n', 'r', 'e', 't', 't', 'a', 'P', '.', 'e', 'r']) (by kernel_rfl) ownerP]; kernel_rfl
theorem strCallP : typeLookup (.type "str") "__call__" = pure none := by rw [typeLookup_type, builtinLookup_eq_fast]; kernel_rfl

structure PatAt (h : Heap) (a : Addr) (code : Array Nat) : Prop where
  ex : ∃ o vs c oc items n, h.get? a = some o ∧ o.cls = .type "re.Pattern" ∧ o.dict = none ∧ o.data = .fields vs ∧ vs.getD 6 .none = .int 0 0 ∧ vs.getD 2 .none = .int 0 0 ∧ vs.getD 5 .none = .ref c ∧ h.get? c = some oc ∧ oc.data = .seq items n ∧ (items.map reRawOf).map Int.toNat = code
theorem PatAt.keep {h h' : Heap} {a : Addr} {code : Array Nat} (P : PatAt h a code) (k : ∀ b o, h.get? b = some o → h'.get? b = some o) : PatAt h' a code := by
  refine hideP ?_
  intro Gq hGq
  obtain ⟨o, vs, c, oc, items, n, h1, h2, h3, h4, h5, h6, h7, h8, h9, h10⟩ := P.ex
  refine hGq ?_
  clear hGq Gq
  exact ⟨o, vs, c, oc, items, n, k _ _ h1, h2, h3, h4, h5, h6, h7, k _ _ h8, h9, h10⟩
section
variable {MM : Model} {A : Around} {E : Value → Shared → Prop} {s : Shared}
theorem whole_wp {a : Addr} {code : Array Nat} {x : Str} {t : Tok} {Q : ReTarget → Shared → Prop} (P : PatAt s.heap a code)
    (h : Q { pattern := .ref a, string := .str x t, code := code, text := x.cps, kind := 0, groups := 0, pos := 0, lim := x.cps.size } s) : wpAny MM A (reWholeTarget (.ref a) (.str x t)) Q E s := by
  refine hideP ?_
  intro Gq hGq
  obtain ⟨o, vs, c, oc, items, n, h1, h2, h3, h4, h5, h6, h7, h8, h9, h10⟩ := P.ex
  refine hGq ?_
  clear hGq Gq
  unfold reWholeTarget
  refine wpAny_bind (wpAny_fieldsOf h1 h4 ?_)
  refine wpAny_bind (wpAny_pure ?_)
  rw [h5]
  refine wpAny_bind (wpAny_pure ?_)
  rw [h7, h6]
  refine wpAny_bind ?_
  unfold reRawItems
  refine wpAny_bind (wpAny_seqItems h8 h9 (wpAny_pure (wpAny_pure ?_)))
  subst h10
  exact h
end
section
variable {prog : Program} {w : World} {A : Around} {s : Shared} {R : Result → Shared → Prop} {h₀ : Heap} {L : Addr} {m : Str → Option Value} {news : List (Addr × Obj)}
theorem litP {MM : Model} {E : Value → Shared → Prop} {r : Str} {tr : Tok} {Q : Unit → Shared → Prop} (h : Q () s) : wpAny MM A (reLiteralCannotBeTurned (.str r tr)) Q E s := by
  unfold reLiteralCannotBeTurned
  refine wpAny_bind (wpAny_pure ?_)
  exact wpAny_pure h
theorem loop_none {a D : Addr} {code : Array Nat} {x r : Str} {t tr : Tok} {n done start : Nat} {must : Bool} {l : List (Str × Tok)} {k : Nat} (N0 : Nat) (hN0 : N0 ≤ 1000) (P : PatAt h₀ a code)
    (F : Fr h₀ L s.heap m) (N : News h₀ L s.heap ((D, listOf (strValues l).toArray k) :: news)) (hne : ∀ p ∈ news, p.1 ≠ D)
    (hs : ((Sre.forSearch code x.cps 0 start x.cps.size must).runFor N0).outcome = some .failed) (hd : done < x.cps.size) (hx : x.length < 200) (hl : ((l.map Prod.fst).map (·.length)).sum + l.length ≤ 1000)
    (h : ∀ h' tk' t' t2, Fr h₀ L h' m → News h₀ L h' ((D, listOf (strValues (l ++ [(⟨x.cps.extract done x.cps.size⟩, t2)])).toArray (k + 1)) :: news) →
      R (.ok (.ret (.str (Txt.join ⟨#[]⟩ ((l ++ [((⟨x.cps.extract done x.cps.size⟩ : Str), t2)]).map Prod.fst)) t'))) { s with heap := h', toks := tk' }) :
    codeAny (model prog w) A (.builtin "re.Pattern.sub.loop" ⟨[.ref a, .str x t, .str r tr, rawInt 0, rawInt 0, rawInt n, rawInt done, rawInt start, .bool must, .ref D, .bool false], []⟩) R s := by
  refine codeAny_builtin entryPL ?_
  rw [Around.under_plainId plainPL _]
  unfold Builtin.«re.Pattern.sub.loop»
  refine wpAny_bind (whole_wp (P.keep F.keep) ?_)
  dsimp only
  rw [if_pos (show ((0 : Int) == 0) = true from rfl)]
  refine wpAny_bind (litP ?_)
  rw [if_neg (show ¬ ((0 : Int) != 0 && decide ((n : Int) ≥ 0)) = true by simp), Int.toNat_natCast, Int.toNat_natCast]
  refine wpAny_bind (runToEnd_wp _ N0 hN0 false hs ?_)
  show wpAny _ _ (if done < x.cps.size then _ else _) _ _ _
  rw [if_pos hd]
  refine wpAny_bind (wpAny_mkStr ?_ (by show (x.cps.extract done x.cps.size).size ≤ _; rw [Array.size_extract, sizeLine_eq]; have : x.cps.size < 200 := hx; omega))
  have zD := N _ (.head _)
  dsimp only at zD
  have hl2 : l.length ≤ 1000 := by omega
  refine wpAny_bind (wpAny_updateSeq zD.1 rfl ?_ (by rw [sizeLine_eq]; simp only [strValues, List.size_toArray, List.length_map]; omega) (by rw [sizeLine_eq]; simp only [Array.size_push, strValues, List.size_toArray, List.length_map]; omega))
  have ho' : (s.heap.update D (Obj.mapSeq fun x_1 => x_1.push (Value.str ⟨x.cps.extract done x.cps.size⟩ s.toks))).get? D = some (listOf (strValues (l ++ [(⟨x.cps.extract done x.cps.size⟩, s.toks)])).toArray (k + 1)) := by
    rw [Heap.get?_update_self _ zD.1 (by rw [mapSeq_push]; rfl), mapSeq_push, List.push_toArray]
    simp [strValues, W.listOf]
  have F2 : Fr h₀ L (s.heap.update D (Obj.mapSeq fun x_1 => x_1.push (Value.str ⟨x.cps.extract done x.cps.size⟩ s.toks))) m := F.change (Heap.SameBut.update ..) zD.2.1 zD.2.2
  have N2 := news_set (pre := []) N (by simp) hne (Heap.SameBut.update ..) ho'
  rw [List.nil_append] at N2
  refine wpAny_bind (wpAny_mkStr ?_ (by show (x.cps.extract 0 0).size ≤ _; rw [Array.size_extract, sizeLine_eq]; omega))
  refine wpAny_bind (wpAny_seqItems ho' rfl ?_)
  have e1 : ((strValues (l ++ [((⟨x.cps.extract done x.cps.size⟩ : Str), s.toks)])).toArray.isEmpty) = false := by
    rw [List.isEmpty_toArray]; simp [strValues]
  have e2 : x.cps.extract 0 0 = #[] := by simp
  rw [e2]
  show wpAny _ _ (if (strValues (l ++ [((⟨x.cps.extract done x.cps.size⟩ : Str), s.toks)])).toArray.isEmpty = true then _ else _) _ _ _
  rw [e1, if_neg (by decide)]
  refine wpAny_bind ?_
  show wpAny _ _ (call (.builtin "str.join") [.str ⟨#[]⟩ _, .ref D]) _ _ _
  refine join_listW (items := (strValues (l ++ [((⟨x.cps.extract done x.cps.size⟩ : Str), s.toks)])).toArray) (ys := (l ++ [((⟨x.cps.extract done x.cps.size⟩ : Str), s.toks)]).map Prod.fst) ⟨_, ho', rfl, _, rfl⟩ ?_ (by decide) ?_ ?_
  · exact strsAre_of_values _
  · rw [List.map_append, List.map_append, List.sum_append, List.length_append, List.length_map]
    have e5 : ((⟨x.cps.extract done x.cps.size⟩ : Str)).length ≤ 200 := by
      show (x.cps.extract done x.cps.size).size ≤ _
      rw [Array.size_extract]
      have : x.cps.size < 200 := hx
      omega
    simp only [List.map_cons, List.map_nil, List.sum_cons, List.sum_nil, List.length_cons, List.length_nil]
    omega
  intro t' k'
  exact wpAny_pure (h _ _ _ _ F2 N2)
theorem runToEnd_wp2 {MM : Model} {E : Value → Shared → Prop} {Q : Option M → Shared → Prop} (m : M) (N : Nat) (hN : N ≤ 1000) (ho : (m.runFor N).outcome = some .matched) (hq : ∀ mm, mm = m.runFor N → Q (some mm) s) : wpAny MM A (reRunToEnd m) Q E s :=
  runToEnd_wp m N hN true ho (hq _ rfl)
theorem loop_some {a D : Addr} {code : Array Nat} {x r : Str} {t tr : Tok} {n : Nat} {must : Bool} (N0 : Nat) (hN0 : N0 ≤ 1000) (P : PatAt h₀ a code)
    (F : Fr h₀ L s.heap m) (N : News h₀ L s.heap ((D, listOf #[] 0) :: news)) (hne : ∀ p ∈ news, p.1 ≠ D)
    (hs : ((Sre.forSearch code x.cps 0 0 x.cps.size must).runFor N0).outcome = some .matched) (h1 : ((Sre.forSearch code x.cps 0 0 x.cps.size must).runFor N0).start = 0) (h2 : ((Sre.forSearch code x.cps 0 0 x.cps.size must).runFor N0).handed = 1)
    (h : ∀ h', Fr h₀ L h' m → News h₀ L h' ((D, listOf (strValues [(r, tr)]).toArray 1) :: news) →
      codeAny (model prog w) A (.builtin "re.Pattern.sub.loop" ⟨[.ref a, .str x t, .str r tr, rawInt 0, rawInt 0, rawInt (n + 1 : Nat), rawInt (1 : Nat), rawInt (1 : Nat), .bool false, .ref D, .bool false], []⟩) R { s with heap := h' }) :
    codeAny (model prog w) A (.builtin "re.Pattern.sub.loop" ⟨[.ref a, .str x t, .str r tr, rawInt 0, rawInt 0, rawInt n, rawInt 0, rawInt 0, .bool must, .ref D, .bool false], []⟩) R s := by
  refine codeAny_builtin entryPL ?_
  rw [Around.under_plainId plainPL _]
  unfold Builtin.«re.Pattern.sub.loop»
  refine wpAny_bind (whole_wp (P.keep F.keep) ?_)
  dsimp only
  rw [if_pos (show ((0 : Int) == 0) = true from rfl)]
  refine wpAny_bind (litP ?_)
  rw [if_neg (show ¬ ((0 : Int) != 0 && decide ((n : Int) ≥ 0)) = true by simp)]
  refine wpAny_bind (runToEnd_wp2 _ N0 hN0 hs fun mm hmm => ?_)
  have h1 : mm.start = 0 := by rw [hmm]; exact h1
  have h2 : mm.handed = 1 := by rw [hmm]; exact h2
  dsimp only
  rw [h1, if_neg (by decide), if_pos (show ((0 : Int) == 0) = true from rfl)]
  refine wpAny_bind (wpAny_pure ?_)
  rw [if_pos (show (Value.str r tr != Value.none) = true from rfl)]
  have zD := N _ (.head _)
  dsimp only at zD
  refine wpAny_bind (wpAny_updateSeq zD.1 rfl ?_ (by decide) (show 1 ≤ sizeLine + 1 by decide))
  have ho' : (s.heap.update D (Obj.mapSeq fun x_1 => x_1.push (Value.str r tr))).get? D = some (listOf (strValues [(r, tr)]).toArray 1) := by
    rw [Heap.get?_update_self _ zD.1 (by rw [mapSeq_push]; rfl), mapSeq_push]; rfl
  have F2 : Fr h₀ L (s.heap.update D (Obj.mapSeq fun x_1 => x_1.push (Value.str r tr))) m := F.change (Heap.SameBut.update ..) zD.2.1 zD.2.2
  have N2 := news_set (pre := []) N (by simp) hne (Heap.SameBut.update ..) ho'
  rw [List.nil_append] at N2
  rw [h2]
  exact wpAny_pure ⟨plainId_quiet plainPL _, h _ F2 N2⟩
end
section
variable {prog : Program} {w : World} {A : Around} {E : Value → Shared → Prop} {s : Shared} {h₀ : Heap} {L : Addr} {m : Str → Option Value} {news : List (Addr × Obj)} {Q : Value → Shared → Prop}
theorem sub_start {a : Addr} {code : Array Nat} {x r : Str} {t tr : Tok} (P : PatAt h₀ a code) (F : Fr h₀ L s.heap m) (N : News h₀ L s.heap news) (hr : r.cps.contains 92 = false)
    (h : ∀ D h', Fr h₀ L h' m → News h₀ L h' ((D, listOf #[] 0) :: news) → (∀ p ∈ news, p.1 ≠ D) →
      codeAny (model prog w) A (.builtin "re.Pattern.sub.loop" ⟨[.ref a, .str x t, .str r tr, rawInt 0, rawInt 0, rawInt (0 : Nat), rawInt 0, rawInt 0, .bool false, .ref D, .bool false], []⟩) (wants Q E) { s with heap := h' }) :
    wpAny (model prog w) A (call (.builtin "re.Pattern.sub") [.ref a, .str r tr, .str x t]) Q E s := by
  have hT : s.TypeIs (.ref a) "re.Pattern" := by
    refine hideP ?_
    intro Gq hGq
    obtain ⟨o, vs, c, oc, items, n, h1, h2, _⟩ := P.ex
    refine hGq ?_
    clear hGq Gq
    exact ⟨o, F.keep _ _ h1, h2⟩
  refine wpAny_call (codeAny_call_builtin slotP.plain entryP (slotP.check _ _ _ _ _ _ _ _ hT (argsP _ _ _) ?_))
  unfold Builtin.«re.Pattern.sub» reSubstitute
  dsimp only
  refine wpAny_bind (wpAny_of_eq (show reNamed "re.Pattern.sub" "sub" ["repl", "string", "count"] 2 [Value.str r tr, Value.str x t] [] = pure [some (Value.str r tr), some (Value.str x t), none] from rfl) ?_)
  dsimp only
  refine wpAny_bind (wpAny_pure ?_)
  refine wpAny_bind (wpAny_specialOf_val (T := "str") rfl strCallP ?_)
  rw [if_neg (show ¬ ((none : Option Value).isSome = true) from Bool.false_ne_true)]
  refine wpAny_bind (wpAny_pure ?_)
  dsimp only
  refine wpAny_bind (wpAny_pure ?_)
  rw [hr, if_neg (show ¬ ((none : Option Value).isSome = true) from Bool.false_ne_true), if_pos (show (!false) = true from rfl)]
  refine wpAny_bind (wpAny_pure ?_)
  refine wpAny_bind (wpAny_holding (whole_wp (P.keep F.keep) ?_))
  dsimp only
  rw [if_neg (show ¬ (((0 : Int) == 1) = true) by decide)]
  refine wpAny_bind (newList_K F N (fun D h' F' N' hD => ?_) (by decide))
  exact wpAny_pure ⟨plainId_quiet plainPL _, h D h' F' N' fun p hp => Nat.ne_of_lt (hD p hp)⟩
theorem txt_ok {x : Str} (h : ∀ c ∈ x.cps, c ≠ 10 ∧ c ≠ 13) (i : Nat) : x.cps.getD i 0 ≠ 10 ∧ x.cps.getD i 0 ≠ 13 := by
  rw [Array.getD_eq_getD_getElem?]
  rcases Nat.lt_or_ge i x.cps.size with l | l
  · rw [Array.getElem?_eq_getElem l]; exact h _ (Array.getElem_mem l)
  · rw [Array.getElem?_eq_none l]; exact ⟨by decide, by decide⟩
theorem join1 (a : Str) (t : Tok) : Txt.join ⟨#[]⟩ (([] ++ [(a, t)]).map Prod.fst) = a := rfl
theorem join2 (a b : Str) (t u : Tok) : Txt.join ⟨#[]⟩ (([(a, t)] ++ [(b, u)]).map Prod.fst) = a ++ b := by
  show (⟨a.cps ++ #[] ++ b.cps⟩ : Str) = ⟨a.cps ++ b.cps⟩
  rw [Array.append_empty]
theorem sub2_wp {a : Addr} {x : Str} {r : Str} {t tr : Tok} (P : PatAt h₀ a code2) (F : Fr h₀ L s.heap m) (N : News h₀ L s.heap news) (hr : r.cps.contains 92 = false) (hx : x.length < 200) (h0 : 0 < x.length) (hc : ∀ c ∈ x.cps, c ≠ 10 ∧ c ≠ 13)
    (h : ∀ h' tk' t', Fr h₀ L h' m → News h₀ L h' news → Q (.str x t') { s with heap := h', toks := tk' }) :
    wpAny (model prog w) A (call (.builtin "re.Pattern.sub") [.ref a, .str r tr, .str x t]) Q E s := by
  refine sub_start P F N hr fun D h' F' N' hne => ?_
  refine loop_none (l := []) (k := 0) (done := 0) (start := 0) 1 (by decide) P F' N' hne (search2 _ _ _ _ (txt_ok hc)) h0 hx (by decide) fun h2 tk2 t2 t3 F2 N2 => ?_
  have e : (⟨x.cps.extract 0 x.cps.size⟩ : Str) = x := by simp
  rw [join1, e]
  exact h _ _ _ F2 fun p hp => N2 p (.tail _ hp)
theorem sub1_wp {a : Addr} {x : Str} {t tr : Tok} (P : PatAt h₀ a code1) (F : Fr h₀ L s.heap m) (N : News h₀ L s.heap news) (hx : x.length < 200) (h0 : 1 < x.length) (hc : ∀ c ∈ x.cps, c ≠ 10 ∧ c ≠ 13)
    (h : ∀ h' tk' t', Fr h₀ L h' m → News h₀ L h' news → Q (.str (if x.cps.getD 0 0 = 46 then Str.ofString "." ++ x else x) t') { s with heap := h', toks := tk' }) :
    wpAny (model prog w) A (call (.builtin "re.Pattern.sub") [.ref a, .str (Str.ofString "..") tr, .str x t]) Q E s := by
  have h0' : 1 < x.cps.size := h0
  have hx' : x.cps.size < 200 := hx
  refine sub_start P F N (by decide +kernel) fun D h' F' N' hne => ?_
  by_cases hd : x.cps.getD 0 0 = 46
  · rw [if_pos hd] at h
    obtain ⟨g1, g2, g3⟩ := search1_yes x.cps x.cps.size h0' hd
    refine loop_some 5 (by decide) P F' N' hne g1 g2 g3 fun h2 F2 N2 => ?_
    refine loop_none (l := [(Str.ofString "..", tr)]) (k := 1) (done := 1) (start := 1) (2 * (x.cps.size - 1) + 3) (by omega) P F2 N2 hne (search1_tail _ _ _ _ (fun i => (txt_ok hc i).1) (by decide) h0') h0' hx (show (2 + 0) + 1 ≤ 1000 by decide) fun h3 tk3 t3 t4 F3 N3 => ?_
    rw [join2]
    have e : Str.ofString ".." ++ (⟨x.cps.extract 1 x.cps.size⟩ : Str) = Str.ofString "." ++ x := by
      obtain ⟨⟨l⟩⟩ := x
      cases l with
      | nil => exact absurd h0 (by decide)
      | cons c r =>
        have hc46 : c = 46 := hd
        subst hc46
        show (⟨#[46, 46] ++ (List.toArray (46 :: r)).extract 1 (List.toArray (46 :: r)).size⟩ : Str) = ⟨#[46] ++ List.toArray (46 :: r)⟩
        simp
    rw [e]
    exact h _ _ _ F3 fun p hp => N3 p (.tail _ hp)
  · rw [if_neg hd] at h
    refine loop_none (l := []) (k := 0) (done := 0) (start := 0) (3 + (2 * (x.cps.size - 1) + 3)) (by omega) P F' N' hne (search1_no _ _ (fun i => (txt_ok hc i).1) h0' hd) (by omega) hx (by decide) fun h2 tk2 t2 t3 F2 N2 => ?_
    have e : (⟨x.cps.extract 0 x.cps.size⟩ : Str) = x := by simp
    rw [join1, e]
    exact h _ _ _ F2 fun p hp => N2 p (.tail _ hp)
theorem methodP {a : Addr} {code : Array Nat} {pl : Sem Bool} {Q : Value × List Value → Shared → Prop} (P : PatAt h₀ a code) (F : Fr h₀ L s.heap m) (h : Q (.builtin "re.Pattern.sub", [.ref a]) s) : wpAny (model prog w) A (getMethod (.ref a) "sub" pl) Q E s := by
  refine hideP ?_
  intro Gq hGq
  obtain ⟨o, vs, c, oc, items, n, h1, h2, h3, _⟩ := P.ex
  refine hGq ?_
  clear hGq Gq
  exact getMethod_builtin ⟨o, F.keep _ _ h1, h2⟩ plainAttrsP slotP typeP (fun b e => by cases e; exact ⟨o, F.keep _ _ h1, h3⟩) h
end

end
-- part FnAttr
section
open PyProof.Rows.LCg (NsObj lst Off3 Off1 CompEnd CompRest FinE FinA SrcAt)
open Builtin Builtin.ObjectAttr
theorem fn_mro : mroOf (.type "function") = pure [.type "function", .type "object"] := by kernel_rfl
theorem fn_sa : Slot "function" "__setattr__" "object.__setattr__" :=
  .of (owner := "object") (n := "__setattr__") (by rw [typeLookup_type, builtinLookup_eq_fast]; kernel_rfl) (by decide +kernel) (by decide +kernel) (by decide +kernel)
    (by first | exact .inl (by decide +kernel) | exact .inr (by decide +kernel)) (by rw [isSubtype_type]; kernel_rfl)
theorem fn_read : typeLookup (.type "function") "read" = pure none := by rw [typeLookup_type, builtinLookup_eq_fast]; kernel_rfl
theorem fn_pass (self : Value) : refuseLoop self "__setattr__" [.type "function", .type "object"] = pure () := by kernel_rfl
section
variable {prog : Program} {w : World} {A : Around} {E : Value → Shared → Prop} {s : Shared} {h₀ : Heap} {L f : Addr} {m : Str → Option Value} {news : List (Addr × Obj)} {of : Obj} {v : Value}
theorem set_fn {Q : Unit → Shared → Prop} (F : Fr h₀ L s.heap m) (N : News h₀ L s.heap ((f, of) :: news)) (hc : of.cls = .type "function") (hd : of.dict = none) (hnc : ∀ c, of.data ≠ .cls c) (hne : ∀ p ∈ news, p.1 ≠ f)
    (h : ∀ D oD h' tk', (∀ p ∈ (f, of) :: news, p.1 < D) → Fr h₀ L h' m → News h₀ L h' ((D, oD) :: (f, { of with dict := some D }) :: news) → NsObj oD (fun y => if y = Str.ofString "read" then some v else none) → Q () { s with heap := h', toks := tk' }) :
    wpAny (model prog w) A (setAttr (.ref f) (Str.ofString "read") v) Q E s := by
  have hx : s.heap.get? f = some of := (N _ (.head _)).1
  have hT : s.TypeIs (.ref f) "function" := ⟨of, hx, hc⟩
  unfold setAttr
  repeat wp_step
  rw [hc, fn_sa.lookup]
  refine wpAny_pure ?_
  simp only [fn_sa.bind]
  refine wpAny_holding (wpAny_bind (wpAny_pure (wpAny_bind ?_)))
  show wpAny _ _ (call (.builtin "object.__setattr__") [.ref f, .str (Str.ofString "read") s.toks, v]) _ _ _
  refine wpAny_call_entry fn_sa (s := { s with toks := s.toks + 1 }) hT PySem.F.entry_object_sa ?_ (by unfold argsOk; kernel_rfl)
  show wpAny _ A.in1 (Builtin.«object.__setattr__» ⟨[.ref f, .str (Str.ofString "read") s.toks, v], []⟩) _ E _
  unfold Builtin.«object.__setattr__»
  repeat (first | rw [refuse_eq] | rw [hc] | rw [fn_mro] | rw [fn_pass] | rw [fn_read] | wp_step)
  rw [hd, if_neg (by simp [typeHasDict]; decide +kernel)]
  split
  · rename_i c hcd
    cases hcd
  split
  · rename_i c hcd
    exact absurd hcd (hnc c)
  have hx₁ : (s.heap.push { cls := .type "dict", data := .dict #[] }).get? f = some of := Heap.get?_push_of_some _ hx
  have hxs : f ≠ s.heap.objs.size := Nat.ne_of_lt (Heap.lt_size hx)
  refine wpAny_bind (wpAny_alloc' ?_)
  refine wpAny_bind (wpAny_update' hx₁ ?_)
  refine wpAny_pure ?_
  have hgd : ((s.heap.push { cls := .type "dict", data := .dict #[] }).update f fun o => { cls := o.cls, dict := some s.heap.objs.size, data := o.data, slots := o.slots }).get? s.heap.objs.size
      = some { cls := .type "dict", data := .dict #[] } :=
    (Heap.get?_update_ne _ _ _ _ hxs.symm).trans (Heap.get?_push_at rfl rfl)
  have hnd : ((s.heap.push { cls := .type "dict", data := .dict #[] }).update f fun o => { cls := o.cls, dict := some s.heap.objs.size, data := o.data, slots := o.slots }).Ns s.heap.objs.size (fun _ => none) :=
    ⟨_, #[], _, hgd, rfl, fun e he => absurd he (by simp), fun _ => rfl⟩
  show wpAny _ _ (storeInDict s.heap.objs.size (.str (Str.ofString "read") s.toks) (Str.ofString "read") v) _ _ _
  unfold storeInDict newKeyGuard
  refine wpAny_bind (wpAny_pure (wpAny_bind (wpAny_nsSet1 (Heap.Ns1.of_empty hnd) fun h' hn' hs => ?_)))
  refine hideP ?_
  intro Gq hGq
  obtain ⟨oD, esD, epD, hoD, hdD, hcD⟩ := hn'.count (Within.cons (Str.ofString "read") v Within.nil)
  refine hGq ?_
  clear hGq Gq
  refine wpAny_bind (wpAny_lookBehind hoD (by rw [hdD]; exact pastItsLine_dict (Nat.le_trans hcD (by rw [List.length_cons, List.length_nil, sizeLine_eq]; omega))) ?_)
  have hx' : h'.get? f = some { cls := of.cls, dict := some s.heap.objs.size, data := of.data, slots := of.slots } := by
    refine (hs.2 f hxs).trans (Heap.get?_update_self _ hx₁ ?_)
    have hfr := (Heap.get?_some_iff.mp hx).2
    refine hideP ?_
    intro Gq hGq
    obtain ⟨oc, od, odt, osl⟩ := of
    refine hGq ?_
    clear hGq Gq
    cases odt <;> first | rfl | exact hfr
  have keepB : ∀ b o, b ≠ f → s.heap.get? b = some o → h'.get? b = some o := fun b o hb e =>
    (hs.2 b (Nat.ne_of_lt (Heap.lt_size e))).trans ((Heap.get?_update_ne _ _ _ _ hb).trans (Heap.get?_push_of_some _ e))
  repeat wp_step
  refine ⟨_, rfl, wpAny_pure (wpAny_pure ?_)⟩
  have zf := N (f, of) (.head _)
  have hD₀ : h₀.get? s.heap.objs.size = none := next_is_new F
  have hDL : s.heap.objs.size ≠ L := Ne.symm (Nat.ne_of_lt F.ns.lt)
  have hn₂ : h'.Ns s.heap.objs.size (fun y => if y = Str.ofString "read" then some v else none) := hn'.ns
  obtain ⟨oD2, e2, hN2⟩ := LCg.ns_obj hn₂
  refine h s.heap.objs.size oD2 h' _ (fun p hp => Heap.lt_size (N p hp).1) ⟨F.ns.at' fun o e => keepB _ o (Ne.symm zf.2.1) e, fun b o e => keepB b o (fun q => by have := zf.2.2; rw [← q, e] at this; cases this) (F.keep b o e), F.above⟩ (fun p hp => ?_) hN2
  rcases List.mem_cons.mp hp with rfl | hp
  · exact ⟨e2, hDL, hD₀⟩
  · rcases List.mem_cons.mp hp with rfl | hp
    · exact ⟨hx', zf.2⟩
    · exact ⟨keepB _ _ (hne p hp) (N p (.tail _ hp)).1, (N p (.tail _ hp)).2⟩
theorem fn_ga : Slot "function" "__getattribute__" "object.__getattribute__" :=
  .of (owner := "object") (n := "__getattribute__") (by rw [typeLookup_type, builtinLookup_eq_fast]; kernel_rfl) (by decide +kernel) (by decide +kernel) (by decide +kernel)
    (by first | exact .inl (by decide +kernel) | exact .inr (by decide +kernel)) (by rw [isSubtype_type]; kernel_rfl)
theorem fn_gattr : typeLookup (.type "function") "__getattr__" = pure none := by rw [typeLookup_type, builtinLookup_eq_fast]; kernel_rfl
theorem ga_entry : entryFor table "object.__getattribute__" = some Builtin.«object.__getattribute__» := entryFor_of_tree (by kernel_rfl)
theorem get_fn {Q : Value × List Value → Shared → Prop} {D : Addr} {oD : Obj} {mD : Str → Option Value} {pl : Sem Bool} {R : Addr} (hx : s.heap.get? f = some of) (hc : of.cls = .type "function") (hd : of.dict = some D) (hnc : ∀ c, of.data ≠ .cls c) (hD : s.heap.get? D = some oD) (hN : NsObj oD mD) (hv : mD (Str.ofString "read") = some (.ref R))
    (h : Q (.ref R, []) { s with toks := s.toks + 1 }) : wpAny (model prog w) A (getMethod (.ref f) (Str.ofString "read") pl) Q E s := by
  have hns : s.heap.Ns D mD := hN.ns hD
  have hT : s.TypeIs (.ref f) "function" := ⟨of, hx, hc⟩
  unfold getMethod
  refine wpAny_bind (wpAny_specialOf hT fn_ga.lookup ?_)
  show wpAny (model prog w) A (if (Manifest.canonical "object.__getattribute__" != "object.__getattribute__") = true then _ else _) Q E s
  rw [PySem.F.canon_object_ga, if_neg Bool.false_ne_true]
  refine wpAny_bind (wpAny_specialOf hT fn_gattr ?_)
  show wpAny (model prog w) A (if false = true then _ else _) Q E s
  rw [if_neg Bool.false_ne_true]
  refine wpAny_bind (wpAny_specialOf hT fn_read ?_)
  refine wpAny_bind ?_
  unfold getAttr
  refine wpAny_bind ?_
  repeat wp_step
  rw [hc, fn_ga.lookup]
  refine wpAny_pure ?_
  show wpAny _ _ (getAttrByItsOwn (.ref f) (.str (Str.ofString "read") s.toks) (.type "function") (.builtin "object.__getattribute__") true false) _ _ _
  unfold getAttrByItsOwn hookBefore callGetattribute boundAndCalled
  refine wpAny_bind (wpAny_of_eq (show (if onTheHeap (.type "function") then typeLookup (.type "function") "__getattr__" else pure none) = pure none from rfl) ?_)
  refine wpAny_bind (wpAny_attempt (wpAny_holding ?_))
  show wpAny _ _ (bindSpecial (.builtin "object.__getattribute__") (.ref f) >>= _) _ _ _
  refine wpAny_bind (wpAny_of_eq (fn_ga.bind _) ?_)
  show wpAny _ _ (call (.builtin "object.__getattribute__") [.ref f, .str (Str.ofString "read") s.toks]) _ _ _
  refine wpAny_call_entry fn_ga (s := { s with toks := s.toks + 1 }) hT ga_entry ?_ (by unfold argsOk; kernel_rfl)
  show wpAny _ A.in1 (Builtin.«object.__getattribute__» ⟨[.ref f, .str (Str.ofString "read") s.toks], []⟩) _ _ _
  unfold Builtin.«object.__getattribute__» find ownThenClass inOwnDict ObjectAttr.ownDict
  repeat (first | rw [hc] | rw [fn_read] | wp_step)
  split
  · rename_i c hcd
    exact absurd hcd (hnc c)
  unfold instanceDict
  repeat (first | (with_reducible refine wpAny_loadPart_at hx ?_; rw [hc]) | wp_step)
  rw [hd]
  refine wpAny_pure ?_
  unfold inDict
  show wpAny _ _ (nsGet D (Str.ofString "read")) _ _ _
  refine wpAny_nsGet (s := { s with toks := s.toks + 1 }) hns ?_
  rw [hv]
  repeat wp_step
  refine ⟨_, rfl, ?_⟩
  show wpAny _ _ (pure (Value.ref R)) _ _ _
  exact wpAny_pure (wpAny_pure h)
end

end
-- part CallIter
section
open Builtin
section
variable {M : Model} {A : Around} {E : Value → Shared → Prop} {s : Shared}
theorem wpAny_callBorrowed {f : Value} {pos : List Value} {Q : Value → Shared → Prop}
    (hc : codeAny M A (.call f ⟨pos, []⟩) (fun r s' => match r with | .ok (.ret v) => Q v s' | .ok _ => False | .error e => E e s') s) :
    wpAny M A (callBorrowed f pos) Q E s := fun Γ p hΓ => by
  unfold callBorrowed
  rw [Sem.wp_call]
  refine wpCode_mono (fun r s' hr => ?_) (hc _ p rfl (hΓ.enter _ none p (by intro x; cases x)))
  cases r with
  | error e => exact hr
  | ok f => cases f <;> first | exact hr | exact hr.elim
theorem wpAny_borrows {q f : Addr} {self : Value} {of : Obj} {Q : Bool → Shared → Prop} (hq : s.heap.get? q = some (methodObj (.ref f) self)) (hf : s.heap.get? f = some of) (hfd : ∃ fd, of.data = .func fd) (h : Q true s) :
    wpAny M A (borrowsExactly (.ref q)) Q E s := by
  obtain ⟨fd, hfd⟩ := hfd
  unfold borrowsExactly
  refine wpAny_bind (wpAny_load hq ?_)
  show wpAny M A (if (Value.type "method" == Value.type "method") = true then _ else _) Q E s
  rw [if_pos (by rfl)]
  refine wpAny_bind (wpAny_load hf ?_)
  rw [hfd]
  exact wpAny_pure h
end
abbrev callIt (q : Addr) (t : Tok) : Obj := { cls := .type "callable_iterator", data := .fields #[.ref q, .str (Str.ofString "") t, .bool false] }
theorem slot_ci : Slot "callable_iterator" "__next__" "callable_iterator.__next__" :=
  .of (owner := "callable_iterator") (n := "__next__") (by rw [typeLookup_type, builtinLookup_eq_fast]; kernel_rfl) (by decide +kernel) (by decide +kernel) (by decide +kernel)
    (by first | exact .inl (by decide +kernel) | exact .inr (by decide +kernel)) (by rw [isSubtype_type]; kernel_rfl)
theorem entry_ci : entryFor table "callable_iterator.__next__" = some Builtin.«callable_iterator.__next__» := entryFor_of_tree (by kernel_rfl)
theorem args_ci (a : Value) : argsOk "callable_iterator.__next__" ⟨[a], []⟩ := by unfold argsOk; kernel_rfl
section
variable {prog : Program} {w : World} {A : Around} {E : Value → Shared → Prop} {s : Shared}
theorem next_ci {I q f : Addr} {self : Value} {t : Tok} {of : Obj} {Q : Option Value → Shared → Prop} (hh : A.handled = none) (hI : s.heap.get? I = some (callIt q t)) (hq : s.heap.get? q = some (methodObj (.ref f) self)) (hf : s.heap.get? f = some of) (hfd : ∃ fd, of.data = .func fd)
    (hcall : codeAny (model prog w) A.in1 (.call (.ref f) ⟨[self], []⟩) (fun r s₁ => match r with
      | .ok (.ret v) => ∃ c u, v = .str c u ∧ s₁.heap.get? I = some (callIt q t) ∧ s₁.heap.get? q = some (methodObj (.ref f) self) ∧ s₁.heap.get? f = some of ∧
        (if c = Str.ofString "" then ∀ h', Heap.ExtBut I s₁.heap h' → Q none { s₁ with heap := h' } else Q (some v) s₁)
      | .ok _ => False
      | .error _ => False) s) :
    wpAny (model prog w) A (pyNext (.ref I)) Q E s := by
  have hT : s.TypeIs (.ref I) "callable_iterator" := ⟨_, hI, rfl⟩
  unfold pyNext
  refine wpAny_bind (wpAny_attempt (wpAny_callSpecial?_slot (name := Str.ofString "__next__") hT slot_ci
    (wpAny_call_entry slot_ci hT entry_ci ?_ (args_ci _))))
  show wpAny _ _ (field (.ref I) 2 >>= _) _ _ s
  refine wpAny_bind (wpAny_field hI rfl (x := .bool false) rfl ?_)
  show wpAny _ _ (if (Value.bool false == Value.bool true) = true then _ else _) _ _ s
  rw [if_neg (show ¬ ((Value.bool false == Value.bool true) = true) from Bool.false_ne_true)]
  show wpAny _ _ (field (.ref I) 0 >>= _) _ _ s
  refine wpAny_bind (wpAny_field hI rfl (x := .ref q) rfl ?_)
  refine wpAny_bind (wpAny_attempt ?_)
  unfold callOutOfASlot
  refine wpAny_bind (wpAny_borrows hq hf hfd ?_)
  rw [if_pos rfl]
  refine wpAny_callBorrowed (method_call hq ?_)
  refine codeAny_mono hcall fun r s₁ hr => ?_
  cases r with
  | error e => exact hr.elim
  | ok fl =>
    cases fl with
    | ret v =>
      refine hideP ?_
      intro Gq hGq
      obtain ⟨c, u, rfl, hI₁, hq₁, hf₁, hQ⟩ := hr
      refine hGq ?_
      clear hGq Gq
      dsimp only
      refine wpAny_bind (wpAny_field hI₁ rfl (x := .bool false) rfl ?_)
      show wpAny _ _ (if (Value.bool false == Value.bool true) = true then _ else _) _ _ _
      rw [if_neg (show ¬ ((Value.bool false == Value.bool true) = true) from Bool.false_ne_true)]
      refine wpAny_bind (wpAny_field hI₁ rfl (x := .str (Str.ofString "") t) rfl ?_)
      refine wpAny_bind (wpAny_holding (wpAny_eqBool_str ?_))
      by_cases hc : c = Str.ofString ""
      · rw [if_pos hc] at hQ
        subst hc
        rw [decide_eq_true rfl]
        show wpAny _ _ (if (!true) = true then _ else _) _ _ _
        rw [if_neg (by decide)]
        refine wpAny_bind (wpAny_rule ?_)
        refine wpAny_bind (wpAny_bind (wpAny_field hI₁ rfl (x := .ref q) rfl ?_))
        refine wpAny_bind ?_
        unfold slotLetsGo
        dsimp only
        refine wpAny_bind (wpAny_borrows hq₁ hf₁ hfd ?_)
        rw [if_pos rfl]
        refine wpAny_pure ?_
        refine wpAny_bind (wpAny_setField_rec hI₁ (by simp) fun ha hIa sa => ?_)
        refine wpAny_bind (wpAny_setField_rec (s := { s₁ with heap := ha }) hIa (by simp) fun hb hIb sb => ?_)
        refine wpAny_setField_rec (s := { s₁ with heap := hb }) hIb (by simp) fun hc hIc sc => ?_
        show wpAny _ _ (newExc (.type "StopIteration") [] >>= _) _ _ _
        refine wpAny_bind ?_
        simp only [newExc, newTuple]
        refine wpAny_bind (wpAny_newObj_type ?_ (by size_fits))
        refine wpAny_bind (m := firstArgMember _ _) (wpAny_of_eq (a := Value.none) (by first | rfl | (simp only [firstArgMember]; rfl)) ?_)
        refine wpAny_newObj_type ?_ (by size_fits)
        simp only [raiseNew]
        refine wpAny_bind (wpAny_handled ?_)
        rw [show A.in1.handled = none from hh]
        refine wpAny_bind (wpAny_pure (wpAny_throw ?_))
        refine wpAny_bind (wpAny_isInstance (T := "StopIteration") (b := true) ⟨_, Heap.get?_push_size _ rfl, rfl⟩ isSubtype_stop ?_)
        exact wpAny_pure (hQ _ ((Heap.ExtBut.push (Heap.ExtBut.push (fun b o hb' e => sc.extBut b o hb' (sb.extBut b o hb' (sa.extBut b o hb' e))) _) _)))
      · rw [if_neg hc] at hQ
        rw [decide_eq_false (fun e => hc e.symm)]
        show wpAny _ _ (if (!false) = true then _ else _) _ _ _
        rw [if_pos (by decide)]
        exact wpAny_pure ⟨_, rfl, wpAny_pure hQ⟩
    | _ => exact hr.elim
theorem call_fact : typeLookup (.type "method") "__call__" = pure (some (.builtin "method.__call__")) := by rw [typeLookup_type, builtinLookup_eq_fast]; kernel_rfl
theorem entry_iter : entryFor table "iter" = some Builtin.«iter» := entryFor_of_tree (by kernel_rfl)
theorem iter2_call {h₀ : Heap} {L q : Addr} {m : Str → Option Value} {news : List (Addr × Obj)} {fv self : Value} {t : Tok} {Q : Value → Shared → Prop} (F : Fr h₀ L s.heap m) (N : News h₀ L s.heap news) (hq : (q, methodObj fv self) ∈ news)
    (h : ∀ I h', (∀ p ∈ news, p.1 < I) → Fr h₀ L h' m → News h₀ L h' ((I, callIt q t) :: news) → Q (.ref I) { s with heap := h' }) :
    wpAny (model prog w) A (call (.builtin "iter") [.ref q, .str (Str.ofString "") t]) Q E s := by
  have hx := (N _ hq).1
  have hT : s.TypeIs (.ref q) "method" := ⟨_, hx, rfl⟩
  refine kmk_tree (by decide +kernel) (by decide +kernel) entry_iter (by unfold argsOk; kernel_rfl) ?_
  show wpAny _ A.in1 (specialOf (.ref q) "__call__" >>= _) _ _ s
  refine wpAny_bind (wpAny_specialOf hT call_fact ?_)
  show wpAny _ _ (if false = true then _ else _) _ _ _
  rw [if_neg Bool.false_ne_true]
  refine wpAny_bind (wpAny_rule (wpAny_bind ?_))
  unfold newFields
  refine wpAny_newObj_type ?_ (by size_fits)
  refine wpAny_pure ?_
  have hL₀ := next_is_new F
  refine h _ _ (fun p hp => Heap.lt_size (N p hp).1) (F.push _) fun p hp => ?_
  rcases List.mem_cons.mp hp with rfl | hp
  · exact ⟨Heap.get?_push_size _ rfl, Ne.symm (Nat.ne_of_lt F.ns.lt), hL₀⟩
  · exact ⟨Heap.get?_push_of_some _ (N p hp).1, (N p hp).2⟩
end

end
-- part ForCI
section
open Builtin
theorem slot_cii : Slot "callable_iterator" "__iter__" "callable_iterator.__iter__" :=
  .of (owner := "callable_iterator") (n := "__iter__") (by rw [typeLookup_type, builtinLookup_eq_fast]; kernel_rfl) (by decide +kernel) (by decide +kernel) (by decide +kernel)
    (by first | exact .inl (by decide +kernel) | exact .inr (by decide +kernel)) (by rw [isSubtype_type]; kernel_rfl)
theorem entry_cii : entryFor table "callable_iterator.__iter__" = some Builtin.«dict_keyiterator.__iter__» :=
  entryFor_alias (id' := "dict_keyiterator.__iter__") (by kernel_rfl) rfl (by decide +kernel) (by kernel_rfl)
theorem args_cii (a : Value) : argsOk "callable_iterator.__iter__" ⟨[a], []⟩ := by unfold argsOk; kernel_rfl
section
variable {prog : Program} {w : World} {A : Around} {E : Value → Shared → Prop} {s : Shared}
theorem iter_ci {I q : Addr} {t : Tok} {Q : Value → Shared → Prop} (hI : s.heap.get? I = some (callIt q t)) (h : Q (.ref I) s) : wpAny (model prog w) A (pyIter (.ref I)) Q E s := by
  have hT : s.TypeIs (.ref I) "callable_iterator" := ⟨_, hI, rfl⟩
  refine wpAny_pyIter_slot hT slot_cii (wpAny_call_entry slot_cii hT entry_cii ?_ (args_cii _))
  show wpAny _ _ (ret (.ref I)) _ _ s
  exact wpAny_pure ⟨_, rfl, "callable_iterator", _, hT, slot_ci.lookup, h⟩
abbrev TurnOut (Next : Shared → Prop) (Q : Flow → Shared → Prop) (fl : Flow) (s₃ : Shared) : Prop := match fl with
  | .next | .cont => Next s₃
  | .brk => Q .next s₃
  | .ret v => Q (.ret v) s₃
inductive ReadEnd (prog : Program) (w : World) (A : Around) (E : Value → Shared → Prop) (h₀ : Heap) (env : Env) (x : Str) (body : List Stmt) (I q f : Addr) (t : Tok) (self : Value) (of : Obj) (Q : Flow → Shared → Prop) (s : Shared) (m : Str → Option Value) (Next : Shared → Prop) : Result → Shared → Prop
  | mk (c : Str) (u : Tok) (news' : List (Addr × Obj)) (h' : Heap) (tk' : Nat) (F : Fr h₀ env.locals h' m) (N : News h₀ env.locals h' ((I, callIt q t) :: news')) (hq : h'.get? q = some (methodObj (.ref f) self)) (hf : h'.get? f = some of) (ne : ∀ p ∈ news', p.1 ≠ I)
    (hQ : if c = Str.ofString "" then ∀ h₂ tk₂, Fr h₀ env.locals h₂ m → News h₀ env.locals h₂ news' → Q .next { s with heap := h₂, toks := tk₂ }
      else ∀ h₂ tk₂, Fr h₀ env.locals h₂ (fun y => if y = x then some (.str c u) else m y) → News h₀ env.locals h₂ ((I, callIt q t) :: news') → wpAny (model prog w) A (execs body env) (TurnOut Next Q) E { s with heap := h₂, toks := tk₂ }) :
    ReadEnd prog w A E h₀ env x body I q f t self of Q s m Next (.ok (.ret (.str c u))) { s with heap := h', toks := tk' }
theorem TurnOut.mono {N N' : Shared → Prop} {Q : Flow → Shared → Prop} {fl : Flow} {s : Shared} (h : TurnOut N Q fl s) (k : ∀ s, N s → N' s) : TurnOut N' Q fl s := by
  cases fl with
  | next => exact k _ h
  | cont => exact k _ h
  | brk => exact h
  | ret v => exact h
theorem ReadEnd.mono {env : Env} {h₀ : Heap} {x : Str} {body : List Stmt} {I q f : Addr} {t : Tok} {self : Value} {of : Obj} {Q : Flow → Shared → Prop} {m : Str → Option Value} {N N' : Shared → Prop} {r : Result} {s₁ : Shared}
    (h : ReadEnd prog w A E h₀ env x body I q f t self of Q s m N r s₁) (k : ∀ s, N s → N' s) : ReadEnd prog w A E h₀ env x body I q f t self of Q s m N' r s₁ := by
  induction h with | mk c u news' h' tk' F N hq hf ne hQ => ?_
  refine .mk c u news' h' tk' F N hq hf ne ?_
  by_cases hc : c = Str.ofString ""
  · rw [if_pos hc] at hQ ⊢; exact hQ
  · rw [if_neg hc] at hQ ⊢
    exact fun h₂ tk₂ F₂ N₂ => wpAny_mono (hQ h₂ tk₂ F₂ N₂) (fun _ _ e => e.mono k) fun _ _ e => e
inductive CInv (h₀ : Heap) (L I q : Addr) (t : Tok) (J : Nat → (Str → Option Value) → List (Addr × Obj) → Prop) (s : Shared) (k : Nat) : Shared → Prop
  | mk (m : Str → Option Value) (news : List (Addr × Obj)) (h' : Heap) (tk' : Nat) (F : Fr h₀ L h' m) (N : News h₀ L h' ((I, callIt q t) :: news)) (hJ : J k m news) : CInv h₀ L I q t J s k { s with heap := h', toks := tk' }
theorem forCI {env : Env} {h₀ : Heap} {L : Addr} {x : Str} {px pos : Pos} {iter : Expr} {body : List Stmt} {Q : Flow → Shared → Prop} {m : Str → Option Value} {news : List (Addr × Obj)} {I q f : Addr} {t : Tok} {self : Value} {of : Obj} {k : Nat} (J : Nat → (Str → Option Value) → List (Addr × Obj) → Prop)
    (hh : A.handled = none) (F : Fr h₀ L s.heap m) (hLe : env.locals = L) (N : News h₀ L s.heap ((I, callIt q t) :: news)) (hfd : ∃ fd, of.data = .func fd)
    (hiter : wpAny (model prog w) A (eval iter env) (fun xv s₁ => xv = .ref I ∧ s₁ = s) E s) (J0 : J k m news)
    (loop : ∀ k m news h tk, J k m news → Fr h₀ env.locals h m → News h₀ env.locals h ((I, callIt q t) :: news) → h.get? q = some (methodObj (.ref f) self) ∧ h.get? f = some of ∧ (∀ p ∈ news, p.1 ≠ I) ∧
      codeAny (model prog w) A.in1 (.call (.ref f) ⟨[self], []⟩) (ReadEnd prog w A E h₀ env x body I q f t self of Q s m (fun s₃ => ∃ k', k' < k ∧ CInv h₀ env.locals I q t J s k' s₃)) { s with heap := h, toks := tk })
    (hx : env.kindOf x = some .local) (hp : (env.scope.kind == .class || (env.scope.kind == .module && env.locals != env.globals)) = false)
    (hs : ∀ x, foldedSetIterable iter env x = pure x) (hE : PassesOwn (model prog w) A env E) :
    wpAny (model prog w) A (exec (.For (.Name x px) iter body [] pos) env) Q E s := by
  subst hLe
  refine wpAny_For (wpAny_mono hiter (fun xv s₁ h₁ => ?_) fun _ _ e => e) hs
  obtain ⟨rfl, rfl⟩ := h₁
  refine iter_ci (N _ (.head _)).1 ?_
  refine codeAny_forLoop (CInv h₀ env.locals I q t J s₁) ?_ k (.mk m news s₁.heap s₁.toks F N J0)
  intro k s' hq1
  induction hq1 with | mk m news h' tk' F' N' hJ => ?_
  have hl := loop k m news h' tk' hJ F' N'
  refine next_ci hh (N' _ (.head _)).1 hl.1 hl.2.1 hfd (codeAny_mono hl.2.2.2 fun r s₂ hr => ?_)
  induction hr with | mk c u news' h₂ tk₂ F₂ N₂ hq₂ hf₂ hne₂ hQ => ?_
  have zI := N₂ (I, callIt q t) (.head _)
  refine ⟨c, u, rfl, zI.1, hq₂, hf₂, ?_⟩
  by_cases hc : c = Str.ofString ""
  · rw [if_pos hc] at hQ ⊢
    intro h₃ hx₃
    exact wpAny_execs_nil (hQ h₃ tk₂ ⟨F₂.ns.at' fun o e => hx₃ _ o (Ne.symm zI.2.1) e, fun b o e => hx₃ b o (fun z => by have := zI.2.2; rw [← z, e] at this; cases this) (F₂.keep b o e), F₂.above⟩ fun p hp => ⟨hx₃ _ _ (hne₂ p hp) (N₂ p (.tail _ hp)).1, (N₂ p (.tail _ hp)).2⟩)
  · rw [if_neg hc] at hQ ⊢
    refine wpAny_assign_Name (wpAny_storeName_local hx F₂.ns (fun h₃ hn₃ hs₃ => ?_) hp)
    have hL₀ : h₀.get? env.locals = none := Heap.get?_none_of_le F₂.above
    refine wpAny_passesOwn hE (wpAny_mono (hQ h₃ _ ⟨hn₃, fun b o e => hs₃.extBut b o (fun q => by rw [q, hL₀] at e; cases e) (F₂.keep b o e), F₂.above⟩ fun p hp => ⟨hs₃.extBut _ _ (N₂ p hp).2.1 (N₂ p hp).1, (N₂ p hp).2⟩) (fun fl s₃ h₃ => ?_) fun _ _ e => e)
    cases fl with
    | next => exact h₃
    | cont => exact h₃
    | brk => exact h₃
    | ret v => exact h₃
theorem forCI_once {env : Env} {h₀ : Heap} {L : Addr} {x : Str} {px pos : Pos} {iter : Expr} {body : List Stmt} {Q : Flow → Shared → Prop} {m : Str → Option Value} {news : List (Addr × Obj)} {I q f : Addr} {t : Tok} {self : Value} {of : Obj}
    (hh : A.handled = none) (F : Fr h₀ L s.heap m) (hLe : env.locals = L) (N : News h₀ L s.heap ((I, callIt q t) :: news)) (hfd : ∃ fd, of.data = .func fd)
    (hiter : wpAny (model prog w) A (eval iter env) (fun xv s₁ => xv = .ref I ∧ s₁ = s) E s) (hne : ∀ p ∈ news, p.1 ≠ I)
    (turn : ∀ h tk, Fr h₀ env.locals h m → News h₀ env.locals h ((I, callIt q t) :: news) → h.get? q = some (methodObj (.ref f) self) ∧ h.get? f = some of ∧
      codeAny (model prog w) A.in1 (.call (.ref f) ⟨[self], []⟩) (ReadEnd prog w A E h₀ env x body I q f t self of Q s m (fun _ => False)) { s with heap := h, toks := tk })
    (hx : env.kindOf x = some .local) (hp : (env.scope.kind == .class || (env.scope.kind == .module && env.locals != env.globals)) = false)
    (hs : ∀ x, foldedSetIterable iter env x = pure x) (hE : PassesOwn (model prog w) A env E) :
    wpAny (model prog w) A (exec (.For (.Name x px) iter body [] pos) env) Q E s :=
  forCI (self := self) (f := f) (k := 0) (fun _ m' n' => m' = m ∧ n' = news) hh F hLe N hfd hiter ⟨rfl, rfl⟩ (fun k m' news' h tk hJ => by
    obtain ⟨rfl, rfl⟩ := hJ
    exact fun F' N' => ⟨(turn h tk F' N').1, (turn h tk F' N').2.1, hne, codeAny_mono (turn h tk F' N').2.2 fun _ _ hr => hr.mono fun _ e => e.elim⟩) hx hp hs hE
inductive NextT (h₀ : Heap) (L I q : Addr) (t : Tok) (x y : Str) (m : Str → Option Value) (T : Nat → Value → Prop) (R : Nat → List (Addr × Obj) → Prop) (k : Nat) (s : Shared) : Shared → Prop
  | mk (k' : Nat) (v' : Value) (news'' : List (Addr × Obj)) (h' : Heap) (tk' : Nat) (m' : Str → Option Value) (hk : k' < k) (F : Fr h₀ L h' m') (hm : ∀ z, z ≠ x → z ≠ y → m' z = m z) (hy : m' y = some v') (N : News h₀ L h' ((I, callIt q t) :: news'')) (hT : T k' v') (hR : R k' news'') :
    NextT h₀ L I q t x y m T R k s { s with heap := h', toks := tk' }
theorem forCI_two {env : Env} {h₀ : Heap} {L : Addr} {x y : Str} {px pos : Pos} {iter : Expr} {body : List Stmt} {Q : Flow → Shared → Prop} {m : Str → Option Value} {news : List (Addr × Obj)} {I q f : Addr} {t : Tok} {self v₀ : Value} {of : Obj} {k₀ : Nat}
    (T : Nat → Value → Prop) (R : Nat → List (Addr × Obj) → Prop)
    (hh : A.handled = none) (F : Fr h₀ L s.heap m) (hLe : env.locals = L) (N : News h₀ L s.heap ((I, callIt q t) :: news)) (hfd : ∃ fd, of.data = .func fd)
    (hiter : wpAny (model prog w) A (eval iter env) (fun xv s₁ => xv = .ref I ∧ s₁ = s) E s) (hv : m y = some v₀) (hT : T k₀ v₀) (hR : R k₀ news)
    (turn : ∀ k c v news h tk, T k v → R k news → Fr h₀ env.locals h (fun z => if z = x then c else if z = y then some v else m z) → News h₀ env.locals h ((I, callIt q t) :: news) →
      h.get? q = some (methodObj (.ref f) self) ∧ h.get? f = some of ∧ (∀ p ∈ news, p.1 ≠ I) ∧
      codeAny (model prog w) A.in1 (.call (.ref f) ⟨[self], []⟩) (ReadEnd prog w A E h₀ env x body I q f t self of Q s (fun z => if z = x then c else if z = y then some v else m z) (NextT h₀ env.locals I q t x y m T R k s)) { s with heap := h, toks := tk })
    (hx : env.kindOf x = some .local) (hp : (env.scope.kind == .class || (env.scope.kind == .module && env.locals != env.globals)) = false)
    (hs : ∀ x, foldedSetIterable iter env x = pure x) (hE : PassesOwn (model prog w) A env E) :
    wpAny (model prog w) A (exec (.For (.Name x px) iter body [] pos) env) Q E s := by
  have key : ∀ (m' : Str → Option Value) v', (∀ z, z ≠ x → z ≠ y → m' z = m z) → m' y = some v' → m' = fun z => if z = x then m' x else if z = y then some v' else m z := by
    intro m' v' h1 h2
    funext z
    by_cases hz : z = x
    · rw [if_pos hz, hz]
    · rw [if_neg hz]
      by_cases hz2 : z = y
      · rw [if_pos hz2, hz2, h2]
      · rw [if_neg hz2, h1 z hz hz2]
  refine forCI (self := self) (f := f) (k := k₀) (fun k m' n' => ∃ c v, m' = (fun z => if z = x then c else if z = y then some v else m z) ∧ T k v ∧ R k n') hh F hLe N hfd hiter ⟨m x, v₀, key m v₀ (fun _ _ _ => rfl) hv, hT, hR⟩ ?_ hx hp hs hE
  intro k m' news' h tk hJ
  obtain ⟨c, v, rfl, hT, hR⟩ := hJ
  intro F' N'
  have tt := turn k c v news' h tk hT hR F' N'
  refine ⟨tt.1, tt.2.1, tt.2.2.1, codeAny_mono tt.2.2.2 fun r s₁ hr => hr.mono fun s₃ h₃ => ?_⟩
  induction h₃ with | mk k' v' n'' h5 tk5 m5 a1 a3 a4 a5 a6 a7 a8 => ?_
  exact ⟨k', a1, .mk m5 n'' h5 tk5 a3 a6 ⟨m5 x, v', key m5 v' a4 a5, a7, a8⟩⟩
theorem fr_twice {h₀ h : Heap} {L : Addr} {x : Str} {a b : Option Value} {M : Str → Option Value} (F : Fr h₀ L h (fun z => if z = x then a else (fun z => if z = x then b else M z) z)) : Fr h₀ L h (fun z => if z = x then a else M z) := by
  have e : (fun z => if z = x then a else (fun z => if z = x then b else M z) z) = fun z => if z = x then a else M z := by
    funext z
    by_cases hz : z = x
    · rw [if_pos hz, if_pos hz]
    · rw [if_neg hz, if_neg hz]; exact if_neg hz
  rw [e] at F
  exact F
end

end
section
local macro_rules | `(tactic| omega) => `(tactic| lia)
-- part Sl
section
theorem ix_gen (n i : Nat) (h : i ≤ n) : Builtin.Str.strSliceIndices (some (i : Int)) (some ((i : Int) + 1)) 1 n = if i < n then [i] else [] := by
  unfold Builtin.Str.strSliceIndices sliceRange
  have a1 : ¬ ((i : Int) < 0) := by omega
  have a2 : ¬ ((i : Int) + 1 < 0) := by omega
  have a3 : ((1 : Int) > 0) = True := by simp
  simp only [a1, a2, a3, if_true, if_false]
  by_cases hi : i < n
  · have b1 : max (0 : Int) (min (i : Int) (n : Int)) = i := by omega
    have b2 : max (0 : Int) (min ((i : Int) + 1) (n : Int)) = i + 1 := by omega
    rw [b1, b2, if_pos (by omega : (i : Int) < (i : Int) + 1), if_pos hi]
    have b3 : (((i : Int) + 1 - (i : Int) + 1 - 1) / 1).toNat = 1 := by rw [Int.ediv_one]; omega
    rw [b3]
    show [((i : Int) + 1 * ((0 : Nat) : Int)).toNat] = [i]
    congr 1
  · have b1 : max (0 : Int) (min (i : Int) (n : Int)) = i := by omega
    have b2 : max (0 : Int) (min ((i : Int) + 1) (n : Int)) = i := by omega
    rw [b1, b2, if_neg (by omega : ¬ (i : Int) < (i : Int)), if_neg hi]
    rfl
theorem slice_one (x : Str) (i : Nat) (h : i ≤ x.length) : Txt.slice x (some (i : Int)) (some ((i : Int) + 1)) = ⟨x.cps.extract i (i + 1)⟩ := by
  unfold Txt.slice
  rw [ix_gen _ _ h]
  have hs : x.length = x.cps.size := rfl
  by_cases hi : i < x.length
  · rw [if_pos hi]
    have hi2 : i < x.cps.size := hi
    have e : x.cps.extract i (i + 1) = #[x.cps[i]] := by
      apply Array.ext
      · simp; omega
      · intro j h1 h2
        have : j = 0 := by simp at h2; omega
        subst this
        simp
    split
    · rename_i h1
      have h2 : (1 : Nat) = x.length := by simpa using h1
      have h3 : x.cps.size = 1 := by omega
      have h4 : i = 0 := by omega
      subst h4
      show x = _
      have : x.cps.extract 0 (0 + 1) = x.cps := by
        apply Array.ext
        · simp; omega
        · intro j h1 h2; simp
      rw [this]
    · rw [e]
      simp [hi2]
  · rw [if_neg hi]
    have e : x.cps.extract i (i + 1) = #[] := by
      apply Array.ext
      · simp; omega
      · intro j h1 h2; simp at h2
    split
    · rename_i h1
      have h2 : (0 : Nat) = x.length := by simpa using h1
      have h3 : x.cps = #[] := Array.size_eq_zero_iff.mp (by omega)
      obtain ⟨c⟩ := x
      dsimp only at h3 ⊢
      subst h3
      simp
    · rw [e]; simp
theorem ext_len (x : Str) (i : Nat) (h : i ≤ x.length) : (i : Int) + (((⟨x.cps.extract i (i + 1)⟩ : Str).length : Nat) : Int) = ((min (i + 1) x.length : Nat) : Int) := by
  have hs : x.length = x.cps.size := rfl
  show (i : Int) + ((x.cps.extract i (i + 1)).size : Int) = _
  rw [Array.size_extract]
  omega

end
-- part Zip
section
open PyProof.Rows.LCg (NsObj lst Off3 Off1 CompEnd CompRest FinE FinA SrcAt lst_snoc ns_obj)
def ZEnd (s : Shared) (J : Value → Prop) (y : Value) (s' : Shared) : Prop := (∃ tk, s' = { s with toks := tk }) ∧ J y
inductive CompZ (prog : Program) (w : World) (A : Around) (h₀ : Heap) (L : Addr) (m : Str → Option Value) (env : Env) (elt : Expr) (x x₂ : Str) (scope : Scope) (cl : List (Str × Addr)) (Fin : Shared → List Value → List (Addr × Obj) → Prop) (xv : Value) (s₁ : Shared) : Prop
  | mk (I : Addr) (fp wr : List Addr) (n : Nat) (Pt : Nat → Array Value → Prop) (St : Nat → Heap → Prop) (Mid : Nat → Addr → Heap → Prop) (news : List (Addr × Obj)) (J : Nat → List Value → Prop) (c1 : WalksT prog w A I fp wr n Pt St Mid) (c2 : n ≤ sizeLine) (c3 : (∀ (Q' E' : Value → Shared → Prop), Q' (.ref I) s₁ → wpAny (model prog w) A (pyIter xv) Q' E' s₁)) (c4 : St 0 s₁.heap) (c5 : ∀ b ∈ fp, b < s₁.heap.objs.size) (c6 : Fr h₀ L s₁.heap m) (c7 : News h₀ L s₁.heap news) (c8 : ∀ b ∈ wr, b ≠ L ∧ h₀.get? b = none ∧ ∀ p ∈ news, p.1 ≠ b) (c9 : A.handled = none) (c10 : J 0 []) (c11 : (∀ i v₁ v₂ ys C oC D m₂ h tk (E' : Value → Shared → Prop), i < n → Pt i #[v₁, v₂] → J i ys → NsObj oC m₂ → m₂ x = some v₁ → m₂ x₂ = some v₂ → Fr h₀ L h m → News h₀ L h ((C, oC) :: (D, lst ys) :: news) → (@Ne Nat C D) → wpAny (model prog w) A (eval elt (compEnvC scope cl C env)) (ZEnd { s₁ with heap := h, toks := tk } fun y => J (i + 1) (ys ++ [y])) E' { s₁ with heap := h, toks := tk })) (c12 : ∀ i vals, Pt i vals → ∃ a b, vals = #[a, b]) (c13 : ∀ ys g tk, J n ys → Fin { s₁ with heap := g, toks := tk } ys news)
section
variable {prog : Program} {w : World} {A : Around} {E : Value → Shared → Prop} {s : Shared} {h₀ : Heap} {L : Addr} {m : Str → Option Value} {env : Env}
inductive ZInv (h₀ : Heap) (L : Addr) (m : Str → Option Value) (s₂ : Shared) (C D n : Nat) (St : Nat → Heap → Prop) (news : List (Addr × Obj)) (J : Nat → List Value → Prop) : Nat → Shared → Prop
  | mk (h' : Heap) (tk i : Nat) (ys : List Value) (m' : Str → Option Value) (hi : i ≤ n) (hyl : ys.length ≤ i) (hst : St i h') (F : Fr h₀ L h' m) (hn : h'.Ns C m') (N : News h₀ L h' ((D, lst ys) :: news)) (hJ : J i ys) : ZInv h₀ L m s₂ C D n St news J (n + 1 - i) { s₂ with heap := h', toks := tk }
theorem blockZ {elt iter : Expr} {x x₂ : Str} {px px₂ tp : Pos} {tk} {scope : Scope} {cl : List (Str × Addr)} {pos : Pos} {s₂ : Shared} {I : Addr} {fp wr : List Addr} {n : Nat} {Pt : Nat → Array Value → Prop} {St : Nat → Heap → Prop} {Mid : Nat → Addr → Heap → Prop} {news : List (Addr × Obj)}
    {J : Nat → List Value → Prop} {RR : Value → Addr → Result → Shared → Prop}
    (W : WalksT prog w A I fp wr n Pt St Mid) (hsz : n ≤ sizeLine)
    (hcell : ∀ y ∈ scope.names, y.2 ≠ .cell) (hkind : scope.kind = .function) (hx : scope.names.lookup x = some .local) (hx₂ : scope.names.lookup x₂ = some .local) (hxx : x ≠ x₂) (hh : A.handled = none) (hst : St 0 s₂.heap) (hfp : ∀ b ∈ fp, b < s₂.heap.objs.size)
    (F : Fr h₀ L s₂.heap m) (N : News h₀ L s₂.heap news) (hwr : ∀ b ∈ wr, b ≠ L ∧ h₀.get? b = none ∧ ∀ p ∈ news, p.1 ≠ b) (J0 : J 0 [])
    (turn : ∀ i v₁ v₂ ys C oC D m₂ h tk (E' : Value → Shared → Prop), i < n → Pt i #[v₁, v₂] → J i ys → NsObj oC m₂ → m₂ x = some v₁ → m₂ x₂ = some v₂ → Fr h₀ L h m → News h₀ L h ((C, oC) :: (D, lst ys) :: news) → (@Ne Nat C D) →
      wpAny (model prog w) A (eval elt (compEnvC scope cl C env)) (ZEnd { s₂ with heap := h, toks := tk } fun y => J (i + 1) (ys ++ [y])) E' { s₂ with heap := h, toks := tk })
    (hPt : ∀ i vals, Pt i vals → ∃ a b, vals = #[a, b])
    (hRR : ∀ D C h tk m' ys, Fr h₀ L h m → News h₀ L h ((D, lst ys) :: news) → (∀ p ∈ news, p.1 ≠ D) → h.Ns C m' → h₀.get? C = none → h₀.get? D = none → C ≠ L → D ≠ L → C ≠ D → (∀ p ∈ news, p.1 ≠ C) → J n ys → RR (.ref D) C (.ok .next) { s₂ with heap := h, toks := tk }) :
    wpAny (model prog w) A (newList []) (fun acc s₃ => wpAny (model prog w) A (newFunctionEnv scope env.globals cl [] env.qual none .none (some env)) (fun cenv s₄ =>
      codeAny (model prog w) A (.compStart (.ListComp elt [⟨.Tuple [.Name x px, .Name x₂ px₂] tk tp, iter, [], 0⟩] scope pos) 0 (.ref I) acc { cenv with scope := relabel scope env }) (RR acc cenv.locals) s₄) E s₃) E s₂ := by
  refine wpAny_newObj_type (wpAny_newFunctionEnv hcell (by intro y hy; simp at hy) (fun h₁ hns₁ hsb₁ => ?_) hkind)
  dsimp only at hns₁ hsb₁ ⊢
  generalize hH2 : s₂.heap.push { cls := .type "list", dict := none, data := .seq ([] : List Value).toArray } = H2 at hns₁ hsb₁ ⊢
  have hC : H2.objs.size = s₂.heap.objs.size + 1 := by rw [← hH2, Heap.size_push]
  have hDC : s₂.heap.objs.size ≠ H2.objs.size := by rw [hC]; exact Nat.ne_of_lt (Nat.lt_succ_self _)
  have below : ∀ b, b < s₂.heap.objs.size → b ≠ H2.objs.size ∧ b ≠ s₂.heap.objs.size := fun b hb => ⟨by rw [hC]; exact Nat.ne_of_lt (Nat.lt_succ_of_lt hb), Nat.ne_of_lt hb⟩
  have hDf : s₂.heap.objs.size ∉ fp := fun hm => Nat.lt_irrefl _ (hfp _ hm)
  have hCf : H2.objs.size ∉ fp := fun hm => by have := hfp _ hm; rw [hC] at this; exact Nat.lt_irrefl _ (Nat.lt_of_succ_lt this)
  have hDw : s₂.heap.objs.size ∉ wr := fun hm => hDf (W.sub _ hm)
  have hCw : H2.objs.size ∉ wr := fun hm => hCf (W.sub _ hm)
  have old : ∀ b o, s₂.heap.get? b = some o → h₁.get? b = some o := fun b o e => hsb₁.extBut b o (below b (Heap.lt_size e)).1 (Heap.get?_push_of_some _ (hH2 ▸ Heap.get?_push_of_some _ e))
  have hacc : h₁.get? s₂.heap.objs.size = some (lst []) := hsb₁.extBut _ _ hDC (Heap.get?_push_of_some _ (hH2 ▸ Heap.get?_push_size _ rfl))
  have hst₁ : St 0 h₁ := W.frame _ _ _ hst fun b _ o e => old b o e
  have fresh : ∀ a, s₂.heap.objs.size ≤ a → s₂.heap.get? a = none := fun a ha => by
    cases e : s₂.heap.get? a with
    | none => rfl
    | some o' => exact absurd (Heap.lt_size e) (Nat.not_lt.mpr ha)
  have fresh₀ : ∀ a, s₂.heap.objs.size ≤ a → h₀.get? a = none := fun a ha => by
    cases e : h₀.get? a with
    | none => rfl
    | some o' => have := F.keep a o' e; rw [fresh a ha] at this; cases this
  have hD₀ : h₀.get? s₂.heap.objs.size = none := fresh₀ _ (Nat.le_refl _)
  have hC₀ : h₀.get? H2.objs.size = none := fresh₀ _ (by rw [hC]; exact Nat.le_succ _)
  have hLlt : L < s₂.heap.objs.size := F.ns.lt
  have hDL : s₂.heap.objs.size ≠ L := Ne.symm (below L hLlt).2
  have hCL : H2.objs.size ≠ L := Ne.symm (below L hLlt).1
  have offD : ∀ p ∈ news, p.1 ≠ s₂.heap.objs.size := fun p hp => (below _ (Heap.lt_size (N p hp).1)).2
  have offC : ∀ p ∈ news, p.1 ≠ H2.objs.size := fun p hp => (below _ (Heap.lt_size (N p hp).1)).1
  have hLw : L ∉ wr := fun hm => (hwr _ hm).1 rfl
  -- what a step of the zip leaves as it was
  have frK : ∀ {h h' : Heap}, Fr h₀ L h m → (∀ b o, b ∉ wr → h.get? b = some o → h'.get? b = some o) → Fr h₀ L h' m := fun F hk =>
    ⟨F.ns.at' fun o e => hk _ o hLw e, fun b o e => hk b o (fun hm => by rw [(hwr _ hm).2.1] at e; cases e) (F.keep b o e), F.above⟩
  have newsK : ∀ {h h' : Heap} {ys : List Value}, News h₀ L h ((s₂.heap.objs.size, lst ys) :: news) → (∀ b o, b ∉ wr → h.get? b = some o → h'.get? b = some o) → News h₀ L h' ((s₂.heap.objs.size, lst ys) :: news) := fun N hk p hp => by
    refine ⟨hk _ _ ?_ (N p hp).1, (N p hp).2⟩
    rcases List.mem_cons.mp hp with rfl | hp
    · exact hDw
    · exact fun hm => (hwr _ hm).2.2 p hp rfl
  have loop : ∀ s₃ : Shared, s₃ = { s₂ with heap := h₁, toks := s₂.toks + ([] : List (Str × Value)).length } →
      codeAny (model prog w) A (.compLoop (.ListComp elt [⟨.Tuple [.Name x px, .Name x₂ px₂] tk tp, iter, [], 0⟩] scope pos) 0 (.ref I) (.ref s₂.heap.objs.size) (compEnvC scope cl H2.objs.size env))
        (RR (.ref s₂.heap.objs.size) H2.objs.size) s₃ := by
    rintro s₃ rfl
    refine PyProof.Rows.LCp.codeAny_compLoop_pair (ZInv h₀ L m s₂ H2.objs.size s₂.heap.objs.size n St news J) ?_ (n + 1)
      (.mk h₁ _ 0 [] _ (Nat.zero_le _) (Nat.le_refl _) hst₁ (F.keeps old) hns₁ (fun p hp => ?_) J0)
    · intro k s' hq
      induction hq with | mk h' tk i ys m' hi hyl hst' F' hn' N' hJ => ?_
      by_cases hlt : i < n
      · refine W.item i _ _ _ hlt hst' fun T vals h₂ tk₂ hPv hTge hT hMid hk₂ => ?_
        obtain ⟨v₁, v₂, rfl⟩ := hPt _ _ hPv
        refine W.go _ _ _ i T _ _ _ hMid fun h₃ hst₃ hk₃ => ?_
        have hTw : T ∉ wr := W.apart i T h₂ hMid
        have hT₃ : IsTup h₃ T #[v₁, v₂] := by
          refine hideP ?_
          intro Gq hGq
          obtain ⟨o, e, c, nn, d⟩ := hT
          refine hGq ?_
          clear hGq Gq
          exact ⟨o, hk₃ _ _ hTw e, c, nn, d⟩
        have F₃ : Fr h₀ L h₃ m := frK (frK F' hk₂) hk₃
        have N₃ := newsK (newsK N' hk₂) hk₃
        have hn₃ : h₃.Ns H2.objs.size m' := (hn'.at' fun o e => hk₂ _ o hCw e).at' fun o e => hk₃ _ o hCw e
        refine assign_Tuple_tuple hh hT₃ rfl rfl fun h₅ he => ?_
        have he' : ∀ b o, h₃.get? b = some o → h₅.get? b = some o := fun b o e => he b o (Nat.ne_of_lt (Heap.lt_size e)) e
        refine assignInOrder_cons (wpAny_assign_Name (wpAny_storeName_local (lookup_relabel_local hx) (hn₃.at' fun o e => he' _ o e) (fun h₆ hn₆ hs₆ => ?_) (by simp [compEnvC, relabel, hkind])))
        refine assignInOrder_cons (wpAny_assign_Name (wpAny_storeName_local (lookup_relabel_local hx₂) hn₆ (fun h₇ hn₇ hs₇ => ?_) (by simp [compEnvC, relabel, hkind])))
        refine assignInOrder_nil ?_
        have old3 : ∀ b o, b ≠ H2.objs.size → h₃.get? b = some o → h₇.get? b = some o := fun b o hb e => hs₇.extBut b o hb (hs₆.extBut b o hb (he' b o e))
        have hst₇ : St (i + 1) h₇ := W.frame _ _ _ hst₃ fun b hb o e => old3 b o (fun q => hCf (by rw [← q]; exact hb)) e
        obtain ⟨oC, heC, hoC⟩ := ns_obj hn₇
        have F₇ : Fr h₀ L h₇ m := ((F₃.keeps he').change hs₆ hCL hC₀).change hs₇ hCL hC₀
        have N₇ : News h₀ L h₇ ((H2.objs.size, oC) :: (s₂.heap.objs.size, lst ys) :: news) := fun p hp => by
          rcases List.mem_cons.mp hp with rfl | hp
          · exact ⟨heC, hCL, hC₀⟩
          · refine ⟨old3 _ _ ?_ (N₃ p hp).1, (N₃ p hp).2⟩
            rcases List.mem_cons.mp hp with rfl | hp
            · exact hDC
            · exact offC p hp
        refine wpAny_mono (turn i v₁ v₂ ys H2.objs.size oC s₂.heap.objs.size _ h₇ _ _ hlt hPv hJ hoC (by simp [hxx]) (by simp) F₇ N₇ (Ne.symm hDC)) (fun y s₄ h₄ => ?_) fun _ _ e => e
        obtain ⟨⟨tk₄, rfl⟩, hJ'⟩ := h₄
        have zD := (N₇ (s₂.heap.objs.size, lst ys) (.tail _ (.head _))).1
        refine append_at (hsz := by show ys.toArray.size ≤ sizeLine; rw [List.size_toArray]; exact Nat.le_trans (Nat.le_trans hyl hi) hsz) zD fun h₈ hs₈ hD₈ => ?_
        refine ⟨n + 1 - (i + 1), by omega, .mk h₈ tk₄ (i + 1) (ys ++ [y]) _ hlt (by rw [List.length_append, List.length_singleton]; omega) (W.frame _ _ _ hst₇ fun b hb o e => hs₈.extBut b o (fun q => hDf (q ▸ hb)) e) (F₇.change hs₈ hDL hD₀)
          ((hoC.ns heC).sameBut hs₈ (Ne.symm hDC)) (fun p hp => ?_) hJ'⟩
        rcases List.mem_cons.mp hp with rfl | hp
        · exact ⟨hD₈.trans (congrArg some (lst_snoc ys y)), hDL, hD₀⟩
        · exact ⟨hs₈.extBut _ _ (offD p hp) (N₇ p (.tail _ (.tail _ hp))).1, (N₇ p (.tail _ (.tail _ hp))).2⟩
      · obtain rfl : n = i := Nat.le_antisymm (Nat.not_lt.mp hlt) hi
        refine W.done _ _ _ hst' fun h₂ tk₂ hk₂ => ?_
        exact hRR _ _ h₂ tk₂ _ ys (frK F' hk₂) (newsK N' hk₂) offD (hn'.at' fun o e => hk₂ _ o hCw e) hC₀ hD₀ hCL hDL (Ne.symm hDC) offC hJ
    · rcases List.mem_cons.mp hp with rfl | hp
      · exact ⟨hacc, hDL, hD₀⟩
      · exact ⟨old _ _ (N p hp).1, (N p hp).2⟩
  exact codeAny_compStart_list (loop _ rfl) (W.self 0 _ _ _ hst₁ (loop _ rfl))
theorem assignZ {elt iter : Expr} {x x₂ y : Str} {px px₂ tp py : Pos} {tk} {scope : Scope} {cl : List (Str × Addr)} {pos spos : Pos} {Q : Flow → Shared → Prop} (_F₀ : Fr h₀ L s.heap m) (hLe : env.locals = L)
    (hsw : swapsWith (.ListComp elt [⟨.Tuple [.Name x px, .Name x₂ px₂] tk tp, iter, [], 0⟩] scope pos) (some (.Name y py)) spos.line env = pure true)
    (hclos : closureFor scope env = pure cl) (hcell : ∀ z ∈ scope.names, z.2 ≠ .cell) (hkind : scope.kind = .function)
    (hnames : ∀ z ∈ scope.names, z.2 = .local → scope.names.lookup z.1 = some .local) (hx : scope.names.lookup x = some .local) (hx₂ : scope.names.lookup x₂ = some .local) (hxx : x ≠ x₂)
    (hy : env.kindOf y = some .local) (hp : (env.scope.kind == .class || (env.scope.kind == .module && env.locals != env.globals)) = false)
    (h : wpAny (model prog w) A (eval iter env) (CompZ prog w A h₀ L m env elt x x₂ scope cl (fun s₂ => FinA h₀ L m s₂ y Q)) E s)
    (hs : ∀ x, foldedSetIterable iter env x = pure x := by intro _; rfl) :
    wpAny (model prog w) A (exec (.Assign [.Name y py] (.ListComp elt [⟨.Tuple [.Name x px, .Name x₂ px₂] tk tp, iter, [], 0⟩] scope pos) spos) env) Q E s := by
  subst hLe
  rw [exec_Assign_Name_used _ _ _ _ hsw]
  refine wpAny_bind (wpAny_standAt (wpAny_bind ?_))
  show wpAny _ A (do let _ ← comprehension (.ListComp elt [⟨.Tuple [.Name x px, .Name x₂ px₂] tk tp, iter, [], 0⟩] scope pos) scope env _ (newList []) false (eval iter env) (some (assign (.Name y py) env))) _ _ s
  refine wpAny_bind (wpAny_mono (wpAny_comprehension_free (use := some (assign (.Name y py) env)) (Q := fun _ s' => Q .next s') rfl hs hclos hkind hnames
    (wpAny_mono h (fun xv s₁ h₁ => ?_) fun _ _ e => e)) (fun _ s' hq => wpAny_pure (wpAny_pure hq)) fun _ _ e => e)
  refine hideP ?_
  intro Gq hGq
  obtain ⟨I, fp, wr, n, Pt, St, Mid, news, J, W, hsz, hit, hst, hfp, F, N, hwr, hh, J0, turn, hPt, fin⟩ := h₁
  refine hGq ?_
  clear hGq Gq
  refine hit _ _ ?_
  refine blockZ W hsz hcell hkind hx hx₂ hxx hh hst hfp F N hwr J0 turn hPt ?_
  intro D C h tk m' ys F' N' o1 hn hC₀ hD₀ hCL hDL hCD offC hJ
  exact assign_fin hy hp F' N' (off1_of o1) hn hC₀ hCL hCD offC (fin ys s₁.heap s₁.toks hJ)
theorem zipZ {elt : Expr} {x x₂ : Str} {scope : Scope} {cl : List (Str × Addr)} {Fin : Shared → List Value → List (Addr × Obj) → Prop} {l1 l2 : Addr} {xs ys : List Value} {n1 n2 n : Nat} {news : List (Addr × Obj)} (J : Nat → List Value → Prop)
    (hh : A.handled = none) (F : Fr h₀ L s.heap m) (N : News h₀ L s.heap news) (hm1 : (l1, W.listOf xs.toArray n1) ∈ news) (hm2 : (l2, W.listOf ys.toArray n2) ∈ news) (hn : n = min xs.length ys.length) (hsz : n ≤ 1000) (J0 : J 0 [])
    (turn : ∀ (s₁ : Shared) i v₁ v₂ ws C oC D m₂ h tk (E' : Value → Shared → Prop), i < n → xs[i]? = some v₁ → ys[i]? = some v₂ → J i ws → NsObj oC m₂ → m₂ x = some v₁ → m₂ x₂ = some v₂ → Fr h₀ L h m → News h₀ L h ((C, oC) :: (D, lst ws) :: news) → (@Ne Nat C D) →
      wpAny (model prog w) A (eval elt (compEnvC scope cl C env)) (ZEnd { s₁ with heap := h, toks := tk } fun y => J (i + 1) (ws ++ [y])) E' { s₁ with heap := h, toks := tk })
    (fin : ∀ ws g tk, J n ws → Fin { s with heap := g, toks := tk } ws news) :
    wpAny (model prog w) A (call (.type "zip") [.ref l1, .ref l2]) (CompZ prog w A h₀ L m env elt x x₂ scope cl Fin) E s := by
  have hax1 := N _ hm1
  have hax2 := N _ hm2
  have hl1 : s.heap.IsList l1 xs.toArray := ⟨_, hax1.1, rfl, n1, rfl⟩
  have hl2 : s.heap.IsList l2 ys.toArray := ⟨_, hax2.1, rfl, n2, rfl⟩
  have hlt1 : l1 < s.heap.objs.size := Heap.lt_size hax1.1
  have hlt2 : l2 < s.heap.objs.size := Heap.lt_size hax2.1
  have D : ZipApart (s.heap.objs.size + 4) (s.heap.objs.size + 2) (s.heap.objs.size + 3) s.heap.objs.size (s.heap.objs.size + 1) l1 l2 := ktu_apart _ _ _ hlt1 hlt2
  have hnn : min xs.toArray.size ys.toArray.size = n := by rw [List.size_toArray, List.size_toArray, hn]
  refine call_zip_2 hl1 hl2 fun h' hz hTI hTO hi1 hi2 hsz' hk => ?_
  refine ⟨_, _, _, n, _, _, _, news, J, hnn ▸ WalksT.zip2 hh _ _ _ _ _ _ _ D xs.toArray ys.toArray, by rw [sizeLine_eq]; omega, fun Q' E' q => wpAny_pyIter_zip hz q, ⟨hz, hTI, ⟨_, _, hTO⟩, hi1, hi2, hl1.at fun o e => hk _ o e, hl2.at fun o e => hk _ o e⟩, ?_, F.keeps hk, N.grown hk, ?_, hh, J0, ?_, ?_, ?_⟩
  · intro b hb
    simp only [List.mem_cons, List.not_mem_nil, or_false] at hb
    show b < h'.objs.size
    rw [hsz']
    have h1 : @LT.lt Nat _ l1 s.heap.objs.size := hlt1
    have h2 : @LT.lt Nat _ l2 s.heap.objs.size := hlt2
    refine ltN ?_
    rcases hb with rfl | rfl | rfl | rfl | rfl | rfl | rfl <;> omega
  · intro b hb
    simp only [List.mem_cons, List.not_mem_nil, or_false] at hb
    have hge : s.heap.objs.size ≤ b := by
      rcases hb with rfl | rfl | rfl | rfl <;> first | exact Nat.le_refl _ | exact Nat.le_add_right _ _
    exact ⟨fun q => Nat.lt_irrefl _ (Nat.lt_of_le_of_lt (q ▸ hge) F.ns.lt), ktu_new F hge, fun p hp q => Nat.lt_irrefl _ (Nat.lt_of_le_of_lt (q ▸ hge) (Heap.lt_size (N p hp).1))⟩
  · intro i v₁ v₂ ws C oC D m₂ h tk E' hi hpq2 hJ hC hx hx₂ F' N' hCD
    refine hideP ?_
    intro Gq hGq
    obtain ⟨a, b, ha, hb, he⟩ := hpq2
    refine hGq ?_
    clear hGq Gq
    have e1 : v₁ = a ∧ v₂ = b := by simpa using he
    obtain ⟨rfl, rfl⟩ := e1
    exact turn _ i v₁ v₂ ws C oC D m₂ h tk E' hi (by simpa using ha) (by simpa using hb) hJ hC hx hx₂ F' N' hCD
  · intro i vals hpq3
    refine hideP ?_
    intro Gq hGq
    obtain ⟨a, b, _, _, rfl⟩ := hpq3
    refine hGq ?_
    clear hGq Gq
    exact ⟨a, b, rfl⟩
  · exact fun ws g tk hJ => fin ws g tk hJ
end

end
-- part ZipT
section
open PyProof.Rows.LCg (NsObj lst Off3 Off1 CompEnd CompRest FinE FinA SrcAt lst_snoc ns_obj)
inductive CompZT (prog : Program) (w : World) (A : Around) (h₀ : Heap) (L : Addr) (m : Str → Option Value) (env : Env) (ct elt : Expr) (x x₂ : Str) (scope : Scope) (cl : List (Str × Addr)) (Fin : Shared → List Value → List (Addr × Obj) → Prop) (xv : Value) (s₁ : Shared) : Prop
  | mk (I : Addr) (fp wr : List Addr) (n : Nat) (Pt : Nat → Array Value → Prop) (St : Nat → Heap → Prop) (Mid : Nat → Addr → Heap → Prop) (news : List (Addr × Obj)) (J : Nat → List Value → Prop) (c1 : WalksT prog w A I fp wr n Pt St Mid) (c2 : n ≤ sizeLine) (c3 : (∀ (Q' E' : Value → Shared → Prop), Q' (.ref I) s₁ → wpAny (model prog w) A (pyIter xv) Q' E' s₁)) (c4 : St 0 s₁.heap) (c5 : ∀ b ∈ fp, b < s₁.heap.objs.size) (c6 : Fr h₀ L s₁.heap m) (c7 : News h₀ L s₁.heap news) (c8 : ∀ b ∈ wr, b ≠ L ∧ h₀.get? b = none ∧ ∀ p ∈ news, p.1 ≠ b) (c9 : A.handled = none) (c10 : J 0 []) (c11 : (∀ i v₁ v₂ ys C oC D m₂ h tk (E' : Value → Shared → Prop), i < n → Pt i #[v₁, v₂] → J i ys → NsObj oC m₂ → m₂ x = some v₁ → m₂ x₂ = some v₂ → Fr h₀ L h m → News h₀ L h ((C, oC) :: (D, lst ys) :: news) → (@Ne Nat C D) → wpAny (model prog w) A (isTrue ct (compEnvC scope cl C env) (eval ct (compEnvC scope cl C env))) (fun ok s' => if ok = true then wpAny (model prog w) A (eval elt (compEnvC scope cl C env)) (ZEnd { s₁ with heap := h, toks := tk } fun y => J (i + 1) (ys ++ [y])) E' s' else ZEnd { s₁ with heap := h, toks := tk } (fun _ => J (i + 1) ys) Value.none s') E' { s₁ with heap := h, toks := tk })) (c12 : ∀ i vals, Pt i vals → ∃ a b, vals = #[a, b]) (c13 : ∀ ys g tk, J n ys → Fin { s₁ with heap := g, toks := tk } ys news)
section
variable {prog : Program} {w : World} {A : Around} {E : Value → Shared → Prop} {s : Shared} {h₀ : Heap} {L : Addr} {m : Str → Option Value} {env : Env}
theorem blockZT {ct elt iter : Expr} {x x₂ : Str} {px px₂ tp : Pos} {tk} {scope : Scope} {cl : List (Str × Addr)} {pos : Pos} {s₂ : Shared} {I : Addr} {fp wr : List Addr} {n : Nat} {Pt : Nat → Array Value → Prop} {St : Nat → Heap → Prop} {Mid : Nat → Addr → Heap → Prop} {news : List (Addr × Obj)}
    {J : Nat → List Value → Prop} {RR : Value → Addr → Result → Shared → Prop}
    (W : WalksT prog w A I fp wr n Pt St Mid) (hsz : n ≤ sizeLine)
    (hcell : ∀ y ∈ scope.names, y.2 ≠ .cell) (hkind : scope.kind = .function) (hx : scope.names.lookup x = some .local) (hx₂ : scope.names.lookup x₂ = some .local) (hxx : x ≠ x₂) (hh : A.handled = none) (hst : St 0 s₂.heap) (hfp : ∀ b ∈ fp, b < s₂.heap.objs.size)
    (F : Fr h₀ L s₂.heap m) (N : News h₀ L s₂.heap news) (hwr : ∀ b ∈ wr, b ≠ L ∧ h₀.get? b = none ∧ ∀ p ∈ news, p.1 ≠ b) (J0 : J 0 [])
    (turn : ∀ i v₁ v₂ ys C oC D m₂ h tk (E' : Value → Shared → Prop), i < n → Pt i #[v₁, v₂] → J i ys → NsObj oC m₂ → m₂ x = some v₁ → m₂ x₂ = some v₂ → Fr h₀ L h m → News h₀ L h ((C, oC) :: (D, lst ys) :: news) → (@Ne Nat C D) →
      wpAny (model prog w) A (isTrue ct (compEnvC scope cl C env) (eval ct (compEnvC scope cl C env))) (fun ok s' => if ok = true then
        wpAny (model prog w) A (eval elt (compEnvC scope cl C env)) (ZEnd { s₂ with heap := h, toks := tk } fun y => J (i + 1) (ys ++ [y])) E' s'
        else ZEnd { s₂ with heap := h, toks := tk } (fun _ => J (i + 1) ys) Value.none s') E' { s₂ with heap := h, toks := tk })
    (hPt : ∀ i vals, Pt i vals → ∃ a b, vals = #[a, b])
    (hRR : ∀ D C h tk m' ys, Fr h₀ L h m → News h₀ L h ((D, lst ys) :: news) → (∀ p ∈ news, p.1 ≠ D) → h.Ns C m' → h₀.get? C = none → h₀.get? D = none → C ≠ L → D ≠ L → C ≠ D → (∀ p ∈ news, p.1 ≠ C) → J n ys → RR (.ref D) C (.ok .next) { s₂ with heap := h, toks := tk }) :
    wpAny (model prog w) A (newList []) (fun acc s₃ => wpAny (model prog w) A (newFunctionEnv scope env.globals cl [] env.qual none .none (some env)) (fun cenv s₄ =>
      codeAny (model prog w) A (.compStart (.ListComp elt [⟨.Tuple [.Name x px, .Name x₂ px₂] tk tp, iter, [ct], 0⟩] scope pos) 0 (.ref I) acc { cenv with scope := relabel scope env }) (RR acc cenv.locals) s₄) E s₃) E s₂ := by
  refine wpAny_newObj_type (wpAny_newFunctionEnv hcell (by intro y hy; simp at hy) (fun h₁ hns₁ hsb₁ => ?_) hkind)
  dsimp only at hns₁ hsb₁ ⊢
  generalize hH2 : s₂.heap.push { cls := .type "list", dict := none, data := .seq ([] : List Value).toArray } = H2 at hns₁ hsb₁ ⊢
  have hC : H2.objs.size = s₂.heap.objs.size + 1 := by rw [← hH2, Heap.size_push]
  have hDC : s₂.heap.objs.size ≠ H2.objs.size := by rw [hC]; exact Nat.ne_of_lt (Nat.lt_succ_self _)
  have below : ∀ b, b < s₂.heap.objs.size → b ≠ H2.objs.size ∧ b ≠ s₂.heap.objs.size := fun b hb => ⟨by rw [hC]; exact Nat.ne_of_lt (Nat.lt_succ_of_lt hb), Nat.ne_of_lt hb⟩
  have hDf : s₂.heap.objs.size ∉ fp := fun hm => Nat.lt_irrefl _ (hfp _ hm)
  have hCf : H2.objs.size ∉ fp := fun hm => by have := hfp _ hm; rw [hC] at this; exact Nat.lt_irrefl _ (Nat.lt_of_succ_lt this)
  have hDw : s₂.heap.objs.size ∉ wr := fun hm => hDf (W.sub _ hm)
  have hCw : H2.objs.size ∉ wr := fun hm => hCf (W.sub _ hm)
  have old : ∀ b o, s₂.heap.get? b = some o → h₁.get? b = some o := fun b o e => hsb₁.extBut b o (below b (Heap.lt_size e)).1 (Heap.get?_push_of_some _ (hH2 ▸ Heap.get?_push_of_some _ e))
  have hacc : h₁.get? s₂.heap.objs.size = some (lst []) := hsb₁.extBut _ _ hDC (Heap.get?_push_of_some _ (hH2 ▸ Heap.get?_push_size _ rfl))
  have hst₁ : St 0 h₁ := W.frame _ _ _ hst fun b _ o e => old b o e
  have fresh : ∀ a, s₂.heap.objs.size ≤ a → s₂.heap.get? a = none := fun a ha => by
    cases e : s₂.heap.get? a with
    | none => rfl
    | some o' => exact absurd (Heap.lt_size e) (Nat.not_lt.mpr ha)
  have fresh₀ : ∀ a, s₂.heap.objs.size ≤ a → h₀.get? a = none := fun a ha => by
    cases e : h₀.get? a with
    | none => rfl
    | some o' => have := F.keep a o' e; rw [fresh a ha] at this; cases this
  have hD₀ : h₀.get? s₂.heap.objs.size = none := fresh₀ _ (Nat.le_refl _)
  have hC₀ : h₀.get? H2.objs.size = none := fresh₀ _ (by rw [hC]; exact Nat.le_succ _)
  have hLlt : L < s₂.heap.objs.size := F.ns.lt
  have hDL : s₂.heap.objs.size ≠ L := Ne.symm (below L hLlt).2
  have hCL : H2.objs.size ≠ L := Ne.symm (below L hLlt).1
  have offD : ∀ p ∈ news, p.1 ≠ s₂.heap.objs.size := fun p hp => (below _ (Heap.lt_size (N p hp).1)).2
  have offC : ∀ p ∈ news, p.1 ≠ H2.objs.size := fun p hp => (below _ (Heap.lt_size (N p hp).1)).1
  have hLw : L ∉ wr := fun hm => (hwr _ hm).1 rfl
  -- what a step of the zip leaves as it was
  have frK : ∀ {h h' : Heap}, Fr h₀ L h m → (∀ b o, b ∉ wr → h.get? b = some o → h'.get? b = some o) → Fr h₀ L h' m := fun F hk =>
    ⟨F.ns.at' fun o e => hk _ o hLw e, fun b o e => hk b o (fun hm => by rw [(hwr _ hm).2.1] at e; cases e) (F.keep b o e), F.above⟩
  have newsK : ∀ {h h' : Heap} {ys : List Value}, News h₀ L h ((s₂.heap.objs.size, lst ys) :: news) → (∀ b o, b ∉ wr → h.get? b = some o → h'.get? b = some o) → News h₀ L h' ((s₂.heap.objs.size, lst ys) :: news) := fun N hk p hp => by
    refine ⟨hk _ _ ?_ (N p hp).1, (N p hp).2⟩
    rcases List.mem_cons.mp hp with rfl | hp
    · exact hDw
    · exact fun hm => (hwr _ hm).2.2 p hp rfl
  have loop : ∀ s₃ : Shared, s₃ = { s₂ with heap := h₁, toks := s₂.toks + ([] : List (Str × Value)).length } →
      codeAny (model prog w) A (.compLoop (.ListComp elt [⟨.Tuple [.Name x px, .Name x₂ px₂] tk tp, iter, [ct], 0⟩] scope pos) 0 (.ref I) (.ref s₂.heap.objs.size) (compEnvC scope cl H2.objs.size env))
        (RR (.ref s₂.heap.objs.size) H2.objs.size) s₃ := by
    rintro s₃ rfl
    refine kct_loop (ZInv h₀ L m s₂ H2.objs.size s₂.heap.objs.size n St news J) ?_ (n + 1)
      (.mk h₁ _ 0 [] _ (Nat.zero_le _) (Nat.le_refl _) hst₁ (F.keeps old) hns₁ (fun p hp => ?_) J0)
    · intro k s' hq
      induction hq with | mk h' tk i ys m' hi hyl hst' F' hn' N' hJ => ?_
      by_cases hlt : i < n
      · refine W.item i _ _ _ hlt hst' fun T vals h₂ tk₂ hPv hTge hT hMid hk₂ => ?_
        obtain ⟨v₁, v₂, rfl⟩ := hPt _ _ hPv
        refine W.go _ _ _ i T _ _ _ hMid fun h₃ hst₃ hk₃ => ?_
        have hTw : T ∉ wr := W.apart i T h₂ hMid
        have hT₃ : IsTup h₃ T #[v₁, v₂] := by
          refine hideP ?_
          intro Gq hGq
          obtain ⟨o, e, c, nn, d⟩ := hT
          refine hGq ?_
          clear hGq Gq
          exact ⟨o, hk₃ _ _ hTw e, c, nn, d⟩
        have F₃ : Fr h₀ L h₃ m := frK (frK F' hk₂) hk₃
        have N₃ := newsK (newsK N' hk₂) hk₃
        have hn₃ : h₃.Ns H2.objs.size m' := (hn'.at' fun o e => hk₂ _ o hCw e).at' fun o e => hk₃ _ o hCw e
        refine assign_Tuple_tuple hh hT₃ rfl rfl fun h₅ he => ?_
        have he' : ∀ b o, h₃.get? b = some o → h₅.get? b = some o := fun b o e => he b o (Nat.ne_of_lt (Heap.lt_size e)) e
        refine assignInOrder_cons (wpAny_assign_Name (wpAny_storeName_local (lookup_relabel_local hx) (hn₃.at' fun o e => he' _ o e) (fun h₆ hn₆ hs₆ => ?_) (by simp [compEnvC, relabel, hkind])))
        refine assignInOrder_cons (wpAny_assign_Name (wpAny_storeName_local (lookup_relabel_local hx₂) hn₆ (fun h₇ hn₇ hs₇ => ?_) (by simp [compEnvC, relabel, hkind])))
        refine assignInOrder_nil ?_
        have old3 : ∀ b o, b ≠ H2.objs.size → h₃.get? b = some o → h₇.get? b = some o := fun b o hb e => hs₇.extBut b o hb (hs₆.extBut b o hb (he' b o e))
        have hst₇ : St (i + 1) h₇ := W.frame _ _ _ hst₃ fun b hb o e => old3 b o (fun q => hCf (by rw [← q]; exact hb)) e
        obtain ⟨oC, heC, hoC⟩ := ns_obj hn₇
        have F₇ : Fr h₀ L h₇ m := ((F₃.keeps he').change hs₆ hCL hC₀).change hs₇ hCL hC₀
        have N₇ : News h₀ L h₇ ((H2.objs.size, oC) :: (s₂.heap.objs.size, lst ys) :: news) := fun p hp => by
          rcases List.mem_cons.mp hp with rfl | hp
          · exact ⟨heC, hCL, hC₀⟩
          · refine ⟨old3 _ _ ?_ (N₃ p hp).1, (N₃ p hp).2⟩
            rcases List.mem_cons.mp hp with rfl | hp
            · exact hDC
            · exact offC p hp
        refine wpAny_mono (turn i v₁ v₂ ys H2.objs.size oC s₂.heap.objs.size _ h₇ _ _ hlt hPv hJ hoC (by simp [hxx]) (by simp) F₇ N₇ (Ne.symm hDC)) (fun ok s₄ h₄ => ?_) fun _ _ e => e
        have zD := (N₇ (s₂.heap.objs.size, lst ys) (.tail _ (.head _))).1
        cases ok with
        | true =>
          rw [if_pos rfl] at h₄ ⊢
          refine wpAny_mono h₄ (fun y s₅ h₅ => ?_) fun _ _ e => e
          obtain ⟨⟨tk₄, rfl⟩, hJ'⟩ := h₅
          refine append_at (hsz := by show ys.toArray.size ≤ sizeLine; rw [List.size_toArray]; exact Nat.le_trans (Nat.le_trans hyl hi) hsz) zD fun h₈ hs₈ hD₈ => ?_
          refine ⟨n + 1 - (i + 1), by omega, .mk h₈ tk₄ (i + 1) (ys ++ [y]) _ hlt (by rw [List.length_append, List.length_singleton]; omega) (W.frame _ _ _ hst₇ fun b hb o e => hs₈.extBut b o (fun q => hDf (q ▸ hb)) e) (F₇.change hs₈ hDL hD₀)
            ((hoC.ns heC).sameBut hs₈ (Ne.symm hDC)) (fun p hp => ?_) hJ'⟩
          rcases List.mem_cons.mp hp with rfl | hp
          · exact ⟨hD₈.trans (congrArg some (lst_snoc ys y)), hDL, hD₀⟩
          · exact ⟨hs₈.extBut _ _ (offD p hp) (N₇ p (.tail _ (.tail _ hp))).1, (N₇ p (.tail _ (.tail _ hp))).2⟩
        | false =>
          rw [if_neg (by decide)] at h₄ ⊢
          obtain ⟨⟨tk₄, rfl⟩, hJ'⟩ := h₄
          exact ⟨n + 1 - (i + 1), by omega, .mk h₇ tk₄ (i + 1) ys _ hlt (Nat.le_succ_of_le hyl) hst₇ F₇ (hoC.ns heC) (fun p hp => N₇ p (.tail _ hp)) hJ'⟩
      · obtain rfl : n = i := Nat.le_antisymm (Nat.not_lt.mp hlt) hi
        refine W.done _ _ _ hst' fun h₂ tk₂ hk₂ => ?_
        exact hRR _ _ h₂ tk₂ _ ys (frK F' hk₂) (newsK N' hk₂) offD (hn'.at' fun o e => hk₂ _ o hCw e) hC₀ hD₀ hCL hDL (Ne.symm hDC) offC hJ
    · rcases List.mem_cons.mp hp with rfl | hp
      · exact ⟨hacc, hDL, hD₀⟩
      · exact ⟨old _ _ (N p hp).1, (N p hp).2⟩
  exact codeAny_compStart_list (loop _ rfl) (W.self 0 _ _ _ hst₁ (loop _ rfl))
theorem evalZT {ct elt iter : Expr} {x x₂ : Str} {px px₂ tp : Pos} {tk} {scope : Scope} {cl : List (Str × Addr)} {pos : Pos} {Q : Value → Shared → Prop} (_F₀ : Fr h₀ L s.heap m)
    (hclos : closureFor scope env = pure cl) (hcell : ∀ z ∈ scope.names, z.2 ≠ .cell) (hkind : scope.kind = .function)
    (hnames : ∀ z ∈ scope.names, z.2 = .local → scope.names.lookup z.1 = some .local) (hx : scope.names.lookup x = some .local) (hx₂ : scope.names.lookup x₂ = some .local) (hxx : x ≠ x₂)
    (h : wpAny (model prog w) A (eval iter env) (CompZT prog w A h₀ L m env ct elt x x₂ scope cl (fun s₂ => FinE h₀ L m s₂ Q)) E s)
    (hs : ∀ x, foldedSetIterable iter env x = pure x := by intro _; rfl) :
    wpAny (model prog w) A (eval (.ListComp elt [⟨.Tuple [.Name x px, .Name x₂ px₂] tk tp, iter, [ct], 0⟩] scope pos) env) Q E s := by
  rw [eval_ListComp]
  refine wpAny_comprehension_free (use := none) rfl hs hclos hkind hnames (wpAny_mono h (fun xv s₁ h₁ => ?_) fun _ _ e => e)
  refine hideP ?_
  intro Gq hGq
  obtain ⟨I, fp, wr, n, Pt, St, Mid, news, J, W, hsz, hit, hst, hfp, F, N, hwr, hh, J0, turn, hPt, fin⟩ := h₁
  refine hGq ?_
  clear hGq Gq
  refine hit _ _ ?_
  refine blockZT W hsz hcell hkind hx hx₂ hxx hh hst hfp F N hwr J0 turn hPt ?_
  intro D C h' tk m' ys F' N' o1 hn hC₀ hD₀ hCL hDL hCD offC hJ
  refine ⟨m', hn, fun h'' hs'' => fin ys s₁.heap s₁.toks hJ D h'' tk (F'.change hs'' hCL hC₀) (fun p hp => ?_) (off1_of o1)⟩
  refine ⟨hs''.extBut _ _ ?_ (N' p hp).1, (N' p hp).2⟩
  rcases List.mem_cons.mp hp with rfl | hp
  · exact Ne.symm hCD
  · exact offC p hp
theorem enumZT {ct elt : Expr} {x x₂ : Str} {scope : Scope} {cl : List (Str × Addr)} {Fin : Shared → List Value → List (Addr × Obj) → Prop} {xs : Str} {t : Tok} {news : List (Addr × Obj)} (J : Nat → List Value → Prop)
    (hh : A.handled = none) (F : Fr h₀ L s.heap m) (N : News h₀ L s.heap news) (hty : strIterType xs = "str_ascii_iterator") (hsz : xs.cps.size ≤ 1000) (J0 : J 0 [])
    (turn : ∀ (s₁ : Shared) i c v₁ v₂ ws C oC D m₂ h tk (E' : Value → Shared → Prop), i < xs.cps.size → xs.cps[i]? = some c → (∃ t, v₁ = .int (i : Int) t) → (∃ t, v₂ = .str ⟨#[c]⟩ t) → J i ws → NsObj oC m₂ → m₂ x = some v₁ → m₂ x₂ = some v₂ → Fr h₀ L h m → News h₀ L h ((C, oC) :: (D, lst ws) :: news) → (@Ne Nat C D) →
      wpAny (model prog w) A (isTrue ct (compEnvC scope cl C env) (eval ct (compEnvC scope cl C env))) (fun ok s' => if ok = true then
        wpAny (model prog w) A (eval elt (compEnvC scope cl C env)) (ZEnd { s₁ with heap := h, toks := tk } fun y => J (i + 1) (ws ++ [y])) E' s'
        else ZEnd { s₁ with heap := h, toks := tk } (fun _ => J (i + 1) ws) Value.none s') E' { s₁ with heap := h, toks := tk })
    (fin : ∀ ws g tk, J xs.cps.size ws → Fin { s with heap := g, toks := tk } ws news) :
    wpAny (model prog w) A (call (.type "enumerate") [.str xs t]) (CompZT prog w A h₀ L m env ct elt x x₂ scope cl Fin) E s := by
  refine call_enumerate_str fun h' he hi hsz' hk => ?_
  rw [hty] at hi
  have D := Draws.strAscii (prog := prog) (w := w) (A := A.in1) hh s.heap.objs.size xs t
  have hne : s.heap.objs.size + 1 ≠ s.heap.objs.size := Nat.succ_ne_self _
  refine ⟨_, _, _, xs.cps.size, _, _, _, news, J, WalksT.enumerateD D (s.heap.objs.size + 1) hne (by simp) (by simp), by rw [sizeLine_eq]; omega, fun Q' E' q => wpAny_pyIter_enum he q, ⟨⟨_, he⟩, hi⟩, ?_, F.keeps hk, N.grown hk, ?_, hh, J0, ?_, ?_, ?_⟩
  · intro b hb
    simp only [List.mem_cons, List.not_mem_nil, or_false] at hb
    show b < h'.objs.size
    rw [hsz']
    refine ltN ?_
    rcases hb with rfl | rfl <;> omega
  · intro b hb
    simp only [List.mem_cons, List.not_mem_nil, or_false] at hb
    have hge : s.heap.objs.size ≤ b := by
      rcases hb with rfl | rfl <;> first | exact Nat.le_refl _ | exact Nat.le_add_right _ _
    exact ⟨fun q => Nat.lt_irrefl _ (Nat.lt_of_le_of_lt (q ▸ hge) F.ns.lt), ktu_new F hge, fun p hp q => Nat.lt_irrefl _ (Nat.lt_of_le_of_lt (q ▸ hge) (Heap.lt_size (N p hp).1))⟩
  · intro i v₁ v₂ ws C oC D m₂ h tk E' hi' hpq2 hJ hC hx hx₂ F' N' hCD
    refine hideP ?_
    intro Gq hGq
    obtain ⟨t', y, ⟨c, u, hc, rfl⟩, he'⟩ := hpq2
    refine hGq ?_
    clear hGq Gq
    have e1 : v₁ = .int (i : Int) t' ∧ v₂ = .str ⟨#[c]⟩ u := by simpa using he'
    obtain ⟨rfl, rfl⟩ := e1
    exact turn _ i c _ _ ws C oC D m₂ h tk E' hi' hc ⟨_, rfl⟩ ⟨_, rfl⟩ hJ hC hx hx₂ F' N' hCD
  · intro i vals hpq3
    refine hideP ?_
    intro Gq hGq
    obtain ⟨t', y, _, rfl⟩ := hpq3
    refine hGq ?_
    clear hGq Gq
    exact ⟨_, _, rfl⟩
  · exact fun ws g tk hJ => fin ws g tk hJ
theorem CompK.map {α : Type} (relI rel : α → Value → Prop) (items : List α) {elt : Expr} {x : Str} {scope : Scope} {cl : List (Str × Addr)} {Fin : Shared → List Value → List (Addr × Obj) → Prop} {xv : Value} {n : Nat} {P : Nat → Value → Prop} {S : List (Addr × Obj) → Prop} {news : List (Addr × Obj)} {s₁ : Shared}
    (src : Src prog w A h₀ L xv s₁ n P S news) (F : Fr h₀ L s₁.heap m) (N : News h₀ L s₁.heap news) (hlen : items.length = n) (hPi : ∀ i v, P i v → i < n → ∃ a, items[i]? = some a ∧ relI a v)
    (turn : ∀ g a v ys I oI C D K oK h tk (E' : Value → Shared → Prop), a ∈ items → relI a v → oK.data = .cell (some v) → Fr h₀ L h m → News h₀ L h ((I, oI) :: (C, dictE) :: (D, lst ys) :: (K, oK) :: news) → S news →
      (∀ p ∈ news, p.1 ≠ I ∧ p.1 ≠ C ∧ p.1 ≠ D ∧ p.1 ≠ K) → (@Ne Nat I C ∧ @Ne Nat I D ∧ @Ne Nat I K ∧ @Ne Nat C D ∧ @Ne Nat C K ∧ @Ne Nat D K) →
      wpAny (model prog w) A (eval elt (compEnvC scope ((x, K) :: cl) C env)) (EndK h₀ L m { { s₁ with heap := g } with heap := h, toks := tk } I oI C D (lst ys) K oK S (fun y news' => news' = news ∧ rel a y)) E' { { s₁ with heap := g } with heap := h, toks := tk })
    (fin : ∀ g ys, All2 rel items ys → Fin { s₁ with heap := g } ys news) : CompK prog w A h₀ L m env [] elt x scope cl Fin xv s₁ := by
  refine ⟨n, P, S, _, fun i ys nw => nw = news ∧ All2 rel (items.take i) ys, src, F, N, ⟨rfl, trivial⟩, fun g => ?_, ?_⟩
  · rintro i v ys nw I oI C D K oK h tk E' hi hPv ⟨rfl, hJ⟩ hS hoK F' N' off ne
    obtain ⟨a, ha, hr⟩ := hPi i v hPv hi
    rw [List.forIn_nil]
    refine wpAny_pure ?_
    rw [if_pos rfl]
    refine wpAny_mono (turn g a v ys I oI C D K oK h tk E' (List.mem_of_getElem? ha) hr hoK F' N' hS off ne) (fun y s₂ u => ?_) fun _ _ e => e
    refine hideP ?_
    intro Gq hGq
    obtain ⟨h', tk', nw', e1, e2, e3, e4, e5, rfl, hrel⟩ := u
    refine hGq ?_
    clear hGq Gq
    refine ⟨h', tk', _, e1, e2, e3, e4, e5, rfl, ?_⟩
    rw [List.take_add_one, ha, Option.toList_some]
    exact hJ.snoc hrel
  · rintro g ys nw ⟨rfl, hJ⟩
    rw [← hlen, List.take_length] at hJ
    exact fin g ys hJ
theorem endK_same {I C D K : Addr} {oI oD oK : Obj} {s₁ : Shared} {S : List (Addr × Obj) → Prop} {rest : Value → List (Addr × Obj) → Prop} {y : Value} {h' : Heap} {tk : Nat} {all news : List (Addr × Obj)}
    (F : Fr h₀ L h' m) (N : News h₀ L h' all) (sub : ∀ p ∈ (I, oI) :: (C, dictE) :: (D, oD) :: (K, oK) :: news, p ∈ all)
    (off : ∀ p ∈ news, p.1 ≠ I ∧ p.1 ≠ C ∧ p.1 ≠ D ∧ p.1 ≠ K) (hS : S news) (r : rest y news) : EndK h₀ L m s₁ I oI C D oD K oK S rest y { s₁ with heap := h', toks := tk } :=
  ⟨h', tk, news, rfl, F, cb_drop N sub, off, hS, r⟩
end

end
-- part EvalZ
section
open PyProof.Rows.LCg (NsObj lst Off3 Off1 CompEnd CompRest FinE FinA SrcAt lst_snoc ns_obj)
section
variable {prog : Program} {w : World} {A : Around} {E : Value → Shared → Prop} {s : Shared} {h₀ : Heap} {L : Addr} {m : Str → Option Value} {env : Env}
theorem evalZ {elt iter : Expr} {x x₂ : Str} {px px₂ tp : Pos} {tk} {scope : Scope} {cl : List (Str × Addr)} {pos : Pos} {Q : Value → Shared → Prop} (_F₀ : Fr h₀ L s.heap m)
    (hclos : closureFor scope env = pure cl) (hcell : ∀ z ∈ scope.names, z.2 ≠ .cell) (hkind : scope.kind = .function)
    (hnames : ∀ z ∈ scope.names, z.2 = .local → scope.names.lookup z.1 = some .local) (hx : scope.names.lookup x = some .local) (hx₂ : scope.names.lookup x₂ = some .local) (hxx : x ≠ x₂)
    (h : wpAny (model prog w) A (eval iter env) (CompZ prog w A h₀ L m env elt x x₂ scope cl (fun s₂ => FinE h₀ L m s₂ Q)) E s)
    (hs : ∀ x, foldedSetIterable iter env x = pure x := by intro _; rfl) :
    wpAny (model prog w) A (eval (.ListComp elt [⟨.Tuple [.Name x px, .Name x₂ px₂] tk tp, iter, [], 0⟩] scope pos) env) Q E s := by
  rw [eval_ListComp]
  refine wpAny_comprehension_free (use := none) rfl hs hclos hkind hnames (wpAny_mono h (fun xv s₁ h₁ => ?_) fun _ _ e => e)
  refine hideP ?_
  intro Gq hGq
  obtain ⟨I, fp, wr, n, Pt, St, Mid, news, J, W, hsz, hit, hst, hfp, F, N, hwr, hh, J0, turn, hPt, fin⟩ := h₁
  refine hGq ?_
  clear hGq Gq
  refine hit _ _ ?_
  refine blockZ W hsz hcell hkind hx hx₂ hxx hh hst hfp F N hwr J0 turn hPt ?_
  intro D C h' tk m' ys F' N' o1 hn hC₀ hD₀ hCL hDL hCD offC hJ
  refine ⟨m', hn, fun h'' hs'' => fin ys s₁.heap s₁.toks hJ D h'' tk (F'.change hs'' hCL hC₀) (fun p hp => ?_) (off1_of o1)⟩
  refine ⟨hs''.extBut _ _ ?_ (N' p hp).1, (N' p hp).2⟩
  rcases List.mem_cons.mp hp with rfl | hp
  · exact Ne.symm hCD
  · exact offC p hp
end

end
-- part SrcT
section
open PyProof.Rows.LCg (NsObj lst Off3 Off1 CompEnd CompRest FinE FinA SrcAt)
theorem Src.tuple {prog : Program} {w : World} {A : Around} {h₀ : Heap} {L : Addr} {m : Str → Option Value} {s₁ : Shared} {news : List (Addr × Obj)} {ax : Addr} {its : Array Value} {o : Obj} (hh : A.handled = none) (F : Fr h₀ L s₁.heap m) (N : News h₀ L s₁.heap news) (hm : (ax, o) ∈ news) (hc : o.cls = .type "tuple") (hd : ∃ n, o.data = .seq its n) (hsz : its.size ≤ sizeLine) :
    Src prog w A h₀ L (.ref ax) s₁ its.size (fun i v => its[i]? = some v) (fun nw => (ax, o) ∈ nw) news := by
  have hl : s₁.heap.IsTuple ax its := ⟨o, (N _ hm).1, hc, hd⟩
  have hlt : ax < s₁.heap.objs.size := Heap.lt_size (N _ hm).1
  refine ⟨s₁.heap.objs.size, [s₁.heap.objs.size, ax], _, Walks.tuple hh s₁.heap.objs.size ax (Nat.ne_of_lt hlt) its, hsz, fun i h st => ?_, ?_, Nat.ne_of_lt F.ns.lt, next_is_new F, fun p hp => Nat.ne_of_lt (Heap.lt_size (N p hp).1), hm, fun Q' E' hq => ?_⟩
  · obtain ⟨o, e, _⟩ := st.1; exact ⟨o, e⟩
  · intro i h h' o2 nw st e e' k N' S
    exact ⟨by obtain ⟨o', q, r⟩ := st.1; rw [e] at q; cases q; exact ⟨o2, e', r⟩, ⟨o, (N' _ S).1, hc, hd⟩⟩
  · refine wpAny_pyIter_tuple hl (hq _ (fun b o e => Heap.get?_push_of_some _ e) ⟨⟨_, Heap.get?_push_size _ rfl, rfl, rfl⟩, ⟨o, Heap.get?_push_of_some _ (N _ hm).1, hc, hd⟩⟩ fun b hb => ?_)
    rw [Heap.size_push]
    rcases List.mem_cons.mp hb with rfl | hb
    · exact Nat.lt_succ_self _
    · rw [List.mem_singleton.mp hb]; exact Nat.lt_succ_of_lt hlt

end
-- part CompF
section
open PyProof.Rows.LCg (NsObj lst Off3 Off1 CompEnd CompRest FinE FinA SrcAt)
section
variable {prog : Program} {w : World} {A : Around} {h₀ : Heap} {L : Addr} {m : Str → Option Value} {env : Env} {s₁ : Shared} {news : List (Addr × Obj)}
theorem forIn_one {M : Model} {E : Value → Shared → Prop} {s : Shared} {ct : Expr} {ev : Env} {Q : Bool → Shared → Prop} (h : wpAny M A (isTrue ct ev (eval ct ev)) Q E s) :
    wpAny M A (forIn [ct] true fun c r => if r = true then do let ok ← isTrue c ev (eval c ev); pure (ForInStep.yield ok) else pure (ForInStep.yield r)) Q E s := by
  rw [List.forIn_cons]
  refine wpAny_bind ?_
  rw [if_pos rfl]
  refine wpAny_bind (wpAny_mono h (fun ok s' hq => ?_) fun _ _ e => e)
  refine wpAny_pure ?_
  dsimp only
  rw [List.forIn_nil]
  exact wpAny_pure hq
theorem EndK.mono {I C D K : Addr} {s : Shared} {oI oD oK : Obj} {S : List (Addr × Obj) → Prop} {r r' : Value → List (Addr × Obj) → Prop} {y : Value} {s₂ : Shared} (h : ∀ y n, r y n → r' y n) (e : EndK h₀ L m s I oI C D oD K oK S r y s₂) : EndK h₀ L m s I oI C D oD K oK S r' y s₂ := by
  refine hideP ?_
  intro Gq hGq
  obtain ⟨h', tk', nw', e1, e2, e3, e4, e5, e6⟩ := e
  refine hGq ?_
  clear hGq Gq
  exact ⟨h', tk', nw', e1, e2, e3, e4, e5, h _ _ e6⟩
theorem CompK.filter {α : Type} (relI rel : α → Value → Prop) (f : α → Bool) (items : List α) {ct elt : Expr} {x : Str} {scope : Scope} {cl : List (Str × Addr)} {Fin : Shared → List Value → List (Addr × Obj) → Prop} {xv : Value} {n : Nat} {P : Nat → Value → Prop} {S : List (Addr × Obj) → Prop}
    (src : Src prog w A h₀ L xv s₁ n P S news) (F : Fr h₀ L s₁.heap m) (N : News h₀ L s₁.heap news) (hlen : items.length = n) (hPi : ∀ i v, P i v → i < n → ∃ a, items[i]? = some a ∧ relI a v)
    (turn : ∀ g a v ys I oI C D K oK h tk (E' : Value → Shared → Prop), a ∈ items → relI a v → oK.data = .cell (some v) → Fr h₀ L h m → News h₀ L h ((I, oI) :: (C, dictE) :: (D, lst ys) :: (K, oK) :: news) → S news →
      (∀ p ∈ news, p.1 ≠ I ∧ p.1 ≠ C ∧ p.1 ≠ D ∧ p.1 ≠ K) → (@Ne Nat I C ∧ @Ne Nat I D ∧ @Ne Nat I K ∧ @Ne Nat C D ∧ @Ne Nat C K ∧ @Ne Nat D K) →
      wpAny (model prog w) A (isTrue ct (compEnvC scope ((x, K) :: cl) C env) (eval ct (compEnvC scope ((x, K) :: cl) C env))) (fun ok s' => if ok = true then
        wpAny (model prog w) A (eval elt (compEnvC scope ((x, K) :: cl) C env)) (EndK h₀ L m { { s₁ with heap := g } with heap := h, toks := tk } I oI C D (lst ys) K oK S (EndY rel f a news)) E' s'
        else EndK h₀ L m { { s₁ with heap := g } with heap := h, toks := tk } I oI C D (lst ys) K oK S (fun _ news' => EndN f a news news') Value.none s') E' { { s₁ with heap := g } with heap := h, toks := tk })
    (fin : ∀ g ys, All2 rel (items.filter f) ys → Fin { s₁ with heap := g } ys news) : CompK prog w A h₀ L m env [ct] elt x scope cl Fin xv s₁ := by
  refine ⟨n, P, S, _, fun i ys nw => nw = news ∧ All2 rel ((items.take i).filter f) ys, src, F, N, ⟨rfl, trivial⟩, fun g => ?_, ?_⟩
  · rintro i v ys nw I oI C D K oK h tk E' hi hPv ⟨rfl, hJ⟩ hS hoK F' N' off ne
    obtain ⟨a, ha, hr⟩ := hPi i v hPv hi
    have hy : ∀ y nw', EndY rel f a nw y nw' → nw' = nw ∧ All2 rel ((items.take (i + 1)).filter f) (ys ++ [y]) := by
      rintro y nw' ⟨rfl, h1, h2⟩
      refine ⟨rfl, ?_⟩
      rw [List.take_add_one, ha, Option.toList_some, List.filter_append]
      have : [a].filter f = [a] := by simp [h1]
      rw [this]
      exact hJ.snoc h2
    have hn : ∀ nw', EndN f a nw nw' → nw' = nw ∧ All2 rel ((items.take (i + 1)).filter f) ys := by
      rintro nw' ⟨rfl, h1⟩
      refine ⟨rfl, ?_⟩
      rw [List.take_add_one, ha, Option.toList_some, List.filter_append]
      have : [a].filter f = [] := by simp [h1]
      rw [this, List.append_nil]
      exact hJ
    refine forIn_one (wpAny_mono (turn g a v ys I oI C D K oK h tk E' (List.mem_of_getElem? ha) hr hoK F' N' hS off ne) (fun ok s' hq => ?_) fun _ _ e => e)
    cases ok with
    | true =>
      rw [if_pos rfl] at hq ⊢
      exact wpAny_mono hq (fun y s₂ u => EndK.mono (fun y nw hj => hy y nw hj) u) fun _ _ e => e
    | false =>
      rw [if_neg (by decide)] at hq ⊢
      exact EndK.mono (fun y nw hj => hn nw hj) hq
  · rintro g ys nw ⟨rfl, hJ⟩
    rw [← hlen, List.take_length] at hJ
    exact fin g ys hJ
end

end
-- part SvT
section
theorem sv_snoc (hs : List (Str × Tok)) (y : Str) (t : Tok) : strValues hs ++ [.str y t] = strValues (hs ++ [(y, t)]) := by simp [strValues]
theorem sv_carried : ∀ rs : List (Str × Tok), CarriedAll (strValues rs) (rs.map fun r => PyData.str r.1)
  | [] => .nil
  | r :: rs => .cons (.str _ _) (sv_carried rs)
theorem strs_lay : ∀ rs : List Str, (∀ x ∈ rs, PyData.strOk x = true) → PyData.canLayAll0 (rs.map PyData.str) = true
  | [], _ => rfl
  | x :: rs, h => by
    have h1 := h x (.head _)
    have h2 := strs_lay rs fun y hy => h y (.tail _ hy)
    simp [PyData.canLayAll0, PyData.canLay0, h1, h2]
theorem strs_depth : ∀ rs : List Str, PyData.depthAll (rs.map PyData.str) = 0
  | [] => rfl
  | _ :: rs => by simp [PyData.depthAll, PyData.depth, strs_depth rs]
theorem strs_shaped {rs : List Str} (h : ∀ x ∈ rs, PyData.strOk x = true) : SeqAt.shaped (.list (rs.map PyData.str)) = true := by
  simp [SeqAt.shaped, PyData.canLay0, PyData.depth, strs_lay rs h, strs_depth rs]
theorem strs_eqv : ∀ rs : List Str, PyData.eqvAll (rs.map PyData.str) (rs.map PyData.str) = true
  | [] => by simp [PyData.eqvAll]
  | x :: rs => by simp [PyData.eqvAll, PyData.eqv, strs_eqv rs]
theorem eq_nil {prog : Program} {w : World} {A : Around} {E : Value → Shared → Prop} {s : Shared} {a b : Addr} {rs : List (Str × Tok)} {Q : Value → Shared → Prop}
    (ha : s.heap.IsList a (strValues rs).toArray) (hb : s.heap.IsList b #[]) (hok : ∀ x ∈ rs.map Prod.fst, PyData.strOk x = true) (hu : A.units + 64 < cLine) (h : Q (.bool rs.isEmpty) s) :
    wpAny (model prog w) A (compareOp .Eq (.ref a) (.ref b)) Q E s := by
  have c1 := sv_carried rs
  have e1 : (rs.map fun r => PyData.str r.1) = (rs.map Prod.fst).map PyData.str := by rw [List.map_map]; rfl
  rw [e1] at c1
  have hb' : s.heap.IsList b ([] : List Value).toArray := hb
  refine eq_dataH (reads_newData ha c1) (reads_newData hb' .nil) (strs_shaped hok) (by decide) hu ?_
  have : PyData.eqv (.list ((rs.map Prod.fst).map PyData.str)) (.list []) = rs.isEmpty := by
    cases rs with
    | nil => simp [PyData.eqv, PyData.eqvAll]
    | cons r rs => simp [PyData.eqv, PyData.eqvAll]
  rw [this]
  exact h
def isC (a : Nat) (v : Value) : Prop := ∃ t, v = .str ⟨#[a]⟩ t
theorem isC_sv : ∀ {l : List Nat} {ys : List Value}, All2 isC l ys → ∃ rs : List (Str × Tok), ys = strValues rs ∧ rs.map Prod.fst = l.map fun c => (⟨#[c]⟩ : Str)
  | [], [], _ => ⟨[], rfl, rfl⟩
  | a :: l, _ :: ys, ⟨⟨t, h⟩, h2⟩ => by
    obtain ⟨rs, e1, e2⟩ := isC_sv h2
    exact ⟨(⟨#[a]⟩, t) :: rs, by rw [h, e1]; rfl, by rw [List.map_cons, List.map_cons, ← e2]⟩
theorem empty_any {l : List Nat} {f : Nat → Bool} {rs : List (Str × Tok)} (h : rs.map Prod.fst = (l.filter f).map fun c => (⟨#[c]⟩ : Str)) : rs.isEmpty = !(l.any f) := by
  have h2 := congrArg List.length h
  rw [List.length_map, List.length_map] at h2
  cases h3 : l.any f with
  | true =>
    obtain ⟨c, hc, hf⟩ := List.any_eq_true.mp h3
    have : 0 < (l.filter f).length := List.length_pos_of_mem (List.mem_filter.mpr ⟨hc, hf⟩)
    cases rs with
    | nil => rw [List.length_nil] at h2; omega
    | cons r rs => rfl
  | false =>
    have : (l.filter f).length = 0 := by
      rw [List.length_eq_zero_iff, List.filter_eq_nil_iff]
      intro c hc hf
      have := List.any_eq_true.mpr ⟨c, hc, hf⟩
      rw [h3] at this; cases this
    cases rs with
    | nil => rfl
    | cons r rs => rw [List.length_cons] at h2; omega
theorem cvC {ms : List (Nat × Tok)} (i : Nat) (v : Value) (h : (cv ms).toArray[i]? = some v) : ∃ a, (ms.map Prod.fst)[i]? = some a ∧ isC a v := by
  simp only [cv, List.getElem?_toArray, List.getElem?_map, Option.map_eq_some_iff] at h
  obtain ⟨r, h1, h2⟩ := h
  exact ⟨r.1, by rw [List.getElem?_map, h1]; rfl, r.2, h2.symm⟩

end
section
local macro_rules | `(tactic| walk_at $s:str) => `(tactic| k_extra $s)
local macro_rules | `(tactic| kcj_m) => `(tactic| k_extra "kcj_m")
local macro_rules | `(tactic| k_ne) => `(tactic| k_extra "k_ne")
local macro_rules | `(tactic| k_all) => `(tactic| k_extra "k_all")
local macro_rules | `(tactic| kd_mem) => `(tactic| k_extra "kd_mem")
local macro_rules | `(tactic| k_mem) => `(tactic| k_extra "k_mem")
local macro_rules | `(tactic| kn_code) => `(tactic| k_extra "kn_code")
local macro_rules | `(tactic| is_list) => `(tactic| k_extra "is_list")
local macro_rules | `(tactic| k_room) => `(tactic| k_extra "k_room")
local macro_rules | `(tactic| k_lt $h:ident) => `(tactic| (replace $h := allLt_of $h; (try simp only [AllLt, and_true] at $h:ident); (try simp only [allLt_top] at $h:ident)))
local macro_rules | `(tactic| k_enter) => `(tactic| first
  | ((k_extra "m1"); k_whole; intro g' L' h' FG' F' N' B' X' T'; (try dsimp only); (try k_lift B'); (try k_fold))
  | ((k_extra "m2"); k_whole; intro g' L' h' tk' cells' FG' F' N' Y' B' X' T' l1; (try k_lt l1); k_cells Y'; (try simp only [List.cons_append, List.nil_append] at N'); (try dsimp only); (try k_lift B'); (try k_fold)))
local macro_rules | `(tactic| tb_from $t) => `(tactic| (k_dflt (refine' Ctr.use $t ?B ?F ?X ?N ?T ?kK ?kd ?ku ?_; (case B => k_asm); (case F => k_asm); (case X => k_asm); (case N => k_asm); (case T => k_asm); (case kK => first | exact rfl | assumption); (case kd => ktr_room); (case ku => ktr_units))))
-- part E1
section
theorem words_1 : True := by
  k_with "k_all" => (first | assumption | exact ne_of_top (by omega))
  k_with "kd_mem" => (first | exact Pick.head | (apply Pick.tail; kd_mem))
  k_with "UnrEnd" => ((k_dflt (refine' unrEnd_pick (by k_asm) (by k_asm) (by kd_mem) (by k_all) ?_; k_whole)))
  k_with "exec For Name Name cons nil" => ((k_here; (with_unfolding_all refine' For_invVF (by k_asm) (by exact rfl) (by exact rfl) ?_; k_whole)))
  k_with "pyIter ref" => ((((with_reducible show wpAny _ _ (pyIter (Value.ref _)) (fun it s₂ => LoopAtV _ _ _ _ _ _ _ _ _ it s₂) _ _); k_dflt (refine' iter_listUnr (by exact rfl) (by k_asm) (by k_asm) (by k_mem) (by exact rfl) (by exact rfl) ?_; k_whole); intro _ zql1'; (try k_lt zql1')); (try (revert zql1'; intro _))))
  k_with "m1" => ((refine' code_def (by k_asm) (by k_asm) (by k_asm) (by k_asm) (by k_asm) (by exact rfl) (by exact rfl) (by first | exact rfl | assumption) (by k_is) (by k_is) (by first | k_room | ktr_room) (by first | exact BindsTo.of_eq rfl | exact binds_K (by k_in) rfl (by k_is) rfl rfl rfl | fail "k_enter: no rule for these arguments") (by exact locs rfl) ?_ (by exact rfl) (by exact rfl) (by exact rfl) (by decide)))
  k_with "m2" => ((refine' code_defC (by k_asm) (by k_asm) (by k_asm) (by k_asm) (by k_asm) (by exact rfl) (by exact rfl) (by first | exact rfl | assumption) (by k_is) (by k_is) (by first | k_room | ktr_room) (by first | exact BindsTo.of_eq rfl | exact binds_K (by k_in) rfl (by k_is) rfl rfl rfl | fail "k_enter: no rule for these arguments") (by exact rfl) (by decide +kernel) ?_ (by exact rfl) (by exact rfl) (by exact rfl)))
  k_with "call builtin:str.find" => (((with_reducible show wpAny _ _ (call (Value.builtin "str.find") [Value.str _ _, Value.str _ _, Value.int _ _, Value.int _ _]) _ _ _); k_dflt (refine find4_call ?_)))
  k_with "call builtin:len" => (((with_reducible show wpAny _ _ (call (Value.builtin "len") [Value.str (PySem.Str.mk _) _]) _ _ _); k_dflt (refine SBL.len (by first | decide | (simp only [PySem.Str.length, List.size_toArray, List.length_cons, List.length_nil]; omega)) ?_); (try dsimp only)))
  k_with "UnrEnd" => ((k_dflt (refine' unrEnd_pickL (by k_asm) (by k_asm) (by kd_mem) (by k_all) (by k_mem) ?_; k_whole)))
  k_with "kcj_m" => ((intro _ zqhp; repeat (first | exact zqhp | apply List.Mem.tail)))
  k_with "k_mem" => (((show @Membership.mem (PySem.Addr × PySem.Obj) (List (PySem.Addr × PySem.Obj)) List.instMembership _ _); with_reducible assumption))
  k_with "kn_code" => (first | exact codeHd_of_K (c := 37) (P := 33) (by k_asm) (by kernel_rfl) | exact codeHd_of_K (c := 117) (P := 113) (by k_asm) (by kernel_rfl))
  k_with "is_list" => (exact News.isList (by k_asm) (by k_mem))
  k_with "k_room" => (ktr_room)
  k_with "Kq" => ((k_dflt (refine' Kq.of (by with_reducible assumption) ?_)))
  exact True.intro
theorem top_off_E1 : True := by
  w_top off
  exact True.intro
theorem words_2 : True := by
  k_with "call builtin:str.split" => (((k_here; (with_reducible show wpAny _ _ (call (Value.builtin "str.split") [Value.str _ _, Value.str _ _]) _ _ _); k_dflt (refine' split3_call (by k_asm) (by k_asm) (by assumption) (by rfl) ?_ (by (rw [sizeLine_eq]; omega)); k_whole); intro _ _ _ _ _ _ zql1' _ _; (try k_lt zql1')); (try (revert zql1'; intro _))))
  k_with "ListRest" => ((refine halt ?_))
  exact True.intro
def EllJ (x : Str) (c : Nat) (i : Nat) (p : Int) : Prop := (i ≤ 1 ∧ p = 0) ∨ (2 ≤ i ∧ ¬ Txt.find3 x ⟨#[c]⟩ 0 < 0 ∧ p = Txt.find3 x ⟨#[c]⟩ 0 + 1)
theorem ell_turn {x : Str} {c i : Nat} {p : Int} {v : Value} {t1 t2 t3 : Tok} (hv : [Value.str ⟨#[]⟩ t1, .str ⟨#[c]⟩ t2, .str ⟨#[]⟩ t3][i]? = some v) (hJ : EllJ x c i p) :
    ∃ u tu, v = .str u tu ∧ u.length < 100 ∧ (Txt.find3 x u p < 0 → Value.bool false = Value.bool (x.cps.contains c)) ∧ (¬ Txt.find3 x u p < 0 → EllJ x c (i + 1) (Txt.find3 x u p + (u.length : Int))) := by
  obtain ⟨e1, e2, e3⟩ := ell_ends x c
  rcases i with _ | _ | _ | i
  · injection hv with hv
    refine ⟨_, _, hv.symm, (by first | exact (by decide : (0 : Nat) < 100) | exact (by decide : (1 : Nat) < 100)), ?_, ?_⟩ <;> rcases hJ with ⟨_, rfl⟩ | ⟨h, _⟩
    · intro h; omega
    · omega
    · intro _; exact .inl ⟨by omega, by rw [e1]; rfl⟩
    · omega
  · injection hv with hv
    refine ⟨_, _, hv.symm, (by first | exact (by decide : (0 : Nat) < 100) | exact (by decide : (1 : Nat) < 100)), ?_, ?_⟩ <;> rcases hJ with ⟨_, rfl⟩ | ⟨h, _⟩
    · intro h; rw [e3]; simp [h]
    · omega
    · intro h; exact .inr ⟨by omega, h, rfl⟩
    · omega
  · injection hv with hv
    refine ⟨_, _, hv.symm, (by first | exact (by decide : (0 : Nat) < 100) | exact (by decide : (1 : Nat) < 100)), ?_, ?_⟩ <;> rcases hJ with ⟨h, _⟩ | ⟨_, h, rfl⟩
    · omega
    · rw [e2 h]; intro h'; omega
    · omega
    · rw [e2 h]; intro _; exact .inr ⟨by omega, h, Int.add_zero _⟩
  · simp at hv
theorem ell_done {x : Str} {c : Nat} {p : Int} (hJ : EllJ x c 3 p) : Value.bool true = Value.bool (x.cps.contains c) := by
  rw [(ell_ends x c).2.2]
  rcases hJ with ⟨h, _⟩ | ⟨_, h, _⟩
  · omega
  · simp [h]
set_option maxHeartbeats 4000000 in
theorem ell_spec (w : World) (x y : Str) (c : Nat) (t t2 : Tok) (rest : List (Addr × Obj)) (hx : x.length < 100) (hyl : y.length = 7)
    (hsp : Txt.split y (Str.ofString "...") = [⟨#[]⟩, ⟨#[c]⟩, ⟨#[]⟩]) (hin : (Builtin.Str.occurrences y (Str.ofString "...") 0 y.length 1).isEmpty = false) :
    CtrP w 2 (.ref 45) [.str y t, .str x t2] rest (fun v => v = .bool (x.cps.contains c)) := by
  unfold CtrP Ctr
  k_fill
  intro p loose mean mg mb dp un gd cn cs a ccd cl outer A₀ base h₀ L m s Q E B F X N T hk hd hu hret
  refine wpAny_call ?_
  k_dflt k_enter
  k_steps
  rename_i lF lN k0 I lI
  refine ⟨?_⟩
  refine listRest_acc (y := Str.ofString "startpos") (EllJ x c) (by decide) 0 _ rfl (.inl ⟨Nat.zero_le _, rfl⟩) ?_ ?_
  · intro i v p t it h tk hv hJ hit F3 N3
    refine hideQ ?_
    intro qq ee hqq
    refine hideP ?_
    intro G hG
    obtain ⟨u, tu, rfl, hu1, hT, hE⟩ := ell_turn hv hJ
    refine hG ?_
    clear hG G hv hJ
    replace F3 := fr_like lF F3
    replace N3 := news_like lF N3
    k_steps
    · exact ret_pure hret _ _ _ _ (by k_asm) (by k_asm) (by kcj_m) (hT (by with_reducible assumption))
    · refine .mk _ _ (fun z z1 z2 => ?_) (if_pos rfl) (hE (by with_reducible assumption))
      dsimp only
      (repeat (first | rw [if_neg z1] | rw [if_neg z2]))
  · intro u p t h tk hR F3 N3
    replace F3 := fr_like lF F3
    replace N3 := news_like lF N3
    k_steps
    refine ret_pure hret _ _ _ _ (by k_asm) (by k_asm) (by kcj_m) (ell_done hR)

end
-- part E2
section
theorem words_3 : True := by
  k_with_none
  k_with "k_all" => (first | assumption | exact ne_of_top (by omega))
  k_with "kd_mem" => (first | exact Pick.head | (apply Pick.tail; kd_mem))
  k_with "UnrEnd" => ((k_dflt (refine' unrEnd_pick (by k_asm) (by k_asm) (by kd_mem) (by k_all) ?_; k_whole)))
  k_with "exec For Name Name cons nil" => ((k_here; (with_unfolding_all refine' For_invVF (by k_asm) (by exact rfl) (by exact rfl) ?_; k_whole)))
  k_with "pyIter ref" => ((((with_reducible show wpAny _ _ (pyIter (Value.ref _)) (fun it s₂ => LoopAtV _ _ _ _ _ _ _ _ _ it s₂) _ _); k_dflt (refine' iter_listUnr (by exact rfl) (by k_asm) (by k_asm) (by k_mem) (by exact rfl) (by exact rfl) ?_; k_whole); intro _ zql1'; (try k_lt zql1')); (try (revert zql1'; intro _))))
  k_with "m1" => ((refine' code_def (by k_asm) (by k_asm) (by k_asm) (by k_asm) (by k_asm) (by exact rfl) (by exact rfl) (by first | exact rfl | assumption) (by k_is) (by k_is) (by first | k_room | ktr_room) (by first | exact BindsTo.of_eq rfl | exact binds_K (by k_in) rfl (by k_is) rfl rfl rfl | fail "k_enter: no rule for these arguments") (by exact locs rfl) ?_ (by exact rfl) (by exact rfl) (by exact rfl) (by decide)))
  k_with "m2" => ((refine' code_defC (by k_asm) (by k_asm) (by k_asm) (by k_asm) (by k_asm) (by exact rfl) (by exact rfl) (by first | exact rfl | assumption) (by k_is) (by k_is) (by first | k_room | ktr_room) (by first | exact BindsTo.of_eq rfl | exact binds_K (by k_in) rfl (by k_is) rfl rfl rfl | fail "k_enter: no rule for these arguments") (by exact rfl) (by decide +kernel) ?_ (by exact rfl) (by exact rfl) (by exact rfl)))
  k_with "call builtin:str.find" => (((with_reducible show wpAny _ _ (call (Value.builtin "str.find") [Value.str _ _, Value.str _ _, Value.int _ _, Value.int _ _]) _ _ _); k_dflt (refine find4_call ?_)))
  k_with "call builtin:len" => (((with_reducible show wpAny _ _ (call (Value.builtin "len") [Value.str (PySem.Str.mk _) _]) _ _ _); k_dflt (refine SBL.len (by first | decide | (simp only [PySem.Str.length, List.size_toArray, List.length_cons, List.length_nil]; omega)) ?_); (try dsimp only)))
  k_with "UnrEnd" => ((k_dflt (refine' unrEnd_pickL (by k_asm) (by k_asm) (by kd_mem) (by k_all) (by k_mem) ?_; k_whole)))
  k_with "kcj_m" => ((intro _ zqhp; repeat (first | exact zqhp | apply List.Mem.tail)))
  k_with "k_mem" => (((show @Membership.mem (PySem.Addr × PySem.Obj) (List (PySem.Addr × PySem.Obj)) List.instMembership _ _); with_reducible assumption))
  k_with "kn_code" => (first | exact codeHd_of_K (c := 37) (P := 33) (by k_asm) (by kernel_rfl) | exact codeHd_of_K (c := 117) (P := 113) (by k_asm) (by kernel_rfl))
  k_with "is_list" => (exact News.isList (by k_asm) (by k_mem))
  k_with "k_room" => (ktr_room)
  k_with "Kq" => ((k_dflt (refine' Kq.of (by with_reducible assumption) ?_)))
  exact True.intro
theorem top_off_E2 : True := by
  w_top off
  exact True.intro
theorem ell_spec2 (w : World) (x : Str) (c : Nat) (t t2 : Tok) (rest : List (Addr × Obj)) (hx : x.length < 100) (h1 : 97 ≤ c) (h2 : c ≤ 102) :
    CtrP w 2 (.ref 45) [.str (Str.ofString "..." ++ ⟨#[c]⟩ ++ Str.ofString "...") t, .str x t2] rest (fun v => v = .bool (x.cps.contains c)) :=
  ell_spec w x _ c t t2 rest hx (dots_len c) (dots_split c h1 h2) (dots_in c h1 h2)
theorem words_4 : True := by
  k_with "call ref" => ((((with_reducible show wpAny _ _ (call (Value.ref 45) [Value.str _ _, Value.str _ _] []) _ _ _); tb_from (ell_spec2 _ _ _ _ _ _ (by first | assumption | omega) (by first | assumption | omega) (by first | assumption | omega)); intro _ _ _ _ _ _ zqo'; obtain ⟨zqe1', zqe2'⟩ := zqo'; subst zqe1'; subst zqe2'; (try dsimp only); (try k_sweep)); (try (revert zqe1'; intro _)); (try (revert zqe2'; intro _))))
  exact True.intro
set_option maxHeartbeats 4000000 in
theorem hol_spec (w : World) (x : Str) (c : Nat) (t t2 : Tok) (rest : List (Addr × Obj)) (hx : x.length < 100) (h1 : 97 ≤ c) (h2 : c ≤ 102) :
    CtrP w 3 (.ref 125) [.str ⟨#[c]⟩ t, .str x t2] rest (fun v => v = .bool (x.cps.contains c)) := by
  unfold CtrP Ctr
  k_fill
  intro p loose mean mg mb dp un gd cn cs a ccd cl outer A₀ base h₀ L m s Q E B F X N T hk hd hu hret
  refine wpAny_call ?_
  k_dflt k_enter
  k_steps
  all_goals (refine ret_pure hret _ _ _ _ (by k_asm) (by k_asm) (by kcj_m) rfl)


end
-- part E3
section
theorem words_5 : True := by
  k_with_none
  k_with "k_all" => (first | assumption | exact ne_of_top (by omega))
  k_with "kd_mem" => (first | exact Pick.head | (apply Pick.tail; kd_mem))
  k_with "UnrEnd" => ((k_dflt (refine' unrEnd_pick (by k_asm) (by k_asm) (by kd_mem) (by k_all) ?_; k_whole)))
  k_with "exec For Name Name cons nil" => ((k_here; (with_unfolding_all refine' For_invVF (by k_asm) (by exact rfl) (by exact rfl) ?_; k_whole)))
  k_with "pyIter ref" => ((((with_reducible show wpAny _ _ (pyIter (Value.ref _)) (fun it s₂ => LoopAtV _ _ _ _ _ _ _ _ _ it s₂) _ _); k_dflt (refine' iter_listUnr (by exact rfl) (by k_asm) (by k_asm) (by k_mem) (by exact rfl) (by exact rfl) ?_; k_whole); intro _ zql1'; (try k_lt zql1')); (try (revert zql1'; intro _))))
  k_with "m1" => ((refine' code_def (by k_asm) (by k_asm) (by k_asm) (by k_asm) (by k_asm) (by exact rfl) (by exact rfl) (by first | exact rfl | assumption) (by k_is) (by k_is) (by first | k_room | ktr_room) (by first | exact BindsTo.of_eq rfl | exact binds_K (by k_in) rfl (by k_is) rfl rfl rfl | fail "k_enter: no rule for these arguments") (by exact locs rfl) ?_ (by exact rfl) (by exact rfl) (by exact rfl) (by decide)))
  k_with "m2" => ((refine' code_defC (by k_asm) (by k_asm) (by k_asm) (by k_asm) (by k_asm) (by exact rfl) (by exact rfl) (by first | exact rfl | assumption) (by k_is) (by k_is) (by first | k_room | ktr_room) (by first | exact BindsTo.of_eq rfl | exact binds_K (by k_in) rfl (by k_is) rfl rfl rfl | fail "k_enter: no rule for these arguments") (by exact rfl) (by decide +kernel) ?_ (by exact rfl) (by exact rfl) (by exact rfl)))
  k_with "call builtin:str.find" => (((with_reducible show wpAny _ _ (call (Value.builtin "str.find") [Value.str _ _, Value.str _ _, Value.int _ _, Value.int _ _]) _ _ _); k_dflt (refine find4_call ?_)))
  k_with "call builtin:len" => (((with_reducible show wpAny _ _ (call (Value.builtin "len") [Value.str (PySem.Str.mk _) _]) _ _ _); k_dflt (refine SBL.len (by first | decide | (simp only [PySem.Str.length, List.size_toArray, List.length_cons, List.length_nil]; omega)) ?_); (try dsimp only)))
  k_with "UnrEnd" => ((k_dflt (refine' unrEnd_pickL (by k_asm) (by k_asm) (by kd_mem) (by k_all) (by k_mem) ?_; k_whole)))
  k_with "kcj_m" => ((intro _ zqhp; repeat (first | exact zqhp | apply List.Mem.tail)))
  k_with "k_mem" => (((show @Membership.mem (PySem.Addr × PySem.Obj) (List (PySem.Addr × PySem.Obj)) List.instMembership _ _); with_reducible assumption))
  k_with "kn_code" => (first | exact codeHd_of_K (c := 37) (P := 33) (by k_asm) (by kernel_rfl) | exact codeHd_of_K (c := 117) (P := 113) (by k_asm) (by kernel_rfl))
  k_with "is_list" => (exact News.isList (by k_asm) (by k_mem))
  k_with "k_room" => (ktr_room)
  k_with "Kq" => ((k_dflt (refine' Kq.of (by with_reducible assumption) ?_)))
  exact True.intro
theorem top_off_E3 : True := by
  w_top off
  exact True.intro
set_option maxHeartbeats 4000000 in
theorem com_spec (w : World) (x : Str) (t : Tok) (rest : List (Addr × Obj)) (hx : x.length < 100) (hr : Txt.rstrip x = x) (hn : x.length ≠ 0) :
    CtrP w 2 (.ref 52) [.str x t] rest (fun v => ∃ t, v = .str (Str.ofString "# " ++ x) t) := by
  unfold CtrP Ctr
  k_fill
  intro p loose mean mg mb dp un gd cn cs a ccd cl outer A₀ base h₀ L m s Q E B F X N T hk hd hu hret
  refine wpAny_call ?_
  k_dflt k_enter
  k_steps
  all_goals (refine ret_pure hret _ _ _ _ (by k_asm) (by k_asm) (by kcj_m) ?_; first | exact ⟨_, by rw [hr]⟩ | (exfalso; rw [hr] at *; omega))

end
-- part E8
section
theorem top_off_E8 : True := by
  w_top off
  exact True.intro
theorem pat99 {w : World} {h₀ : Heap} (X : (hd.heap_39 w.params).In h₀) : PatAt h₀ 99 code1 :=
  ⟨⟨{ cls := .type "re.Pattern", data := .fields #[Value.str (Str.ofString "(?m)^\\.") 381, Value.int 40 394, Value.int 0 0, Value.none, Value.none, Value.ref 98, Value.int 0 0] }, #[Value.str (Str.ofString "(?m)^\\.") 381, Value.int 40 394, Value.int 0 0, Value.none, Value.none, Value.ref 98, Value.int 0 0], 98, { cls := .type "tuple", data := .seq #[Value.int 14 0, Value.int 4 0, Value.int 0 0, Value.int 1 0, Value.int 1 0, Value.int 6 0, Value.int 1 0, Value.int 16 0, Value.int 46 0, Value.int 1 0] 0 }, #[Value.int 14 0, Value.int 4 0, Value.int 0 0, Value.int 1 0, Value.int 1 0, Value.int 6 0, Value.int 1 0, Value.int 16 0, Value.int 46 0, Value.int 1 0], 0, X 99 _ (by kernel_rfl), rfl, rfl, rfl, rfl, rfl, rfl, X 98 _ (by kernel_rfl), rfl, by decide +kernel⟩⟩
theorem pat104 {w : World} {h₀ : Heap} (X : (hd.heap_39 w.params).In h₀) : PatAt h₀ 104 code2 :=
  ⟨⟨{ cls := .type "re.Pattern", data := .fields #[Value.str (Str.ofString "(?:\\r\\n|\\n|\\r(?!\\n))") 397, Value.int 32 436, Value.int 0 0, Value.none, Value.none, Value.ref 103, Value.int 0 0] }, #[Value.str (Str.ofString "(?:\\r\\n|\\n|\\r(?!\\n))") 397, Value.int 32 436, Value.int 0 0, Value.none, Value.none, Value.ref 103, Value.int 0 0], 103, { cls := .type "tuple", data := .seq #[Value.int 14 0, Value.int 9 0, Value.int 4 0, Value.int 1 0, Value.int 2 0, Value.int 16 0, Value.int 10 0, Value.int 16 0, Value.int 13 0, Value.int 0 0, Value.int 7 0, Value.int 7 0, Value.int 16 0, Value.int 13 0, Value.int 16 0, Value.int 10 0, Value.int 15 0, Value.int 18 0, Value.int 5 0, Value.int 16 0, Value.int 10 0, Value.int 15 0, Value.int 13 0, Value.int 11 0, Value.int 16 0, Value.int 13 0, Value.int 5 0, Value.int 5 0, Value.int 0 0, Value.int 16 0, Value.int 10 0, Value.int 1 0, Value.int 15 0, Value.int 2 0, Value.int 0 0, Value.int 1 0] 0 }, #[Value.int 14 0, Value.int 9 0, Value.int 4 0, Value.int 1 0, Value.int 2 0, Value.int 16 0, Value.int 10 0, Value.int 16 0, Value.int 13 0, Value.int 0 0, Value.int 7 0, Value.int 7 0, Value.int 16 0, Value.int 13 0, Value.int 16 0, Value.int 10 0, Value.int 15 0, Value.int 18 0, Value.int 5 0, Value.int 16 0, Value.int 10 0, Value.int 15 0, Value.int 13 0, Value.int 11 0, Value.int 16 0, Value.int 13 0, Value.int 5 0, Value.int 5 0, Value.int 0 0, Value.int 16 0, Value.int 10 0, Value.int 1 0, Value.int 15 0, Value.int 2 0, Value.int 0 0, Value.int 1 0], 0, X 104 _ (by kernel_rfl), rfl, rfl, rfl, rfl, rfl, rfl, X 103 _ (by kernel_rfl), rfl, by decide +kernel⟩⟩
def quo (x : Str) : Str := if x.cps.getD 0 0 = 46 then Str.ofString "." ++ x else x
theorem words_6 : True := by
  k_with "getMethod ref" => ((k_here; k_dflt (first | (refine' methodP (a := 99) (pat99 (by k_asm)) (by k_asm) ?_) | (refine' methodP (a := 104) (pat104 (by k_asm)) (by k_asm) ?_))))
  k_with "call builtin:re.Pattern.sub" => ((k_here; (with_reducible show wpAny _ _ (call (Value.builtin _) [Value.ref 104, Value.str _ _, Value.str _ _]) _ _ _); k_dflt (refine' sub2_wp (pat104 (by k_asm)) (by k_asm) (by k_asm) (by decide +kernel) (by omega) (by omega) (by assumption) ?_); intro _ _ _ _ _))
  k_with "call builtin:re.Pattern.sub" => ((k_here; (with_reducible show wpAny _ _ (call (Value.builtin _) [Value.ref 99, Value.str _ _, Value.str _ _]) _ _ _); k_dflt (refine' sub1_wp (pat99 (by k_asm)) (by k_asm) (by k_asm) (by omega) (by omega) (by assumption) ?_); intro _ _ _ _ _))
  exact True.intro
set_option maxHeartbeats 4000000 in
theorem quo_spec (w : World) (x : Str) (t : Tok) (rest : List (Addr × Obj)) (hx : x.length < 100) (h1 : 1 < x.length) (hn : ∀ c ∈ x.cps, c ≠ 10 ∧ c ≠ 13) :
    CtrP w 3 (.ref 111) [.str x t] rest (fun v => ∃ t, v = .str (quo x) t) := by
  unfold CtrP Ctr
  k_fill
  intro p loose mean mg mb dp un gd cn cs a ccd cl outer A₀ base h₀ L m s Q E B F X N T hk hd hu hret
  refine wpAny_call ?_
  k_dflt k_enter
  k_steps
  all_goals exact ret_pure hret _ _ _ _ (by k_asm) (by k_asm) (by kcj_m) ⟨_, rfl⟩

end
section
-- part E4
section
theorem words_7 : True := by
  k_with_none
  k_with "k_all" => (first | assumption | exact ne_of_top (by omega))
  k_with "kd_mem" => (first | exact Pick.head | (apply Pick.tail; kd_mem))
  k_with "UnrEnd" => ((k_dflt (refine' unrEnd_pick (by k_asm) (by k_asm) (by kd_mem) (by k_all) ?_; k_whole)))
  k_with "exec For Name Name cons nil" => ((k_here; (with_unfolding_all refine' For_invVF (by k_asm) (by exact rfl) (by exact rfl) ?_; k_whole)))
  k_with "pyIter ref" => ((((with_reducible show wpAny _ _ (pyIter (Value.ref _)) (fun it s₂ => LoopAtV _ _ _ _ _ _ _ _ _ it s₂) _ _); k_dflt (refine' iter_listUnr (by exact rfl) (by k_asm) (by k_asm) (by k_mem) (by exact rfl) (by exact rfl) ?_; k_whole); intro _ zql1'; (try k_lt zql1')); (try (revert zql1'; intro _))))
  k_with "m1" => ((refine' code_def (by k_asm) (by k_asm) (by k_asm) (by k_asm) (by k_asm) (by exact rfl) (by exact rfl) (by first | exact rfl | assumption) (by k_is) (by k_is) (by first | k_room | ktr_room) (by first | exact BindsTo.of_eq rfl | exact binds_K (by k_in) rfl (by k_is) rfl rfl rfl | fail "k_enter: no rule for these arguments") (by exact locs rfl) ?_ (by exact rfl) (by exact rfl) (by exact rfl) (by decide)))
  k_with "m2" => ((refine' code_defC (by k_asm) (by k_asm) (by k_asm) (by k_asm) (by k_asm) (by exact rfl) (by exact rfl) (by first | exact rfl | assumption) (by k_is) (by k_is) (by first | k_room | ktr_room) (by first | exact BindsTo.of_eq rfl | exact binds_K (by k_in) rfl (by k_is) rfl rfl rfl | fail "k_enter: no rule for these arguments") (by exact rfl) (by decide +kernel) ?_ (by exact rfl) (by exact rfl) (by exact rfl)))
  k_with "call builtin:str.find" => (((with_reducible show wpAny _ _ (call (Value.builtin "str.find") [Value.str _ _, Value.str _ _, Value.int _ _, Value.int _ _]) _ _ _); k_dflt (refine find4_call ?_)))
  k_with "call builtin:len" => (((with_reducible show wpAny _ _ (call (Value.builtin "len") [Value.str (PySem.Str.mk _) _]) _ _ _); k_dflt (refine SBL.len (by first | decide | (simp only [PySem.Str.length, List.size_toArray, List.length_cons, List.length_nil]; omega)) ?_); (try dsimp only)))
  k_with "UnrEnd" => ((k_dflt (refine' unrEnd_pickL (by k_asm) (by k_asm) (by kd_mem) (by k_all) (by k_mem) ?_; k_whole)))
  k_with "kcj_m" => ((intro _ zqhp; repeat (first | exact zqhp | apply List.Mem.tail)))
  k_with "k_mem" => (((show @Membership.mem (PySem.Addr × PySem.Obj) (List (PySem.Addr × PySem.Obj)) List.instMembership _ _); with_reducible assumption))
  k_with "kn_code" => (first | exact codeHd_of_K (c := 37) (P := 33) (by k_asm) (by kernel_rfl) | exact codeHd_of_K (c := 117) (P := 113) (by k_asm) (by kernel_rfl))
  k_with "is_list" => (exact News.isList (by k_asm) (by k_mem))
  k_with "k_room" => (ktr_room)
  k_with "Kq" => ((k_dflt (refine' Kq.of (by with_reducible assumption) ?_)))
  k_with "truthy ref" => ((k_here; (with_reducible show wpAny _ _ (truthy (Value.ref _)) _ _ _); (with_unfolding_all refine' wpAny_truthy_list (items := _) (by is_list) (by (simp only [List.size_toArray, List.length_cons, List.length_nil]; omega)) ?_; k_whole; (try simp only [List.isEmpty_toArray, List.isEmpty_cons, List.isEmpty_nil, Array.isEmpty_push, Bool.not_false, Bool.not_true]))))
  k_with "call builtin:list.pop" => (((k_here; (with_reducible show wpAny _ _ (call (Value.builtin _) [Value.ref _, Value.int 0 _]) _ _ _); k_dflt (refine' popU (by k_asm) (by k_asm) (by k_upd) (by rfl) (by (simp only [List.size_toArray, List.length_cons]; exact seqIndex_zero _)) (by rfl) (by (rw [sizeLine_eq]; simp only [List.length_cons]; omega)) ?_); intro _ _ zqN'; (try dsimp only [List.nil_append, List.cons_append] at zqN')); (try (revert zqN'; intro _))))
  k_with "call builtin:list.append" => ((k_here; (with_reducible show wpAny _ _ (call (Value.builtin _) [Value.ref _, _]) _ _ _); k_dflt (refine' append_K (by k_asm) (by k_asm) (by k_upd) ?_ (by (rw [sizeLine_eq]; simp only [List.size_toArray]; omega)); k_whole); intro _ _ _; (try k_sweep)))
  exact True.intro
theorem top_off_E4 : True := by
  w_top off
  exact True.intro
set_option maxHeartbeats 4000000 in
theorem tok_spec (w : World) (am ap : Addr) (x : Str) (tx : Tok) (xs : List Value) (n : Nat) (rest : List (Addr × Obj)) (hM : Mach rest am ap) (hne : ∀ p ∈ rest, p.1 ≠ ap) (hl : xs.length < 100) :
    Ctr w 2 (.ref 80) [.ref am] ((ap, pbOf (.str x tx :: xs) n) :: rest) (fun v n' => v = .str x tx ∧ ∃ k, n' = (ap, pbOf xs k) :: rest) := by
  unfold Ctr
  simp only [pbOf_eq]
  k_fill
  intro p loose mean mg mb dp un gd cn cs a ccd cl outer A₀ base h₀ L m s Q E B F X N T hk hd hu hret
  obtain ⟨dx, e, k, hm1, hm2⟩ := hM
  rw [machD_eq] at hm2
  refine wpAny_call ?_
  k_dflt k_enter
  k_steps
  all_goals exact hret _ _ _ _ (by k_asm) (by k_asm) ⟨rfl, _, rfl⟩

end
-- part E5
section
theorem top_off_E5 : True := by
  w_top off
  exact True.intro
set_option maxHeartbeats 4000000 in
theorem push_spec (w : World) (am ap : Addr) (v : Value) (vs : List Value) (n : Nat) (rest : List (Addr × Obj)) (hM : Mach rest am ap) (hne : ∀ p ∈ rest, p.1 ≠ ap) (hl : vs.length < 100) :
    Ctr w 2 (.ref 87) [.ref am, v] ((ap, pbOf vs n) :: rest) (fun r n' => r = .none ∧ ∃ k, n' = (ap, pbOf (vs ++ [v]) k) :: rest) := by
  unfold Ctr
  simp only [pbOf_eq]
  k_fill
  intro p loose mean mg mb dp un gd cn cs a ccd cl outer A₀ base h₀ L m s Q E B F X N T hk hd hu hret
  obtain ⟨dx, e, k, hm1, hm2⟩ := hM
  rw [machD_eq] at hm2
  refine wpAny_call ?_
  k_dflt k_enter
  k_steps
  all_goals exact hret _ _ _ _ (by k_asm) (by k_asm) ⟨rfl, _, by rw [← List.push_toArray]⟩

end
-- part E6
section
theorem top_off_E6 : True := by
  w_top off
  exact True.intro
def dQ : Str := Str.ofString "_digits2int" ++ ".<locals>." ++ Str.ofString "inner"
abbrev DigTab (ps : Array Value) (q : Addr × Obj) : Prop := DTab 5 4 dQ 33 ps q
theorem own3 {a b c : Addr × Obj} {d : Addr} (h1 : @Ne Nat a.1 d) (h2 : @Ne Nat b.1 d) (h3 : @Ne Nat c.1 d) : ∀ p ∈ [a, b, c], p.1 ≠ d := by
  intro p hp
  simp only [List.mem_cons, List.not_mem_nil, or_false] at hp
  rcases hp with rfl | rfl | rfl <;> assumption
theorem own3' {a b c : Addr × Obj} {d : Addr} (h : ∀ p ∈ [a, b, c], p.1 ≠ d) : @Ne Nat a.1 d ∧ @Ne Nat b.1 d ∧ @Ne Nat c.1 d := ⟨h _ (by simp), h _ (by simp), h _ (by simp)⟩
theorem led_of {h₀ : Heap} {L : Addr} {h : Heap} {n : List (Addr × Obj)} (_ : News h₀ L h n) : n = n := rfl
def OutI (v : Int) (nw : List (Addr × Obj)) (u : Value) (n' : List (Addr × Obj)) : Prop := n' = nw ∧ ∃ t, u = .int v t
local macro_rules | `(tactic| tb_from $t) => `(tactic| (k_dflt (refine' Ctr.use $t ?B ?F ?X ?N ?T ?kK ?kd ?ku ?_; (case B => k_asm); (case F => k_asm); (case X => k_asm); (case N => k_asm); (case T => k_asm); (case kK => first | exact rfl | assumption); (case kd => ktr_room); (case ku => ktr_units))))
theorem words_8 : True := by
  k_with "call ref" => (((k_dflt (show wpAny _ _ (call (Value.ref _) [Value.int _ _, Value.int _ _] []) _ _ _)); refine halt ?_))
  k_with "binaryOp LShift int int" => ((k_here; k_dflt (refine lshift_int_small (by assumption) (by assumption) (by assumption) ?_)))
  k_with "subscriptTail Name Name ref int" => ((k_here; k_dflt (refine' item_at (by is_list) (by with_reducible assumption) (by with_reducible assumption) (by with_reducible assumption) ?_ (by with_unfolding_all rfl); k_whole)))
  exact True.intro
theorem ib1 {P : Prop} [Decidable P] {X Y : Prop} (h : P) (x : X) : if decide P = true then X else Y := (if_pos (decide_eq_true h)).mpr x
theorem ib0 {P : Prop} [Decidable P] {X Y : Prop} (h : ¬ P) (y : Y) : if decide P = true then X else Y := (if_neg (fun e => h (of_decide_eq_true e))).mpr y
theorem ip1 {P : Prop} [Decidable P] {X Y : Prop} (h : P) (x : X) : if P then X else Y := (if_pos h).mpr x
theorem ip0 {P : Prop} [Decidable P] {X Y : Prop} (h : ¬ P) (y : Y) : if P then X else Y := (if_neg h).mpr y
theorem iq1 {x y : Int} {X Y : Prop} (h : x = y) (k : X) : if (x == y) = true then X else Y := (if_pos (beq_iff_eq.mpr h)).mpr k
theorem iq0 {x y : Int} {X Y : Prop} (h : ¬ x = y) (k : Y) : if (x == y) = true then X else Y := (if_neg (fun e => h (beq_iff_eq.mp e))).mpr k
theorem words_9 : True := by
  k_with "ite" => ((k_here; with_reducible first | refine iq1 (by assumption) ?_ | refine iq0 (by assumption) ?_ | refine ib1 (by assumption) ?_ | refine ib0 (by assumption) ?_ | refine ip1 (by assumption) ?_ | refine ip0 (by assumption) ?_))
  exact True.intro
set_option maxHeartbeats 8000000 in
theorem dig_spec (w : World) (l : Addr) (x0 x1 x2 x3 x4 x5 x6 : Int) (t0 t1 t2 t3 t4 t5 t6 t : Tok) (n : Nat) (ps : Array Value) (q : Addr × Obj) (rest : List (Addr × Obj)) (b0 : 0 ≤ x0 ∧ x0 ≤ 4) (b1 : 0 ≤ x1 ∧ x1 ≤ 4) (b2 : 0 ≤ x2 ∧ x2 ≤ 4) (b3 : 0 ≤ x3 ∧ x3 ≤ 4) (b4 : 0 ≤ x4 ∧ x4 ≤ 4) (b5 : 0 ≤ x5 ∧ x5 ≤ 4) (b6 : 0 ≤ x6 ∧ x6 ≤ 4)
    (hl : (l, listOf #[.int x0 t0, .int x1 t1, .int x2 t2, .int x3 t3, .int x4 t4, .int x5 t5, .int x6 t6] n) ∈ rest) (hD : DigTab ps q) (h33 : ∀ p ∈ rest, p.1 ≠ 33) :
    Ctr w 10 (.ref 38) [.ref l, .int 1 t] ((33, tabObj ps) :: q :: rest) (fun v n' => (∃ t, v = .int (x0 + 2 * x1 + 4 * x2 + 8 * x3 + 16 * x4 + 32 * x5 + 64 * x6) t) ∧ ∃ ps' q', n' = (33, tabObj ps') :: q' :: rest ∧ DigTab ps' q' ∧ (q' = q ∨ ∀ p ∈ rest, p.1 < q'.1)) := by
  unfold Ctr
  k_fill
  intro p loose mean mg mb dp un gd cn cs a ccd cl outer A₀ base h₀ L m s Q E B F X N T hk hd hu hret
  refine wpAny_call ?_
  k_dflt k_enter
  k_steps
  k_dflt (refine' nestDef_K ?d0 ?k0 ?a0 ?_)
  case d0 => exact rfl
  case k0 => exact rfl
  case a0 => exact rfl
  k_dflt (refine' nest_both (own := [_, _, _]) ?F ?N ?T ?C ?cd ?D ?o ?r ?oq ?cl ?_)
  case F => k_asm
  case N => k_asm
  case T => k_asm
  case cd => exact rfl
  case C => kn_code
  case D => exact hD
  case r => assumption
  case cl => exact rfl
  case o => exact own3 (by dsimp only; omega) (by dsimp only; omega) (by dsimp only; omega)
  case oq => exact own3 (by dsimp only; omega) (by dsimp only; omega) (by dsimp only; omega)
  intro f' c' oc' vs' t' ct' dc' h' tk' F' N' d1' d2' n1' l1' l2' hq'
  have C37 := codeHd_of_K (c := 37) (P := 33) X (by kernel_rfl)
  replace n1' := own3' n1'
  dsimp only at n1'
  simp only [List.cons_append, List.nil_append] at N' l1'
  k_lt l1'
  k_lt2 l2'
  k_steps
  refine ⟨?_⟩
  rename_i g0 L0 h0 tk0 FG0 B0 X0 T0 lq o1 o2 o3 dd1 dd2 dd3 hx ox FF NN ddx
  obtain ⟨nw, hnw⟩ : ∃ n, n = _ := ⟨_, Eq.symm (led_of NN)⟩
  have inner : ∀ (k : Nat) (a b v v1 v2 m : Int) (tx : Tok), (a + b).fdiv (2 ^ Int.toNat 1) = m → (a + 1 = b → 0 ≤ a ∧ a < 100 ∧ [Value.int x0 t0, .int x1 t1, .int x2 t2, .int x3 t3, .int x4 t4, .int x5 t5, .int x6 t6][a.toNat]? = some (.int v tx)) →
      (¬ a + 1 = b → (∀ ta tb, Ctr w k (.ref f') [.int m ta, .int b tb] nw (OutI v1 nw)) ∧ (∀ ta tb, Ctr w k (.ref f') [.int a ta, .int m tb] nw (OutI v2 nw)) ∧ v = v1 * 2 ^ ((m - a) * 1).toNat + v2 ∧ 0 ≤ (m - a) * 1 ∧ (m - a) * 1 ≤ 1000000 ∧ v1.natAbs < 2 ^ 64) →
      ∀ ta tb, Ctr w (k + 2) (.ref f') [.int a ta, .int b tb] nw (OutI v nw) := by
    rintro k a b v v1 v2 m tx rfl hleaf hnode ta tb
    rw [hnw] at hnode ⊢
    unfold Ctr
    intro p loose mean mg mb dp un gd cn cs a' ccd cl outer A₀ base h₀ L m s Q E B F X N T hk hd hu hret
    have C37 := codeHd_of_K (c := 37) (P := 33) X (by kernel_rfl)
    refine wpAny_call ?_
    k_dflt (refine' kdv_code ?k1 ?k2 ?k3 ?k4 ?k5 ?kA ?kF ?kK ?k6 ?k7 ?k8 ?k9 ?kB ?_ ?c2 ?c3 ?c4 ?c5; (case kA => exact rfl); (case kF => exact rfl); (case kK => assumption); (case k1 => k_asm); (case k2 => k_asm); (case k3 => k_asm); (case k4 => k_asm); (case k5 => k_asm); (case k6 => k_mem); (case k7 => exact codeRec_news (by k_asm) (by k_mem) (by assumption) (by assumption)); (case k8 => k_room); (case k9 => kdv_bind); (case c5 => decide); (case kB => exact locs rfl); (case c2 => exact rfl); (case c3 => exact rfl); (case c4 => exact rfl); k_whole; intro g' L' h' FG' F' N' B' X' T'; (try dsimp only); (try k_lift B'); (try k_fold))
    by_cases hab : a + 1 = b
    · obtain ⟨y1, y2, y3⟩ := hleaf hab
      k_steps
      rename_i kF kN Tc kX
      exact hret _ _ _ _ kF kN ⟨rfl, _, rfl⟩
    · obtain ⟨C1, C2, y3, y4, y5, y6⟩ := hnode hab
      k_steps
      refine ⟨?_⟩
      tb_from (C1 _ _)
      rintro _ _ h1 tk1 F1 N1 ⟨rfl, t1, rfl⟩
      k_steps
      refine ⟨?_⟩
      tb_from (C2 _ _)
      rintro _ _ h2 tk2 F2 N2 ⟨rfl, t2, rfl⟩
      k_steps
      rename_i kF kN Tc kX
      exact hret _ _ _ _ kF kN ⟨rfl, _, by rw [y3]⟩
  have leaf : ∀ (k : Nat) (a b v : Int) (tx : Tok), a + 1 = b → 0 ≤ a → a < 100 → [Value.int x0 t0, .int x1 t1, .int x2 t2, .int x3 t3, .int x4 t4, .int x5 t5, .int x6 t6][a.toNat]? = some (.int v tx) → ∀ ta tb, Ctr w (k + 2) (.ref f') [.int a ta, .int b tb] nw (OutI v nw) :=
    fun k a b v tx h h0 h1 h2 => inner k a b v 0 0 _ tx rfl (fun _ => ⟨h0, h1, h2⟩) (fun h' => absurd h h')
  have node : ∀ (k : Nat) (a b m v v1 v2 p : Int), (a + b).fdiv (2 ^ Int.toNat 1) = m → ¬ a + 1 = b → 0 ≤ (m - a) * 1 → (m - a) * 1 ≤ 1000000 → 2 ^ ((m - a) * 1).toNat = p → v = v1 * p + v2 → v1.natAbs < 2 ^ 64 → (∀ ta tb, Ctr w k (.ref f') [.int m ta, .int b tb] nw (OutI v1 nw)) → (∀ ta tb, Ctr w k (.ref f') [.int a ta, .int m tb] nw (OutI v2 nw)) → ∀ ta tb, Ctr w (k + 2) (.ref f') [.int a ta, .int b tb] nw (OutI v nw) :=
    fun k a b m v v1 v2 p hm hne s0 s1 hp hv hb C1 C2 => inner k a b v v1 v2 m t0 hm (fun h => absurd h hne) (fun _ => ⟨C1, C2, by rw [hp]; exact hv, s0, s1, hb⟩)
  have n57 := node 2 5 7 6 (x6 * 2 + x5) x6 x5 2 (by decide) (by decide) (by decide) (by decide) (by decide) rfl (by omega) (leaf 0 6 7 x6 t6 (by decide) (by decide) (by decide) rfl) (leaf 0 5 6 x5 t5 (by decide) (by decide) (by decide) rfl)
  have n35 := node 2 3 5 4 (x4 * 2 + x3) x4 x3 2 (by decide) (by decide) (by decide) (by decide) (by decide) rfl (by omega) (leaf 0 4 5 x4 t4 (by decide) (by decide) (by decide) rfl) (leaf 0 3 4 x3 t3 (by decide) (by decide) (by decide) rfl)
  have n13 := node 2 1 3 2 (x2 * 2 + x1) x2 x1 2 (by decide) (by decide) (by decide) (by decide) (by decide) rfl (by omega) (leaf 0 2 3 x2 t2 (by decide) (by decide) (by decide) rfl) (leaf 0 1 2 x1 t1 (by decide) (by decide) (by decide) rfl)
  have n03 := node 4 0 3 1 ((x2 * 2 + x1) * 2 + x0) (x2 * 2 + x1) x0 2 (by decide) (by decide) (by decide) (by decide) (by decide) rfl (by omega) n13 (leaf 2 0 1 x0 t0 (by decide) (by decide) (by decide) rfl)
  have n37 := node 4 3 7 5 ((x6 * 2 + x5) * 4 + (x4 * 2 + x3)) (x6 * 2 + x5) (x4 * 2 + x3) 4 (by decide) (by decide) (by decide) (by decide) (by decide) rfl (by omega) n57 n35
  have n07 := node 6 0 7 3 (x0 + 2 * x1 + 4 * x2 + 8 * x3 + 16 * x4 + 32 * x5 + 64 * x6) ((x6 * 2 + x5) * 4 + (x4 * 2 + x3)) ((x2 * 2 + x1) * 2 + x0) 8 (by decide) (by decide) (by decide) (by decide) (by decide) (by omega) (by omega) n37 n03
  clear inner leaf node n57 n35 n13 n03 n37
  subst hnw
  tb_from (n07 _ _)
  rintro _ _ h1 tk1 F1 N1 ⟨rfl, t1, rfl⟩
  k_steps
  refine hret _ _ _ _ (by k_asm) (cb_drop (by k_asm) (by kcj_m)) ⟨⟨_, rfl⟩, _, _, rfl, .inr ⟨c', oc', vs', t', rfl, rfl, d1', d2'⟩, ?_⟩
  rcases hq' with e | e
  · exact .inl e
  · exact .inr e

end
-- part E7
section
theorem words_10 : True := by
  k_with_none
  k_with "k_all" => (first | assumption | exact ne_of_top (by omega))
  k_with "kd_mem" => (first | exact Pick.head | (apply Pick.tail; kd_mem))
  k_with "UnrEnd" => ((k_dflt (refine' unrEnd_pick (by k_asm) (by k_asm) (by kd_mem) (by k_all) ?_; k_whole)))
  k_with "exec For Name Name cons nil" => ((k_here; (with_unfolding_all refine' For_invVF (by k_asm) (by exact rfl) (by exact rfl) ?_; k_whole)))
  k_with "pyIter ref" => ((((with_reducible show wpAny _ _ (pyIter (Value.ref _)) (fun it s₂ => LoopAtV _ _ _ _ _ _ _ _ _ it s₂) _ _); k_dflt (refine' iter_listUnr (by exact rfl) (by k_asm) (by k_asm) (by k_mem) (by exact rfl) (by exact rfl) ?_; k_whole); intro _ zql1'; (try k_lt zql1')); (try (revert zql1'; intro _))))
  k_with "m1" => ((refine' code_def (by k_asm) (by k_asm) (by k_asm) (by k_asm) (by k_asm) (by exact rfl) (by exact rfl) (by first | exact rfl | assumption) (by k_is) (by k_is) (by first | k_room | ktr_room) (by first | exact BindsTo.of_eq rfl | exact binds_K (by k_in) rfl (by k_is) rfl rfl rfl | fail "k_enter: no rule for these arguments") (by exact locs rfl) ?_ (by exact rfl) (by exact rfl) (by exact rfl) (by decide)))
  k_with "m2" => ((refine' code_defC (by k_asm) (by k_asm) (by k_asm) (by k_asm) (by k_asm) (by exact rfl) (by exact rfl) (by first | exact rfl | assumption) (by k_is) (by k_is) (by first | k_room | ktr_room) (by first | exact BindsTo.of_eq rfl | exact binds_K (by k_in) rfl (by k_is) rfl rfl rfl | fail "k_enter: no rule for these arguments") (by exact rfl) (by decide +kernel) ?_ (by exact rfl) (by exact rfl) (by exact rfl)))
  k_with "call builtin:str.find" => (((with_reducible show wpAny _ _ (call (Value.builtin "str.find") [Value.str _ _, Value.str _ _, Value.int _ _, Value.int _ _]) _ _ _); k_dflt (refine find4_call ?_)))
  k_with "call builtin:len" => (((with_reducible show wpAny _ _ (call (Value.builtin "len") [Value.str (PySem.Str.mk _) _]) _ _ _); k_dflt (refine SBL.len (by first | decide | (simp only [PySem.Str.length, List.size_toArray, List.length_cons, List.length_nil]; omega)) ?_); (try dsimp only)))
  k_with "UnrEnd" => ((k_dflt (refine' unrEnd_pickL (by k_asm) (by k_asm) (by kd_mem) (by k_all) (by k_mem) ?_; k_whole)))
  k_with "kcj_m" => ((intro _ zqhp; repeat (first | exact zqhp | apply List.Mem.tail)))
  k_with "k_mem" => (((show @Membership.mem (PySem.Addr × PySem.Obj) (List (PySem.Addr × PySem.Obj)) List.instMembership _ _); with_reducible assumption))
  k_with "kn_code" => (first | exact codeHd_of_K (c := 37) (P := 33) (by k_asm) (by kernel_rfl) | exact codeHd_of_K (c := 117) (P := 113) (by k_asm) (by kernel_rfl))
  k_with "is_list" => (exact News.isList (by k_asm) (by k_mem))
  k_with "k_room" => (ktr_room)
  k_with "Kq" => ((k_dflt (refine' Kq.of (by with_reducible assumption) ?_)))
  k_with "truthy ref" => ((k_here; (with_reducible show wpAny _ _ (truthy (Value.ref _)) _ _ _); (with_unfolding_all refine' wpAny_truthy_list (items := _) (by is_list) (by (simp only [List.size_toArray, List.length_cons, List.length_nil]; omega)) ?_; k_whole; (try simp only [List.isEmpty_toArray, List.isEmpty_cons, List.isEmpty_nil, Array.isEmpty_push, Bool.not_false, Bool.not_true]))))
  k_with "call builtin:list.pop" => (((k_here; (with_reducible show wpAny _ _ (call (Value.builtin _) [Value.ref _, Value.int 0 _]) _ _ _); k_dflt (refine' popU (by k_asm) (by k_asm) (by k_upd) (by rfl) (by (simp only [List.size_toArray, List.length_cons]; exact seqIndex_zero _)) (by rfl) (by (rw [sizeLine_eq]; simp only [List.length_cons]; omega)) ?_); intro _ _ zqN'; (try dsimp only [List.nil_append, List.cons_append] at zqN')); (try (revert zqN'; intro _))))
  k_with "call builtin:list.append" => ((k_here; (with_reducible show wpAny _ _ (call (Value.builtin _) [Value.ref _, _]) _ _ _); k_dflt (refine' append_K (by k_asm) (by k_asm) (by k_upd) ?_ (by (rw [sizeLine_eq]; simp only [List.size_toArray]; omega)); k_whole); intro _ _ _; (try k_sweep)))
  exact True.intro
theorem top_off_E7 : True := by
  w_top off
  exact True.intro
section
variable {w : World} {p : Program} {loose : List Str} {mean : ExcName → Option Value} {mg mb : Str → Option Value} {dp un : Nat} {gd : Option (List Code)} {cn : Str} {cs : Scope} {a : Addr} {ccd : Value} {cl : List (Str × Addr)} {outer : List Env} {A₀ : Around} {base h₀ : Heap} {L : Addr} {m : Str → Option Value} {s : Shared} {Q E : Value → Shared → Prop} {led : List (Addr × Obj)}
theorem dig_go {l : Addr} {x0 x1 x2 x3 x4 x5 x6 : Int} {t0 t1 t2 t3 t4 t5 t6 t : Tok} {n : Nat} {ps : Array Value} {q : Addr × Obj} {led2 rest : List (Addr × Obj)} (B : Below A₀ base outer h₀) (F : Fr h₀ L s.heap m) (X : (hd.heap_39 w.params).In h₀) (N : News h₀ L s.heap led) (T : Top p loose mean mg mb h₀) (hk : cs.kind = .function) (hd : dp + 10 < recursionLimit) (hu : un + 8 * 10 < cLine) (hD : DigTab ps q) (p1 : Pick (33, tabObj ps) led led2) (p2 : Pick q led2 rest) (hl : (l, listOf #[.int x0 t0, .int x1 t1, .int x2 t2, .int x3 t3, .int x4 t4, .int x5 t5, .int x6 t6] n) ∈ rest)
    (b0 : 0 ≤ x0 ∧ x0 ≤ 4) (b1 : 0 ≤ x1 ∧ x1 ≤ 4) (b2 : 0 ≤ x2 ∧ x2 ≤ 4) (b3 : 0 ≤ x3 ∧ x3 ≤ 4) (b4 : 0 ≤ x4 ∧ x4 ≤ 4) (b5 : 0 ≤ x5 ∧ x5 ≤ 4) (b6 : 0 ≤ x6 ∧ x6 ≤ 4) (h33 : ∀ p ∈ rest, p.1 ≠ 33)
    (ret : ∀ h' tk', Fr h₀ L h' m → ∀ t ps' q', News h₀ L h' ((33, tabObj ps') :: q' :: rest) → DigTab ps' q' → (q' = q ∨ ∀ p ∈ rest, p.1 < q'.1) → Q (.int (x0 + 2 * x1 + 4 * x2 + 8 * x3 + 16 * x4 + 32 * x5 + 64 * x6) t) { s with heap := h', toks := tk' }) : wpAny (model PySem.Challenge.rw_sh0017_01.prog w) (ktrTop dp un gd cn cs L a ccd cl outer) (call (.ref 38) [.ref l, .int 1 t]) Q E s :=
  Ctr.use (dig_spec w l x0 x1 x2 x3 x4 x5 x6 t0 t1 t2 t3 t4 t5 t6 t n ps q rest b0 b1 b2 b3 b4 b5 b6 hl hD h33) B F X (news_pick2 N p1 p2) T hk hd hu fun _ _ h' tk' F' N' o => by
    obtain ⟨⟨t', e1⟩, ps', q', e2, h1, h2⟩ := o; subst e1; subst e2; exact ret h' tk' F' t' ps' q' N' h1 h2
end
theorem words_11 : True := by
  k_with "call ref" => (((k_dflt (refine' dig_go (by k_asm) (by k_asm) (by k_asm) (by k_asm) (by k_asm) (by first | exact rfl | assumption) (by ktr_room) (by ktr_units) (by assumption) (by kd_mem) (by kd_mem) (by k_mem) (by with_reducible assumption) (by with_reducible assumption) (by with_reducible assumption) (by with_reducible assumption) (by with_reducible assumption) (by with_reducible assumption) (by with_reducible assumption) (by exact ne_cons (by dsimp only; omega) (by with_reducible assumption)) ?_)); intro _ _ _ _ _ _ _ _ _))
  exact True.intro
def rowIdx (r : Str) : Int := 5 + (r.length : Int) - 2 * ((Txt.lstripChars r (Str.ofString ".")).length : Int)
def cntI (rs : List (Str × Tok)) (j : Int) : Int := ((rs.filter fun r => rowIdx r.1 == j).length : Int)
def WeiR (D : Addr) (rs : List (Str × Tok)) (ps : Array Value) (q : Addr × Obj) (rest : List (Addr × Obj)) (i : Nat) (news : List (Addr × Obj)) : Prop :=
  ∃ t0 t1 t2 t3 t4 t5 t6 k, news = (D, listOf #[.int (cntI (rs.take i) 0) t0, .int (cntI (rs.take i) 1) t1, .int (cntI (rs.take i) 2) t2, .int (cntI (rs.take i) 3) t3, .int (cntI (rs.take i) 4) t4, .int (cntI (rs.take i) 5) t5, .int (cntI (rs.take i) 6) t6] k) :: (33, tabObj ps) :: q :: rest
theorem cntI_succ {rs : List (Str × Tok)} {i : Nat} {r : Str × Tok} (h : rs[i]? = some r) (j : Int) : cntI (rs.take (i + 1)) j = cntI (rs.take i) j + (if rowIdx r.1 = j then 1 else 0) := by
  unfold cntI
  rw [List.take_add_one, h]
  simp only [Option.toList_some, List.filter_append, List.length_append]
  by_cases e : rowIdx r.1 = j
  · simp [List.filter, e]
  · have e2 : (rowIdx r.1 == j) = false := by simp [e]
    simp [List.filter, e, e2]
theorem cntI_le {rs : List (Str × Tok)} (hl : rs.length ≤ 4) (j : Int) : 0 ≤ cntI rs j ∧ cntI rs j ≤ 4 := by
  unfold cntI
  have := List.length_filter_le (fun r : Str × Tok => rowIdx r.1 == j) rs
  omega
theorem drop_third {a b c : Addr × Obj} {l : List (Addr × Obj)} : ∀ p ∈ a :: b :: l, p ∈ a :: b :: c :: l := fun p hp => by
  rcases List.mem_cons.mp hp with rfl | hp
  · exact .head _
  · rcases List.mem_cons.mp hp with rfl | hp
    · exact .tail _ (.head _)
    · exact .tail _ (.tail _ (.tail _ hp))
theorem kif7 {j x : Int} {u : Tok} {c0 c1 c2 c3 c4 c5 c6 d0 d1 d2 d3 d4 d5 d6 : Int} {t0 t1 t2 t3 t4 t5 t6 : Tok} (h0 : (if j = ((0 : Nat) : Int) then x else c0) = d0) (h1 : (if j = ((1 : Nat) : Int) then x else c1) = d1) (h2 : (if j = ((2 : Nat) : Int) then x else c2) = d2) (h3 : (if j = ((3 : Nat) : Int) then x else c3) = d3) (h4 : (if j = ((4 : Nat) : Int) then x else c4) = d4) (h5 : (if j = ((5 : Nat) : Int) then x else c5) = d5) (h6 : (if j = ((6 : Nat) : Int) then x else c6) = d6) :
    kifSet j x u 0 [(c0, t0), (c1, t1), (c2, t2), (c3, t3), (c4, t4), (c5, t5), (c6, t6)] = [.int d0 (if j = ((0 : Nat) : Int) then u else t0), .int d1 (if j = ((1 : Nat) : Int) then u else t1), .int d2 (if j = ((2 : Nat) : Int) then u else t2), .int d3 (if j = ((3 : Nat) : Int) then u else t3), .int d4 (if j = ((4 : Nat) : Int) then u else t4), .int d5 (if j = ((5 : Nat) : Int) then u else t5), .int d6 (if j = ((6 : Nat) : Int) then u else t6)] := by
  subst h0 h1 h2 h3 h4 h5 h6
  rfl
theorem wei_ent {rs : List (Str × Tok)} {i : Nat} {r : Str × Tok} (hr : rs[i]? = some r) {j : Int} (hj : j = rowIdx r.1) (l : List Int) (m : Nat) (hc : l.getD m 0 = cntI (rs.take i) (m : Int)) :
    (if j = (m : Int) then l.getD j.toNat 0 + 1 else cntI (rs.take i) (m : Int)) = cntI (rs.take (i + 1)) (m : Int) := by
  rw [cntI_succ hr, ← hj]
  by_cases e : j = (m : Int)
  · rw [if_pos e, if_pos e, e, Int.toNat_natCast, hc]
  · rw [if_neg e, if_neg e, Int.add_zero]
theorem wei_turn {D : Addr} {rs : List (Str × Tok)} {ps : Array Value} {q : Addr × Obj} {rest : List (Addr × Obj)} {i : Nat} {r : Str × Tok} (hr : rs[i]? = some r) {t0 t1 t2 t3 t4 t5 t6 t7 : Tok} {k : Nat} {j : Int} (hj : j = rowIdx r.1) (h0 : 0 ≤ j) (h6 : j ≤ 6) {news : List (Addr × Obj)}
    (hn : news = (D, listOf (kifSet j ([cntI (rs.take i) 0, cntI (rs.take i) 1, cntI (rs.take i) 2, cntI (rs.take i) 3, cntI (rs.take i) 4, cntI (rs.take i) 5, cntI (rs.take i) 6].getD j.toNat 0 + 1) t7 0 [(cntI (rs.take i) 0, t0), (cntI (rs.take i) 1, t1), (cntI (rs.take i) 2, t2), (cntI (rs.take i) 3, t3), (cntI (rs.take i) 4, t4), (cntI (rs.take i) 5, t5), (cntI (rs.take i) 6, t6)]).toArray k) :: (33, tabObj ps) :: q :: rest) :
    WeiR D rs ps q rest (i + 1) news := by
  subst hn
  exact ⟨_, _, _, _, _, _, _, k, congrArg (fun l => (D, listOf (List.toArray l) k) :: (33, tabObj ps) :: q :: rest) (kif7 (wei_ent hr hj _ 0 rfl) (wei_ent hr hj _ 1 rfl) (wei_ent hr hj _ 2 rfl) (wei_ent hr hj _ 3 rfl) (wei_ent hr hj _ 4 rfl) (wei_ent hr hj _ 5 rfl) (wei_ent hr hj _ 6 rfl))⟩
set_option maxHeartbeats 8000000 in
theorem wei_spec (w : World) (l : Addr) (rs : List (Str × Tok)) (n : Nat) (ps : Array Value) (q : Addr × Obj) (rest : List (Addr × Obj)) (hrs : rs.length ≤ 4)
    (hok : ∀ r ∈ rs, r.1.length < 100 ∧ 0 ≤ rowIdx r.1 ∧ rowIdx r.1 ≤ 6)
    (hl : (l, listOf (strValues rs).toArray n) ∈ rest) (hD : DigTab ps q) (h33 : ∀ p ∈ rest, p.1 ≠ 33) :
    Ctr w 12 (.ref 139) [.ref l] ((33, tabObj ps) :: q :: rest) (fun v n' => (∃ t, v = .int (cntI rs 0 + 2 * cntI rs 1 + 4 * cntI rs 2 + 8 * cntI rs 3 + 16 * cntI rs 4 + 32 * cntI rs 5 + 64 * cntI rs 6) t) ∧ ∃ ps' q', n' = (33, tabObj ps') :: q' :: rest ∧ DigTab ps' q' ∧ (q' = q ∨ ∀ p ∈ rest, p.1 < q'.1)) := by
  unfold Ctr
  k_fill
  intro p loose mean mg mb dp un gd cn cs a ccd cl outer A₀ base h₀ L m s Q E B F X N T hk hd hu hret
  refine wpAny_call ?_
  k_dflt k_enter
  k_steps
  rename_i D hh1 lD hh2 lF N2 I lI
  refine listRest_inv1 (WeiR D rs ps q rest) ?_ ?_ ?_
  · exact ⟨_, _, _, _, _, _, _, _, rfl⟩
  · intro i v news it h tk hv hqq1_ hit F3 N3
    refine hideP ?_
    intro Gq hGq
    obtain ⟨t0, t1, t2, t3, t4, t5, t6, k, rfl⟩ := hqq1_
    obtain ⟨r, hr, rfl⟩ : ∃ r : Str × Tok, rs[i]? = some r ∧ v = .str r.1 r.2 := by
      simp only [strValues, List.getElem?_map, Option.map_eq_some_iff] at hv
      obtain ⟨r, h1, h2⟩ := hv
      exact ⟨r, h1, h2.symm⟩
    obtain ⟨o1, o2, o3⟩ := hok r (List.mem_of_getElem? hr)
    simp only [rowIdx] at o2 o3
    replace F3 := fr_like lF F3
    replace N3 := news_like lF N3
    refine hGq ?_
    clear hGq Gq
    k_steps
    k_dflt (refine' kif_setItem (l := [(cntI (rs.take i) 0, t0), (cntI (rs.take i) 1, t1), (cntI (rs.take i) 2, t2), (cntI (rs.take i) 3, t3), (cntI (rs.take i) 4, t4), (cntI (rs.take i) 5, t5), (cntI (rs.take i) 6, t6)]) (N := 7) ?F ?Nw ?U ?e ?ew ?hN ?hs ?h0 ?h1 ?_)
    case F => k_asm
    case Nw => k_asm
    case ew => exact rfl
    case U => k_upd
    case e => exact rfl
    case hN => exact rfl
    case hs => omega
    case h0 => omega
    case h1 => omega
    intro h' F' N'
    k_steps
    exact wei_turn hr rfl o2 o3 rfl
  · intro u news h tk hqq2_ F3 N3
    refine hideP ?_
    intro Gq hGq
    obtain ⟨t0, t1, t2, t3, t4, t5, t6, k, rfl⟩ := hqq2_
    have e : rs.take (strValues rs).length = rs := by simp [strValues]
    rw [e] at N3
    replace F3 := fr_like lF F3
    replace N3 := news_like lF N3
    have b0 := cntI_le hrs 0
    have b1 := cntI_le hrs 1
    have b2 := cntI_le hrs 2
    have b3 := cntI_le hrs 3
    have b4 := cntI_le hrs 4
    have b5 := cntI_le hrs 5
    have b6 := cntI_le hrs 6
    refine hGq ?_
    clear hGq Gq
    k_steps
    rename DigTab _ _ => hD'
    rename (_ ∨ _) => hq'
    refine hret _ _ _ _ (by k_asm) (cb_drop (by k_asm) (drop_third)) ⟨⟨_, rfl⟩, _, _, rfl, hD', ?_⟩
    rcases hq' with e | e
    · exact .inl e
    · exact .inr fun p hp => e p (.tail _ hp)

end
-- part E9
section
theorem words_12 : True := by
  k_with_none
  k_with "k_all" => (first | assumption | exact ne_of_top (by omega))
  k_with "kd_mem" => (first | exact Pick.head | (apply Pick.tail; kd_mem))
  k_with "UnrEnd" => ((k_dflt (refine' unrEnd_pick (by k_asm) (by k_asm) (by kd_mem) (by k_all) ?_; k_whole)))
  k_with "exec For Name Name cons nil" => ((k_here; (with_unfolding_all refine' For_invVF (by k_asm) (by exact rfl) (by exact rfl) ?_; k_whole)))
  k_with "pyIter ref" => ((((with_reducible show wpAny _ _ (pyIter (Value.ref _)) (fun it s₂ => LoopAtV _ _ _ _ _ _ _ _ _ it s₂) _ _); k_dflt (refine' iter_listUnr (by exact rfl) (by k_asm) (by k_asm) (by k_mem) (by exact rfl) (by exact rfl) ?_; k_whole); intro _ zql1'; (try k_lt zql1')); (try (revert zql1'; intro _))))
  k_with "m1" => ((refine' code_def (by k_asm) (by k_asm) (by k_asm) (by k_asm) (by k_asm) (by exact rfl) (by exact rfl) (by first | exact rfl | assumption) (by k_is) (by k_is) (by first | k_room | ktr_room) (by first | exact BindsTo.of_eq rfl | exact binds_K (by k_in) rfl (by k_is) rfl rfl rfl | fail "k_enter: no rule for these arguments") (by exact locs rfl) ?_ (by exact rfl) (by exact rfl) (by exact rfl) (by decide)))
  k_with "m2" => ((refine' code_defC (by k_asm) (by k_asm) (by k_asm) (by k_asm) (by k_asm) (by exact rfl) (by exact rfl) (by first | exact rfl | assumption) (by k_is) (by k_is) (by first | k_room | ktr_room) (by first | exact BindsTo.of_eq rfl | exact binds_K (by k_in) rfl (by k_is) rfl rfl rfl | fail "k_enter: no rule for these arguments") (by exact rfl) (by decide +kernel) ?_ (by exact rfl) (by exact rfl) (by exact rfl)))
  k_with "call builtin:str.find" => (((with_reducible show wpAny _ _ (call (Value.builtin "str.find") [Value.str _ _, Value.str _ _, Value.int _ _, Value.int _ _]) _ _ _); k_dflt (refine find4_call ?_)))
  k_with "call builtin:len" => (((with_reducible show wpAny _ _ (call (Value.builtin "len") [Value.str (PySem.Str.mk _) _]) _ _ _); k_dflt (refine SBL.len (by first | decide | (simp only [PySem.Str.length, List.size_toArray, List.length_cons, List.length_nil]; omega)) ?_); (try dsimp only)))
  k_with "UnrEnd" => ((k_dflt (refine' unrEnd_pickL (by k_asm) (by k_asm) (by kd_mem) (by k_all) (by k_mem) ?_; k_whole)))
  k_with "kcj_m" => ((intro _ zqhp; repeat (first | exact zqhp | apply List.Mem.tail)))
  k_with "k_mem" => (((show @Membership.mem (PySem.Addr × PySem.Obj) (List (PySem.Addr × PySem.Obj)) List.instMembership _ _); with_reducible assumption))
  k_with "kn_code" => (first | exact codeHd_of_K (c := 37) (P := 33) (by k_asm) (by kernel_rfl) | exact codeHd_of_K (c := 117) (P := 113) (by k_asm) (by kernel_rfl))
  k_with "is_list" => (exact News.isList (by k_asm) (by k_mem))
  k_with "k_room" => (ktr_room)
  k_with "Kq" => ((k_dflt (refine' Kq.of (by with_reducible assumption) ?_)))
  k_with "truthy ref" => ((k_here; (with_reducible show wpAny _ _ (truthy (Value.ref _)) _ _ _); (with_unfolding_all refine' wpAny_truthy_list (items := _) (by is_list) (by (simp only [List.size_toArray, List.length_cons, List.length_nil]; omega)) ?_; k_whole; (try simp only [List.isEmpty_toArray, List.isEmpty_cons, List.isEmpty_nil, Array.isEmpty_push, Bool.not_false, Bool.not_true]))))
  k_with "call builtin:list.pop" => (((k_here; (with_reducible show wpAny _ _ (call (Value.builtin _) [Value.ref _, Value.int 0 _]) _ _ _); k_dflt (refine' popU (by k_asm) (by k_asm) (by k_upd) (by rfl) (by (simp only [List.size_toArray, List.length_cons]; exact seqIndex_zero _)) (by rfl) (by (rw [sizeLine_eq]; simp only [List.length_cons]; omega)) ?_); intro _ _ zqN'; (try dsimp only [List.nil_append, List.cons_append] at zqN')); (try (revert zqN'; intro _))))
  k_with "call builtin:list.append" => ((k_here; (with_reducible show wpAny _ _ (call (Value.builtin _) [Value.ref _, _]) _ _ _); k_dflt (refine' append_K (by k_asm) (by k_asm) (by k_upd) ?_ (by (rw [sizeLine_eq]; simp only [List.size_toArray]; omega)); k_whole); intro _ _ _; (try k_sweep)))
  exact True.intro
theorem top_off_E9 : True := by
  w_top off
  exact True.intro
theorem words_13 : True := by
  k_with "RangeRest" => ((refine halt ?_))
  exact True.intro
def stp (mk : Bool) (c : Nat) (x : Str) : Str := if x.cps.contains c then (if mk then quo x else Str.ofString "# " ++ x) else x
structure RowOk (x : Str) : Prop where
  lo : 1 < x.length
  hi : x.length < 100
  nl : ∀ c ∈ x.cps, c ≠ 10 ∧ c ≠ 13
  rs : Txt.rstrip x = x
def GoR (D ap : Addr) (mk : Bool) (c : Nat) (rs : List (Str × Tok)) (rest : List (Addr × Obj)) (i : Nat) (news : List (Addr × Obj)) : Prop :=
  ∃ rs1 n k, (∀ p ∈ (D, listOf (strValues rs1).toArray n) :: (ap, pbOf (strValues (rs.drop i ++ rs1)) k) :: rest, p ∈ news) ∧ rs1.map Prod.fst = (rs.take i).map (fun r => stp mk c r.1)
theorem go_turn {D ap : Addr} {mk : Bool} {c : Nat} {rs rs1 : List (Str × Tok)} {rest : List (Addr × Obj)} {i n k : Nat} {r : Str × Tok} {y : Str} {t : Tok} {hlt' : i < rs.length} (hr : r = rs[i]) (hlt : i < rs.length) (hmap : rs1.map Prod.fst = (rs.take i).map (fun r => stp mk c r.1)) (hs : stp mk c r.1 = y) :
    GoR D ap mk c rs rest (i + 1) ((ap, pbOf (strValues (rs.drop (i + 1) ++ rs1) ++ [.str y t]) k) :: (D, listOf ((strValues rs1).toArray.push (.str y t)) n) :: rest) := by
  refine ⟨rs1 ++ [(y, t)], n, k, ?_, ?_⟩
  · have e1 : strValues (rs1 ++ [(y, t)]) = strValues rs1 ++ [.str y t] := by simp [strValues]
    have e2 : strValues (rs.drop (i + 1) ++ (rs1 ++ [(y, t)])) = strValues (rs.drop (i + 1) ++ rs1) ++ [.str y t] := by simp [strValues]
    rw [e1, e2, List.push_toArray]
    exact sub_swap sub_rfl
  · rw [List.take_add_one, List.getElem?_eq_getElem hlt, ← hr, List.map_append, List.map_append, hmap, Option.toList_some]
    simp only [List.map_cons, List.map_nil]
    rw [hs]
theorem tok_use {w : World} {am ap : Addr} {x : Str} {tx : Tok} {xs : List Value} {n : Nat} {rest rest0 : List (Addr × Obj)} (hM : Mach rest0 am ap) (hs : ∀ p ∈ rest0, p ∈ rest) (hne : ∀ p ∈ rest, p.1 ≠ ap) (hl : xs.length < 100) :
    Ctr w 2 (.ref 80) [.ref am] ((ap, pbOf (.str x tx :: xs) n) :: rest) (fun v n' => v = .str x tx ∧ ∃ k, n' = (ap, pbOf xs k) :: rest) := tok_spec w am ap x tx xs n rest (hM.mono hs) hne hl
theorem push_use {w : World} {am ap : Addr} {v : Value} {vs : List Value} {n : Nat} {rest rest0 : List (Addr × Obj)} (hM : Mach rest0 am ap) (hs : ∀ p ∈ rest0, p ∈ rest) (hne : ∀ p ∈ rest, p.1 ≠ ap) (hl : vs.length < 100) :
    Ctr w 2 (.ref 87) [.ref am, v] ((ap, pbOf vs n) :: rest) (fun r n' => r = .none ∧ ∃ k, n' = (ap, pbOf (vs ++ [v]) k) :: rest) := push_spec w am ap v vs n rest (hM.mono hs) hne hl
section
variable {w : World} {p : Program} {loose : List Str} {mean : ExcName → Option Value} {mg mb : Str → Option Value} {dp un : Nat} {gd : Option (List Code)} {cn : Str} {cs : Scope} {a : Addr} {ccd : Value} {cl : List (Str × Addr)} {outer : List Env} {A₀ : Around} {base h₀ : Heap} {L : Addr} {m : Str → Option Value} {s : Shared} {Q E : Value → Shared → Prop} {led : List (Addr × Obj)}
theorem tok_go {am ap : Addr} {x : Str} {tx : Tok} {xs : List Value} {n : Nat} {rest rest0 : List (Addr × Obj)} (hM : Mach rest0 am ap) (B : Below A₀ base outer h₀) (F : Fr h₀ L s.heap m) (X : (hd.heap_39 w.params).In h₀) (N : News h₀ L s.heap led) (T : Top p loose mean mg mb h₀) (hk : cs.kind = .function) (hd : dp + 2 < recursionLimit) (hu : un + 8 * 2 < cLine) (pk : Pick (ap, pbOf (.str x tx :: xs) n) led rest) (hs : ∀ p ∈ rest0, p ∈ rest) (hne : ∀ p ∈ rest, p.1 ≠ ap) (hl : xs.length < 100)
    (ret : ∀ h' tk', Fr h₀ L h' m → ∀ k, News h₀ L h' ((ap, pbOf xs k) :: rest) → Q (.str x tx) { s with heap := h', toks := tk' }) : wpAny (model PySem.Challenge.rw_sh0017_01.prog w) (ktrTop dp un gd cn cs L a ccd cl outer) (call (.ref 80) [.ref am]) Q E s :=
  Ctr.use (tok_use hM hs hne hl) B F X (News.pick N pk) T hk hd hu fun _ _ h' tk' F' N' o => by
    obtain ⟨e1, k, e2⟩ := o; subst e1; subst e2; exact ret h' tk' F' k N'
theorem push_go {am ap : Addr} {v : Value} {vs : List Value} {n : Nat} {rest rest0 : List (Addr × Obj)} (hM : Mach rest0 am ap) (B : Below A₀ base outer h₀) (F : Fr h₀ L s.heap m) (X : (hd.heap_39 w.params).In h₀) (N : News h₀ L s.heap led) (T : Top p loose mean mg mb h₀) (hk : cs.kind = .function) (hd : dp + 2 < recursionLimit) (hu : un + 8 * 2 < cLine) (pk : Pick (ap, pbOf vs n) led rest) (hs : ∀ p ∈ rest0, p ∈ rest) (hne : ∀ p ∈ rest, p.1 ≠ ap) (hl : vs.length < 100)
    (ret : ∀ h' tk', Fr h₀ L h' m → ∀ k, News h₀ L h' ((ap, pbOf (vs ++ [v]) k) :: rest) → Q .none { s with heap := h', toks := tk' }) : wpAny (model PySem.Challenge.rw_sh0017_01.prog w) (ktrTop dp un gd cn cs L a ccd cl outer) (call (.ref 87) [.ref am, v]) Q E s :=
  Ctr.use (push_use hM hs hne hl) B F X (News.pick N pk) T hk hd hu fun _ _ h' tk' F' N' o => by
    obtain ⟨e1, k, e2⟩ := o; subst e1; subst e2; exact ret h' tk' F' k N'
end
theorem words_14 : True := by
  k_with "call ref" => (((k_dflt (refine' tok_go (by assumption) (by k_asm) (by k_asm) (by k_asm) (by k_asm) (by k_asm) (by first | exact rfl | assumption) (by ktr_room) (by ktr_units) (by kd_mem) (by kcj_m) (by first | with_reducible assumption | exact ne_cons (by dsimp only; omega) (by with_reducible assumption) | exact ne_cons (by dsimp only; omega) (ne_cons (by dsimp only; omega) (by with_reducible assumption)) | exact ne_cons (by dsimp only; omega) (ne_cons (by dsimp only; omega) (ne_cons (by dsimp only; omega) (by with_reducible assumption)))) (by with_reducible assumption) ?_)); intro _ _ _ _ _; (try dsimp only); (try k_sweep)))
  k_with "call ref" => (((k_dflt (refine' push_go (by assumption) (by k_asm) (by k_asm) (by k_asm) (by k_asm) (by k_asm) (by first | exact rfl | assumption) (by ktr_room) (by ktr_units) (by kd_mem) (by kcj_m) (by first | with_reducible assumption | exact ne_cons (by dsimp only; omega) (by with_reducible assumption) | exact ne_cons (by dsimp only; omega) (ne_cons (by dsimp only; omega) (by with_reducible assumption)) | exact ne_cons (by dsimp only; omega) (ne_cons (by dsimp only; omega) (ne_cons (by dsimp only; omega) (by with_reducible assumption)))) (by with_reducible assumption) ?_)); intro _ _ _ _ _; (try dsimp only); (try k_sweep)))
  k_with "call ref" => ((((with_reducible show wpAny _ _ (call (Value.ref 125) [Value.str _ _, Value.str _ _] []) _ _ _); tb_from (hol_spec _ _ _ _ _ _ (by with_reducible assumption) (by with_reducible assumption) (by with_reducible assumption)); intro _ _ _ _ _ _ zqo'; obtain ⟨zqe1', zqe2'⟩ := zqo'; subst zqe1'; subst zqe2'; (try dsimp only); (try k_sweep)); (try (revert zqe1'; intro _)); (try (revert zqe2'; intro _))))
  k_with "call ref" => ((((with_reducible show wpAny _ _ (call (Value.ref 111) [Value.str _ _] []) _ _ _); tb_from (quo_spec _ _ _ _ (by with_reducible assumption) (by with_reducible assumption) (by with_reducible assumption)); intro _ _ _ _ _ _ zqo'; obtain ⟨zqe1', _, zqe2'⟩ := zqo'; subst zqe1'; subst zqe2'; (try dsimp only); (try k_sweep)); (try (revert zqe1'; intro _)); (try (revert zqe2'; intro _))))
  k_with "call ref" => ((((with_reducible show wpAny _ _ (call (Value.ref 52) [Value.str _ _] []) _ _ _); tb_from (com_spec _ _ _ _ (by with_reducible assumption) (by with_reducible assumption) (by omega)); intro _ _ _ _ _ _ zqo'; obtain ⟨zqe1', _, zqe2'⟩ := zqo'; subst zqe1'; subst zqe2'; (try dsimp only); (try k_sweep)); (try (revert zqe1'; intro _)); (try (revert zqe2'; intro _))))
  exact True.intro
set_option maxHeartbeats 8000000 in
theorem go_spec (w : World) (am ap : Addr) (c : Nat) (t : Tok) (mk : Bool) (rs : List (Str × Tok)) (k : Nat) (rest : List (Addr × Obj)) (hM : Mach rest am ap) (hne : ∀ p ∈ rest, p.1 ≠ ap) (h4 : rs.length = 4) (hok : ∀ r ∈ rs, RowOk r.1) (c1 : 97 ≤ c) (c2 : c ≤ 102) :
    Ctr w 6 (.ref 132) [.ref am, .str ⟨#[c]⟩ t, .bool mk] ((ap, pbOf (strValues rs) k) :: rest) (fun v n' => ∃ D rs' n k', v = .ref D ∧ n' = (D, listOf (strValues rs').toArray n) :: (ap, pbOf (strValues rs') k') :: rest ∧ rs'.map Prod.fst = rs.map (fun r => stp mk c r.1) ∧ ap < D ∧ ∀ p ∈ rest, p.1 < D) := by
  unfold Ctr
  k_fill
  intro p loose mean mg mb dp un gd cn cs a ccd cl outer A₀ base h₀ L m s Q E B F X N T hk hd hu hret
  refine hideP ?_
  intro Gq hGq
  have hM2 := hM
  obtain ⟨dx, e, kk, hm1, hm2⟩ := hM2
  rw [machD_eq] at hm2
  refine hGq ?_
  clear hGq Gq
  refine wpAny_call ?_
  k_dflt k_enter
  k_steps
  rename_i D hh1 lD hh2 lF N2 hh3 tk3 t1 u1 v1 aR aK I lI
  refine ⟨?_⟩
  refine rangeRest_inv2 (y := Str.ofString "row") (GoR D ap mk c rs rest) (by decide) ?_ ?_ ?_
  · exact ⟨[], 0, k, by rw [List.append_nil]; exact sub_rfl, rfl⟩
  · intro i ti vi news h tk hi hqq1_ F3 N3
    refine hideP ?_
    intro Gq hGq
    obtain ⟨rs1, n1, k1, hsub, hmap⟩ := hqq1_
    replace F3 := fr_like lF F3
    replace N3 := news_like lF N3
    have hlt : i < rs.length := by omega
    obtain ⟨r, hr⟩ : ∃ r, r = rs[i] := ⟨_, rfl⟩
    have hdrop : rs.drop i = r :: rs.drop (i + 1) := by rw [hr]; exact List.drop_eq_getElem_cons hlt
    have hro := hok r (by rw [hr]; exact List.getElem_mem hlt)
    obtain ⟨x1, x2, x3, x4⟩ := hro
    replace N3 := cb_drop N3 (sub_cons hsub)
    have e1 : strValues (rs.drop i ++ rs1) = .str r.1 r.2 :: strValues (rs.drop (i + 1) ++ rs1) := by rw [hdrop]; rfl
    rw [e1] at N3
    have hl0 : rs1.length = i := by have := congrArg List.length hmap; simp at this; omega
    have hl1 : (strValues (rs.drop (i + 1) ++ rs1)).length < 100 := by simp [strValues]; omega
    have hl2 : (strValues rs1).length < 100 := by simp [strValues]; omega
    clear hsub
    refine hGq ?_
    clear hGq Gq
    k_steps
    all_goals first
      | (refine Two.of fun z z1 z2 => ?_; dsimp only; (repeat (first | rw [if_neg z1] | rw [if_neg z2])); done)
      | skip
    · exact go_turn hr hlt hmap (by simp only [stp, ‹r.1.cps.contains c = true›, ‹mk = true›, if_true])
    · exact go_turn hr hlt hmap (by simp only [stp, ‹r.1.cps.contains c = true›, ‹mk = false›, if_true]; rfl)
    · exact go_turn hr hlt hmap (by simp only [stp, ‹r.1.cps.contains c = false›]; rfl)
  · intro u v news h tk hqq2_ F3 N3
    refine hideP ?_
    intro Gq hGq
    obtain ⟨rs1, n1, k1, hsub, hmap⟩ := hqq2_
    replace F3 := fr_like lF F3
    replace N3 := news_like lF N3
    have hl0 : rs1.length = 4 := by have := congrArg List.length hmap; simp at this; omega
    have e1 : rs.drop 4 = [] := by rw [← h4]; exact List.drop_length
    have e2 : rs.take 4 = rs := by rw [← h4]; exact List.take_length
    rw [e2] at hmap
    rw [e1, List.nil_append] at hsub
    refine hGq ?_
    clear hGq Gq
    k_steps
    exact hret _ _ _ _ (by k_asm) (cb_drop (by k_asm) hsub) ⟨D, rs1, n1, k1, rfl, rfl, hmap, lD.1, lt_of_top lD.2⟩

end
-- part Row
section
/-! what a row looks like: marks, dots, letters -/
theorem words_15 : True := by
  k_with_none
  k_with "k_all" => (first | assumption | exact ne_of_top (by omega))
  k_with "kd_mem" => (first | exact Pick.head | (apply Pick.tail; kd_mem))
  k_with "UnrEnd" => ((k_dflt (refine' unrEnd_pick (by k_asm) (by k_asm) (by kd_mem) (by k_all) ?_; k_whole)))
  k_with "exec For Name Name cons nil" => ((k_here; (with_unfolding_all refine' For_invVF (by k_asm) (by exact rfl) (by exact rfl) ?_; k_whole)))
  k_with "pyIter ref" => ((((with_reducible show wpAny _ _ (pyIter (Value.ref _)) (fun it s₂ => LoopAtV _ _ _ _ _ _ _ _ _ it s₂) _ _); k_dflt (refine' iter_listUnr (by exact rfl) (by k_asm) (by k_asm) (by k_mem) (by exact rfl) (by exact rfl) ?_; k_whole); intro _ zql1'; (try k_lt zql1')); (try (revert zql1'; intro _))))
  k_with "m1" => ((refine' code_def (by k_asm) (by k_asm) (by k_asm) (by k_asm) (by k_asm) (by exact rfl) (by exact rfl) (by first | exact rfl | assumption) (by k_is) (by k_is) (by first | k_room | ktr_room) (by first | exact BindsTo.of_eq rfl | exact binds_K (by k_in) rfl (by k_is) rfl rfl rfl | fail "k_enter: no rule for these arguments") (by exact locs rfl) ?_ (by exact rfl) (by exact rfl) (by exact rfl) (by decide)))
  k_with "m2" => ((refine' code_defC (by k_asm) (by k_asm) (by k_asm) (by k_asm) (by k_asm) (by exact rfl) (by exact rfl) (by first | exact rfl | assumption) (by k_is) (by k_is) (by first | k_room | ktr_room) (by first | exact BindsTo.of_eq rfl | exact binds_K (by k_in) rfl (by k_is) rfl rfl rfl | fail "k_enter: no rule for these arguments") (by exact rfl) (by decide +kernel) ?_ (by exact rfl) (by exact rfl) (by exact rfl)))
  k_with "call builtin:str.find" => (((with_reducible show wpAny _ _ (call (Value.builtin "str.find") [Value.str _ _, Value.str _ _, Value.int _ _, Value.int _ _]) _ _ _); k_dflt (refine find4_call ?_)))
  k_with "call builtin:len" => (((with_reducible show wpAny _ _ (call (Value.builtin "len") [Value.str (PySem.Str.mk _) _]) _ _ _); k_dflt (refine SBL.len (by first | decide | (simp only [PySem.Str.length, List.size_toArray, List.length_cons, List.length_nil]; omega)) ?_); (try dsimp only)))
  k_with "UnrEnd" => ((k_dflt (refine' unrEnd_pickL (by k_asm) (by k_asm) (by kd_mem) (by k_all) (by k_mem) ?_; k_whole)))
  k_with "kcj_m" => ((intro _ zqhp; repeat (first | exact zqhp | apply List.Mem.tail)))
  k_with "k_mem" => (((show @Membership.mem (PySem.Addr × PySem.Obj) (List (PySem.Addr × PySem.Obj)) List.instMembership _ _); with_reducible assumption))
  k_with "kn_code" => (first | exact codeHd_of_K (c := 37) (P := 33) (by k_asm) (by kernel_rfl) | exact codeHd_of_K (c := 117) (P := 113) (by k_asm) (by kernel_rfl))
  k_with "is_list" => (exact News.isList (by k_asm) (by k_mem))
  k_with "k_room" => (ktr_room)
  k_with "Kq" => ((k_dflt (refine' Kq.of (by with_reducible assumption) ?_)))
  k_with "truthy ref" => ((k_here; (with_reducible show wpAny _ _ (truthy (Value.ref _)) _ _ _); (with_unfolding_all refine' wpAny_truthy_list (items := _) (by is_list) (by (simp only [List.size_toArray, List.length_cons, List.length_nil]; omega)) ?_; k_whole; (try simp only [List.isEmpty_toArray, List.isEmpty_cons, List.isEmpty_nil, Array.isEmpty_push, Bool.not_false, Bool.not_true]))))
  k_with "call builtin:list.pop" => (((k_here; (with_reducible show wpAny _ _ (call (Value.builtin _) [Value.ref _, Value.int 0 _]) _ _ _); k_dflt (refine' popU (by k_asm) (by k_asm) (by k_upd) (by rfl) (by (simp only [List.size_toArray, List.length_cons]; exact seqIndex_zero _)) (by rfl) (by (rw [sizeLine_eq]; simp only [List.length_cons]; omega)) ?_); intro _ _ zqN'; (try dsimp only [List.nil_append, List.cons_append] at zqN')); (try (revert zqN'; intro _))))
  k_with "call builtin:list.append" => ((k_here; (with_reducible show wpAny _ _ (call (Value.builtin _) [Value.ref _, _]) _ _ _); k_dflt (refine' append_K (by k_asm) (by k_asm) (by k_upd) ?_ (by (rw [sizeLine_eq]; simp only [List.size_toArray]; omega)); k_whole); intro _ _ _; (try k_sweep)))
  exact True.intro
def hsh : Nat → List Nat
  | 0 => []
  | j + 1 => 35 :: 32 :: hsh j
theorem hsh_len : ∀ j, (hsh j).length = 2 * j
  | 0 => rfl
  | j + 1 => by simp only [hsh, List.length_cons, hsh_len j]; omega
theorem hsh_mem {c : Nat} : ∀ {j : Nat}, c ∈ hsh j → c = 35 ∨ c = 32
  | j + 1, h => by
    simp only [hsh, List.mem_cons] at h
    rcases h with h | h | h
    · exact .inl h
    · exact .inr h
    · exact hsh_mem h
def rowL (j i : Nat) (ls : List Nat) : List Nat := hsh j ++ (List.replicate (i + 1) 46 ++ ls)
def row (j i : Nat) (ls : List Nat) : Str := ⟨(rowL j i ls).toArray⟩
structure Let (ls : List Nat) : Prop where
  ne : ls ≠ []
  le : ls.length ≤ 6
  ok : ∀ c ∈ ls, 97 ≤ c ∧ c ≤ 102
theorem rowL_len (j i : Nat) (ls : List Nat) : (rowL j i ls).length = 2 * j + i + 1 + ls.length := by
  simp only [rowL, List.length_append, hsh_len, List.length_replicate]; omega
theorem row_len (j i : Nat) (ls : List Nat) : (row j i ls).length = 2 * j + i + 1 + ls.length := by
  show (rowL j i ls).toArray.size = _
  rw [List.size_toArray, rowL_len]
theorem rowL_mem {c j i : Nat} {ls : List Nat} (h : c ∈ rowL j i ls) : c = 35 ∨ c = 32 ∨ c = 46 ∨ c ∈ ls := by
  simp only [rowL, List.mem_append] at h
  rcases h with h | h | h
  · rcases hsh_mem h with h | h
    · exact .inl h
    · exact .inr (.inl h)
  · exact .inr (.inr (.inl (List.eq_of_mem_replicate h)))
  · exact .inr (.inr (.inr h))
theorem row_has {c j i : Nat} {ls : List Nat} (h : 97 ≤ c) : (row j i ls).cps.contains c = ls.contains c := by
  show (rowL j i ls).toArray.contains c = _
  rw [Bool.eq_iff_iff, Array.contains_iff_mem, List.mem_toArray, List.contains_iff_mem]
  refine ⟨fun m => ?_, fun m => ?_⟩
  · rcases rowL_mem m with e | e | e | e
    · omega
    · omega
    · omega
    · exact e
  · simp [rowL, m]
theorem str_ext {l l' : List Nat} (h : l = l') : (⟨l.toArray⟩ : Str) = ⟨l'.toArray⟩ := by rw [h]
theorem str_app (l l' : List Nat) : (⟨l.toArray⟩ : Str) ++ ⟨l'.toArray⟩ = ⟨(l ++ l').toArray⟩ := by
  show (⟨l.toArray ++ l'.toArray⟩ : Str) = _
  rw [List.append_toArray]
theorem dot_is : Str.ofString "." = ⟨[46].toArray⟩ := by decide +kernel
theorem mark_is : Str.ofString "# " = ⟨[35, 32].toArray⟩ := by decide +kernel
theorem row_mark (j i : Nat) (ls : List Nat) : Str.ofString "# " ++ row j i ls = row (j + 1) i ls := by
  rw [mark_is]; exact str_app _ _
theorem row_first0 (i : Nat) (ls : List Nat) : (row 0 i ls).cps.getD 0 0 = 46 := by
  show ((rowL 0 i ls).toArray).getD 0 0 = 46
  simp [rowL, hsh, List.replicate_succ]
theorem row_first1 (j i : Nat) (ls : List Nat) : (row (j + 1) i ls).cps.getD 0 0 = 35 := by
  show ((rowL (j + 1) i ls).toArray).getD 0 0 = 35
  simp [rowL, hsh]
theorem quo_row0 (i : Nat) (ls : List Nat) : quo (row 0 i ls) = row 0 (i + 1) ls := by
  unfold quo
  rw [if_pos (row_first0 i ls), dot_is]
  exact (str_app _ _).trans (str_ext (by simp [rowL, hsh, List.replicate_succ]))
theorem quo_row1 (j i : Nat) (ls : List Nat) : quo (row (j + 1) i ls) = row (j + 1) i ls := by
  unfold quo
  rw [if_neg (by rw [row_first1]; decide)]
theorem stp_row (mk : Bool) {c : Nat} (h : 97 ≤ c) (j i : Nat) (ls : List Nat) :
    stp mk c (row j i ls) = if ls.contains c = true then (if mk = true then (if j = 0 then row 0 (i + 1) ls else row j i ls) else row (j + 1) i ls) else row j i ls := by
  unfold stp
  rw [row_has h]
  cases ls.contains c with
  | false => rfl
  | true =>
    cases mk with
    | false => exact row_mark j i ls
    | true =>
      simp only [if_true]
      cases j with
      | zero => simpa using quo_row0 i ls
      | succ j => simpa using quo_row1 j i ls
theorem strSub_all (x : Str) : Builtin.Str.strSub x 0 x.length = x := strSub_whole x
theorem row_rstrip {j i : Nat} {ls : List Nat} (h : Let ls) : Txt.rstrip (row j i ls) = row j i ls := by
  have hA : ∀ c ∈ (row j i ls).cps.toList, c < 128 := by
    intro c hc
    have : c ∈ rowL j i ls := by simpa [row] using hc
    rcases rowL_mem this with e | e | e | e
    · omega
    · omega
    · omega
    · have := h.ok c e; omega
  obtain ⟨hi, h1, h2, h3, _⟩ := rstrip_cut hA
  have hl : 0 < ls.length := List.length_pos_iff.mpr h.ne
  have e : hi = (row j i ls).length := by
    refine Nat.le_antisymm h1 (Nat.le_of_not_lt fun hlt => ?_)
    have hsp := h3 ((row j i ls).length - 1) (by omega) (by omega)
    have hlast : (row j i ls).cps.getD ((row j i ls).length - 1) 0 ∈ ls := by
      rw [row_len]
      show (rowL j i ls).toArray.getD _ 0 ∈ ls
      rw [Array.getD_eq_getD_getElem?, List.getElem?_toArray, rowL, ← List.append_assoc]
      rw [List.getElem?_append_right (by simp [hsh_len]; omega)]
      have hlt2 : 2 * j + i + 1 + ls.length - 1 - (hsh j ++ List.replicate (i + 1) 46).length < ls.length := by simp [hsh_len]; omega
      rw [List.getElem?_eq_getElem hlt2]
      exact List.getElem_mem hlt2
    have hb := h.ok _ hlast
    generalize (row j i ls).cps.getD ((row j i ls).length - 1) 0 = c at hsp hb
    have h6 := six c hb.1 hb.2
    rcases h6 with rfl | rfl | rfl | rfl | rfl | rfl <;> exact absurd hsp (by decide +kernel)
  rw [h2, e, strSub_all]
theorem row_ok {j i : Nat} {ls : List Nat} (h : Let ls) (hj : j ≤ 6) (hi : i ≤ 6) : RowOk (row j i ls) := by
  have hl : 0 < ls.length := List.length_pos_iff.mpr h.ne
  have h6 := h.le
  refine ⟨by rw [row_len]; omega, by rw [row_len]; omega, fun c hc => ?_, row_rstrip h⟩
  have : c ∈ rowL j i ls := by simpa [row] using hc
  rcases rowL_mem this with e | e | e | e
  · omega
  · omega
  · omega
  · have := h.ok c e; omega
theorem tw_all {p : Nat → Bool} : ∀ l : List Nat, (∀ c ∈ l, p c = true) → l.takeWhile p = l
  | [], _ => rfl
  | c :: r, h => by rw [List.takeWhile_cons, if_pos (h c (.head _)), tw_all r fun c hc => h c (.tail _ hc)]
theorem row_lstrip {i : Nat} {ls : List Nat} (h : Let ls) : ((Txt.lstripChars (row 0 i ls) (Str.ofString ".")).length : Int) = (ls.length : Int) := by
  unfold Txt.lstripChars
  rw [PyProof.Rows.stripBy_eq]
  have hg : ∀ c, (Str.ofString ".").cps.contains c = (c == 46) := by
    intro c; rw [dot_is, Bool.eq_iff_iff]; simp
  have hlo : stripLo (Str.ofString ".").cps.contains true (row 0 i ls) = i + 1 := by
    simp only [stripLo, if_true]
    have e : (row 0 i ls).cps.toList = List.replicate (i + 1) 46 ++ ls := by simp [row, rowL, hsh]
    rw [e, List.takeWhile_append]
    have e2 : (List.replicate (i + 1) 46).takeWhile ((Str.ofString ".").cps.contains) = List.replicate (i + 1) 46 := by
      exact tw_all _ fun c hc => by rw [List.eq_of_mem_replicate hc, hg]; rfl
    rw [e2, if_pos rfl]
    have e3 : ls.takeWhile ((Str.ofString ".").cps.contains) = [] := by
      match ls, h with
      | c :: r, h =>
        rw [List.takeWhile_cons, if_neg]
        have := h.ok c (.head _)
        rw [hg]; simp; omega
    rw [e3]; simp
  have hhi : ∀ lo, stripHi (Str.ofString ".").cps.contains false (row 0 i ls) lo = (row 0 i ls).length := fun lo => rfl
  rw [hlo, hhi, row_len]
  show ((Array.extract _ _ _).size : Int) = _
  rw [Array.size_extract]
  have : (row 0 i ls).cps.size = (row 0 i ls).length := rfl
  rw [this, row_len]
  omega
theorem row_idx {i : Nat} {ls : List Nat} (h : Let ls) : rowIdx (row 0 i ls) = 6 + (i : Int) - (ls.length : Int) := by
  unfold rowIdx
  rw [row_lstrip h, row_len]
  omega
def isAlive (x : Str) : Bool := x.cps.getD 0 0 == 46
theorem alive_row (j i : Nat) (ls : List Nat) : isAlive (row j i ls) = (j == 0) := by
  unfold isAlive
  cases j with
  | zero => rw [row_first0]; rfl
  | succ j => rw [row_first1]; rfl
def cntS (xs : List Str) (j : Int) : Int := ((xs.filter fun x => rowIdx x == j).length : Int)
def weiS (xs : List Str) : Int := cntS xs 0 + 2 * cntS xs 1 + 4 * cntS xs 2 + 8 * cntS xs 3 + 16 * cntS xs 4 + 32 * cntS xs 5 + 64 * cntS xs 6
theorem cntI_S (rs : List (Str × Tok)) (j : Int) : cntI rs j = cntS (rs.map Prod.fst) j := by
  unfold cntI cntS
  rw [List.filter_map, List.length_map]
  rfl
theorem weiI_S (rs : List (Str × Tok)) : cntI rs 0 + 2 * cntI rs 1 + 4 * cntI rs 2 + 8 * cntI rs 3 + 16 * cntI rs 4 + 32 * cntI rs 5 + 64 * cntI rs 6 = weiS (rs.map Prod.fst) := by
  simp only [cntI_S, weiS]
inductive PlayStep (rows : List Str) (fs : List Nat) (rows' : List Str) (fs' : List Nat) (a b : Nat) (W : Int) : Prop
  | mk (p1 : _) (q1 : _) (p2 : _) (q2 : _) (c1 : fs = p1 ++ a :: q1) (c2 : p1 ++ q1 = p2 ++ b :: q2) (c3 : fs' = p2 ++ q2) (c4 : W = weiS ((rows.map (stp true a)).filter isAlive)) (c5 : (∀ y ∈ p1 ++ q1, weiS (((rows.map (stp true a)).filter isAlive).filter fun x => x.cps.contains y) ≤ weiS (((rows.map (stp true a)).filter isAlive).filter fun x => x.cps.contains b))) (c6 : rows' = (rows.map (stp true a)).map (stp false b))
inductive PlayTo (rs0 : List Str) : Nat → List Str → List Nat → List Nat → List Int → Prop
  | zero : PlayTo rs0 0 rs0 [97, 98, 99, 100, 101, 102] [] []
  | succ {i rows fs ms sc rows' fs' a b W} : PlayTo rs0 i rows fs ms sc → PlayStep rows fs rows' fs' a b W → PlayTo rs0 (i + 1) rows' fs' (ms ++ [a, b]) (sc ++ [W])
def RowInv (fs : List Nat) (x : Str) : Prop := ∃ j i ls, x = row j i ls ∧ Let ls ∧ i + (ls.filter fun c => fs.contains c).length ≤ ls.length ∧ j + fs.length ≤ 6
structure FreeOk (fs : List Nat) : Prop where
  nd : fs.Nodup
  ok : ∀ c ∈ fs, 97 ≤ c ∧ c ≤ 102
theorem FreeOk.cut {p q : List Nat} {a : Nat} (h : FreeOk (p ++ a :: q)) : FreeOk (p ++ q) ∧ 97 ≤ a ∧ a ≤ 102 ∧ a ∉ p ++ q := by
  have nd := h.nd
  rw [List.perm_middle.nodup_iff] at nd
  rw [List.nodup_cons] at nd
  refine ⟨⟨nd.2, fun c hc => h.ok c ?_⟩, (h.ok a (by simp)).1, (h.ok a (by simp)).2, nd.1⟩
  rcases List.mem_append.mp hc with hc | hc
  · exact List.mem_append_left _ hc
  · exact List.mem_append_right _ (.tail _ hc)
theorem filter_cut {p q : List Nat} {a : Nat} (ha : a ∉ p ++ q) : ∀ ls : List Nat, (ls.filter fun c => (p ++ q).contains c).length + (if ls.contains a = true then 1 else 0) ≤ (ls.filter fun c => (p ++ a :: q).contains c).length
  | [] => by simp
  | c :: r => by
    have ih := filter_cut ha r
    by_cases hc : c = a
    · subst hc
      have e1 : (p ++ q).contains c = false := by
        rw [Bool.eq_false_iff]; intro h; exact ha (List.contains_iff_mem.mp h)
      have e2 : (p ++ c :: q).contains c = true := List.contains_iff_mem.mpr (by simp)
      rw [List.filter_cons, List.filter_cons, e1, e2]
      simp only [List.contains_cons, beq_self_eq_true, Bool.true_or, if_true, Bool.false_eq_true, if_false, List.length_cons]
      split at ih <;> omega
    · have e1 : (p ++ a :: q).contains c = (p ++ q).contains c := by
        rw [Bool.eq_iff_iff, List.contains_iff_mem, List.contains_iff_mem]
        simp [hc]
      have e2 : (c :: r).contains a = r.contains a := by
        simp only [List.contains_cons]
        have : (a == c) = false := by simp; exact fun h => hc h.symm
        rw [this, Bool.false_or]
      rw [List.filter_cons, List.filter_cons, e1, e2]
      split
      · simp only [List.length_cons]; omega
      · exact ih
theorem RowInv.step {p q : List Nat} {a : Nat} {x : Str} (mk : Bool) (hf : FreeOk (p ++ a :: q)) (h : RowInv (p ++ a :: q) x) : RowInv (p ++ q) (stp mk a x) := by
  obtain ⟨j, i, ls, rfl, hl, hi, hj⟩ := h
  obtain ⟨_, h97, _, ha⟩ := hf.cut
  have hc := filter_cut ha ls
  have hlen : (p ++ a :: q).length = (p ++ q).length + 1 := by simp only [List.length_append, List.length_cons]; omega
  rw [stp_row mk h97]
  cases hm : ls.contains a with
  | false =>
    rw [hm] at hc
    simp only [Bool.false_eq_true, if_false] at hc ⊢
    exact ⟨j, i, ls, rfl, hl, by omega, by omega⟩
  | true =>
    rw [hm] at hc
    simp only [if_true] at hc ⊢
    cases mk with
    | true =>
      simp only [if_true]
      by_cases h0 : j = 0
      · subst h0
        rw [if_pos rfl]
        exact ⟨0, i + 1, ls, rfl, hl, by omega, by omega⟩
      · rw [if_neg h0]
        exact ⟨j, i, ls, rfl, hl, by omega, by omega⟩
    | false =>
      simp only [Bool.false_eq_true, if_false]
      exact ⟨j + 1, i, ls, rfl, hl, by omega, by omega⟩
theorem RowInv.ok {fs : List Nat} {x : Str} (h : RowInv fs x) : RowOk x := by
  obtain ⟨j, i, ls, rfl, hl, hi, hj⟩ := h
  have := hl.le
  exact row_ok hl (by omega) (by omega)
theorem RowInv.idx {fs : List Nat} {x : Str} (h : RowInv fs x) (ha : isAlive x = true) : x.length < 100 ∧ 0 ≤ rowIdx x ∧ rowIdx x ≤ 6 := by
  obtain ⟨j, i, ls, rfl, hl, hi, hj⟩ := h
  have := hl.le
  rw [alive_row] at ha
  have h0 : j = 0 := by simpa using ha
  subst h0
  rw [row_idx hl, row_len]
  omega

end
section
-- part E10
section
theorem words_16 : True := by
  k_with "eval ListComp" => ((k_here; lcg_look; k_dflt (refine evalU (F₀ := by k_asm) (by with_unfolding_all rfl) (by decide) (by rfl) (by decide) (by rfl) ?_)))
  k_with "eval ListComp" => ((k_here; lct_look; k_dflt (refine evalT (F₀ := by k_asm) (by with_unfolding_all rfl) (by decide) (by rfl) (by decide) (by rfl) ?_)))
  k_with "exec Assign cons ListComp" => ((k_here; lcg_look; k_dflt (refine assignU (F₀ := by k_asm) (by rfl) (by with_unfolding_all rfl) (by with_unfolding_all rfl) (by decide) (by rfl) (by decide) (by rfl) (by rfl) (by rfl) ?_)))
  k_with "exec Assign cons ListComp" => ((k_here; lct_look; k_dflt (refine assignT (F₀ := by k_asm) (by rfl) (by with_unfolding_all rfl) (by with_unfolding_all rfl) (by decide) (by rfl) (by decide) (by rfl) (by rfl) (by rfl) ?_)))
  k_with "CompEnd" => ((k_dflt (refine' compEnd_of (by k_asm) (by k_asm) (by with_reducible assumption) (by kcj_m) (by with_reducible assumption) ?_; k_whole)))
  k_with "call builtin:len" => ((k_here; (with_reducible show wpAny _ _ (call (Value.builtin "len") [Value.ref _]) _ _ _); k_dflt (refine' kun_lenL (by exact News.isList (by k_asm) (by k_mem)) (by with_reducible assumption) (by omega) ?_; k_whole)))
  exact True.intro
theorem top_off_E10 : True := by
  w_top off
  exact True.intro
open PyProof.Rows.LCg (NsObj lst Off3 Off1 CompEnd CompRest FinE FinA SrcAt)
open PyProof.Rows.LCt (CompRestT)
def isI (a : Int) (v : Value) : Prop := ∃ t, v = .int a t
theorem items3 {a b c : Int} {f : Nat → Int} (h0 : f 0 = a) (h1 : f 1 = b) (h2 : f 2 = c) (i : Nat) (v : Value) (h : ∃ t, v = .int (f i) t) (hi : i < 3) : ∃ k, [a, b, c][i]? = some k ∧ isI k v := by
  obtain ⟨t, rfl⟩ := h
  match i, hi with
  | 0, _ => exact ⟨a, rfl, t, by rw [h0]⟩
  | 1, _ => exact ⟨b, rfl, t, by rw [h1]⟩
  | 2, _ => exact ⟨c, rfl, t, by rw [h2]⟩
theorem All2.get {α : Type} {rel : α → Value → Prop} : ∀ {l : List α} {vs : List Value}, All2 rel l vs → ∀ (i : Nat) (v : Value), vs[i]? = some v → ∃ a, l[i]? = some a ∧ rel a v
  | [], [], _, i, v, h => by simp at h
  | a :: l, v' :: vs, x, 0, v, h => ⟨a, rfl, by cases h; exact x.1⟩
  | a :: l, v' :: vs, x, i + 1, v, h => All2.get x.2 i v h
  | [], _ :: _, x, _, _, _ => x.elim
  | _ :: _, [], x, _, _, _ => x.elim
theorem filt3 {a b c : Int} {f : Int → Bool} : ([a, b, c].filter f).length ≤ sizeLine := Nat.le_trans (List.length_filter_le f [a, b, c]) (show 3 ≤ sizeLine by decide)
def firstOf (b1 b3 b5 : Bool) : Int := if b1 then 1 else if b3 then 3 else if b5 then 5 else 6
theorem lit0 {vs : List Value} (h : All2 isI [] vs) : vs = [] := by cases vs with
  | nil => rfl
  | cons _ _ => exact h.elim
theorem litS {a : Int} {l : List Int} {vs : List Value} (h : All2 isI (a :: l) vs) : ∃ t r, vs = .int a t :: r ∧ All2 isI l r := by cases vs with
  | nil => exact h.elim
  | cons v r => obtain ⟨⟨t, rfl⟩, h2⟩ := h; exact ⟨t, r, rfl, h2⟩
theorem filt33 {a b c : Int} {f g : Int → Bool} : ((([a, b, c].filter f).filter g).length : Int) ≤ 3 := by
  have h1 := List.length_filter_le g ([a, b, c].filter f)
  have h2 := List.length_filter_le f [a, b, c]
  have h3 : [a, b, c].length = 3 := rfl
  omega
def mv (c0 c1 c2 c3 c4 c5 : Nat) (a : Int) : Nat := if a = 0 then c0 else if a = 1 then c1 else if a = 2 then c2 else if a = 3 then c3 else if a = 4 then c4 else c5
def nT (b1 b3 b5 : Bool) : Int := (if b1 then 1 else 0) + ((if b3 then 1 else 0) + (if b5 then 1 else 0))
def tolV (x : Str) (c0 c1 c2 c3 c4 c5 : Nat) : Str := Txt.mul (Str.ofString "# ") (nT (inL x c1) (inL x c3) (inL x c5)) ++ Txt.mul (Str.ofString ".") (1 + ((([0, 2, 4].filter (fun a => inL x (mv c0 c1 c2 c3 c4 c5 a))).filter (fun a => decide (a < firstOf (inL x c1) (inL x c3) (inL x c5)))).length : Int)) ++ x
theorem isI_ints : ∀ {l : List Int} {vs : List Value}, All2 isI l vs → IntsAre vs l
  | [], [], _ => .nil
  | a :: l, _ :: vs, ⟨⟨t, h⟩, h2⟩ => by rw [h]; exact .cons _ t (isI_ints h2)
theorem first_min {f : Int → Bool} {M : Int} (hm : M ∈ [1, 3, 5].filter f ++ [6]) (hle : ∀ a, a ∈ [1, 3, 5].filter f ++ [6] → M ≤ a) : M = firstOf (f 1) (f 3) (f 5) := by
  cases h1 : f 1 <;> cases h3 : f 3 <;> cases h5 : f 5 <;> simp [List.filter, h1, h3, h5] at hm hle <;> simp [firstOf] <;> omega
theorem nT_len {f : Int → Bool} : ((([1, 3, 5].filter f).length : Nat) : Int) = nT (f 1) (f 3) (f 5) := by
  cases h1 : f 1 <;> cases h3 : f 3 <;> cases h5 : f 5 <;> simp [List.filter, h1, h3, h5, nT]
theorem words_17 : True := by
  k_with "binaryOp Add ref ref" => ((k_here; (with_reducible show wpAny _ _ (binaryOp _ (Value.ref _) (Value.ref _)) _ _ _); refine halt ?_))
  k_with "call builtin:min" => ((k_here; (with_reducible show wpAny _ _ (call (Value.builtin "min") [Value.ref _]) _ _ _); refine halt ?_))
  exact True.intro
theorem mv_at {c0 c1 c2 c3 c4 c5 : Nat} {u0 u1 u2 u3 u4 u5 : Tok} {a : Int} (h : a ∈ [(0 : Int), 2, 4] ∨ a ∈ [(1 : Int), 3, 5]) :
    ∃ u, [Value.str ⟨#[c0]⟩ u0, .str ⟨#[c1]⟩ u1, .str ⟨#[c2]⟩ u2, .str ⟨#[c3]⟩ u3, .str ⟨#[c4]⟩ u4, .str ⟨#[c5]⟩ u5][a.toNat]? = some (.str ⟨#[mv c0 c1 c2 c3 c4 c5 a]⟩ u) ∧ 0 ≤ a ∧ a < 100 := by
  simp only [List.mem_cons, List.not_mem_nil, or_false] at h
  rcases h with (rfl | rfl | rfl) | (rfl | rfl | rfl) <;> exact ⟨_, rfl, by decide, by decide⟩
theorem words_18 : True := by
  k_with "subscriptTail Name Name ref int" => ((k_here; k_dflt (refine' item_at (by is_list) (by with_reducible assumption) (by with_reducible assumption) (by with_reducible assumption) ?_ (by with_unfolding_all rfl); k_whole)))
  exact True.intro
set_option maxHeartbeats 16000000 in
theorem told_spec (w : World) (l : Addr) (x : Str) (t : Tok) (c0 c1 c2 c3 c4 c5 : Nat) (u0 u1 u2 u3 u4 u5 : Tok) (n : Nat) (rest : List (Addr × Obj))
    (hl : (l, listOf #[.str ⟨#[c0]⟩ u0, .str ⟨#[c1]⟩ u1, .str ⟨#[c2]⟩ u2, .str ⟨#[c3]⟩ u3, .str ⟨#[c4]⟩ u4, .str ⟨#[c5]⟩ u5] n) ∈ rest) (hx : x.length < 100) :
    CtrP w 6 (.ref 154) [.str x t, .ref l] rest (fun v => ∃ t, v = .str (tolV x c0 c1 c2 c3 c4 c5) t) := by
  unfold CtrP Ctr
  k_fill
  intro p loose mean mg mb dp un gd cn cs a ccd cl outer A₀ base h₀ L m s Q E B F X N T hk hd hu hret
  refine wpAny_call ?_
  k_dflt k_enter
  k_steps
  refine CompT.filter isI isI (fun a => inL x (mv c0 c1 c2 c3 c4 c5 a)) [0, 2, 4] (Src.range (by rfl) (by k_asm) (by k_asm) (by assumption) (by rfl) (by rfl) (by decide)) (by k_asm) (by k_asm) rfl (items3 (f := fun i => 0 + (i : Int) * 2) rfl rfl rfl) ?_ ?_
  · intro g a v ys I oI C oC D m₂ h tk E' ha hpq1 hS hC hx2 F' N' off ne
    refine hideP ?_
    intro Gq hGq
    obtain ⟨t, rfl⟩ := hpq1
    obtain ⟨ua, hit, h0a, h9a⟩ := mv_at (c0 := c0) (c1 := c1) (c2 := c2) (c3 := c3) (c4 := c4) (c5 := c5) (u0 := u0) (u1 := u1) (u2 := u2) (u3 := u3) (u4 := u4) (u5 := u5) (.inl ha)
    clear ha
    refine hGq ?_
    clear hGq Gq
    refine hideQ ?_
    intro qqh eeh hqqh
    try dsimp only
    k_steps
    · rename (Builtin.Str.occurrences x _ 0 x.length 1).isEmpty = _ => hf; exact ⟨rfl, inL_f hf⟩
    · rename (Builtin.Str.occurrences x _ 0 x.length 1).isEmpty = _ => hf; exact ⟨rfl, inL_t hf, _, rfl⟩
  · intro g ys hys
    k_steps
    refine CompT.filter isI isI (fun a => inL x (mv c0 c1 c2 c3 c4 c5 a)) [1, 3, 5] (Src.range (by rfl) (by k_asm) (by k_asm) (by assumption) (by rfl) (by rfl) (by decide)) (by k_asm) (by k_asm) rfl (items3 (f := fun i => 1 + (i : Int) * 2) rfl rfl rfl) ?_ ?_
    · intro g a v ys I oI C oC D m₂ h tk E' ha hpq1 hS hC hx2 F' N' off ne
      refine hideP ?_
      intro Gq hGq
      obtain ⟨t, rfl⟩ := hpq1
      obtain ⟨ua, hit, h0a, h9a⟩ := mv_at (c0 := c0) (c1 := c1) (c2 := c2) (c3 := c3) (c4 := c4) (c5 := c5) (u0 := u0) (u1 := u1) (u2 := u2) (u3 := u3) (u4 := u4) (u5 := u5) (.inr ha)
      clear ha
      refine hGq ?_
      clear hGq Gq
      refine hideQ ?_
      intro qqh eeh hqqh
      try dsimp only
      k_steps
      · rename (Builtin.Str.occurrences x _ 0 x.length 1).isEmpty = _ => hf; exact ⟨rfl, inL_f hf⟩
      · rename (Builtin.Str.occurrences x _ 0 x.length 1).isEmpty = _ => hf; exact ⟨rfl, inL_t hf, _, rfl⟩
    · intro g2 ys2 hys2
      have hi2 := isI_ints hys2
      obtain ⟨KT, hKT⟩ : ∃ k : Int, k = ((([1, 3, 5].filter (fun a => inL x (mv c0 c1 c2 c3 c4 c5 a))).length : Nat) : Int) := ⟨_, rfl⟩
      have hlT : (ys2.toArray.size : Int) = KT := by rw [hKT, List.size_toArray, hys2.length]
      have hT0 : 0 ≤ KT := by omega
      have hT3 : KT ≤ 3 := by
        have h2 := List.length_filter_le (fun a => inL x (mv c0 c1 c2 c3 c4 c5 a)) [1, 3, 5]
        have h3 : ([1, 3, 5] : List Int).length = 3 := rfl
        omega
      k_steps
      refine ⟨?_⟩
      rename Fr _ _ _ _ => F5
      rename News _ _ _ _ => N5
      refine kmk_add_ints F5 N5 (News.isList N5 (.tail _ (.head _))) (News.isList N5 (.head _)) hi2 (.cons 6 _ .nil) ?_ ?_
      · intro D6 us h6 F6 N6 l6 hi6
        k_lt l6
        k_steps
        refine ⟨?_⟩
        refine kso_min F6 N6 (News.isList N6 (.head _)) hi6 (by simp) rfl ?_
        intro h7 M t7 tk7 F7 N7 hmem hmin
        have hM := first_min hmem hmin
        clear hmem hmin
        k_steps
        refine CompT.filter isI isI (fun a => decide (a < firstOf (inL x c1) (inL x c3) (inL x c5))) ([0, 2, 4].filter (fun a => inL x (mv c0 c1 c2 c3 c4 c5 a))) (Src.list (its := ys.toArray) (by rfl) (by k_asm) (by k_asm) (.inr ⟨_, by k_mem, rfl, _, rfl⟩) (by rw [List.size_toArray, hys.length]; exact filt3)) (by k_asm) (by k_asm) (by rw [List.size_toArray, hys.length]) (fun i v h _ => hys.get i v (by simpa using h)) ?_ ?_
        · intro g a v ys I oI C oC D m₂ h tk E' ha hpq1 hS hC hx2 F' N' off ne
          obtain ⟨t, rfl⟩ := hpq1
          refine hideQ ?_
          intro qqh eeh hqqh
          try dsimp only
          k_steps
          · rename a < M => hlt
            exact ⟨rfl, by dsimp only; rw [decide_eq_true_eq]; exact hM ▸ hlt, _, rfl⟩
          · rename ¬ a < M => hlt
            exact ⟨rfl, by dsimp only; rw [decide_eq_false_iff_not]; exact hM ▸ hlt⟩
        · intro g3 ys3 hys3
          obtain ⟨KM, hKM⟩ : ∃ k : Int, k = ((([0, 2, 4].filter (fun a => inL x (mv c0 c1 c2 c3 c4 c5 a))).filter (fun a => decide (a < firstOf (inL x c1) (inL x c3) (inL x c5)))).length : Int) := ⟨_, rfl⟩
          have hl3 : (ys3.toArray.size : Int) = KM := by rw [hKM, List.size_toArray, hys3.length]
          have hk0 : 0 ≤ KM := by omega
          have hk3 : KM ≤ 3 := by rw [hKM]; exact filt33
          k_steps
          exact ret_pure hret _ _ _ _ (by k_asm) (by k_asm) (by kcj_m) ⟨_, by unfold tolV; rw [← hKM, hKT, nT_len]; rfl⟩
      · exact Nat.le_trans (Nat.add_le_add_right (show _ ≤ 3 by omega) _) (show 3 + 1 ≤ sizeLine by decide)

end
-- part E11
section
theorem words_19 : True := by
  k_with_none
  k_with "k_all" => (first | assumption | exact ne_of_top (by omega))
  k_with "kd_mem" => (first | exact Pick.head | (apply Pick.tail; kd_mem))
  k_with "UnrEnd" => ((k_dflt (refine' unrEnd_pick (by k_asm) (by k_asm) (by kd_mem) (by k_all) ?_; k_whole)))
  k_with "exec For Name Name cons nil" => ((k_here; (with_unfolding_all refine' For_invVF (by k_asm) (by exact rfl) (by exact rfl) ?_; k_whole)))
  k_with "pyIter ref" => ((((with_reducible show wpAny _ _ (pyIter (Value.ref _)) (fun it s₂ => LoopAtV _ _ _ _ _ _ _ _ _ it s₂) _ _); k_dflt (refine' iter_listUnr (by exact rfl) (by k_asm) (by k_asm) (by k_mem) (by exact rfl) (by exact rfl) ?_; k_whole); intro _ zql1'; (try k_lt zql1')); (try (revert zql1'; intro _))))
  k_with "m1" => ((refine' code_def (by k_asm) (by k_asm) (by k_asm) (by k_asm) (by k_asm) (by exact rfl) (by exact rfl) (by first | exact rfl | assumption) (by k_is) (by k_is) (by first | k_room | ktr_room) (by first | exact BindsTo.of_eq rfl | exact binds_K (by k_in) rfl (by k_is) rfl rfl rfl | fail "k_enter: no rule for these arguments") (by exact locs rfl) ?_ (by exact rfl) (by exact rfl) (by exact rfl) (by decide)))
  k_with "m2" => ((refine' code_defC (by k_asm) (by k_asm) (by k_asm) (by k_asm) (by k_asm) (by exact rfl) (by exact rfl) (by first | exact rfl | assumption) (by k_is) (by k_is) (by first | k_room | ktr_room) (by first | exact BindsTo.of_eq rfl | exact binds_K (by k_in) rfl (by k_is) rfl rfl rfl | fail "k_enter: no rule for these arguments") (by exact rfl) (by decide +kernel) ?_ (by exact rfl) (by exact rfl) (by exact rfl)))
  k_with "call builtin:str.find" => (((with_reducible show wpAny _ _ (call (Value.builtin "str.find") [Value.str _ _, Value.str _ _, Value.int _ _, Value.int _ _]) _ _ _); k_dflt (refine find4_call ?_)))
  k_with "call builtin:len" => (((with_reducible show wpAny _ _ (call (Value.builtin "len") [Value.str (PySem.Str.mk _) _]) _ _ _); k_dflt (refine SBL.len (by first | decide | (simp only [PySem.Str.length, List.size_toArray, List.length_cons, List.length_nil]; omega)) ?_); (try dsimp only)))
  k_with "UnrEnd" => ((k_dflt (refine' unrEnd_pickL (by k_asm) (by k_asm) (by kd_mem) (by k_all) (by k_mem) ?_; k_whole)))
  k_with "kcj_m" => ((intro _ zqhp; repeat (first | exact zqhp | apply List.Mem.tail)))
  k_with "k_mem" => (((show @Membership.mem (PySem.Addr × PySem.Obj) (List (PySem.Addr × PySem.Obj)) List.instMembership _ _); with_reducible assumption))
  k_with "kn_code" => (first | exact codeHd_of_K (c := 37) (P := 33) (by k_asm) (by kernel_rfl) | exact codeHd_of_K (c := 117) (P := 113) (by k_asm) (by kernel_rfl))
  k_with "is_list" => (exact News.isList (by k_asm) (by k_mem))
  k_with "k_room" => (ktr_room)
  k_with "Kq" => ((k_dflt (refine' Kq.of (by with_reducible assumption) ?_)))
  k_with "truthy ref" => ((k_here; (with_reducible show wpAny _ _ (truthy (Value.ref _)) _ _ _); (with_unfolding_all refine' wpAny_truthy_list (items := _) (by is_list) (by (simp only [List.size_toArray, List.length_cons, List.length_nil]; omega)) ?_; k_whole; (try simp only [List.isEmpty_toArray, List.isEmpty_cons, List.isEmpty_nil, Array.isEmpty_push, Bool.not_false, Bool.not_true]))))
  k_with "call builtin:list.pop" => (((k_here; (with_reducible show wpAny _ _ (call (Value.builtin _) [Value.ref _, Value.int 0 _]) _ _ _); k_dflt (refine' popU (by k_asm) (by k_asm) (by k_upd) (by rfl) (by (simp only [List.size_toArray, List.length_cons]; exact seqIndex_zero _)) (by rfl) (by (rw [sizeLine_eq]; simp only [List.length_cons]; omega)) ?_); intro _ _ zqN'; (try dsimp only [List.nil_append, List.cons_append] at zqN')); (try (revert zqN'; intro _))))
  k_with "call builtin:list.append" => ((k_here; (with_reducible show wpAny _ _ (call (Value.builtin _) [Value.ref _, _]) _ _ _); k_dflt (refine' append_K (by k_asm) (by k_asm) (by k_upd) ?_ (by (rw [sizeLine_eq]; simp only [List.size_toArray]; omega)); k_whole); intro _ _ _; (try k_sweep)))
  k_with "eval ListComp" => ((k_here; lcg_look; k_dflt (refine evalU (F₀ := by k_asm) (by with_unfolding_all rfl) (by decide) (by rfl) (by decide) (by rfl) ?_)))
  k_with "eval ListComp" => ((k_here; lct_look; k_dflt (refine evalT (F₀ := by k_asm) (by with_unfolding_all rfl) (by decide) (by rfl) (by decide) (by rfl) ?_)))
  k_with "exec Assign cons ListComp" => ((k_here; lcg_look; k_dflt (refine assignU (F₀ := by k_asm) (by rfl) (by with_unfolding_all rfl) (by with_unfolding_all rfl) (by decide) (by rfl) (by decide) (by rfl) (by rfl) (by rfl) ?_)))
  k_with "exec Assign cons ListComp" => ((k_here; lct_look; k_dflt (refine assignT (F₀ := by k_asm) (by rfl) (by with_unfolding_all rfl) (by with_unfolding_all rfl) (by decide) (by rfl) (by decide) (by rfl) (by rfl) (by rfl) ?_)))
  k_with "CompEnd" => ((k_dflt (refine' compEnd_of (by k_asm) (by k_asm) (by with_reducible assumption) (by kcj_m) (by with_reducible assumption) ?_; k_whole)))
  k_with "call builtin:len" => ((k_here; (with_reducible show wpAny _ _ (call (Value.builtin "len") [Value.ref _]) _ _ _); k_dflt (refine' kun_lenL (by exact News.isList (by k_asm) (by k_mem)) (by with_reducible assumption) (by omega) ?_; k_whole)))
  exact True.intro
theorem top_off_E11 : True := by
  w_top off
  exact True.intro
open PyProof.Rows.LCg (NsObj lst Off3 Off1 CompEnd CompRest FinE FinA SrcAt)
open PyProof.Rows.LCt (CompRestT)
theorem words_20 : True := by
  k_with "compareOp Eq ref ref" => ((k_here; (with_reducible show wpAny _ _ (compareOp CmpOp.Eq (Value.ref _) (Value.ref _)) _ _ _); refine halt ?_))
  k_with "subscriptTail Name Slice ref ref" => (((k_here; k_dflt (refine' kmk_slice3_lit (by k_asm) (by k_asm) (by is_list) (by kmk_part) (by kmk_part) (by kmk_part) (by decide) (by assumption) ?_ (by with_unfolding_all rfl) (by kmk_pure) (by assumption)); intro _ _ _ _ zql1; k_lt zql1; (try k_sweep)); (try (revert zql1; intro _))))
  k_with "compareOp NotIn str ref" => ((refine halt ?_))
  k_with "exec For Name Name cons nil" => ((k_here; k_dflt (refine' forCell (y := Str.ofString "due") (by k_asm) (by exact rfl) (by exact rfl) ?_ (by exact rfl) (by exact rfl) (by (intro _; rfl)) (by passes_own); k_whole)))
  exact True.intro
def dueOne (mine theirs : List Nat) (x : Str) : Int := if theirs.any (inL x) then 0 else Int.fdiv 64 (2 ^ (x.cps.toList.filter (fun c => !mine.contains c)).length)
def DueD (f : Str → Int) (rs : List (Str × Tok)) (i : Nat) (u : Option Value) : Prop := ∃ t, u = some (.int (((rs.take i).map fun r => f r.1).sum) t)
theorem due_step (f : Str → Int) {rs : List (Str × Tok)} {i : Nat} {r : Str × Tok} (hr : rs[i]? = some r) : ((rs.take (i + 1)).map fun r => f r.1).sum = ((rs.take i).map fun r => f r.1).sum + f r.1 := by
  rw [List.take_add_one, hr, Option.toList_some, List.map_append, List.sum_append]; simp
theorem due_zero {mine theirs : List Nat} {x : Str} (h : theirs.any (inL x) = true) : dueOne mine theirs x = 0 := by unfold dueOne; rw [h]; rfl
theorem due_some {mine theirs : List Nat} {x : Str} (h : theirs.any (inL x) = false) : dueOne mine theirs x = Int.fdiv 64 (2 ^ (x.cps.toList.filter (fun c => !mine.contains c)).length) := by unfold dueOne; rw [h]; rfl
theorem signC {x : Str} (i : Nat) (v : Value) (h : SignAt x i v) (_ : i < x.cps.size) : ∃ a, x.cps.toList[i]? = some a ∧ isC a v := by
  refine hideP ?_
  intro Gq hGq
  obtain ⟨c, u, h1, rfl⟩ := h
  refine hGq ?_
  clear hGq Gq
  exact ⟨c, by simpa using h1, u, rfl⟩
theorem one_beq (c a : Nat) : ((⟨#[c]⟩ : Str) == ⟨#[a]⟩) = (a == c) := by
  by_cases h : a = c
  · subst h; simp
  · have h2 : ((⟨#[c]⟩ : Str) == ⟨#[a]⟩) = false := by
      rw [Bool.eq_false_iff]; intro e
      have e2 : (⟨#[c]⟩ : Str) = ⟨#[a]⟩ := by simpa using e
      injection e2 with e3
      injection e3 with e4
      injection e4 with e5
      exact h e5.symm
    rw [h2]; simp [h]
theorem cvS : ∀ ms : List (Nat × Tok), StrsAre (cv ms) (ms.map fun c => (⟨#[c.1]⟩ : Str))
  | [] => .nil
  | _ :: ms => .cons _ _ (cvS ms)
theorem cv_has (ms : List (Nat × Tok)) (d : Nat) : ((ms.map fun c => (⟨#[c.1]⟩ : Str)).any fun x => x == ⟨#[d]⟩) = (ms.map Prod.fst).contains d := by
  induction ms with
  | nil => rfl
  | cons c ms ih => rw [List.map_cons, List.map_cons, List.any_cons, ih, one_beq, List.contains_cons]
theorem filtC {x : Str} {f : Nat → Bool} (h : x.length ≤ 6) : ((x.cps.toList.filter f).length : Int) ≤ 6 := by
  have h1 := List.length_filter_le f x.cps.toList
  have h2 : x.cps.toList.length = x.length := by simp [Str.length]
  omega
set_option maxHeartbeats 16000000 in
theorem due_gen (w : World) (l lm : Addr) (rs : List (Str × Tok)) (vs : Array Value) (mine theirs : List (Nat × Tok)) (n n2 : Nat) (rest : List (Addr × Obj))
    (hl : (l, listOf (strValues rs).toArray n) ∈ rest) (hlm : (lm, listOf vs n2) ∈ rest) (ho : (slicePick vs (some 1) none (some 2)).toList = cv theirs) (he : (slicePick vs (some 0) none (some 2)).toList = cv mine) (hz : vs.size ≤ sizeLine)
    (ht : theirs.length ≤ 3) (h4 : rs.length ≤ 4) (hok : ∀ c ∈ theirs.map Prod.fst, PyData.strOk ⟨#[c]⟩ = true) (hx : ∀ r ∈ rs, r.1.length ≤ 6 ∧ r.1.cps.all (· < 128) = true) :
    CtrP w 20 (.ref 149) [.ref l, .ref lm] rest (fun v => ∃ t, v = .int ((rs.map fun r => dueOne (mine.map Prod.fst) (theirs.map Prod.fst) r.1).sum) t) := by
  unfold CtrP Ctr
  k_fill
  intro p loose mean mg mb dp un gd cn cs a ccd cl outer A₀ base h₀ L m s Q E B F X N T hk hd hu hret
  have hok2 : ∀ (f : Nat → Bool) (ts : List (Str × Tok)), ts.map Prod.fst = ((theirs.map Prod.fst).filter f).map (fun c => (⟨#[c]⟩ : Str)) → ∀ x ∈ ts.map Prod.fst, PyData.strOk x = true := by
    intro f ts e x hx
    rw [e, List.mem_map] at hx
    obtain ⟨c, hc, rfl⟩ := hx
    exact hok c (List.mem_filter.mp hc).1
  have htz : (cv theirs).toArray.size ≤ sizeLine := by rw [sizeLine_eq, List.size_toArray, cv, List.length_map]; omega
  refine wpAny_call ?_
  k_dflt k_enter
  k_steps
  rename_i g5 L5 h6 tk6 FG5 B5 X5 T5 l5 o1 o2 d1 d2 h5 lF N5
  refine ⟨l, n, strValues rs, o1, (L5 + 1, o2) :: rest, DueD (dueOne (mine.map Prod.fst) (theirs.map Prod.fst)) rs, rfl, by rfl, by k_asm, by k_asm, ?_, .tail _ hl, ⟨_, d1⟩, ⟨_, rfl⟩, ?_, ?_⟩
  · exact ne_cons (by dsimp only; omega) (ne_of_top (by omega))
  · intro i v u oc h tk I it hv hpq1 doc hI F3 N3
    refine hideP ?_
    intro Gq hGq
    obtain ⟨t, rfl⟩ := hpq1
    obtain ⟨r, hr, rfl⟩ : ∃ r : Str × Tok, rs[i]? = some r ∧ v = .str r.1 r.2 := by
      simp only [strValues, List.getElem?_map, Option.map_eq_some_iff] at hv
      obtain ⟨r, h1, h2⟩ := hv
      exact ⟨r, h1, h2.symm⟩
    obtain ⟨x1, x2⟩ := hx r (List.mem_of_getElem? hr)
    refine hGq ?_
    clear hGq Gq
    k_lt hI
    replace F3 := fr_like lF F3
    replace N3 := news_like lF N3
    k_steps
    refine CompT.filter isC isC (inL r.1) (theirs.map Prod.fst) (Src.list (its := (cv theirs).toArray) (by rfl) (by k_asm) (by k_asm) (.inr ⟨_, by k_mem, rfl, _, rfl⟩) htz) (by k_asm) (by k_asm) (by simp [cv]) (fun i v h _ => cvC i v h) ?_ ?_
    · intro g a v ys I2 oI C oC D m₂ h tk E' ha hpq1 hS hC hx2 F' N' off ne
      obtain ⟨t, rfl⟩ := hpq1
      k_steps
      · rename (Builtin.Str.occurrences _ _ 0 _ 1).isEmpty = _ => hf; exact ⟨rfl, inL_f hf⟩
      · rename (Builtin.Str.occurrences _ _ 0 _ 1).isEmpty = _ => hf; exact ⟨rfl, inL_t hf, _, rfl⟩
    · intro g ys hys
      obtain ⟨ts, rfl, hts⟩ := isC_sv hys
      have hemp := empty_any hts
      k_steps
      refine ⟨?_⟩
      rename News _ _ _ _ => N7
      refine eq_nil (News.isList N7 (.tail _ (.head _))) (News.isList N7 (.head _)) (hok2 _ _ hts) (by ktr_units) ?_
      k_steps
      · rename ts.isEmpty = true => hb
        rw [hemp, Bool.not_eq_true'] at hb
        refine CompT.filter isC isC (fun c => !((mine.map Prod.fst).contains c)) r.1.cps.toList (Src.str (by rfl) (by k_asm) (by k_asm) x2 (Nat.le_trans x1 (show 6 ≤ sizeLine by decide))) (by k_asm) (by k_asm) (by simp) signC ?_ ?_
        · intro g a v ys I2 oI C oC D m₂ h tk E' ha hpq1 hS hC hx2 F' N' off ne
          obtain ⟨t, rfl⟩ := hpq1
          k_steps
          refine ⟨?_⟩
          refine notin_list_strs (vs := cv mine) ?_ (cvS _) ?_
          · is_list
          k_steps
          · rename (List.any _ _) = true => hf; exact ⟨rfl, by rw [cv_has] at hf; dsimp only; rw [hf]; rfl⟩
          · rename (List.any _ _) = false => hf; exact ⟨rfl, by rw [cv_has] at hf; dsimp only; rw [hf]; rfl, _, rfl⟩
        · intro g2 ys2 hys2
          obtain ⟨KM, hKM⟩ : ∃ k : Int, k = ((r.1.cps.toList.filter (fun c => !((mine.map Prod.fst).contains c))).length : Int) := ⟨_, rfl⟩
          have hl3 : (ys2.toArray.size : Int) = KM := by rw [hKM, List.size_toArray, hys2.length]
          have hk0 : 0 ≤ KM := by omega
          have hk3 : KM ≤ 6 := by rw [hKM]; exact filtC x1
          k_steps
          exact TurnEnd.of (.inl rfl) (by k_asm) (fun z hz => by dsimp only; rw [if_neg hz]; (try rw [if_neg hz])) (cb_drop (by k_asm) (by kcj_m)) ⟨_, by dsimp only; rw [if_pos rfl, due_step _ hr, due_some hb, hKM, Int.toNat_natCast]⟩
      · rename ts.isEmpty = false => hb
        rw [hemp, Bool.not_eq_false'] at hb
        exact TurnEnd.of (.inl rfl) (by k_asm) (fun z hz => by dsimp only; rw [if_neg hz]) (cb_drop (by k_asm) (by kcj_m)) ⟨_, by dsimp only; rw [if_pos rfl, due_step _ hr, due_zero hb, Int.add_zero]⟩
  · rintro u oc h tk ⟨t, rfl⟩ F3 N3
    replace F3 := fr_like lF F3
    replace N3 := news_like lF N3
    k_steps
    have e : rs.take (strValues rs).length = rs := by simp [strValues]
    rw [e]
    exact ret_pure hret _ _ _ _ (by k_asm) (by k_asm) (by kcj_m) ⟨_, rfl⟩
theorem pickO (vs ws : Array Value) (h : slicePick vs (some 1) none (some 2) = ws) {l : List Value} (e : ws.toList = l) : (slicePick vs (some 1) none (some 2)).toList = l := by rw [h, e]
theorem pickE (vs ws : Array Value) (h : slicePick vs (some 0) none (some 2) = ws) {l : List Value} (e : ws.toList = l) : (slicePick vs (some 0) none (some 2)).toList = l := by rw [h, e]
theorem pick_odd5 (a b c d e : Value) : slicePick #[a, b, c, d, e] (some 1) none (some 2) = #[b, d] := by kernel_rfl
theorem pick_even5 (a b c d e : Value) : slicePick #[a, b, c, d, e] (some 0) none (some 2) = #[a, c, e] := by kernel_rfl
theorem pick_odd3 (a b c : Value) : slicePick #[a, b, c] (some 1) none (some 2) = #[b] := by kernel_rfl
theorem pick_even3 (a b c : Value) : slicePick #[a, b, c] (some 0) none (some 2) = #[a, c] := by kernel_rfl
theorem pick_odd1 (a : Value) : slicePick #[a] (some 1) none (some 2) = #[] := by kernel_rfl
theorem pick_even1 (a : Value) : slicePick #[a] (some 0) none (some 2) = #[a] := by kernel_rfl
theorem pick_odd0 : slicePick #[] (some 1) none (some 2) = #[] := by kernel_rfl
theorem pick_even0 : slicePick #[] (some 0) none (some 2) = #[] := by kernel_rfl
theorem due5_spec (w : World) (l lm : Addr) (rs : List (Str × Tok)) (c0 c1 c2 c3 c4 : Nat) (u0 u1 u2 u3 u4 : Tok) (n n2 : Nat) (rest : List (Addr × Obj))
    (hl : (l, listOf (strValues rs).toArray n) ∈ rest) (hlm : (lm, listOf #[.str ⟨#[c0]⟩ u0, .str ⟨#[c1]⟩ u1, .str ⟨#[c2]⟩ u2, .str ⟨#[c3]⟩ u3, .str ⟨#[c4]⟩ u4] n2) ∈ rest) (h4 : rs.length ≤ 4) (ok1 : PyData.strOk ⟨#[c1]⟩ = true) (ok3 : PyData.strOk ⟨#[c3]⟩ = true) (hx : ∀ r ∈ rs, r.1.length ≤ 6 ∧ r.1.cps.all (· < 128) = true) :
    CtrP w 20 (.ref 149) [.ref l, .ref lm] rest (fun v => ∃ t, v = .int ((rs.map fun r => dueOne [c0, c2, c4] [c1, c3] r.1).sum) t) :=
  due_gen w l lm rs #[.str ⟨#[c0]⟩ u0, .str ⟨#[c1]⟩ u1, .str ⟨#[c2]⟩ u2, .str ⟨#[c3]⟩ u3, .str ⟨#[c4]⟩ u4] [(c0, u0), (c2, u2), (c4, u4)] [(c1, u1), (c3, u3)] n n2 rest hl hlm (pickO _ _ (pick_odd5 _ _ _ _ _) rfl) (pickE _ _ (pick_even5 _ _ _ _ _) rfl) (show 5 ≤ sizeLine by decide) (show 2 ≤ 3 by decide) h4 (fun c hc => by
    simp only [List.map_cons, List.map_nil, List.mem_cons, List.not_mem_nil, or_false] at hc
    rcases hc with rfl | rfl <;> assumption) hx
theorem due3_spec (w : World) (l lm : Addr) (rs : List (Str × Tok)) (c0 c1 c2 : Nat) (u0 u1 u2 : Tok) (n n2 : Nat) (rest : List (Addr × Obj))
    (hl : (l, listOf (strValues rs).toArray n) ∈ rest) (hlm : (lm, listOf #[.str ⟨#[c0]⟩ u0, .str ⟨#[c1]⟩ u1, .str ⟨#[c2]⟩ u2] n2) ∈ rest) (h4 : rs.length ≤ 4) (ok1 : PyData.strOk ⟨#[c1]⟩ = true) (hx : ∀ r ∈ rs, r.1.length ≤ 6 ∧ r.1.cps.all (· < 128) = true) :
    CtrP w 20 (.ref 149) [.ref l, .ref lm] rest (fun v => ∃ t, v = .int ((rs.map fun r => dueOne [c0, c2] [c1] r.1).sum) t) :=
  due_gen w l lm rs #[.str ⟨#[c0]⟩ u0, .str ⟨#[c1]⟩ u1, .str ⟨#[c2]⟩ u2] [(c0, u0), (c2, u2)] [(c1, u1)] n n2 rest hl hlm (pickO _ _ (pick_odd3 _ _ _) rfl) (pickE _ _ (pick_even3 _ _ _) rfl) (show 3 ≤ sizeLine by decide) (show 1 ≤ 3 by decide) h4 (fun c hc => by
    simp only [List.map_cons, List.map_nil, List.mem_cons, List.not_mem_nil, or_false] at hc
    rcases hc with rfl <;> assumption) hx
theorem due1_spec (w : World) (l lm : Addr) (rs : List (Str × Tok)) (c0 : Nat) (u0 : Tok) (n n2 : Nat) (rest : List (Addr × Obj))
    (hl : (l, listOf (strValues rs).toArray n) ∈ rest) (hlm : (lm, listOf #[.str ⟨#[c0]⟩ u0] n2) ∈ rest) (h4 : rs.length ≤ 4) (hx : ∀ r ∈ rs, r.1.length ≤ 6 ∧ r.1.cps.all (· < 128) = true) :
    CtrP w 20 (.ref 149) [.ref l, .ref lm] rest (fun v => ∃ t, v = .int ((rs.map fun r => dueOne [c0] [] r.1).sum) t) :=
  due_gen w l lm rs #[.str ⟨#[c0]⟩ u0] [(c0, u0)] [] n n2 rest hl hlm (pickO _ _ (pick_odd1 _) rfl) (pickE _ _ (pick_even1 _) rfl) (show 1 ≤ sizeLine by decide) (show 0 ≤ 3 by decide) h4 (fun _ hc => absurd hc List.not_mem_nil) hx
theorem due0_spec (w : World) (l lm : Addr) (rs : List (Str × Tok)) (n n2 : Nat) (rest : List (Addr × Obj))
    (hl : (l, listOf (strValues rs).toArray n) ∈ rest) (hlm : (lm, listOf #[] n2) ∈ rest) (h4 : rs.length ≤ 4) (hx : ∀ r ∈ rs, r.1.length ≤ 6 ∧ r.1.cps.all (· < 128) = true) :
    CtrP w 20 (.ref 149) [.ref l, .ref lm] rest (fun v => ∃ t, v = .int ((rs.map fun r => dueOne [] [] r.1).sum) t) :=
  due_gen w l lm rs #[] [] [] n n2 rest hl hlm (pickO _ _ (pick_odd0 ) rfl) (pickE _ _ (pick_even0 ) rfl) (show 0 ≤ sizeLine by decide) (show 0 ≤ 3 by decide) h4 (fun _ hc => absurd hc List.not_mem_nil) hx

end
-- part E13
section
theorem words_21 : True := by
  k_with_none
  k_with "k_all" => (first | assumption | exact ne_of_top (by omega))
  k_with "kd_mem" => (first | exact Pick.head | (apply Pick.tail; kd_mem))
  k_with "UnrEnd" => ((k_dflt (refine' unrEnd_pick (by k_asm) (by k_asm) (by kd_mem) (by k_all) ?_; k_whole)))
  k_with "exec For Name Name cons nil" => ((k_here; (with_unfolding_all refine' For_invVF (by k_asm) (by exact rfl) (by exact rfl) ?_; k_whole)))
  k_with "pyIter ref" => ((((with_reducible show wpAny _ _ (pyIter (Value.ref _)) (fun it s₂ => LoopAtV _ _ _ _ _ _ _ _ _ it s₂) _ _); k_dflt (refine' iter_listUnr (by exact rfl) (by k_asm) (by k_asm) (by k_mem) (by exact rfl) (by exact rfl) ?_; k_whole); intro _ zql1'; (try k_lt zql1')); (try (revert zql1'; intro _))))
  k_with "m1" => ((refine' code_def (by k_asm) (by k_asm) (by k_asm) (by k_asm) (by k_asm) (by exact rfl) (by exact rfl) (by first | exact rfl | assumption) (by k_is) (by k_is) (by first | k_room | ktr_room) (by first | exact BindsTo.of_eq rfl | exact binds_K (by k_in) rfl (by k_is) rfl rfl rfl | fail "k_enter: no rule for these arguments") (by exact locs rfl) ?_ (by exact rfl) (by exact rfl) (by exact rfl) (by decide)))
  k_with "m2" => ((refine' code_defC (by k_asm) (by k_asm) (by k_asm) (by k_asm) (by k_asm) (by exact rfl) (by exact rfl) (by first | exact rfl | assumption) (by k_is) (by k_is) (by first | k_room | ktr_room) (by first | exact BindsTo.of_eq rfl | exact binds_K (by k_in) rfl (by k_is) rfl rfl rfl | fail "k_enter: no rule for these arguments") (by exact rfl) (by decide +kernel) ?_ (by exact rfl) (by exact rfl) (by exact rfl)))
  k_with "call builtin:str.find" => (((with_reducible show wpAny _ _ (call (Value.builtin "str.find") [Value.str _ _, Value.str _ _, Value.int _ _, Value.int _ _]) _ _ _); k_dflt (refine find4_call ?_)))
  k_with "call builtin:len" => (((with_reducible show wpAny _ _ (call (Value.builtin "len") [Value.str (PySem.Str.mk _) _]) _ _ _); k_dflt (refine SBL.len (by first | decide | (simp only [PySem.Str.length, List.size_toArray, List.length_cons, List.length_nil]; omega)) ?_); (try dsimp only)))
  k_with "UnrEnd" => ((k_dflt (refine' unrEnd_pickL (by k_asm) (by k_asm) (by kd_mem) (by k_all) (by k_mem) ?_; k_whole)))
  k_with "kcj_m" => ((intro _ zqhp; repeat (first | exact zqhp | apply List.Mem.tail)))
  k_with "k_mem" => (((show @Membership.mem (PySem.Addr × PySem.Obj) (List (PySem.Addr × PySem.Obj)) List.instMembership _ _); with_reducible assumption))
  k_with "kn_code" => (first | exact codeHd_of_K (c := 37) (P := 33) (by k_asm) (by kernel_rfl) | exact codeHd_of_K (c := 117) (P := 113) (by k_asm) (by kernel_rfl))
  k_with "is_list" => (exact News.isList (by k_asm) (by k_mem))
  k_with "k_room" => (ktr_room)
  k_with "Kq" => ((k_dflt (refine' Kq.of (by with_reducible assumption) ?_)))
  k_with "truthy ref" => ((k_here; (with_reducible show wpAny _ _ (truthy (Value.ref _)) _ _ _); (with_unfolding_all refine' wpAny_truthy_list (items := _) (by is_list) (by (simp only [List.size_toArray, List.length_cons, List.length_nil]; omega)) ?_; k_whole; (try simp only [List.isEmpty_toArray, List.isEmpty_cons, List.isEmpty_nil, Array.isEmpty_push, Bool.not_false, Bool.not_true]))))
  k_with "call builtin:list.pop" => (((k_here; (with_reducible show wpAny _ _ (call (Value.builtin _) [Value.ref _, Value.int 0 _]) _ _ _); k_dflt (refine' popU (by k_asm) (by k_asm) (by k_upd) (by rfl) (by (simp only [List.size_toArray, List.length_cons]; exact seqIndex_zero _)) (by rfl) (by (rw [sizeLine_eq]; simp only [List.length_cons]; omega)) ?_); intro _ _ zqN'; (try dsimp only [List.nil_append, List.cons_append] at zqN')); (try (revert zqN'; intro _))))
  k_with "call builtin:list.append" => ((k_here; (with_reducible show wpAny _ _ (call (Value.builtin _) [Value.ref _, _]) _ _ _); k_dflt (refine' append_K (by k_asm) (by k_asm) (by k_upd) ?_ (by (rw [sizeLine_eq]; simp only [List.size_toArray]; omega)); k_whole); intro _ _ _; (try k_sweep)))
  k_with "eval ListComp" => ((k_here; lcg_look; k_dflt (refine evalU (F₀ := by k_asm) (by with_unfolding_all rfl) (by decide) (by rfl) (by decide) (by rfl) ?_)))
  k_with "eval ListComp" => ((k_here; lct_look; k_dflt (refine evalT (F₀ := by k_asm) (by with_unfolding_all rfl) (by decide) (by rfl) (by decide) (by rfl) ?_)))
  k_with "exec Assign cons ListComp" => ((k_here; lcg_look; k_dflt (refine assignU (F₀ := by k_asm) (by rfl) (by with_unfolding_all rfl) (by with_unfolding_all rfl) (by decide) (by rfl) (by decide) (by rfl) (by rfl) (by rfl) ?_)))
  k_with "exec Assign cons ListComp" => ((k_here; lct_look; k_dflt (refine assignT (F₀ := by k_asm) (by rfl) (by with_unfolding_all rfl) (by with_unfolding_all rfl) (by decide) (by rfl) (by decide) (by rfl) (by rfl) (by rfl) ?_)))
  k_with "CompEnd" => ((k_dflt (refine' compEnd_of (by k_asm) (by k_asm) (by with_reducible assumption) (by kcj_m) (by with_reducible assumption) ?_; k_whole)))
  k_with "call builtin:len" => ((k_here; (with_reducible show wpAny _ _ (call (Value.builtin "len") [Value.ref _]) _ _ _); k_dflt (refine' kun_lenL (by exact News.isList (by k_asm) (by k_mem)) (by with_reducible assumption) (by omega) ?_; k_whole)))
  exact True.intro
theorem top_off_E13 : True := by
  w_top off
  exact True.intro
open PyProof.Rows.LCg (NsObj lst Off3 Off1 CompEnd CompRest FinE FinA SrcAt)
open PyProof.Rows.LCt (CompRestT)
theorem words_22 : True := by
  k_with "kcj_m" => ((with_reducible ((repeat (refine sub_step ?_ ?_; (· (repeat (first | exact List.mem_cons_self | apply List.mem_cons_of_mem))))); (intro _ zqhp; (repeat (first | exact zqhp | apply List.mem_cons_of_mem)); done))))
  k_with "k_ne" => (first | (with_reducible assumption) | (with_reducible exact Ne.symm (by assumption)) | ((try dsimp only); (repeat ((rename (@Ne Nat _ _) => zqhz'); clear zqhz')); omega))
  k_with "FinE" => ((((k_dflt (intro _ _ _ _ _ zqo1')); refine hideP ?_; intro zqG' zqhG'; (try simp only [LCg.Off1, and_true] at zqo1'); (repeat (obtain ⟨_, zqo1'⟩ := zqo1')); refine zqhG' ?_; clear zqhG' zqG'; (try (revert zqo1'; intro _)); (first | ((rename News _ _ _ _ => zqN'); (simp only [List.nil_append, List.cons_append] at zqN'); (revert zqN'; intro _)) | skip); (try dsimp only)); (try (revert zqN'; intro _)); (try (revert zqo1'; intro _))))
  k_with "FinA" => ((((k_dflt (intro _ _ _ _ _ zqo1')); refine hideP ?_; intro zqG' zqhG'; (try simp only [LCg.Off1, and_true] at zqo1'); (repeat (obtain ⟨_, zqo1'⟩ := zqo1')); refine zqhG' ?_; clear zqhG' zqG'; (try (revert zqo1'; intro _)); (first | ((rename News _ _ _ _ => zqN'); (simp only [List.nil_append, List.cons_append] at zqN'); (revert zqN'; intro _)) | skip); (try dsimp only)); (try (revert zqN'; intro _)); (try (revert zqo1'; intro _))))
  k_with "exec Assign cons ListComp" => ((k_here; k_dflt (refine wpAny_Assign_Name ?_ (by rfl))))
  k_with "CompK" => ((refine halt ?_))
  k_with "EndK" => ((refine halt ?_))
  k_with "RangeRest" => ((refine halt ?_))
  k_with "call ref" => (((k_dflt (refine' push_go (by assumption) (by k_asm) (by k_asm) (by k_asm) (by k_asm) (by k_asm) (by first | exact rfl | assumption) (by ktr_room) (by ktr_units) (by kd_mem) (by kcj_m) (by repeat (first | with_reducible assumption | refine ne_cons (by k_ne) ?_)) (by with_reducible assumption) ?_)); intro _ _ _ _ _; (try dsimp only); (try k_sweep)))
  exact True.intro
def PushR (L5 ap : Addr) (o1 o2 o3 : Obj) (rs : List (Str × Tok)) (ps : Array Value) (q : Addr × Obj) (rest : List (Addr × Obj)) (i : Nat) (news : List (Addr × Obj)) : Prop :=
  ∃ k, ∀ p ∈ (L5 + 1 + 1 + 1, o1) :: (L5 + 1 + 1, o2) :: (L5 + 1, o3) :: (ap, pbOf (strValues (rs.take i)) k) :: (33, tabObj ps) :: q :: rest, p ∈ news
theorem go_use {w : World} {am ap : Addr} {c : Nat} {t : Tok} {mk : Bool} {rs : List (Str × Tok)} {k : Nat} {rest rest0 : List (Addr × Obj)} (hM : Mach rest0 am ap) (hs : ∀ p ∈ rest0, p ∈ rest) (hne : ∀ p ∈ rest, p.1 ≠ ap) (h4 : rs.length = 4) (hok : ∀ r ∈ rs, RowOk r.1) (c1 : 97 ≤ c) (c2 : c ≤ 102) :
    Ctr w 6 (.ref 132) [.ref am, .str ⟨#[c]⟩ t, .bool mk] ((ap, pbOf (strValues rs) k) :: rest) (fun v n' => ∃ D rs' n k', v = .ref D ∧ n' = (D, listOf (strValues rs').toArray n) :: (ap, pbOf (strValues rs') k') :: rest ∧ rs'.map Prod.fst = rs.map (fun r => stp mk c r.1) ∧ ap < D ∧ ∀ p ∈ rest, p.1 < D) := go_spec w am ap c t mk rs k rest (hM.mono hs) hne h4 hok c1 c2
section
variable {w : World} {p : Program} {loose : List Str} {mean : ExcName → Option Value} {mg mb : Str → Option Value} {dp un : Nat} {gd : Option (List Code)} {cn : Str} {cs : Scope} {a : Addr} {ccd : Value} {cl : List (Str × Addr)} {outer : List Env} {A₀ : Around} {base h₀ : Heap} {L : Addr} {m : Str → Option Value} {s : Shared} {Q E : Value → Shared → Prop} {led : List (Addr × Obj)}
theorem go_go {am ap : Addr} {c : Nat} {t : Tok} {mk : Bool} {rs : List (Str × Tok)} {n : Nat} {rest rest0 : List (Addr × Obj)} (hM : Mach rest0 am ap) (B : Below A₀ base outer h₀) (F : Fr h₀ L s.heap m) (X : (hd.heap_39 w.params).In h₀) (N : News h₀ L s.heap led) (T : Top p loose mean mg mb h₀) (hk : cs.kind = .function) (hd : dp + 6 < recursionLimit) (hu : un + 8 * 6 < cLine) (pk : Pick (ap, pbOf (strValues rs) n) led rest) (hs : ∀ p ∈ rest0, p ∈ rest) (hne : ∀ p ∈ rest, p.1 ≠ ap) (h4 : rs.length = 4) (hok : ∀ r ∈ rs, RowOk r.1) (c1 : 97 ≤ c) (c2 : c ≤ 102)
    (ret : ∀ h' tk', Fr h₀ L h' m → ∀ D rs' n' k', rs'.map Prod.fst = rs.map (fun r => stp mk c r.1) → ap < D → News h₀ L h' ((D, listOf (strValues rs').toArray n') :: (ap, pbOf (strValues rs') k') :: rest) → (∀ p ∈ rest, p.1 < D) → Q (.ref D) { s with heap := h', toks := tk' }) : wpAny (model PySem.Challenge.rw_sh0017_01.prog w) (ktrTop dp un gd cn cs L a ccd cl outer) (call (.ref 132) [.ref am, .str ⟨#[c]⟩ t, .bool mk]) Q E s :=
  Ctr.use (go_use hM hs hne h4 hok c1 c2) B F X (News.pick N pk) T hk hd hu fun _ _ h' tk' F' N' o => by
    obtain ⟨D, rs', n1, k, e1, e2, e3, l1, l2⟩ := o; subst e1; subst e2; exact ret h' tk' F' D rs' n1 k e3 l1 N' l2
end
inductive PlayR (SA MA FA L5 ap I : Addr) (rs0 : List Str) (rest : List (Addr × Obj)) (i : Nat) (news : List (Addr × Obj)) : Prop
  | mk (rs : List (Str × Tok)) (fs ms : List (Nat × Tok)) (sc : List (Int × Tok)) (k nf nm ns : Nat) (ps : Array Value) (q : Addr × Obj) (c1 c2 c3 : Obj)
    (sub : ∀ p ∈ (SA, listOf (iv sc).toArray ns) :: (MA, listOf (cv ms).toArray nm) :: (FA, listOf (cv fs).toArray nf) :: (L5 + 1 + 1 + 1, c1) :: (L5 + 1 + 1, c2) :: (L5 + 1, c3) :: (ap, pbOf (strValues rs) k) :: (33, tabObj ps) :: q :: rest, p ∈ news)
    (d1 : ∃ v, c1.data = .cell v) (d2 : ∃ v, c2.data = .cell v) (d3 : ∃ v, c3.data = .cell v) (hD : DigTab ps q) (g : @Ne Nat I q.1 ∧ @Ne Nat SA q.1 ∧ @Ne Nat MA q.1 ∧ @Ne Nat FA q.1 ∧ @Ne Nat (L5 + 1 + 1 + 1) q.1 ∧ @Ne Nat (L5 + 1 + 1) q.1 ∧ @Ne Nat (L5 + 1) q.1 ∧ @Ne Nat ap q.1) (hr : ∀ p ∈ rest, p.1 ≠ q.1)
    (hP : PlayTo rs0 i (rs.map Prod.fst) (fs.map Prod.fst) (ms.map Prod.fst) (sc.map Prod.fst)) (hF : FreeOk (fs.map Prod.fst)) (hI : ∀ r ∈ rs, RowInv (fs.map Prod.fst) r.1) (h4 : rs.length = 4) (h6 : fs.length + 2 * i = 6) (hm : ms.length = 2 * i) (hs : sc.length = i) : PlayR SA MA FA L5 ap I rs0 rest i news
theorem words_23 : True := by
  k_with "call ref" => ((((k_dflt (refine' go_go (by assumption) (by k_asm) (by k_asm) (by k_asm) (by k_asm) (by k_asm) (by first | exact rfl | assumption) (by ktr_room) (by ktr_units) (by kd_mem) (by kcj_m) (by repeat (first | with_reducible assumption | refine ne_cons (by k_ne) ?_)) (by with_reducible assumption) (by with_reducible assumption) (by with_reducible assumption) (by with_reducible assumption) ?_)); intro _ _ _ _ _ _ _ _ _ _ zql2'; k_lt zql2'; (try dsimp only); (try k_sweep)); (try (revert zql2'; intro _))))
  k_with "subscriptTail Name Name ref int" => ((k_here; k_dflt (refine' item_at (by is_list) (by with_reducible assumption) (by omega) (by omega) ?_ (by with_unfolding_all rfl); k_whole)))
  k_with "subscriptTail Name BinOp ref int" => ((k_here; k_dflt (refine' item_at (by is_list) (by with_reducible assumption) (by omega) (by omega) ?_ (by with_unfolding_all rfl); k_whole)))
  k_with "call builtin:list.pop" => (((k_here; k_dflt (refine' pop_mid (by k_asm) (by k_asm) (by with_reducible assumption) (by with_reducible assumption) (by k_upd) ?_); intro _ _ zqN'; (try dsimp only [List.nil_append, List.cons_append] at zqN')); (try (revert zqN'; intro _))))
  exact True.intro
theorem cv_mid (pre post : List (Nat × Tok)) (a : Nat × Tok) : cv (pre ++ a :: post) = cv pre ++ .str ⟨#[a.1]⟩ a.2 :: cv post := by simp [cv]
theorem cv_app (pre post : List (Nat × Tok)) : cv pre ++ cv post = cv (pre ++ post) := by simp [cv]
theorem cv_len (fs : List (Nat × Tok)) : (cv fs).length = fs.length := by simp [cv]
theorem push_turn {L5 ap : Addr} {o1 o2 o3 : Obj} {rs : List (Str × Tok)} {ps : Array Value} {q : Addr × Obj} {rest : List (Addr × Obj)} {i k : Nat} {r : Str × Tok} (hr : rs[i]? = some r) :
    PushR L5 ap o1 o2 o3 rs ps q rest (i + 1) ((ap, pbOf (strValues (rs.take i) ++ [.str r.1 r.2]) k) :: (L5 + 1 + 1 + 1, o1) :: (L5 + 1 + 1, o2) :: (L5 + 1, o3) :: (33, tabObj ps) :: q :: rest) := by
  have e : strValues (rs.take (i + 1)) = strValues (rs.take i) ++ [.str r.1 r.2] := by rw [List.take_add_one, hr]; simp [strValues]
  refine ⟨k, ?_⟩
  rw [e]
  kcj_m
theorem item0 {x : Str} (h : 0 < x.length) : Txt.item x 0 = ⟨#[x.cps.getD 0 0]⟩ := by
  have h2 : 0 < x.cps.size := h
  unfold Txt.item
  refine congrArg (fun c => (⟨#[c]⟩ : Str)) ?_
  simp [Txt.charAt, seqIndex?, PySem.Str.length, h2]
theorem item_alive {x : Str} (h : Txt.item x 0 = ⟨#[x.cps.getD 0 0]⟩) : (Txt.item x 0 == Str.ofString ".") = isAlive x := by
  rw [h, dot_is, Bool.eq_iff_iff]
  simp [isAlive]
theorem wei_use {w : World} {l : Addr} {rs : List (Str × Tok)} {n : Nat} {ps : Array Value} {q : Addr × Obj} {rest : List (Addr × Obj)} (hrs : rs.length ≤ 4) (hok : ∀ r ∈ rs, r.1.length < 100 ∧ 0 ≤ rowIdx r.1 ∧ rowIdx r.1 ≤ 6)
    (hl : (l, listOf (strValues rs).toArray n) ∈ rest) (hD : DigTab ps q) (h33 : ∀ p ∈ rest, p.1 ≠ 33) (hq0 : ∀ p ∈ rest, p.1 ≠ q.1) :
    Ctr w 12 (.ref 139) [.ref l] ((33, tabObj ps) :: q :: rest) (fun v n' => ∃ t ps' q', v = .int (weiS (rs.map Prod.fst)) t ∧ n' = (33, tabObj ps') :: q' :: rest ∧ DigTab ps' q' ∧ ∀ p ∈ rest, p.1 ≠ q'.1) := by
  intro p loose mean mg mb dp un gd cn cs a ccd cl outer A₀ base h₀ L m s Q E B F X N T hk hd hu hret
  refine wei_spec w l rs n ps q rest hrs hok hl hD h33 p loose mean mg mb dp un gd cn cs a ccd cl outer A₀ base h₀ L m s Q E B F X N T hk hd hu fun v news' h' tk' F' N' o => ?_
  obtain ⟨⟨t, e⟩, ps', q', e2, h1, h2⟩ := o
  exact hret v news' h' tk' F' N' ⟨t, ps', q', by rw [e, weiI_S], e2, h1, q_off h2 hq0⟩
section
variable {w : World} {p : Program} {loose : List Str} {mean : ExcName → Option Value} {mg mb : Str → Option Value} {dp un : Nat} {gd : Option (List Code)} {cn : Str} {cs : Scope} {a : Addr} {ccd : Value} {cl : List (Str × Addr)} {outer : List Env} {A₀ : Around} {base h₀ : Heap} {L : Addr} {m : Str → Option Value} {s : Shared} {Q E : Value → Shared → Prop} {led : List (Addr × Obj)}
theorem wei_go {l : Addr} {rs : List (Str × Tok)} {n : Nat} {ps : Array Value} {q : Addr × Obj} {led2 rest : List (Addr × Obj)} (B : Below A₀ base outer h₀) (F : Fr h₀ L s.heap m) (X : (hd.heap_39 w.params).In h₀) (N : News h₀ L s.heap led) (T : Top p loose mean mg mb h₀) (hk : cs.kind = .function) (hd : dp + 12 < recursionLimit) (hu : un + 8 * 12 < cLine) (hD : DigTab ps q) (p1 : Pick (33, tabObj ps) led led2) (p2 : Pick q led2 rest) (hl : (l, listOf (strValues rs).toArray n) ∈ rest) (hrs : rs.length ≤ 4) (hok : ∀ r ∈ rs, r.1.length < 100 ∧ 0 ≤ rowIdx r.1 ∧ rowIdx r.1 ≤ 6) (h33 : ∀ p ∈ rest, p.1 ≠ 33) (hq0 : ∀ p ∈ rest, p.1 ≠ q.1)
    (ret : ∀ h' tk', Fr h₀ L h' m → ∀ t ps' q', News h₀ L h' ((33, tabObj ps') :: q' :: rest) → DigTab ps' q' → (∀ p ∈ rest, p.1 ≠ q'.1) → Q (.int (weiS (rs.map Prod.fst)) t) { s with heap := h', toks := tk' }) : wpAny (model PySem.Challenge.rw_sh0017_01.prog w) (ktrTop dp un gd cn cs L a ccd cl outer) (call (.ref 139) [.ref l]) Q E s :=
  Ctr.use (wei_use hrs hok hl hD h33 hq0) B F X (news_pick2 N p1 p2) T hk hd hu fun _ _ h' tk' F' N' o => by
    obtain ⟨t, ps', q', e1, e2, h1, h2⟩ := o; subst e1; subst e2; exact ret h' tk' F' t ps' q' N' h1 h2
end
theorem words_24 : True := by
  k_with "call ref" => ((((k_dflt (refine' wei_go (by k_asm) (by k_asm) (by k_asm) (by k_asm) (by k_asm) (by first | exact rfl | assumption) (by ktr_room) (by ktr_units) (by with_reducible assumption) (by kd_mem) (by kd_mem) (by k_mem) (by with_reducible assumption) (by with_reducible assumption) (by repeat (first | with_reducible assumption | refine ne_cons (by k_ne) ?_)) (by repeat (first | with_reducible assumption | refine ne_cons (by k_ne) ?_)) ?_)); intro _ _ _ _ _ _ _ _ zqhq'; (try simp only [List.forall_mem_cons] at zqhq'); (repeat (obtain ⟨_, zqhq'⟩ := zqhq')); (try dsimp only); (try k_sweep)); (try (revert zqhq'; intro _))))
  exact True.intro
def isS (r : Str × Tok) (v : Value) : Prop := v = .str r.1 r.2
theorem strValues_len (rs : List (Str × Tok)) : (strValues rs).length = rs.length := by simp [strValues]
theorem strValues_at {rs : List (Str × Tok)} {i : Nat} {v : Value} (h : (strValues rs).toArray[i]? = some v) : ∃ a, rs[i]? = some a ∧ isS a v := by
  simp only [strValues, List.getElem?_toArray, List.getElem?_map, Option.map_eq_some_iff] at h
  obtain ⟨r, h1, h2⟩ := h
  exact ⟨r, h1, h2.symm⟩
theorem isS_eq : ∀ {l : List (Str × Tok)} {vs : List Value}, All2 isS l vs → vs = strValues l
  | [], [], _ => rfl
  | _ :: _, _ :: _, ⟨h, h2⟩ => by rw [h, isS_eq h2]; rfl
theorem inv_step {p q : List (Nat × Tok)} {a : Nat × Tok} {rs rs' : List (Str × Tok)} (mk : Bool) (hf : FreeOk (p.map Prod.fst ++ a.1 :: q.map Prod.fst)) (h : ∀ r ∈ rs, RowInv ((p ++ a :: q).map Prod.fst) r.1) (e : rs'.map Prod.fst = rs.map (fun r => stp mk a.1 r.1)) :
    ∀ r ∈ rs', RowInv (p.map Prod.fst ++ q.map Prod.fst) r.1 := fun r hr => by
  have : r.1 ∈ rs'.map Prod.fst := List.mem_map_of_mem hr
  rw [e] at this
  obtain ⟨r0, h0, h1⟩ := List.mem_map.mp this
  rw [← h1]
  refine RowInv.step mk hf ?_
  have := h r0 h0
  simpa using this
theorem words_25 : True := by
  k_with "eval ListComp" => ((k_here; k_dflt (refine evalK (_F₀ := by k_asm) (by with_unfolding_all rfl) (by intro _; rfl) (by intro _; rfl) (by rfl) (by decide) (by intro _ _; rfl) ?_)))
  exact True.intro
def isL (r : Nat × Tok) (v : Value) : Prop := v = .str ⟨#[r.1]⟩ r.2
def isW (alv : List (Str × Tok)) (y : Nat × Tok) (v : Value) : Prop := ∃ t, v = .int (weiS ((alv.filter fun r => r.1.cps.contains y.1).map Prod.fst)) t
theorem cv_at {fs : List (Nat × Tok)} {i : Nat} {v : Value} (h : (cv fs).toArray[i]? = some v) : ∃ a, fs[i]? = some a ∧ isL a v := by
  simp only [cv, List.getElem?_toArray, List.getElem?_map, Option.map_eq_some_iff] at h
  obtain ⟨r, h1, h2⟩ := h
  exact ⟨r, h1, h2.symm⟩
theorem words_26 : True := by
  k_with "call ref" => ((((with_reducible show wpAny _ _ (call (Value.ref 125) [Value.str _ _, Value.str _ _] []) _ _ _); tb_from (hol_spec _ _ _ _ _ _ (by with_reducible assumption) (by with_reducible assumption) (by with_reducible assumption)); intro _ _ _ _ _ _ zqo'; obtain ⟨zqe1', zqe2'⟩ := zqo'; subst zqe1'; subst zqe2'; (try dsimp only); (try k_sweep)); (try (revert zqe1'; intro _)); (try (revert zqe2'; intro _))))
  exact True.intro
theorem isW_iv {alv : List (Str × Tok)} : ∀ {l : List (Nat × Tok)} {ys : List Value}, All2 (isW alv) l ys → ∃ ws : List (Int × Tok), ys = iv ws ∧ ws.map Prod.fst = l.map fun y => weiS ((alv.filter fun r => r.1.cps.contains y.1).map Prod.fst)
  | [], [], _ => ⟨[], rfl, rfl⟩
  | a :: l, _ :: ys, ⟨⟨t, h⟩, h2⟩ => by
    obtain ⟨ws, e1, e2⟩ := isW_iv h2
    exact ⟨(weiS ((alv.filter fun r => r.1.cps.contains a.1).map Prod.fst), t) :: ws, by rw [h, e1]; rfl, by rw [List.map_cons, List.map_cons, ← e2]⟩
theorem iv_ints : ∀ ws : List (Int × Tok), IntsAre (iv ws) (ws.map Prod.fst)
  | [] => .nil
  | (a, t) :: ws => .cons a t (iv_ints ws)
theorem words_27 : True := by
  k_with "call builtin:max" => ((k_here; (with_reducible show wpAny _ _ (call (Value.builtin _) [Value.ref _]) _ _ _); k_dflt (refine' kso_max (by k_asm) (by k_asm) (by is_list) (by with_reducible assumption) (by with_reducible assumption) (by exact rfl) ?_); intro _ _ _ _ _ _ _ _; (try k_sweep)))
  exact True.intro
def isK (k : Nat) (v : Value) : Prop := ∃ t, v = .int (k : Int) t
theorem isK_at {n i : Nat} {v : Value} (h : ∃ t, v = Value.int (0 + (i : Int) * 1) t) (hi : i < n) : ∃ a, (List.range n)[i]? = some a ∧ isK a v := by
  obtain ⟨t, rfl⟩ := h
  exact ⟨i, by simp [hi], t, by simp⟩
theorem isK_iv : ∀ {l : List Nat} {ys : List Value}, All2 isK l ys → ∃ ws : List (Int × Tok), ys = iv ws ∧ ws.map Prod.fst = l.map fun k : Nat => (k : Int)
  | [], [], _ => ⟨[], rfl, rfl⟩
  | a :: l, _ :: ys, ⟨⟨t, h⟩, h2⟩ => by
    obtain ⟨ws, e1, e2⟩ := isK_iv h2
    exact ⟨((a : Int), t) :: ws, by rw [h, e1]; rfl, by rw [List.map_cons, List.map_cons, ← e2]⟩
theorem small_one {b : Int} (h0 : 0 < b) (h5 : b ≤ 5) : Builtin.Range.small 0 b 1 = true := by
  have h : b = 1 ∨ b = 2 ∨ b = 3 ∨ b = 4 ∨ b = 5 := by omega
  rcases h with rfl | rfl | rfl | rfl | rfl <;> decide
theorem best_len {ws bs : List (Int × Tok)} {n : Nat} {M : Int} (h : bs.map Prod.fst = ((List.range n).filter fun k : Nat => decide ((ws.map Prod.fst)[k]? = some M)).map fun k : Nat => (k : Int)) (hM : M ∈ ws.map Prod.fst) (hw : ws.length = n) : 0 < bs.length ∧ bs.length ≤ n := by
  have e := congrArg List.length h
  rw [List.length_map, List.length_map] at e
  have e2 := List.length_filter_le (fun k : Nat => decide ((ws.map Prod.fst)[k]? = some M)) (List.range n)
  rw [List.length_range] at e2
  refine ⟨?_, by omega⟩
  obtain ⟨k, hk, hkM⟩ := List.mem_iff_getElem.mp hM
  have : k ∈ (List.range n).filter fun k : Nat => decide ((ws.map Prod.fst)[k]? = some M) := by
    rw [List.mem_filter]
    rw [List.length_map] at hk
    exact ⟨List.mem_range.mpr (by omega), by rw [decide_eq_true_eq, List.getElem?_eq_getElem (by rw [List.length_map]; exact hk), hkM]⟩
  have := List.length_pos_of_mem this
  omega
theorem best_one {ws bs : List (Int × Tok)} {n : Nat} {M : Int} (h : bs.map Prod.fst = ((List.range n).filter fun k : Nat => decide ((ws.map Prod.fst)[k]? = some M)).map fun k : Nat => (k : Int)) {b : Int × Tok} (hb : b ∈ bs) : ∃ k : Nat, k < n ∧ (ws.map Prod.fst)[k]? = some M ∧ b.1 = (k : Int) := by
  have : b.1 ∈ bs.map Prod.fst := List.mem_map_of_mem hb
  rw [h] at this
  obtain ⟨k, hk, e⟩ := List.mem_map.mp this
  rw [List.mem_filter] at hk
  exact ⟨k, List.mem_range.mp hk.1, by simpa using hk.2, e.symm⟩
theorem words_28 : True := by
  k_with "call builtin:list.extend" => ((k_here; (with_reducible show wpAny _ _ (call (Value.builtin _) [Value.ref _, Value.ref _]) _ _ _); k_dflt (refine' ext_two (by k_asm) (by k_asm) (by k_mem) (by k_upd) (by with_reducible assumption) ?_); intro _ _ _; (try k_sweep)))
  exact True.intro
theorem filter_fst (rs : List (Str × Tok)) (f : Str → Bool) : (rs.filter fun r : Str × Tok => f r.1).map Prod.fst = (rs.map Prod.fst).filter f := by
  rw [List.filter_map]; rfl
theorem play_step {rs1 rs2 rs3 alv : List (Str × Tok)} {pre post p2 q2 : List (Nat × Tok)} {a1 b1 : Nat × Tok} {ws : List (Int × Tok)} {M0 : Int} {k0 : Nat}
    (e3 : rs2.map Prod.fst = rs1.map (fun r => stp true a1.1 r.1)) (e5 : rs3.map Prod.fst = rs2.map (fun r => stp false b1.1 r.1)) (halv : alv = rs2.filter (fun r : Str × Tok => isAlive r.1))
    (hws : ws.map Prod.fst = (pre ++ post).map fun y => weiS ((alv.filter fun r => r.1.cps.contains y.1).map Prod.fst)) (hM : ∀ a, a ∈ ws.map Prod.fst → a ≤ M0) (hk : (ws.map Prod.fst)[k0]? = some M0)
    (hc : pre ++ post = p2 ++ b1 :: q2) (hl : (k0 : Int) = (p2.length : Int)) :
    PlayStep (rs1.map Prod.fst) ((pre ++ a1 :: post).map Prod.fst) (rs3.map Prod.fst) ((p2 ++ q2).map Prod.fst) a1.1 b1.1 (weiS (alv.map Prod.fst)) := by
  have e2 : rs2.map Prod.fst = (rs1.map Prod.fst).map (stp true a1.1) := by rw [e3, List.map_map]; rfl
  have ea : alv.map Prod.fst = ((rs1.map Prod.fst).map (stp true a1.1)).filter isAlive := by rw [halv, filter_fst, e2]
  have ew : ∀ y : Nat, (alv.filter fun r : Str × Tok => r.1.cps.contains y).map Prod.fst = (((rs1.map Prod.fst).map (stp true a1.1)).filter isAlive).filter fun x => x.cps.contains y := fun y => by
    rw [filter_fst alv (fun x => x.cps.contains y), ea]
  have hb : weiS ((((rs1.map Prod.fst).map (stp true a1.1)).filter isAlive).filter fun x => x.cps.contains b1.1) = M0 := by
    rw [hws, hc, List.getElem?_map] at hk
    have hk2 : k0 = p2.length := by omega
    rw [hk2] at hk
    simp only [List.getElem?_append_right (Nat.le_refl _), Nat.sub_self, List.getElem?_cons_zero, Option.map_some, Option.some.injEq] at hk
    rw [← ew]; exact hk
  refine ⟨pre.map Prod.fst, post.map Prod.fst, p2.map Prod.fst, q2.map Prod.fst, by simp, ?_, by simp, by rw [ea], ?_, ?_⟩
  · rw [← List.map_append, hc]; simp
  · intro y hy
    rw [← List.map_append] at hy
    obtain ⟨y0, hy0, rfl⟩ := List.mem_map.mp hy
    rw [hb]
    refine hM _ ?_
    rw [hws]
    exact List.mem_map.mpr ⟨y0, hy0, by rw [ew]⟩
  · rw [e5, ← e2, List.map_map]; rfl
theorem play_turn {SA MA FA L5 ap I : Addr} {rs0 : List Str} {rest : List (Addr × Obj)} {i nS nf nm kp : Nat} {rs1 rs2 rs3 alv : List (Str × Tok)} {pre post p2 q2 ms : List (Nat × Tok)} {a1 b1 : Nat × Tok} {sc ws : List (Int × Tok)} {M0 : Int} {k0 : Nat} {tw : Tok} {ps : Array Value} {q : Addr × Obj} {oc1 oc2 oc3 : Obj} {v1 v2 v3 : Option Value}
    (hP : PlayTo rs0 i (rs1.map Prod.fst) ((pre ++ a1 :: post).map Prod.fst) (ms.map Prod.fst) (sc.map Prod.fst))
    (e3 : rs2.map Prod.fst = rs1.map (fun r => stp true a1.1 r.1)) (e5 : rs3.map Prod.fst = rs2.map (fun r => stp false b1.1 r.1)) (hF : FreeOk (p2.map Prod.fst ++ q2.map Prod.fst)) (hI2 : ∀ r ∈ rs2, RowInv (pre.map Prod.fst ++ post.map Prod.fst) r.1)
    (hI3 : ∀ r ∈ rs3, RowInv (p2.map Prod.fst ++ q2.map Prod.fst) r.1) (hr4 : rs1.length = 4) (hf6 : pre.length + (post.length + 1) + 2 * i = 6) (hm2 : ms.length = 2 * i) (hs2 : sc.length = i) (halv : alv = rs2.filter (fun r : Str × Tok => isAlive r.1))
    (hws : ws.map Prod.fst = (pre ++ post).map fun y => weiS ((alv.filter fun r => r.1.cps.contains y.1).map Prod.fst)) (hM : ∀ a, a ∈ ws.map Prod.fst → a ≤ M0) (hk : (ws.map Prod.fst)[k0]? = some M0)
    (hc : pre ++ post = p2 ++ b1 :: q2) (hl : (k0 : Int) = (p2.length : Int)) (hD : DigTab ps q)
    (g : @Ne Nat I q.1 ∧ @Ne Nat SA q.1 ∧ @Ne Nat MA q.1 ∧ @Ne Nat FA q.1 ∧ @Ne Nat (L5 + 1 + 1 + 1) q.1 ∧ @Ne Nat (L5 + 1 + 1) q.1 ∧ @Ne Nat (L5 + 1) q.1 ∧ @Ne Nat ap q.1) (hqr : ∀ p ∈ rest, p.1 ≠ q.1) (d1 : oc1.data = .cell v1) (d2 : oc2.data = .cell v2) (d3 : oc3.data = .cell v3) {all : List (Addr × Obj)}
    (hall : ∀ p ∈ (SA, listOf ((iv sc).toArray.push (Value.int (weiS (alv.map Prod.fst)) tw)) nS) :: (MA, listOf (cv ms ++ [Value.str ⟨#[a1.1]⟩ a1.2, Value.str ⟨#[b1.1]⟩ b1.2]).toArray nm) :: (FA, listOf (cv p2 ++ cv q2).toArray nf) :: (L5 + 1 + 1 + 1, oc1) :: (L5 + 1 + 1, oc2) :: (L5 + 1, oc3) :: (ap, pbOf (strValues rs3) kp) :: (33, tabObj ps) :: q :: rest, p ∈ all) :
    PlayR SA MA FA L5 ap I rs0 rest (i + 1) all := by
  have z1 : (iv (sc ++ [(weiS (alv.map Prod.fst), tw)])).toArray = (iv sc).toArray.push (Value.int (weiS (alv.map Prod.fst)) tw) := by simp [iv]
  have z2 : cv (ms ++ [a1, b1]) = cv ms ++ [Value.str ⟨#[a1.1]⟩ a1.2, Value.str ⟨#[b1.1]⟩ b1.2] := by simp [cv]
  have hlen := congrArg List.length hc
  simp only [List.length_append, List.length_cons] at hlen
  refine ⟨rs3, p2 ++ q2, ms ++ [a1, b1], sc ++ [(weiS (alv.map Prod.fst), tw)], kp, nf, nm, nS, ps, q, oc1, oc2, oc3, ?_, ⟨_, d1⟩, ⟨_, d2⟩, ⟨_, d3⟩, hD, g, hqr, ?_, ?_, ?_, ?_, ?_, ?_, ?_⟩
  · rw [z1, z2, ← cv_app]; exact hall
  · have := PlayTo.succ hP (play_step (rs3 := rs3) (p2 := p2) (q2 := q2) (a1 := a1) (b1 := b1) e3 e5 halv hws hM hk hc hl)
    rw [List.map_append (l₁ := ms), List.map_append (l₁ := sc)]
    exact this
  · rw [List.map_append]; exact hF
  · rw [List.map_append]; exact hI3
  · have h1 := congrArg List.length e3
    have h2 := congrArg List.length e5
    simp only [List.length_map] at h1 h2
    omega
  · rw [List.length_append]; omega
  · rw [List.length_append]; simp; omega
  · rw [List.length_append]; simp; omega
theorem free_all : FreeOk [97, 98, 99, 100, 101, 102] := ⟨by decide, by decide⟩
theorem play_start {SA MA FA L5 ap I : Addr} {rs : List (Str × Tok)} {rest : List (Addr × Obj)} {ps : Array Value} {q : Addr × Obj} {o1 o2 o3 : Obj} {v1 v2 v3 : Option Value} {k : Nat} {t : Tok} (hD : DigTab ps q)
    (g : @Ne Nat I q.1 ∧ @Ne Nat SA q.1 ∧ @Ne Nat MA q.1 ∧ @Ne Nat FA q.1 ∧ @Ne Nat (L5 + 1 + 1 + 1) q.1 ∧ @Ne Nat (L5 + 1 + 1) q.1 ∧ @Ne Nat (L5 + 1) q.1 ∧ @Ne Nat ap q.1) (hqr : ∀ p ∈ rest, p.1 ≠ q.1) (h4 : rs.length = 4) (hri : ∀ r ∈ rs, RowInv [97, 98, 99, 100, 101, 102] r.1) (d1 : o1.data = .cell v1) (d2 : o2.data = .cell v2) (d3 : o3.data = .cell v3) :
    PlayR SA MA FA L5 ap I (rs.map Prod.fst) rest 0 ((SA, listOf #[] 0) :: (MA, listOf #[] 0) :: (FA, listOf #[Value.str (Str.ofString "a") t, Value.str (Str.ofString "b") (t + 1), Value.str (Str.ofString "c") (t + 1 + 1), Value.str (Str.ofString "d") (t + 1 + 1 + 1), Value.str (Str.ofString "e") (t + 1 + 1 + 1 + 1), Value.str (Str.ofString "f") (t + 1 + 1 + 1 + 1 + 1)] 0) :: (L5 + 1 + 1 + 1, o1) :: (L5 + 1 + 1, o2) :: (L5 + 1, o3) :: (ap, pbOf (strValues rs) k) :: (33, tabObj ps) :: q :: rest) := by
  have ea : Str.ofString "a" = ⟨#[97]⟩ := by decide +kernel
  have eb : Str.ofString "b" = ⟨#[98]⟩ := by decide +kernel
  have ec : Str.ofString "c" = ⟨#[99]⟩ := by decide +kernel
  have ed : Str.ofString "d" = ⟨#[100]⟩ := by decide +kernel
  have ee : Str.ofString "e" = ⟨#[101]⟩ := by decide +kernel
  have ef : Str.ofString "f" = ⟨#[102]⟩ := by decide +kernel
  rw [ea, eb, ec, ed, ee, ef]
  refine ⟨rs, [(97, t), (98, t + 1), (99, t + 1 + 1), (100, t + 1 + 1 + 1), (101, t + 1 + 1 + 1 + 1), (102, t + 1 + 1 + 1 + 1 + 1)], [], [], k, 0, 0, 0, ps, q, o1, o2, o3, sub_rfl, ⟨_, d1⟩, ⟨_, d2⟩, ⟨_, d3⟩, hD, g, hqr, .zero, free_all, hri, h4, rfl, rfl, rfl⟩
set_option maxHeartbeats 8000000 in
theorem play_spec (w : World) (am ap l lc : Addr) (rs : List (Str × Tok)) (n n2 k : Nat) (ps : Array Value) (q : Addr × Obj) (rest : List (Addr × Obj))
    (hM : Mach rest am ap) (hne : ∀ p ∈ (33, tabObj ps) :: q :: rest, p.1 ≠ ap) (h33 : ∀ p ∈ rest, p.1 ≠ 33) (hqr : ∀ p ∈ rest, p.1 ≠ q.1) (hD : DigTab ps q) (h4 : rs.length = 4) (hl : (l, listOf (strValues rs).toArray n) ∈ rest)
    (zs : List (Int × Tok)) (h6 : zs.length = 6) (hlc : (lc, listOf (iv zs).toArray n2) ∈ rest) (hri : ∀ r ∈ rs, RowInv [97, 98, 99, 100, 101, 102] r.1) :
    Ctr w 40 (.ref 144) [.ref am, .ref l, .ref lc] ((ap, pbOf [] k) :: (33, tabObj ps) :: q :: rest) (fun v n' => ∃ T SA MA rs' ms sc nS nm kp ps' q', v = .ref T ∧ n' = (T, { cls := .type "tuple", data := .seq #[.ref MA, .ref SA] }) :: (SA, listOf (iv sc).toArray nS) :: (MA, listOf (cv ms).toArray nm) :: (ap, pbOf (strValues rs') kp) :: (33, tabObj ps') :: q' :: rest ∧
      PlayTo (rs.map Prod.fst) 3 (rs'.map Prod.fst) [] (ms.map Prod.fst) (sc.map Prod.fst) ∧ (@Ne Nat T ap ∧ @Ne Nat SA ap ∧ @Ne Nat MA ap ∧ @Ne Nat q'.1 ap) ∧ rs'.length = 4 ∧ ms.length = 6 ∧ sc.length = 3) := by
  unfold Ctr
  k_fill
  intro p loose mean mg mb dp un gd cn cs a ccd cl outer A₀ base h₀ L m s Q E B F X N T hk hd hu hret
  have hM2 := hM
  obtain ⟨dx, e, kk, hm1, hm2⟩ := hM2
  rw [machD_eq] at hm2
  have hn33 : @Ne Nat 33 ap := hne (33, tabObj ps) (.head _)
  have hqap : @Ne Nat ap q.1 := Ne.symm (hne q (.tail _ (.head _)))
  have hneR : ∀ p ∈ rest, p.1 ≠ ap := fun p hp => hne p (.tail _ (.tail _ hp))
  refine wpAny_call ?_
  k_dflt k_enter
  refine hideQ1 ?_
  intro qq1 hqq1
  try dsimp only
  k_steps
  rename_i g5 L5 h5 tk5 FG5 lF B5 X5 T5 l5 o1 o2 o3 d1 d2 d3 N5 I lI
  refine listRest_inv2 (PushR L5 ap o1 o2 o3 rs ps q rest) ⟨k, sub_rfl⟩ ?_ ?_
  · rintro i v news it h tk hv ⟨k1, hsub⟩ hit F3 N3
    obtain ⟨r, hr, rfl⟩ : ∃ r : Str × Tok, rs[i]? = some r ∧ v = .str r.1 r.2 := by
      simp only [strValues, List.getElem?_map, Option.map_eq_some_iff] at hv
      obtain ⟨r, h1, h2⟩ := hv
      exact ⟨r, h1, h2.symm⟩
    replace F3 := fr_like lF F3
    replace N3 := news_like lF N3
    replace N3 := cb_drop N3 (sub_cons hsub)
    have hl1 : (strValues (rs.take i)).length < 100 := by simp [strValues]; omega
    clear hsub
    refine hideQ ?_
    intro qq2 ee2 hqq2
    try dsimp only
    k_steps
    all_goals first
      | (refine One.of fun z z1 => ?_; dsimp only; (repeat (rw [if_neg z1])); done)
      | exact push_turn hr
  · rintro u news h tk ⟨k1, hsub⟩ F3 N3
    replace F3 := fr_like lF F3
    replace N3 := news_like lF N3
    have e : rs.take (strValues rs).length = rs := by simp [strValues]
    rw [e] at hsub
    replace N3 := cb_drop N3 hsub
    clear hsub
    k_steps
    rename_i FA hA lA hA2 tkB MA hB lB hB2 SA hC lC hC2 F4 N4 hD1 tkD2 t61 u61 v61 aR aK I2 lI2
    refine ⟨?_⟩
    refine rangeRest_four (y1 := Str.ofString "taken") (y2 := Str.ofString "best") (y3 := Str.ofString "struck") (PlayR SA MA FA L5 ap I2 (rs.map Prod.fst) rest) ?_ ?_ ?_
    · exact play_start hD (by omega) hqr h4 hri d1 d2 d3
    · as_aux_lemma =>
        intro i ti u2 u3 u4 news h tk hi hPR F3 N3
        refine hideP ?_
        intro G hG
        obtain ⟨rs1, fs, ms, sc, kp, nf, nm, nS, ps1, q1, c1, c2, c3, hsub, ⟨w1, hc1⟩, ⟨w2, hc2⟩, ⟨w3, hc3⟩, hD1, ⟨g1, g2, g3, g4, g5', g6, g7, g8⟩, hqr, hP, hFree, hInv, hr4, hf6, hm2', hs2⟩ := hPR
        replace F3 := fr_like F4 F3
        replace N3 := news_like F4 N3
        replace N3 := cb_drop N3 (sub_cons hsub)
        clear hsub
        obtain ⟨z1, tz1, _, hz1⟩ := iv_at (cs := zs) (i := i) (by omega) (0 + (i : Int)) (by omega)
        obtain ⟨z2, tz2, _, hz2⟩ := iv_at (cs := zs) (i := 3 + i) (by omega) (3 + (0 + (i : Int))) (by omega)
        obtain ⟨KF, hKF⟩ : ∃ k : Int, k = (fs.length : Int) := ⟨_, rfl⟩
        obtain ⟨pre, a1, post, rfl, hcut⟩ := fmod_cut (fs := fs) (z := z1) hKF (by omega)
        have hfl : (pre ++ a1 :: post).length < 100 := by omega
        have hlen1 : (cv (pre ++ a1 :: post)).length = (pre ++ a1 :: post).length := cv_len _
        have hlenF : (((cv pre ++ Value.str ⟨#[a1.1]⟩ a1.2 :: cv post).toArray.size : Nat) : Int) = KF := by rw [hKF, List.size_toArray, ← cv_mid, hlen1]
        have hKF0 : 0 < KF := by omega
        have hKF6 : KF ≤ 6 := by omega
        have hcut' : z1.fmod KF = ((cv pre).length : Int) := by rw [cv_len]; exact hcut
        have hfl' : (cv pre ++ Value.str ⟨#[a1.1]⟩ a1.2 :: cv post).length < 100 := by rw [← cv_mid, hlen1]; exact hfl
        rw [cv_mid] at N3
        rw [List.map_append, List.map_cons] at hFree
        obtain ⟨hFree2, hA1, hA2, hA3⟩ := hFree.cut
        have hok1 : ∀ r ∈ rs1, RowOk r.1 := fun r hr => (hInv r hr).ok
        refine hG ?_
        clear hG G
        refine hideQ ?_
        intro qq3 ee3 hqq3
        try dsimp only
        k_steps
        rename_i hx1 hx2 hx3 tkx Fx D1 rs2 n1 k1 e3 l1 N4 l2
        have hInv2 : ∀ r ∈ rs2, RowInv (pre.map Prod.fst ++ post.map Prod.fst) r.1 := inv_step true hFree hInv e3
        have hr42 : rs2.length = 4 := by have := congrArg List.length e3; simpa [hr4] using this
        have hok2 : ∀ r ∈ rs2, RowOk r.1 := fun r hr => (hInv2 r hr).ok
        refine CompT.filter isS isS (fun r : Str × Tok => isAlive r.1) rs2 (Src.list (its := (strValues rs2).toArray) (by rfl) (by k_asm) (by k_asm) (.inr ⟨_, by k_mem, rfl, _, rfl⟩) (by rw [sizeLine_eq]; simp only [List.size_toArray, strValues_len]; omega)) (by k_asm) (by k_asm) (by simp only [List.size_toArray, strValues_len]) (fun i v h _ => strValues_at h) ?_ ?_
        · as_aux_lemma =>
            rintro g r v ys I oI C oC D m₂ h tk E' ha rfl hS hC hx2 F' N' off ne
            obtain ⟨y1, y2, y3, y4⟩ := hok2 r ha
            have hit1 : Txt.item r.1 0 = ⟨#[r.1.cps.getD 0 0]⟩ := item0 (by omega)
            refine hideQ ?_
            intro qq4 ee4 hqq4
            try dsimp only
            k_steps
            · rename (Txt.item r.1 0 == _) = true => hq; exact ⟨rfl, (item_alive hit1).symm.trans hq, rfl⟩
            · rename (Txt.item r.1 0 == _) = false => hq; exact ⟨rfl, (item_alive hit1).symm.trans hq⟩
        · as_aux_lemma =>
            intro g ys hys
            obtain rfl := isS_eq hys
            obtain ⟨alv, halv⟩ : ∃ alv, alv = rs2.filter (fun r : Str × Tok => isAlive r.1) := ⟨_, rfl⟩
            rw [← halv] at hys ⊢
            have hal4 : alv.length ≤ 4 := by rw [halv]; have := List.length_filter_le (fun r : Str × Tok => isAlive r.1) rs2; omega
            have halok : ∀ r ∈ alv, r.1.length < 100 ∧ 0 ≤ rowIdx r.1 ∧ rowIdx r.1 ≤ 6 := fun r hr => by
              rw [halv, List.mem_filter] at hr
              exact (hInv2 r hr.1).idx hr.2
            have hivl : (iv sc).length < 100 := by simp [iv]; omega
            have hcml : (cv ms).length < 100 := by simp [cv]; omega
            k_steps
            refine ⟨?_⟩
            rename_i D2 hh1 tt1 oa1 oa2 oa3 oa4 oa5 oa6 oa7 oa8 oa9 oa10 oa11 o1x hh2 oc1 dc1 tkx hh3 tt2 tw1 ps2 q2 hD2 ob1 ob2 ob3 ob4 ob5 ob6 ob7 ob8 ob9 ob10 hqr2 hh4 F5 N5
            refine CompK.codes isL (isW alv) (pre ++ post) DigTab (Src.list (its := (cv pre ++ cv post).toArray) (by rfl) (by k_asm) (by k_asm) (.inr ⟨_, by k_mem, rfl, _, rfl⟩) (by rw [sizeLine_eq, cv_app]; simp only [List.size_toArray, cv_len]; simp only [List.length_append, List.length_cons] at hf6 ⊢; omega)) (by k_asm) (by k_asm) (by rw [cv_app]; simp only [List.size_toArray, cv_len]) (fun i v h _ => cv_at (by rw [← cv_app]; exact h)) hD2 (by repeat (first | with_reducible assumption | refine ne_cons (by k_ne) ?_)) ?_ ?_
            · as_aux_lemma =>
                intro g y v ys ps3 q3 I oI C D K oK h tk E' ha hpq1 hD3 hqR hoK F' N' hS hpq2 hpq3 off hpq4
                refine hideQ ?_
                intro qq5 ee5 hqq5
                try dsimp only
                refine hideP ?_
                intro G hG
                obtain rfl := hpq1
                obtain ⟨i1, i2, i3, i4⟩ := hpq2
                obtain ⟨i5, i6, i7, i8⟩ := hpq3
                obtain ⟨i9, i10, i11, i12, i13, i14⟩ := hpq4
                have hy1 := hFree2.ok y.1 (by rw [← List.map_append]; exact List.mem_map_of_mem ha)
                obtain ⟨hy97, hy102⟩ := hy1
                refine hG ?_
                clear hG G
                k_steps
                refine CompT.filter isS isS (fun r : Str × Tok => r.1.cps.contains y.1) alv (Src.list (its := (strValues alv).toArray) (by rfl) (by k_asm) (by k_asm) (.inr ⟨_, by k_mem, rfl, _, rfl⟩) (by rw [sizeLine_eq]; simp only [List.size_toArray, strValues_len]; omega)) (by k_asm) (by k_asm) (by simp only [List.size_toArray, strValues_len]) (fun i v h _ => strValues_at h) ?_ ?_
                · as_aux_lemma =>
                    rintro g2 r v ys2 I3 oI3 C3 oC3 D3 m₂ h tk E'' ha2 rfl hS2 hC hx2 F' N' off2 ne2
                    have hr100 := (halok r ha2).1
                    refine hideQ ?_
                    intro qq6 ee6 hqq6
                    try dsimp only
                    k_steps
                    · exact ⟨rfl, by assumption, rfl⟩
                    · exact ⟨rfl, by assumption⟩
                · as_aux_lemma =>
                    intro g2 ys2 hys2
                    obtain rfl := isS_eq hys2
                    obtain ⟨bl, hbl⟩ : ∃ bl, bl = alv.filter (fun r : Str × Tok => r.1.cps.contains y.1) := ⟨_, rfl⟩
                    rw [← hbl] at hys2 ⊢
                    have hbl4 : bl.length ≤ 4 := by rw [hbl]; have := List.length_filter_le (fun r : Str × Tok => r.1.cps.contains y.1) alv; omega
                    have hblok : ∀ r ∈ bl, r.1.length < 100 ∧ 0 ≤ rowIdx r.1 ∧ rowIdx r.1 ≤ 6 := fun r hr => by
                      rw [hbl, List.mem_filter] at hr
                      exact halok r hr.1
                    k_steps
                    refine ⟨?_⟩
                    rename DigTab _ _ => hD9
                    rename_i D9 hh91 tt91 oe1 oe2 oe3 oe4 oe5 oe6 oe7 oe8 oe9 oe10 oe11 oe12 oe13 oe14 oe15 oe16 oe17 o9x hh9 tt9 F9 tw9 ps9 q9 N9 of1 of2 of3 of4 of5 of6 of7 of8 of9 of10 of11 of12 of13 of14 of15 hqr9
                    refine endK_of (o1 := tabObj ps9) (q' := q9) (by k_asm) (by k_asm) ?_ ⟨i1, i2, i3, i4⟩ ⟨Ne.symm of2, Ne.symm of3, Ne.symm of4, Ne.symm of5⟩ off (.inr ⟨_, by k_mem, rfl, _, rfl⟩) ⟨_, _, rfl, hD9, ?_, _, by rw [hbl]⟩
                    · kcj_m
                    · repeat (first | with_reducible assumption | refine ne_cons (by k_ne) ?_)
            · as_aux_lemma =>
                intro g ys ps3 q3 hD3 hqR hys
                refine hideP ?_
                intro G hG
                obtain ⟨ws, rfl, hws⟩ := isW_iv hys
                have hints : IntsAre (iv ws) (ws.map Prod.fst) := iv_ints ws
                have hwn : ws.length = (pre ++ post).length := by have := congrArg List.length hws; simpa using this
                have hwl : ws.length = (pre ++ post).length := by have := congrArg List.length hws; simpa using this
                simp only [List.length_append, List.length_cons] at hwl hf6
                have hwpos : 0 < (ws.map Prod.fst).length := by rw [List.length_map]; omega
                simp only [List.forall_mem_cons] at hqR
                obtain ⟨oc21, oc22, oc23, oc24, oc25, oc26, oc27, oc28, oc29, oc30, hqr3⟩ := hqR
                obtain ⟨KG, hKG⟩ : ∃ k : Int, k = ((pre ++ post).length : Int) := ⟨_, rfl⟩
                have hlenG : (((cv pre ++ cv post).toArray.size : Nat) : Int) = KG := by rw [hKG, List.size_toArray, cv_app, cv_len]
                have hKG2 : KG = (pre.length : Int) + (post.length : Int) := by rw [hKG, List.length_append]; omega
                have hKG0 : 0 < KG := by omega
                have hKG6 : KG ≤ 5 := by omega
                refine hG ?_
                clear hG G
                k_steps
                rename_i D3 hh31 tt31 od1 od2 od3 od4 od5 od6 od7 od8 od9 od10 od11 od12 o3x hh32 oc2 dc2 tk31 hh33 M0 tM0 tk32 hM1 hM2 hh34 oc3 F6 N6 dc3 tk33 hh35 tr1 tr2 tr3 aR2 aF2 aN2 aK2
                have hKn : Builtin.Range.rangeSize 0 KG 1 = (((pre ++ post).length : Nat) : Int) := by
                  unfold Builtin.Range.rangeSize
                  rw [if_pos (by decide), if_pos hKG0, ← hKG, Int.ediv_one]; omega
                refine CompT.filter isK isK (fun k : Nat => decide ((ws.map Prod.fst)[k]? = some M0)) (List.range (pre ++ post).length) (Src.range (by rfl) (by k_asm) (by k_asm) (by assumption) (small_one hKG0 hKG6) hKn (by rw [sizeLine_eq]; simp only [List.length_append]; omega)) (by k_asm) (by k_asm) List.length_range (fun i v h hi => isK_at h hi) ?_ ?_
                · as_aux_lemma =>
                    rintro g2 kk v ys2 I3 oI3 C3 oC3 D4 m₂ h tk E'' ha2 ⟨tkk, rfl⟩ hS2 hC hx2 F' N' off2 ne2
                    have hkk : kk < ws.length := by rw [hwl, ← List.length_append]; exact List.mem_range.mp ha2
                    obtain ⟨z, tz, hz0, hz⟩ := iv_at (cs := ws) (i := kk) hkk (kk : Int) rfl
                    refine hideQ ?_
                    intro qq7 ee7 hqq7
                    try dsimp only
                    k_steps
                    · subst_vars; exact ⟨rfl, by rw [decide_eq_true_eq, List.getElem?_map, hz0]; rfl, _, rfl⟩
                    · rename ¬ z = M0 => hzn; exact ⟨rfl, by rw [decide_eq_false_iff_not, List.getElem?_map, hz0]; intro e; injection e with e; exact hzn e⟩
                · as_aux_lemma =>
                    intro g2 ys2 hys2
                    refine hideP ?_
                    intro G hG
                    obtain ⟨bs, rfl, hbs⟩ := isK_iv hys2
                    obtain ⟨KB, hKB⟩ : ∃ k : Int, k = (bs.length : Int) := ⟨_, rfl⟩
                    have hlenB : (((iv bs).toArray.size : Nat) : Int) = KB := by rw [hKB, List.size_toArray]; simp [iv]
                    obtain ⟨hb0, hb5⟩ := best_len hbs hM1 hwn
                    have hKB0 : 0 < KB := by omega
                    have hKB5 : KB ≤ 5 := by omega
                    obtain ⟨bp, b0, bq, hbcut, hz2cut⟩ := fmod_cut (fs := bs) (z := z2) hKB (by omega)
                    have hbplt : bp.length < bs.length := by rw [hbcut]; simp
                    have hz3 : (iv bs)[(z2.fmod KB).toNat]? = some (.int b0.1 b0.2) := by rw [hz2cut, hbcut]; simp [iv]
                    obtain ⟨k0, hk0, hk0M, hb0k⟩ := best_one hbs (b := b0) (by rw [hbcut]; simp)
                    obtain ⟨p2, b1, q2', hcut2, hk0l⟩ := cut_at (fs := pre ++ post) (j := (k0 : Int)) (by omega) (by omega)
                    have hpop : b0.1 = ((cv p2).length : Int) := by rw [hb0k, cv_len]; exact hk0l
                    have hpl : (cv p2 ++ Value.str ⟨#[b1.1]⟩ b1.2 :: cv q2').length < 100 := by rw [← cv_mid, cv_len, ← hcut2]; simp only [List.length_append]; omega
                    have hFree3 : FreeOk (p2.map Prod.fst ++ b1.1 :: q2'.map Prod.fst) := by
                      have := hFree2
                      rw [← List.map_append, hcut2, List.map_append] at this
                      exact this
                    obtain ⟨hFree4, hB1, hB2, hB3⟩ := hFree3.cut
                    refine hG ?_
                    clear hG G
                    rw [cv_app, hcut2, cv_mid]
                    k_steps
                    · refine Four.of fun z z1 z2 z3 z4 => ?_
                      dsimp only
                      rw [if_neg z4, if_neg z3, if_neg z2, if_neg z1, if_neg z2, if_neg z3, if_neg z4]
                    · rename List.map Prod.fst _ = List.map (fun r => stp false b1.fst r.fst) rs2 => e5
                      exact play_turn hP e3 e5 hFree4 hInv2 (inv_step false hFree3 (by rw [← hcut2, List.map_append]; exact hInv2) e5) hr4 hf6 hm2' hs2 halv hws hM2 hk0M hcut2 hk0l hD3 ⟨oc24, oc25, oc26, oc27, oc28, oc29, oc30, oc23⟩ hqr3 dc3 dc2 dc1 (by kcj_m)
    · as_aux_lemma =>
        intro u1 u2 u3 u4 news h tk hPR F3 N3
        refine hideP ?_
        intro G hG
        obtain ⟨rs1, fs, ms, sc, kp, nf, nm, nS, ps1, q1, c1, c2, c3, hsub, hc1, hc2, hc3, hD1, ⟨g1, g2, g3, g4, g5', g6, g7, g8⟩, hqr1, hP, hFree, hInv, hr4, hf6, hm2', hs2⟩ := hPR
        refine hG ?_
        clear hG G
        replace F3 := fr_like F4 F3
        replace N3 := news_like F4 N3
        replace N3 := cb_drop N3 hsub
        clear hsub
        k_steps
        rename_i D' h9 F9 N9 l9 kF kN Tc kX
        obtain rfl : fs = [] := List.eq_nil_of_length_eq_zero (by omega)
        exact hret _ _ _ _ kF (cb_drop kN (by kcj_m)) ⟨D', SA, MA, rs1, ms, sc, nS, nm, kp, ps1, q1, rfl, rfl, hP, ⟨by omega, by omega, by omega, Ne.symm g8⟩, hr4, hm2', hs2⟩
  
end
-- part E14
section
theorem words_29 : True := by
  k_with_none
  k_with "k_all" => (first | assumption | exact ne_of_top (by omega))
  k_with "kd_mem" => (first | exact Pick.head | (apply Pick.tail; kd_mem))
  k_with "UnrEnd" => ((k_dflt (refine' unrEnd_pick (by k_asm) (by k_asm) (by kd_mem) (by k_all) ?_; k_whole)))
  k_with "exec For Name Name cons nil" => ((k_here; (with_unfolding_all refine' For_invVF (by k_asm) (by exact rfl) (by exact rfl) ?_; k_whole)))
  k_with "pyIter ref" => ((((with_reducible show wpAny _ _ (pyIter (Value.ref _)) (fun it s₂ => LoopAtV _ _ _ _ _ _ _ _ _ it s₂) _ _); k_dflt (refine' iter_listUnr (by exact rfl) (by k_asm) (by k_asm) (by k_mem) (by exact rfl) (by exact rfl) ?_; k_whole); intro _ zql1'; (try k_lt zql1')); (try (revert zql1'; intro _))))
  k_with "m1" => ((refine' code_def (by k_asm) (by k_asm) (by k_asm) (by k_asm) (by k_asm) (by exact rfl) (by exact rfl) (by first | exact rfl | assumption) (by k_is) (by k_is) (by first | k_room | ktr_room) (by first | exact BindsTo.of_eq rfl | exact binds_K (by k_in) rfl (by k_is) rfl rfl rfl | fail "k_enter: no rule for these arguments") (by exact locs rfl) ?_ (by exact rfl) (by exact rfl) (by exact rfl) (by decide)))
  k_with "m2" => ((refine' code_defC (by k_asm) (by k_asm) (by k_asm) (by k_asm) (by k_asm) (by exact rfl) (by exact rfl) (by first | exact rfl | assumption) (by k_is) (by k_is) (by first | k_room | ktr_room) (by first | exact BindsTo.of_eq rfl | exact binds_K (by k_in) rfl (by k_is) rfl rfl rfl | fail "k_enter: no rule for these arguments") (by exact rfl) (by decide +kernel) ?_ (by exact rfl) (by exact rfl) (by exact rfl)))
  k_with "call builtin:str.find" => (((with_reducible show wpAny _ _ (call (Value.builtin "str.find") [Value.str _ _, Value.str _ _, Value.int _ _, Value.int _ _]) _ _ _); k_dflt (refine find4_call ?_)))
  k_with "call builtin:len" => (((with_reducible show wpAny _ _ (call (Value.builtin "len") [Value.str (PySem.Str.mk _) _]) _ _ _); k_dflt (refine SBL.len (by first | decide | (simp only [PySem.Str.length, List.size_toArray, List.length_cons, List.length_nil]; omega)) ?_); (try dsimp only)))
  k_with "UnrEnd" => ((k_dflt (refine' unrEnd_pickL (by k_asm) (by k_asm) (by kd_mem) (by k_all) (by k_mem) ?_; k_whole)))
  k_with "kcj_m" => ((intro _ zqhp; repeat (first | exact zqhp | apply List.Mem.tail)))
  k_with "k_mem" => (((show @Membership.mem (PySem.Addr × PySem.Obj) (List (PySem.Addr × PySem.Obj)) List.instMembership _ _); with_reducible assumption))
  k_with "kn_code" => (first | exact codeHd_of_K (c := 37) (P := 33) (by k_asm) (by kernel_rfl) | exact codeHd_of_K (c := 117) (P := 113) (by k_asm) (by kernel_rfl))
  k_with "is_list" => (exact News.isList (by k_asm) (by k_mem))
  k_with "k_room" => (ktr_room)
  k_with "Kq" => ((k_dflt (refine' Kq.of (by with_reducible assumption) ?_)))
  k_with "truthy ref" => ((k_here; (with_reducible show wpAny _ _ (truthy (Value.ref _)) _ _ _); (with_unfolding_all refine' wpAny_truthy_list (items := _) (by is_list) (by (simp only [List.size_toArray, List.length_cons, List.length_nil]; omega)) ?_; k_whole; (try simp only [List.isEmpty_toArray, List.isEmpty_cons, List.isEmpty_nil, Array.isEmpty_push, Bool.not_false, Bool.not_true]))))
  k_with "call builtin:list.pop" => (((k_here; (with_reducible show wpAny _ _ (call (Value.builtin _) [Value.ref _, Value.int 0 _]) _ _ _); k_dflt (refine' popU (by k_asm) (by k_asm) (by k_upd) (by rfl) (by (simp only [List.size_toArray, List.length_cons]; exact seqIndex_zero _)) (by rfl) (by (rw [sizeLine_eq]; simp only [List.length_cons]; omega)) ?_); intro _ _ zqN'; (try dsimp only [List.nil_append, List.cons_append] at zqN')); (try (revert zqN'; intro _))))
  k_with "call builtin:list.append" => ((k_here; (with_reducible show wpAny _ _ (call (Value.builtin _) [Value.ref _, _]) _ _ _); k_dflt (refine' append_K (by k_asm) (by k_asm) (by k_upd) ?_ (by (rw [sizeLine_eq]; simp only [List.size_toArray]; omega)); k_whole); intro _ _ _; (try k_sweep)))
  k_with "eval ListComp" => ((k_here; lcg_look; k_dflt (refine evalU (F₀ := by k_asm) (by with_unfolding_all rfl) (by decide) (by rfl) (by decide) (by rfl) ?_)))
  k_with "eval ListComp" => ((k_here; lct_look; k_dflt (refine evalT (F₀ := by k_asm) (by with_unfolding_all rfl) (by decide) (by rfl) (by decide) (by rfl) ?_)))
  k_with "exec Assign cons ListComp" => ((k_here; lcg_look; k_dflt (refine assignU (F₀ := by k_asm) (by rfl) (by with_unfolding_all rfl) (by with_unfolding_all rfl) (by decide) (by rfl) (by decide) (by rfl) (by rfl) (by rfl) ?_)))
  k_with "exec Assign cons ListComp" => ((k_here; lct_look; k_dflt (refine assignT (F₀ := by k_asm) (by rfl) (by with_unfolding_all rfl) (by with_unfolding_all rfl) (by decide) (by rfl) (by decide) (by rfl) (by rfl) (by rfl) ?_)))
  k_with "CompEnd" => ((k_dflt (refine' compEnd_of (by k_asm) (by k_asm) (by with_reducible assumption) (by kcj_m) (by with_reducible assumption) ?_; k_whole)))
  k_with "call builtin:len" => ((k_here; (with_reducible show wpAny _ _ (call (Value.builtin "len") [Value.ref _]) _ _ _); k_dflt (refine' kun_lenL (by exact News.isList (by k_asm) (by k_mem)) (by with_reducible assumption) (by omega) ?_; k_whole)))
  exact True.intro
theorem top_off_E14 : True := by
  w_top off
  exact True.intro
open PyProof.Rows.LCg (NsObj lst Off3 Off1 CompEnd CompRest FinE FinA SrcAt)
theorem words_30 : True := by
  k_with "kcj_m" => ((with_reducible ((repeat (refine sub_step ?_ ?_; (· (repeat (first | exact List.mem_cons_self | apply List.mem_cons_of_mem))))); (intro _ zqhp; first | (exact absurd zqhp List.not_mem_nil) | ((repeat (first | exact zqhp | apply List.mem_cons_of_mem)); done)))))
  k_with "setAttr ref" => (((k_here; k_dflt (show wpAny _ _ (setAttr (Value.ref _) (PySem.Str.ofString "read") (Value.ref _)) _ _ _); k_dflt (refine' set_fn (by k_asm) (News.pick (by k_asm) (by kd_mem)) (by exact rfl) (by exact rfl) (by (intro _ zqhx; cases zqhx)) (by (repeat (first | with_reducible assumption | exact ne_of_top (by omega) | refine ne_cons (by (try dsimp only); omega) ?_))) ?_); intro _ _ _ _ zql1' _ _ _; k_lt zql1'; (try dsimp only)); (try (revert zql1'; intro _))))
  exact True.intro
def ReadOk (w : World) (RF : Addr) (x : Str) (AL : Addr) (core : List (Addr × Obj)) : Prop :=
  ∀ (i : Nat) (ti t1 : Tok) (k : Nat) (rest : List (Addr × Obj)), i ≤ x.length → x.length < 100 → (∀ p ∈ core, p ∈ rest) → (∀ p ∈ rest, p.1 ≠ AL) →
    Ctr w 3 (.ref RF) [.int 1 t1] ((AL, listOf #[.int (i : Int) ti] k) :: rest) (fun v n' => ∃ t2 t3 k', v = .str ⟨x.cps.extract i (i + 1)⟩ t2 ∧ n' = (AL, listOf #[.int ((min (i + 1) x.length : Nat) : Int) t3] k') :: rest)
local macro_rules | `(tactic| kn_enter) => `(tactic| ((k_extra "m3"); k_whole; intro _ _ _ _ _ _ B' _ _; (try dsimp only); (try k_lift B'); (try k_fold)))
theorem words_31 : True := by
  k_with "m3" => ((refine' code_nest (by k_asm) (by k_asm) (by k_asm) (by k_asm) (by k_asm) (by exact rfl) (by exact rfl) (by assumption) (by k_mem) (by exact codeRec_news (by k_asm) (by k_mem) (by assumption) (by assumption)) (by k_room) (by exact BindsTo.of_eq rfl) (by exact locs rfl) ?_ (by exact rfl) (by exact rfl) (by exact rfl) (by decide)))
  exact True.intro
theorem mach_in {h₀ h : Heap} {L LP am dx : Addr} {o : Obj} {h1 h2 h3 h4 : Int} {t1 t2 t3 t4 : Tok} {ln st ws : Value} {k : Nat} {r : List (Addr × Obj)}
    (N : News h₀ L h ((LP, listOf #[] 0) :: (am, o) :: (dx, dictOf [⟨h1, .str (Str.ofString "lineno") t1, ln⟩, ⟨h2, .str (Str.ofString "instream") t2, st⟩, ⟨h3, .str (Str.ofString "whitespace") t3, ws⟩, ⟨h4, .str (Str.ofString "pushback") t4, .ref LP⟩] k) :: r)) :
    ∃ e : MachE, e.ln = ln ∧ e.st = st ∧ e.ws = ws ∧ News h₀ L h ((LP, pbOf [] 0) :: (am, o) :: (dx, machD e LP k) :: r) :=
  ⟨⟨h1, t1, ln, h2, t2, st, h3, t3, ws, h4, t4⟩, rfl, rfl, rfl, by rw [machD_eq, pbOf_eq]; exact N⟩
theorem mac_ledger {h₀ h : Heap} {L LP am dx DD f2 c2 f1 c1 AL A2 A1 : Addr} {oLP oam odx oD oF2 oc2 oF1 oc1 oAL oA2 oA1 oT : Obj} {rest : List (Addr × Obj)}
    (N : News h₀ L h ((LP, oLP) :: (am, oam) :: (dx, odx) :: (DD, oD) :: (f2, oF2) :: (c2, oc2) :: (f1, oF1) :: (c1, oc1) :: (AL, oAL) :: (A2, oA2) :: (A1, oA1) :: (113, oT) :: rest)) :
    News h₀ L h ((dx, odx) :: (LP, oLP) :: (AL, oAL) :: (rest ++ [(am, oam), (DD, oD), (f2, oF2), (c2, oc2), (f1, oF1), (c1, oc1), (A2, oA2), (A1, oA1), (113, oT)])) := by
  refine cb_drop N fun p hp => ?_
  rcases List.mem_cons.mp hp with rfl | hp
  · exact .tail _ (.tail _ (.head _))
  rcases List.mem_cons.mp hp with rfl | hp
  · exact .head _
  rcases List.mem_cons.mp hp with rfl | hp
  · exact .tail _ (.tail _ (.tail _ (.tail _ (.tail _ (.tail _ (.tail _ (.tail _ (.head _))))))))
  rcases List.mem_append.mp hp with hp | hp
  · exact .tail _ (.tail _ (.tail _ (.tail _ (.tail _ (.tail _ (.tail _ (.tail _ (.tail _ (.tail _ (.tail _ (.tail _ hp)))))))))))
  · exact .tail _ (sub_cons (fun p hp => .tail _ (sub_cons (sub_cons (sub_cons (sub_cons (sub_cons (fun p hp => .tail _ (sub_cons (sub_cons (sub_cons (fun p hp => absurd hp List.not_mem_nil))) p hp)))))) p hp)) p hp)
def StreamOk (core : List (Addr × Obj)) (FN RF : Addr) : Prop := ∃ D oD oF mD oc od fd sl, (RF, (⟨oc, od, .func fd, sl⟩ : Obj)) ∈ core ∧ (FN, oF) ∈ core ∧ oF.cls = .type "function" ∧ oF.dict = some D ∧ (∀ c, oF.data ≠ .cls c) ∧ (D, oD) ∈ core ∧ NsObj oD mD ∧ mD (Str.ofString "read") = some (.ref RF)
structure MacOk (w : World) (x : Str) (am dx ap AL : Addr) (core : List (Addr × Obj)) (e : MachE) : Prop where
  inst : (am, instObj 90 dx) ∈ core
  ln : ∃ t, e.ln = .int 1 t
  ws : ∃ t, e.ws = .str (Str.ofString "\n\t\r ") t
  st : ∃ FN RF, e.st = .ref FN ∧ StreamOk core FN RF ∧ ReadOk w RF x AL core
  off : ∀ p ∈ core, p.1 ≠ ap ∧ p.1 ≠ dx ∧ p.1 ≠ AL ∧ p.1 ≠ 33
  ne : @Ne Nat ap dx ∧ @Ne Nat ap AL ∧ @Ne Nat dx AL
  tab : ∃ ps, (113, tabObj ps) ∈ core
set_option maxHeartbeats 8000000 in
theorem mac_spec (w : World) (x : Str) (t : Tok) (rest : List (Addr × Obj)) (h113 : ∀ p ∈ rest, p.1 ≠ 113) :
    Ctr w 10 (.ref 118) [.str x t] ((113, tabObj #[]) :: rest) (fun v n' => ∃ am dx ap AL core e k ta, v = .ref am ∧ n' = (dx, machD e ap k) :: (ap, pbOf [] 0) :: (AL, listOf #[.int 0 ta] 0) :: (rest ++ core) ∧ MacOk w x am dx ap AL core e ∧ (∀ p ∈ rest, p.1 < AL) ∧ @LT.lt Nat _ AL dx ∧ @LT.lt Nat _ dx ap ∧ ∀ p ∈ core, ∀ q ∈ rest, @Ne Nat p.1 q.1) := by
  unfold Ctr
  k_fill
  intro p loose mean mg mb dp un gd cn cs a ccd cl outer A₀ base h₀ L m s Q E B F X N T hk hd hu hret
  refine wpAny_call ?_
  k_dflt k_enter
  have C117 := codeHd_of_K (c := 117) (P := 113) X (by kernel_rfl)
  k_steps
  rename_i g1 L1 h1 tk1 FG1 B1 X1 T1 l1 o1 o2 e1 e2 AL hA lA hA2 oAt dAt tkA f1 c1 oc1 vs1 t1 ct1 dc1 h2 tk2 d11 d12 l11 l12 h3 f2 c2 oc2 vs2 t2 ct2 h4 tk4 d21 d22 l21 l22 h5 DD oD h6 tk6 ndD lD am dx h7 F7 N7 lm1 lm2 g2 L2 h8 FG2 B2 X2 T2 tkX h9 h10 h11 LP h12 lp h13 F14 N14 kF1 kN1 Tc1 kX1 kF2 kN2 Tc2 kX2
  refine hideP ?_
  intro Gq hGq
  obtain ⟨e, hln, hst, hws, kN3⟩ := mach_in kN2
  clear FG1 B1 X1 T1 F7 N7 FG2 B2 X2 T2 F14 N14 kF1 kN1 Tc1 kX1 Tc2 kX2 kN2
  have kN4 := mac_ledger kN3
  clear kN3
  refine hGq ?_
  clear hGq Gq
  refine hret _ _ _ _ kF2 kN4 ⟨am, dx, LP, AL, _, e, _, _, rfl, rfl, ⟨List.mem_cons_self, ⟨_, hln⟩, ⟨_, hws⟩, ⟨f2, f1, hst, ?so, ?rd⟩, ?off, ?ne, ?tab⟩, ?lt, ?a, ?b, ?cr⟩
  case so =>
    refine ⟨DD, oD, _, _, _, _, _, _, .tail _ (.tail _ (.tail _ (.tail _ (.head _)))), .tail _ (.tail _ (.head _)), rfl, rfl, ?_, .tail _ (.head _), ndD, if_pos rfl⟩
    intro _ hx
    cases hx
  case cr =>
    intro p hp q hq
    have hq1 : @LT.lt Nat _ q.1 (topA rest) := lt_of_top (Nat.le_refl _) q hq
    have hq2 : @Ne Nat q.1 113 := h113 q hq
    simp only [List.mem_cons, List.not_mem_nil, or_false] at hp
    rcases hp with rfl | rfl | rfl | rfl | rfl | rfl | rfl | rfl | rfl <;> (dsimp only; first | omega | k_ne)
  case tab => exact ⟨_, .tail _ (.tail _ (.tail _ (.tail _ (.tail _ (.tail _ (.tail _ (.tail _ (.head _))))))))⟩
  case a => omega
  case b => omega
  case ne => exact ⟨by omega, by omega, by omega⟩
  case lt => exact lt_of_top (by omega)
  case off =>
    intro p hp
    simp only [List.mem_cons, List.not_mem_nil, or_false] at hp
    rcases hp with rfl | rfl | rfl | rfl | rfl | rfl | rfl | rfl | rfl <;> (dsimp only; refine ⟨?_, ?_, ?_, ?_⟩ <;> k_ne)
  case rd =>
    intro i ti tt k rest' hi hx hcore hne
    have m1 := hcore _ (.tail _ (.tail _ (.tail _ (.tail _ (.head _)))))
    have m2 := hcore _ (.tail _ (.tail _ (.tail _ (.tail _ (.tail _ (.head _))))))
    have m3 := hcore _ (.tail _ (.tail _ (.tail _ (.tail _ (.tail _ (.tail _ (.head _)))))))
    have m4 := hcore _ (.tail _ (.tail _ (.tail _ (.tail _ (.tail _ (.tail _ (.tail _ (.head _))))))))
    clear hcore
    unfold Ctr
    clear hret kF2 kN4 qk ek B F X N T hk hd hu p loose mean mb dp un gd cs a ccd cl outer A₀ base
    intro p loose mean mg' mb dp un gd cn' cs a ccd cl outer A₀ base h₀' L' m' s' Q' E' B F X N T hk hd hu hret
    refine wpAny_call ?_
    k_dflt kn_enter
    k_steps
    have hi2 : ([(i : Int)].getD (Int.toNat 0) 0) = (i : Int) := rfl
    rename_i kF kN Tc kX
    rw [hi2, slice_one x i hi, ext_len x i hi] at kN
    rw [hi2, slice_one x i hi]
    exact hret _ _ _ _ kF kN ⟨_, _, _, rfl, rfl⟩

end
-- part E15
section
theorem words_32 : True := by
  k_with_none
  k_with "k_all" => (first | assumption | exact ne_of_top (by omega))
  k_with "kd_mem" => (first | exact Pick.head | (apply Pick.tail; kd_mem))
  k_with "UnrEnd" => ((k_dflt (refine' unrEnd_pick (by k_asm) (by k_asm) (by kd_mem) (by k_all) ?_; k_whole)))
  k_with "exec For Name Name cons nil" => ((k_here; (with_unfolding_all refine' For_invVF (by k_asm) (by exact rfl) (by exact rfl) ?_; k_whole)))
  k_with "pyIter ref" => ((((with_reducible show wpAny _ _ (pyIter (Value.ref _)) (fun it s₂ => LoopAtV _ _ _ _ _ _ _ _ _ it s₂) _ _); k_dflt (refine' iter_listUnr (by exact rfl) (by k_asm) (by k_asm) (by k_mem) (by exact rfl) (by exact rfl) ?_; k_whole); intro _ zql1'; (try k_lt zql1')); (try (revert zql1'; intro _))))
  k_with "m1" => ((refine' code_def (by k_asm) (by k_asm) (by k_asm) (by k_asm) (by k_asm) (by exact rfl) (by exact rfl) (by first | exact rfl | assumption) (by k_is) (by k_is) (by first | k_room | ktr_room) (by first | exact BindsTo.of_eq rfl | exact binds_K (by k_in) rfl (by k_is) rfl rfl rfl | fail "k_enter: no rule for these arguments") (by exact locs rfl) ?_ (by exact rfl) (by exact rfl) (by exact rfl) (by decide)))
  k_with "m2" => ((refine' code_defC (by k_asm) (by k_asm) (by k_asm) (by k_asm) (by k_asm) (by exact rfl) (by exact rfl) (by first | exact rfl | assumption) (by k_is) (by k_is) (by first | k_room | ktr_room) (by first | exact BindsTo.of_eq rfl | exact binds_K (by k_in) rfl (by k_is) rfl rfl rfl | fail "k_enter: no rule for these arguments") (by exact rfl) (by decide +kernel) ?_ (by exact rfl) (by exact rfl) (by exact rfl)))
  k_with "call builtin:str.find" => (((with_reducible show wpAny _ _ (call (Value.builtin "str.find") [Value.str _ _, Value.str _ _, Value.int _ _, Value.int _ _]) _ _ _); k_dflt (refine find4_call ?_)))
  k_with "call builtin:len" => (((with_reducible show wpAny _ _ (call (Value.builtin "len") [Value.str (PySem.Str.mk _) _]) _ _ _); k_dflt (refine SBL.len (by first | decide | (simp only [PySem.Str.length, List.size_toArray, List.length_cons, List.length_nil]; omega)) ?_); (try dsimp only)))
  k_with "UnrEnd" => ((k_dflt (refine' unrEnd_pickL (by k_asm) (by k_asm) (by kd_mem) (by k_all) (by k_mem) ?_; k_whole)))
  k_with "kcj_m" => ((intro _ zqhp; repeat (first | exact zqhp | apply List.Mem.tail)))
  k_with "k_mem" => (((show @Membership.mem (PySem.Addr × PySem.Obj) (List (PySem.Addr × PySem.Obj)) List.instMembership _ _); with_reducible assumption))
  k_with "kn_code" => (first | exact codeHd_of_K (c := 37) (P := 33) (by k_asm) (by kernel_rfl) | exact codeHd_of_K (c := 117) (P := 113) (by k_asm) (by kernel_rfl))
  k_with "is_list" => (exact News.isList (by k_asm) (by k_mem))
  k_with "k_room" => (ktr_room)
  k_with "Kq" => ((k_dflt (refine' Kq.of (by with_reducible assumption) ?_)))
  k_with "truthy ref" => ((k_here; (with_reducible show wpAny _ _ (truthy (Value.ref _)) _ _ _); (with_unfolding_all refine' wpAny_truthy_list (items := _) (by is_list) (by (simp only [List.size_toArray, List.length_cons, List.length_nil]; omega)) ?_; k_whole; (try simp only [List.isEmpty_toArray, List.isEmpty_cons, List.isEmpty_nil, Array.isEmpty_push, Bool.not_false, Bool.not_true]))))
  k_with "call builtin:list.pop" => (((k_here; (with_reducible show wpAny _ _ (call (Value.builtin _) [Value.ref _, Value.int 0 _]) _ _ _); k_dflt (refine' popU (by k_asm) (by k_asm) (by k_upd) (by rfl) (by (simp only [List.size_toArray, List.length_cons]; exact seqIndex_zero _)) (by rfl) (by (rw [sizeLine_eq]; simp only [List.length_cons]; omega)) ?_); intro _ _ zqN'; (try dsimp only [List.nil_append, List.cons_append] at zqN')); (try (revert zqN'; intro _))))
  k_with "call builtin:list.append" => ((k_here; (with_reducible show wpAny _ _ (call (Value.builtin _) [Value.ref _, _]) _ _ _); k_dflt (refine' append_K (by k_asm) (by k_asm) (by k_upd) ?_ (by (rw [sizeLine_eq]; simp only [List.size_toArray]; omega)); k_whole); intro _ _ _; (try k_sweep)))
  k_with "eval ListComp" => ((k_here; lcg_look; k_dflt (refine evalU (F₀ := by k_asm) (by with_unfolding_all rfl) (by decide) (by rfl) (by decide) (by rfl) ?_)))
  k_with "eval ListComp" => ((k_here; lct_look; k_dflt (refine evalT (F₀ := by k_asm) (by with_unfolding_all rfl) (by decide) (by rfl) (by decide) (by rfl) ?_)))
  k_with "exec Assign cons ListComp" => ((k_here; lcg_look; k_dflt (refine assignU (F₀ := by k_asm) (by rfl) (by with_unfolding_all rfl) (by with_unfolding_all rfl) (by decide) (by rfl) (by decide) (by rfl) (by rfl) (by rfl) ?_)))
  k_with "exec Assign cons ListComp" => ((k_here; lct_look; k_dflt (refine assignT (F₀ := by k_asm) (by rfl) (by with_unfolding_all rfl) (by with_unfolding_all rfl) (by decide) (by rfl) (by decide) (by rfl) (by rfl) (by rfl) ?_)))
  k_with "CompEnd" => ((k_dflt (refine' compEnd_of (by k_asm) (by k_asm) (by with_reducible assumption) (by kcj_m) (by with_reducible assumption) ?_; k_whole)))
  k_with "call builtin:len" => ((k_here; (with_reducible show wpAny _ _ (call (Value.builtin "len") [Value.ref _]) _ _ _); k_dflt (refine' kun_lenL (by exact News.isList (by k_asm) (by k_mem)) (by with_reducible assumption) (by omega) ?_; k_whole)))
  exact True.intro
theorem top_off_E15 : True := by
  w_top off
  exact True.intro
open PyProof.Rows.LCg (NsObj lst Off3 Off1 CompEnd CompRest FinE FinA SrcAt)
theorem words_33 : True := by
  k_with "k_ne" => (first | (with_reducible assumption) | (with_reducible exact Ne.symm (by assumption)) | ((try dsimp only); (repeat ((rename (@Ne Nat _ _) => zqhz'); clear zqhz')); omega))
  exact True.intro
theorem ReadOk.use {w : World} {RF : Addr} {x : Str} {AL : Addr} {core rest : List (Addr × Obj)} (h : ReadOk w RF x AL core) {i : Nat} {ti t1 : Tok} {k : Nat} (hi : i ≤ x.length) (hx : x.length < 100) (hc : Sub core rest) (hn : ∀ p ∈ rest, p.1 ≠ AL) :
    Ctr w 3 (.ref RF) [.int 1 t1] ((AL, listOf #[.int (i : Int) ti] k) :: rest) (fun v n' => ∃ t2 t3 k', v = .str ⟨x.cps.extract i (i + 1)⟩ t2 ∧ n' = (AL, listOf #[.int ((min (i + 1) x.length : Nat) : Int) t3] k') :: rest) := h i ti t1 k rest hi hx hc.h hn
def CtrC (w : World) (n : Nat) (fv : Value) (args : List Value) (news : List (Addr × Obj)) (Out : Value → List (Addr × Obj) → Prop) : Prop :=
  ∀ (p : Program) (loose : List Str) (mean : ExcName → Option Value) (mg mb : Str → Option Value)
    (dp un : Nat) (gd : Option (List Code)) (cn : Str) (cs : Scope) (a : Addr) (ccd : Value) (cl : List (Str × Addr)) (outer : List Env) (A₀ : Around) (base h₀ : Heap) (L : Addr)
    (m : Str → Option Value) (s : Shared) (Q E : Value → Shared → Prop),
    Below A₀ base outer h₀ → Fr h₀ L s.heap m → (hd.heap_39 w.params).In h₀ → News h₀ L s.heap news → Top p loose mean mg mb h₀ → cs.kind = .function → dp + n < recursionLimit → un + 8 * n < cLine →
    (∀ (v : Value) (news' : List (Addr × Obj)) (h' : Heap) (tk' : Nat), Fr h₀ L h' m → News h₀ L h' news' → Out v news' → Q v { s with heap := h', toks := tk' }) →
    codeAny (model PySem.Challenge.rw_sh0017_01.prog w) (ktrTop dp un gd cn cs L a ccd cl outer) (.call fv ⟨args, []⟩) (fun r s' => match r with | .ok (.ret v) => Q v s' | .ok _ => False | .error e => E e s') s
theorem words_34 : True := by
  k_with "getMethod ref" => ((k_here; k_dflt (show wpAny _ _ (getMethod (Value.ref _) (PySem.Str.ofString "read") _) _ _ _); k_dflt (refine' get_fn (by exact news_get (by k_asm) (by k_mem)) (by with_reducible assumption) (by with_reducible assumption) (by with_reducible assumption) (by exact news_get (by k_asm) (by k_mem)) (by with_reducible assumption) (by with_reducible assumption) ?_)))
  exact True.intro
theorem read_go {w : World} {p : Program} {loose : List Str} {mean : ExcName → Option Value} {mg mb : Str → Option Value} {dp un : Nat} {gd : Option (List Code)} {cn : Str} {cs : Scope} {a : Addr} {ccd : Value} {cl : List (Str × Addr)} {outer : List Env} {A₀ : Around} {base h₀ : Heap} {L : Addr} {m : Str → Option Value} {s : Shared} {Q E : Value → Shared → Prop} {led : List (Addr × Obj)}
    {RF : Addr} {x : Str} {AL : Addr} {core rest : List (Addr × Obj)} {i : Nat} {ti t1 : Tok} {k : Nat} (hR : ReadOk w RF x AL core) (B : Below A₀ base outer h₀) (F : Fr h₀ L s.heap m) (X : (hd.heap_39 w.params).In h₀) (N : News h₀ L s.heap led) (T : Top p loose mean mg mb h₀) (hk : cs.kind = .function) (hd : dp + 3 < recursionLimit) (hu : un + 8 * 3 < cLine) (pk : Pick (AL, listOf #[.int (i : Int) ti] k) led rest) (hi : i ≤ x.length) (hx : x.length < 100) (hc : Sub core rest) (hn : ∀ p ∈ rest, p.1 ≠ AL)
    (ret : ∀ h' tk', Fr h₀ L h' m → ∀ t2 t3 k', News h₀ L h' ((AL, listOf #[.int ((min (i + 1) x.length : Nat) : Int) t3] k') :: rest) → Q (.str ⟨x.cps.extract i (i + 1)⟩ t2) { s with heap := h', toks := tk' }) : wpAny (model PySem.Challenge.rw_sh0017_01.prog w) (ktrTop dp un gd cn cs L a ccd cl outer) (call (.ref RF) [.int 1 t1]) Q E s :=
  Ctr.use (ReadOk.use hR hi hx hc hn) B F X (News.pick N pk) T hk hd hu fun _ _ h' tk' F' N' o => by
    obtain ⟨t2, t3, k2, e1, e2⟩ := o; subst e1; subst e2; exact ret h' tk' F' t2 t3 k2 N'
theorem words_35 : True := by
  k_with "call ref" => (((k_dflt (refine' read_go (by with_reducible assumption) (by k_asm) (by k_asm) (by k_asm) (by k_asm) (by k_asm) (by first | exact rfl | assumption) (by ktr_room) (by ktr_units) (by kd_mem) (by with_reducible assumption) (by with_reducible assumption) (by repeat (first | with_reducible assumption | apply Sub.cons)) (by repeat (first | with_reducible assumption | refine ne_cons (by k_ne) ?_)) ?_)); intro _ _ _ _ _ _ _; (try dsimp only); (try k_sweep)))
  k_with "callWith ref" => ((k_here; k_dflt (refine' callWith_F (by exact FnAt.of (by k_asm) (by k_mem)) ?_; k_whole)))
  exact True.intro
theorem put_ln {hh h1 : Int} {kk v old : Value} {t1 : Tok} {r : List DictEntry} {n : Nat} :
    (putL (Str.ofString "lineno") hh kk v (⟨h1, .str (Str.ofString "lineno") t1, old⟩ :: r), putN (Str.ofString "lineno") (⟨h1, .str (Str.ofString "lineno") t1, old⟩ :: r) n) = (⟨h1, .str (Str.ofString "lineno") t1, v⟩ :: r, n) := by
  have e : (Value.str (Str.ofString "lineno") t1).isStr (Str.ofString "lineno") = true := by simp [Value.isStr]
  unfold putN
  simp only [putL, e, if_true, List.any_cons, Bool.true_or]
theorem words_36 : True := by
  k_with "setAttr ref" => ((k_here; k_dflt ((refine' set_dict (by k_asm) (by k_asm) (by k_asm) (by k_inst) (by exact rfl) (by k_is) (by k_is) (by k_is) (by k_is) (by k_get) (by exact put_ln) (by k_upd) (by exact Nat.le_of_ble_eq_true rfl) ?_); k_whole; intro _ _ _; (try k_sweep))))
  exact True.intro
theorem rc_fold {h₀ h : Heap} {L AL dx ap : Addr} {o : Obj} {h1 h2 h3 h4 : Int} {t1 t2 t3 t4 : Tok} {ln st ws : Value} {k : Nat} {r : List (Addr × Obj)}
    (N : News h₀ L h ((AL, o) :: (dx, dictOf [⟨h1, .str (Str.ofString "lineno") t1, ln⟩, ⟨h2, .str (Str.ofString "instream") t2, st⟩, ⟨h3, .str (Str.ofString "whitespace") t3, ws⟩, ⟨h4, .str (Str.ofString "pushback") t4, .ref ap⟩] k) :: r)) :
    ∃ e : MachE, e.ln = ln ∧ e.st = st ∧ e.ws = ws ∧ News h₀ L h ((dx, machD e ap k) :: (AL, o) :: r) :=
  ⟨⟨h1, t1, ln, h2, t2, st, h3, t3, ws, h4, t4⟩, rfl, rfl, rfl, by rw [machD_eq]; exact cb_drop N (sub_swap sub_rfl)⟩
theorem nl_is : Str.ofString "\n" = ⟨#[10]⟩ := by decide +kernel
theorem nl_iff {a : Array Nat} : (((⟨a⟩ : Str) == Str.ofString "\n") = true) = (a = #[10]) := by
  rw [nl_is]; simp
set_option maxHeartbeats 8000000 in
theorem rc_spec (w : World) (x : Str) (am dx ap AL : Addr) (core : List (Addr × Obj)) (e : MachE) (k ka i : Nat) (ln : Int) (tl ti : Tok) (rest : List (Addr × Obj)) (hln : e.ln = .int ln tl) (hl0 : 0 ≤ ln ∧ ln < 100) (FN RF : Addr) (hst : e.st = .ref FN)
    (hin : (am, instObj 90 dx) ∈ rest) (hS : StreamOk core FN RF) (hR : ReadOk w RF x AL core) (hsub : Sub core rest) (hi : i ≤ x.length) (hx : x.length < 100) (hd0 : ∀ p ∈ rest, p.1 ≠ dx) (hA0 : ∀ p ∈ rest, p.1 ≠ AL) (hdA : @Ne Nat dx AL) :
    CtrC w 5 (.ref 73) [.ref am] ((dx, machD e ap k) :: (AL, listOf #[.int (i : Int) ti] ka) :: rest) (fun v n' => ∃ t e' k' t3 ka', v = .str ⟨x.cps.extract i (i + 1)⟩ t ∧ n' = (dx, machD e' ap k') :: (AL, listOf #[.int ((min (i + 1) x.length : Nat) : Int) t3] ka') :: rest ∧
      (∃ t', e'.ln = .int (ln + if x.cps.extract i (i + 1) = #[10] then 1 else 0) t') ∧ e'.st = e.st ∧ e'.ws = e.ws) := by
  unfold CtrC
  k_fill
  intro p loose mean mg mb dp un gd cn cs a ccd cl outer A₀ base h₀ L m s Q E B F X N T hk hd hu hret
  refine hideP ?_
  intro Gq hGq
  obtain ⟨D, oD, oF, mD, oc, od, fd, sl, s0, s1, s2, s3, s4, s5, s6, s7⟩ := hS
  replace s0 := hsub.h _ s0
  replace s1 := hsub.h _ s1
  replace s5 := hsub.h _ s5
  rw [machD_eq, hln, hst] at N
  refine hGq ?_
  clear hGq Gq
  k_dflt k_enter
  k_steps
  · rename_i kF kN Tc kX
    rename (_ == Str.ofString "\n") = true => hnl
    refine hideP ?_
    intro Gq hGq
    rw [nl_iff] at hnl
    obtain ⟨e', a1, a2, a3, N3⟩ := rc_fold kN
    refine hGq ?_
    clear hGq Gq
    exact hret _ _ _ _ kF N3 ⟨_, e', _, _, _, rfl, rfl, ⟨_, by rw [a1, if_pos hnl]⟩, by rw [a2, hst], a3⟩
  · rename_i kF kN Tc kX
    rename (_ == Str.ofString "\n") = false => hnl
    refine hideP ?_
    intro Gq hGq
    rw [Bool.eq_false_iff, ne_eq, nl_iff] at hnl
    obtain ⟨e', a1, a2, a3, N3⟩ := rc_fold kN
    refine hGq ?_
    clear hGq Gq
    exact hret _ _ _ _ kF N3 ⟨_, e', _, _, _, rfl, rfl, ⟨_, by rw [a1, if_neg hnl, Int.add_zero]⟩, by rw [a2, hst], a3⟩

end
-- part E16
section
theorem words_37 : True := by
  k_with_none
  k_with "k_all" => (first | assumption | exact ne_of_top (by omega))
  k_with "kd_mem" => (first | exact Pick.head | (apply Pick.tail; kd_mem))
  k_with "UnrEnd" => ((k_dflt (refine' unrEnd_pick (by k_asm) (by k_asm) (by kd_mem) (by k_all) ?_; k_whole)))
  k_with "exec For Name Name cons nil" => ((k_here; (with_unfolding_all refine' For_invVF (by k_asm) (by exact rfl) (by exact rfl) ?_; k_whole)))
  k_with "pyIter ref" => ((((with_reducible show wpAny _ _ (pyIter (Value.ref _)) (fun it s₂ => LoopAtV _ _ _ _ _ _ _ _ _ it s₂) _ _); k_dflt (refine' iter_listUnr (by exact rfl) (by k_asm) (by k_asm) (by k_mem) (by exact rfl) (by exact rfl) ?_; k_whole); intro _ zql1'; (try k_lt zql1')); (try (revert zql1'; intro _))))
  k_with "m1" => ((refine' code_def (by k_asm) (by k_asm) (by k_asm) (by k_asm) (by k_asm) (by exact rfl) (by exact rfl) (by first | exact rfl | assumption) (by k_is) (by k_is) (by first | k_room | ktr_room) (by first | exact BindsTo.of_eq rfl | exact binds_K (by k_in) rfl (by k_is) rfl rfl rfl | fail "k_enter: no rule for these arguments") (by exact locs rfl) ?_ (by exact rfl) (by exact rfl) (by exact rfl) (by decide)))
  k_with "m2" => ((refine' code_defC (by k_asm) (by k_asm) (by k_asm) (by k_asm) (by k_asm) (by exact rfl) (by exact rfl) (by first | exact rfl | assumption) (by k_is) (by k_is) (by first | k_room | ktr_room) (by first | exact BindsTo.of_eq rfl | exact binds_K (by k_in) rfl (by k_is) rfl rfl rfl | fail "k_enter: no rule for these arguments") (by exact rfl) (by decide +kernel) ?_ (by exact rfl) (by exact rfl) (by exact rfl)))
  k_with "call builtin:str.find" => (((with_reducible show wpAny _ _ (call (Value.builtin "str.find") [Value.str _ _, Value.str _ _, Value.int _ _, Value.int _ _]) _ _ _); k_dflt (refine find4_call ?_)))
  k_with "call builtin:len" => (((with_reducible show wpAny _ _ (call (Value.builtin "len") [Value.str (PySem.Str.mk _) _]) _ _ _); k_dflt (refine SBL.len (by first | decide | (simp only [PySem.Str.length, List.size_toArray, List.length_cons, List.length_nil]; omega)) ?_); (try dsimp only)))
  k_with "UnrEnd" => ((k_dflt (refine' unrEnd_pickL (by k_asm) (by k_asm) (by kd_mem) (by k_all) (by k_mem) ?_; k_whole)))
  k_with "kcj_m" => ((intro _ zqhp; repeat (first | exact zqhp | apply List.Mem.tail)))
  k_with "k_mem" => (((show @Membership.mem (PySem.Addr × PySem.Obj) (List (PySem.Addr × PySem.Obj)) List.instMembership _ _); with_reducible assumption))
  k_with "kn_code" => (first | exact codeHd_of_K (c := 37) (P := 33) (by k_asm) (by kernel_rfl) | exact codeHd_of_K (c := 117) (P := 113) (by k_asm) (by kernel_rfl))
  k_with "is_list" => (exact News.isList (by k_asm) (by k_mem))
  k_with "k_room" => (ktr_room)
  k_with "Kq" => ((k_dflt (refine' Kq.of (by with_reducible assumption) ?_)))
  k_with "truthy ref" => ((k_here; (with_reducible show wpAny _ _ (truthy (Value.ref _)) _ _ _); (with_unfolding_all refine' wpAny_truthy_list (items := _) (by is_list) (by (simp only [List.size_toArray, List.length_cons, List.length_nil]; omega)) ?_; k_whole; (try simp only [List.isEmpty_toArray, List.isEmpty_cons, List.isEmpty_nil, Array.isEmpty_push, Bool.not_false, Bool.not_true]))))
  k_with "call builtin:list.pop" => (((k_here; (with_reducible show wpAny _ _ (call (Value.builtin _) [Value.ref _, Value.int 0 _]) _ _ _); k_dflt (refine' popU (by k_asm) (by k_asm) (by k_upd) (by rfl) (by (simp only [List.size_toArray, List.length_cons]; exact seqIndex_zero _)) (by rfl) (by (rw [sizeLine_eq]; simp only [List.length_cons]; omega)) ?_); intro _ _ zqN'; (try dsimp only [List.nil_append, List.cons_append] at zqN')); (try (revert zqN'; intro _))))
  k_with "call builtin:list.append" => ((k_here; (with_reducible show wpAny _ _ (call (Value.builtin _) [Value.ref _, _]) _ _ _); k_dflt (refine' append_K (by k_asm) (by k_asm) (by k_upd) ?_ (by (rw [sizeLine_eq]; simp only [List.size_toArray]; omega)); k_whole); intro _ _ _; (try k_sweep)))
  k_with "eval ListComp" => ((k_here; lcg_look; k_dflt (refine evalU (F₀ := by k_asm) (by with_unfolding_all rfl) (by decide) (by rfl) (by decide) (by rfl) ?_)))
  k_with "eval ListComp" => ((k_here; lct_look; k_dflt (refine evalT (F₀ := by k_asm) (by with_unfolding_all rfl) (by decide) (by rfl) (by decide) (by rfl) ?_)))
  k_with "exec Assign cons ListComp" => ((k_here; lcg_look; k_dflt (refine assignU (F₀ := by k_asm) (by rfl) (by with_unfolding_all rfl) (by with_unfolding_all rfl) (by decide) (by rfl) (by decide) (by rfl) (by rfl) (by rfl) ?_)))
  k_with "exec Assign cons ListComp" => ((k_here; lct_look; k_dflt (refine assignT (F₀ := by k_asm) (by rfl) (by with_unfolding_all rfl) (by with_unfolding_all rfl) (by decide) (by rfl) (by decide) (by rfl) (by rfl) (by rfl) ?_)))
  k_with "CompEnd" => ((k_dflt (refine' compEnd_of (by k_asm) (by k_asm) (by with_reducible assumption) (by kcj_m) (by with_reducible assumption) ?_; k_whole)))
  k_with "call builtin:len" => ((k_here; (with_reducible show wpAny _ _ (call (Value.builtin "len") [Value.ref _]) _ _ _); k_dflt (refine' kun_lenL (by exact News.isList (by k_asm) (by k_mem)) (by with_reducible assumption) (by omega) ?_; k_whole)))
  exact True.intro
theorem top_off_E16 : True := by
  w_top off
  exact True.intro
open PyProof.Rows.LCg (NsObj lst Off3 Off1 CompEnd CompRest FinE FinA SrcAt)
theorem words_38 : True := by
  k_with "kcj_m" => ((with_reducible ((repeat (refine sub_step ?_ ?_; (· (repeat (first | exact List.mem_cons_self | apply List.mem_cons_of_mem))))); (intro _ zqhp; (repeat (first | exact zqhp | apply List.mem_cons_of_mem)); done))))
  k_with "k_ne" => (first | (with_reducible assumption) | (with_reducible exact Ne.symm (by assumption)) | ((try dsimp only); (repeat ((rename (@Ne Nat _ _) => zqhz'); clear zqhz')); omega))
  k_with "NextT" => ((refine halt ?_))
  k_with "call builtin:iter" => (((k_here; k_dflt (refine' iter2_call (by k_asm) (by k_asm) (by k_mem) ?_); intro _ _ zql1' _ _; k_lt zql1'; (try k_sweep)); (try (revert zql1'; intro _))))
  k_with "exec For Name Name cons nil" => ((refine halt ?_))
  k_with "call ref" => (((k_dflt (show wpAny _ _ (call (Value.ref 73) [Value.ref _] []) _ _ _)); refine halt ?_))
  exact True.intro
theorem CtrC.use {w : World} {n : Nat} {fv : Value} {args : List Value} {news : List (Addr × Obj)} {Out : Value → List (Addr × Obj) → Prop} (C : CtrC w n fv args news Out)
    {p : Program} {loose : List Str} {mean : ExcName → Option Value} {mg mb : Str → Option Value}
    {dp un : Nat} {gd : Option (List Code)} {cn : Str} {cs : Scope} {a : Addr} {ccd : Value} {cl : List (Str × Addr)} {outer : List Env} {A₀ : Around} {base h₀ : Heap} {L : Addr}
    {m : Str → Option Value} {s : Shared} {R : Result → Shared → Prop}
    (B : Below A₀ base outer h₀) (F : Fr h₀ L s.heap m) (X : (hd.heap_39 w.params).In h₀) (N : News h₀ L s.heap news) (T : Top p loose mean mg mb h₀) (hk : cs.kind = .function) (hd : dp + n < recursionLimit) (hu : un + 8 * n < cLine)
    (ret : ∀ (v : Value) (news' : List (Addr × Obj)) (h' : Heap) (tk' : Nat), Fr h₀ L h' m → News h₀ L h' news' → Out v news' → R (.ok (.ret v)) { s with heap := h', toks := tk' }) :
    codeAny (model PySem.Challenge.rw_sh0017_01.prog w) (ktrTop dp un gd cn cs L a ccd cl outer) (.call fv ⟨args, []⟩) R s := by
  refine codeAny_mono (C p loose mean mg mb dp un gd cn cs a ccd cl outer A₀ base h₀ L m s (fun v s' => R (.ok (.ret v)) s') (fun _ _ => False) B F X N T hk hd hu ret) fun r s' hr => ?_
  cases r with
  | error e => exact hr.elim
  | ok fl => cases fl <;> first | exact hr | exact hr.elim
theorem rc_go {w : World} {x : Str} {am dx ap AL : Addr} {core : List (Addr × Obj)} {e : MachE} {k ka i : Nat} {ln : Int} {tl ti : Tok} {rest : List (Addr × Obj)} {FN RF : Addr}
    {p : Program} {loose : List Str} {mean : ExcName → Option Value} {mg mb : Str → Option Value} {dp un : Nat} {gd : Option (List Code)} {cn : Str} {cs : Scope} {a : Addr} {ccd : Value} {cl : List (Str × Addr)} {outer : List Env} {A₀ : Around} {base h₀ : Heap} {L : Addr} {m : Str → Option Value} {s : Shared} {R : Result → Shared → Prop}
    (hln : e.ln = .int ln tl) (hl0 : 0 ≤ ln ∧ ln < 100) (hst : e.st = .ref FN) (hin : (am, instObj 90 dx) ∈ rest) (hS : StreamOk core FN RF) (hR : ReadOk w RF x AL core) (hsub : Sub core rest) (hi : i ≤ x.length) (hx : x.length < 100) (hd0 : ∀ p ∈ rest, p.1 ≠ dx) (hA0 : ∀ p ∈ rest, p.1 ≠ AL) (hdA : @Ne Nat dx AL)
    (B : Below A₀ base outer h₀) (F : Fr h₀ L s.heap m) (X : (hd.heap_39 w.params).In h₀) (N : News h₀ L s.heap ((dx, machD e ap k) :: (AL, listOf #[.int (i : Int) ti] ka) :: rest)) (T : Top p loose mean mg mb h₀) (hk : cs.kind = .function) (hd : dp + 5 < recursionLimit) (hu : un + 8 * 5 < cLine)
    (ret : ∀ (h' : Heap) (tk' : Nat), Fr h₀ L h' m → ∀ t e' k' t3 ka' t', News h₀ L h' ((dx, machD e' ap k') :: (AL, listOf #[.int ((min (i + 1) x.length : Nat) : Int) t3] ka') :: rest) → e'.ln = .int (ln + if x.cps.extract i (i + 1) = #[10] then 1 else 0) t' → e'.st = e.st → e'.ws = e.ws → R (.ok (.ret (.str ⟨x.cps.extract i (i + 1)⟩ t))) { s with heap := h', toks := tk' }) :
    codeAny (model PySem.Challenge.rw_sh0017_01.prog w) (ktrTop dp un gd cn cs L a ccd cl outer) (.call (.ref 73) ⟨[.ref am], []⟩) R s :=
  CtrC.use (rc_spec w x am dx ap AL core e k ka i ln tl ti rest hln hl0 FN RF hst hin hS hR hsub hi hx hd0 hA0 hdA) B F X N T hk hd hu fun _ _ h' tk' F' N' o => by
    refine hideP ?_
    intro Gq hGq
    obtain ⟨t, e1, k1, t3, ka1, q1, q2, ⟨t', q3⟩, q4, q5⟩ := o
    refine hGq ?_
    clear hGq Gq
    subst q1
    subst q2
    exact ret h' tk' F' t e1 k1 t3 ka1 t' N' q3 q4 q5
theorem fn_in {K : Frag} {f : Addr} (h : fnIn K f = true) : ∃ of, K.lookup f = some of ∧ ∃ fd, of.data = .func fd := by
  unfold fnIn at h
  split at h
  · rename_i e; exact ⟨_, e, _, rfl⟩
  · cases h
theorem ext1 {a : Array Nat} {j : Nat} (h : j < a.size) : a.extract j (j + 1) = #[a.getD j 0] := by
  apply Array.ext
  · simp; omega
  · intro k h1 h2
    have : k = 0 := by simp at h2; omega
    subst this
    simp [h]
theorem ext_snoc {a : Array Nat} {i j : Nat} (h : i + j < a.size) : ((⟨a.extract i (i + j)⟩ : Str) ++ ⟨a.extract (i + j) (i + j + 1)⟩ : Str) = ⟨a.extract i (i + (j + 1))⟩ := by
  show (⟨a.extract i (i + j) ++ a.extract (i + j) (i + j + 1)⟩ : Str) = _
  rw [Array.extract_append_extract]
  congr 2 <;> omega
theorem no_q {c : Nat} (h : c = 46 ∨ (97 ≤ c ∧ c ≤ 102)) : ((⟨#[c]⟩ : Str) == Str.ofString "\"") = false := by
  have h6 : c = 46 ∨ c = 97 ∨ c = 98 ∨ c = 99 ∨ c = 100 ∨ c = 101 ∨ c = 102 := by omega
  rcases h6 with rfl | rfl | rfl | rfl | rfl | rfl | rfl <;> decide +kernel
theorem no_b {c : Nat} (h : c = 46 ∨ (97 ≤ c ∧ c ≤ 102)) : ((⟨#[c]⟩ : Str) == Str.ofString "\\") = false := by
  have h6 : c = 46 ∨ c = 97 ∨ c = 98 ∨ c = 99 ∨ c = 100 ∨ c = 101 ∨ c = 102 := by omega
  rcases h6 with rfl | rfl | rfl | rfl | rfl | rfl | rfl <;> decide +kernel
theorem no_ws {c : Nat} (h : c = 46 ∨ (97 ≤ c ∧ c ≤ 102)) : (Builtin.Str.occurrences (Str.ofString "\n\t\r ") ⟨#[c]⟩ 0 (Str.ofString "\n\t\r ").length 1).isEmpty = true := by
  have h6 : c = 46 ∨ c = 97 ∨ c = 98 ∨ c = 99 ∨ c = 100 ∨ c = 101 ∨ c = 102 := by omega
  rcases h6 with rfl | rfl | rfl | rfl | rfl | rfl | rfl <;> decide +kernel
theorem is_ws {c : Nat} (h : c = 10 ∨ c = 9 ∨ c = 13 ∨ c = 32) : (Builtin.Str.occurrences (Str.ofString "\n\t\r ") ⟨#[c]⟩ 0 (Str.ofString "\n\t\r ").length 1).isEmpty = false := by
  rcases h with rfl | rfl | rfl | rfl <;> decide +kernel
theorem empty_is : Str.ofString "" = ⟨#[]⟩ := by decide +kernel
theorem rc_dict {e1 e : MachE} {FN ap : Addr} {ws : Value} {k : Nat} (h1 : e1.st = e.st) (h2 : e.st = .ref FN) (h3 : e1.ws = e.ws) (h4 : e.ws = ws) :
    dictOf [⟨e1.h1, .str (Str.ofString "lineno") e1.t1, e1.ln⟩, ⟨e1.h2, .str (Str.ofString "instream") e1.t2, .ref FN⟩, ⟨e1.h3, .str (Str.ofString "whitespace") e1.t3, ws⟩, ⟨e1.h4, .str (Str.ofString "pushback") e1.t4, .ref ap⟩] k = machD e1 ap k := by
  rw [machD_eq, h1, h2, h3, h4]
set_option maxHeartbeats 8000000 in
theorem tokr_spec (w : World) (x : Str) (am dx ap AL : Addr) (core : List (Addr × Obj)) (e : MachE) (k kp ka i n : Nat) (ln : Int) (tl ti : Tok) (rest : List (Addr × Obj)) (hln : e.ln = .int ln tl) (hl0 : 0 ≤ ln ∧ ln < 90) (FN RF : Addr) (hst : e.st = .ref FN) (tw : Tok) (hws : e.ws = .str (Str.ofString "\n\t\r ") tw)
    (hin : (am, instObj 90 dx) ∈ rest) (hS : StreamOk core FN RF) (hR : ReadOk w RF x AL core) (hsub : Sub core rest) (hx : x.length < 100) (hd0 : ∀ p ∈ rest, p.1 ≠ dx) (hA0 : ∀ p ∈ rest, p.1 ≠ AL) (hp0 : ∀ p ∈ rest, p.1 ≠ ap) (hdA : @Ne Nat dx AL) (hdp : @Ne Nat dx ap) (hpA : @Ne Nat ap AL)
    (hn : 1 ≤ n) (hin2 : i + n < x.length) (hch : ∀ j, j < n → x.cps.getD (i + j) 0 = 46 ∨ (97 ≤ x.cps.getD (i + j) 0 ∧ x.cps.getD (i + j) 0 ≤ 102)) (hsp : x.cps.getD (i + n) 0 = 10 ∨ x.cps.getD (i + n) 0 = 9 ∨ x.cps.getD (i + n) 0 = 13 ∨ x.cps.getD (i + n) 0 = 32) :
    Ctr w 8 (.ref 80) [.ref am] ((dx, machD e ap k) :: (ap, pbOf [] kp) :: (AL, listOf #[.int (i : Int) ti] ka) :: rest) (fun v n' => ∃ t e' k' t3 ka', v = .str ⟨x.cps.extract i (i + n)⟩ t ∧ n' = (dx, machD e' ap k') :: (ap, pbOf [] kp) :: (AL, listOf #[.int ((i + n + 1 : Nat) : Int) t3] ka') :: rest ∧ (∃ t', e'.ln = .int (ln + if x.cps.getD (i + n) 0 = 10 then 1 else 0) t') ∧ e'.st = e.st ∧ e'.ws = e.ws) := by
  unfold Ctr
  k_fill
  intro p loose mean mg mb dp un gd cn cs a ccd cl outer A₀ base h₀ L m s Q E B F X N T hk hd hu hret
  rw [machD_eq, pbOf_eq] at N
  refine wpAny_call ?_
  k_dflt k_enter
  k_steps
  rename_i g6 L6 h6 FG6 B6 X6 T6 tka tkb h61 q6 h62 lq6 I6 h63 lI6 h64 F6 N6
  rw [← machD_eq, ← pbOf_eq [] kp] at N6
  obtain ⟨of, hof, hfd⟩ := fn_in (K := Mine.hd.heap_39 w.params) (f := 73) (by rfl)
  have hfg : ∀ h m, Fr g6 L6 h m → h.get? 73 = some of := fun h m F => F.keep _ _ (X6 73 of hof)
  refine ⟨?_⟩
  refine forCI_once (self := .ref am) (f := 73) (of := of) (by rfl) (by k_asm) (by rfl) N6 hfd ?iter ?ne ?turn (by rfl) (by rfl) (by intro _; rfl) (by passes_own)
  case iter => k_steps
  case ne => repeat (first | with_reducible assumption | exact ne_of_top (by omega) | refine ne_cons (by k_ne) ?_)
  case turn =>
    intro h7 tk7 F7 N7
    refine ⟨news_get N7 (.tail _ (.head _)), hfg _ _ F7, ?_⟩
    have hnq : ∀ p ∈ rest, p.1 ≠ q6 := ne_of_top (by omega)
    have hnI : ∀ p ∈ rest, p.1 ≠ I6 := ne_of_top (by omega)
    refine rc_go (ap := ap) (e := e) (k := k) (ka := ka) (ti := ti) (i := i) (rest := (I6, callIt q6 (tkb + 1 + 1 + 1)) :: (q6, methodObj (.ref 73) (.ref am)) :: (ap, pbOf [] kp) :: rest) hln ⟨hl0.1, by omega⟩ hst (.tail _ (.tail _ (.tail _ hin))) hS hR hsub.cons.cons.cons (by omega) hx ?d0 ?A0 hdA B6 F7 X6 (cb_drop N7 ?sub) T6 (by first | exact rfl | assumption) (by ktr_room) (by ktr_units) ?ret
    case d0 => repeat (first | with_reducible assumption | refine ne_cons (by k_ne) ?_)
    case A0 => repeat (first | with_reducible assumption | refine ne_cons (by k_ne) ?_)
    case sub => kcj_m
    case ret =>
      intro h' tk' F8 t e1 k1 t3 ka1 t' N8 hln1 hst1 hws1
      obtain ⟨c, hc⟩ : ∃ c, c = x.cps.getD i 0 := ⟨_, rfl⟩
      have hext : x.cps.extract i (i + 1) = #[c] := by rw [hc]; exact ext1 (show i < x.length by omega)
      have hcc : c = 46 ∨ (97 ≤ c ∧ c ≤ 102) := by rw [hc]; exact hch 0 (by omega)
      have hmin : min (i + 1) x.length = i + 1 := by omega
      have hne10 : (#[c] : Array Nat) ≠ #[10] := fun e => by simp at e; omega
      rw [hext, if_neg hne10, Int.add_zero] at hln1
      rw [hmin] at N8
      refine ⟨_, t, (q6, methodObj (.ref 73) (.ref am)) :: (dx, machD e1 ap k1) :: (ap, pbOf [] kp) :: (AL, listOf #[.int ((i + 1 : Nat) : Int) t3] ka1) :: rest, h', tk', F8, cb_drop N8 (by kcj_m), news_get N8 (by k_mem), hfg _ _ F8, ?ne2, ?_⟩
      case ne2 => repeat (first | with_reducible assumption | refine ne_cons (by k_ne) ?_)
      refine ip0 (fun e => by rw [hext] at e; have e2 := congrArg Str.length e; simp [PySem.Str.length] at e2; exact absurd e2 (by decide +kernel)) ?_
      intro h2 tk2 F9 N9
      rw [hext] at F9
      rw [machD_eq, hst1, hst, hws1, hws] at N9
      refine hideQ1 ?_
      intro qq1 hqq1
      k_steps
      · rename (_ == Str.ofString "\"") = true => hbad; rw [no_q hcc] at hbad; cases hbad
      · rename (_ == Str.ofString "\\") = true => hbad; rw [no_b hcc] at hbad; cases hbad
      · rename_i hz1 tz1 hz2 tz2 hz3 tz3 tz4 kz hz5 hz6 F10 N10
        refine ⟨?_⟩
        rw [rc_dict hst1 hst hws1 hws] at N10
        have htok : (Str.ofString "" ++ ⟨#[c]⟩ : Str) = ⟨x.cps.extract i (i + (n - (n - 1)))⟩ := by
          have : n - (n - 1) = 1 := by omega
          rw [this, hext, empty_is]; rfl
        rw [htok] at F10
        refine forCI_two (x := Str.ofString "ch") (y := Str.ofString "token") (self := .ref am) (f := 73) (of := of) (k₀ := n - 1) (fun k v => k < n ∧ ∃ u, v = .str ⟨x.cps.extract i (i + (n - k))⟩ u)
          (fun k news => ∃ e2 k2 t2 ka2 tl2, news = (q6, methodObj (.ref 73) (.ref am)) :: (dx, machD e2 ap k2) :: (ap, pbOf [] kp) :: (AL, listOf #[.int ((i + (n - k) : Nat) : Int) t2] ka2) :: rest ∧ e2.ln = .int ln tl2 ∧ e2.st = e.st ∧ e2.ws = e.ws)
          (by rfl) (by k_asm) (by rfl) (cb_drop N10 (by kcj_m)) hfd ?iter2 (if_pos rfl) ⟨by omega, _, rfl⟩ ⟨e1, k1, t3, ka1, t', by rw [show n - (n - 1) = 1 by omega], hln1, hst1, hws1⟩ ?turn2 (by rfl) (by rfl) (by intro _; rfl) (by passes_own)
        case iter2 => k_steps
        case turn2 =>
          intro k cc v news h8 tk8 hJ1 hJ2 F11 N11
          refine hideP ?_
          intro G hG
          obtain ⟨hk, u, rfl⟩ := hJ1
          obtain ⟨e2, k2, t2, ka2, tl2, rfl, hln2, hst2, hws2⟩ := hJ2
          refine hG ?_
          clear hG G
          refine ⟨news_get N11 (.tail _ (.head _)), hfg _ _ F11, ?ne3, ?_⟩
          case ne3 => repeat (first | with_reducible assumption | refine ne_cons (by k_ne) ?_)
          refine rc_go (ap := ap) (e := e2) (k := k2) (ka := ka2) (ti := t2) (i := i + (n - k)) (rest := (I6, callIt q6 (tkb + 1 + 1 + 1)) :: (q6, methodObj (.ref 73) (.ref am)) :: (ap, pbOf [] kp) :: rest) hln2 ⟨hl0.1, by omega⟩ (hst2.trans hst) (.tail _ (.tail _ (.tail _ hin))) hS hR hsub.cons.cons.cons (by omega) hx ?d02 ?A02 hdA B6 F11 X6 (cb_drop N11 ?sub2) T6 (by first | exact rfl | assumption) (by ktr_room) (by ktr_units) ?ret2
          case d02 => repeat (first | with_reducible assumption | refine ne_cons (by k_ne) ?_)
          case A02 => repeat (first | with_reducible assumption | refine ne_cons (by k_ne) ?_)
          case sub2 => kcj_m
          case ret2 =>
            intro h' tk' F12 t4 e3 k3 t5 ka3 t6 N12 hln3 hst3 hws3
            obtain ⟨c2, hc2⟩ : ∃ c2, c2 = x.cps.getD (i + (n - k)) 0 := ⟨_, rfl⟩
            have hext2 : x.cps.extract (i + (n - k)) (i + (n - k) + 1) = #[c2] := by rw [hc2]; exact ext1 (show i + (n - k) < x.length by omega)
            have hmin2 : min (i + (n - k) + 1) x.length = i + (n - k) + 1 := by omega
            rw [hext2] at hln3
            rw [hmin2] at N12
            refine ⟨_, t4, (q6, methodObj (.ref 73) (.ref am)) :: (dx, machD e3 ap k3) :: (ap, pbOf [] kp) :: (AL, listOf #[.int ((i + (n - k) + 1 : Nat) : Int) t5] ka3) :: rest, h', tk', F12, cb_drop N12 (by kcj_m), news_get N12 (by k_mem), hfg _ _ F12, ?ne4, ?_⟩
            case ne4 => repeat (first | with_reducible assumption | refine ne_cons (by k_ne) ?_)
            refine ip0 (fun e => by rw [hext2] at e; have e2 := congrArg Str.length e; simp [PySem.Str.length] at e2; exact absurd e2 (by decide +kernel)) ?_
            intro h9 tk9 F13 N13
            replace F13 := fr_twice F13
            rw [hext2] at F13
            rw [machD_eq, hst3, hst2, hst, hws3, hws2, hws] at N13
            have hel : (⟨x.cps.extract i (i + (n - k))⟩ : Str).length ≤ 100 := by
              show (x.cps.extract i (i + (n - k))).size ≤ 100
              rw [Array.size_extract]; omega
            refine hideQ ?_
            intro qq2 ee2 hqq2
            by_cases hk0 : k = 0
            · have hw2 : c2 = 10 ∨ c2 = 9 ∨ c2 = 13 ∨ c2 = 32 := by rw [hc2, hk0]; exact hsp
              k_steps
              · rename (Builtin.Str.occurrences _ _ 0 _ 1).isEmpty = true => hbad; rw [is_ws hw2] at hbad; cases hbad
              · rename (Builtin.Str.occurrences _ _ 0 _ 1).isEmpty = true => hbad; rw [is_ws hw2] at hbad; cases hbad
              · rename_i kF kN Tc kX
                rw [rc_dict (e := e) (hst3.trans hst2) hst (hws3.trans hws2) hws] at kN
                subst hk0
                refine hret _ _ _ _ kF (cb_drop kN ?sub3) ⟨_, e3, k3, t5, ka3, rfl, rfl, ⟨t6, ?_⟩, hst3.trans hst2, hws3.trans hws2⟩
                case sub3 => kcj_m
                rw [hln3, hc2]
                congr 2
                simp
            · have hw2 : c2 = 46 ∨ (97 ≤ c2 ∧ c2 ≤ 102) := by rw [hc2]; exact hch (n - k) (by omega)
              k_steps
              · rename (_ == Str.ofString "\\") = true => hbad; rw [no_b hw2] at hbad; cases hbad
              · refine ⟨?_⟩
                have hne2 : (#[c2] : Array Nat) ≠ #[10] := fun e => by simp at e; omega
                rw [if_neg hne2, Int.add_zero] at hln3
                rename Fr _ _ _ _ => F15
                rename News _ _ _ _ => N15
                rw [rc_dict (e := e) (hst3.trans hst2) hst (hws3.trans hws2) hws] at N15
                have htok2 : (⟨x.cps.extract i (i + (n - k))⟩ ++ ⟨#[c2]⟩ : Str) = ⟨x.cps.extract i (i + (n - (k - 1)))⟩ := by
                  have : n - (k - 1) = n - k + 1 := by omega
                  rw [this, ← hext2]; exact ext_snoc (show i + (n - k) < x.length by omega)
                rw [htok2] at F15
                refine ⟨k - 1, _, (q6, methodObj (.ref 73) (.ref am)) :: (dx, machD e3 ap k3) :: (ap, pbOf [] kp) :: (AL, listOf #[.int ((i + (n - k) + 1 : Nat) : Int) t5] ka3) :: rest, _, _, _, by omega, F15, fun z z1 z2 => ?_, if_pos rfl, cb_drop N15 ?sub4, ⟨by omega, _, rfl⟩, e3, k3, t5, ka3, t6, ?_, hln3, hst3.trans hst2, hws3.trans hws2⟩
                · dsimp only
                  rw [if_neg z2, if_neg z1, if_neg z2]
                case sub4 => kcj_m
                rw [show n - (k - 1) = n - k + 1 by omega]; rfl
              · rename (Builtin.Str.occurrences _ _ 0 _ 1).isEmpty = false => hbad; rw [no_ws hw2] at hbad; cases hbad
      · rename (Builtin.Str.occurrences _ _ 0 _ 1).isEmpty = false => hbad; rw [no_ws hcc] at hbad; cases hbad

end
-- part E17
section
theorem words_39 : True := by
  k_with_none
  k_with "k_all" => (first | assumption | exact ne_of_top (by omega))
  k_with "kd_mem" => (first | exact Pick.head | (apply Pick.tail; kd_mem))
  k_with "UnrEnd" => ((k_dflt (refine' unrEnd_pick (by k_asm) (by k_asm) (by kd_mem) (by k_all) ?_; k_whole)))
  k_with "exec For Name Name cons nil" => ((k_here; (with_unfolding_all refine' For_invVF (by k_asm) (by exact rfl) (by exact rfl) ?_; k_whole)))
  k_with "pyIter ref" => ((((with_reducible show wpAny _ _ (pyIter (Value.ref _)) (fun it s₂ => LoopAtV _ _ _ _ _ _ _ _ _ it s₂) _ _); k_dflt (refine' iter_listUnr (by exact rfl) (by k_asm) (by k_asm) (by k_mem) (by exact rfl) (by exact rfl) ?_; k_whole); intro _ zql1'; (try k_lt zql1')); (try (revert zql1'; intro _))))
  k_with "m1" => ((refine' code_def (by k_asm) (by k_asm) (by k_asm) (by k_asm) (by k_asm) (by exact rfl) (by exact rfl) (by first | exact rfl | assumption) (by k_is) (by k_is) (by first | k_room | ktr_room) (by first | exact BindsTo.of_eq rfl | exact binds_K (by k_in) rfl (by k_is) rfl rfl rfl | fail "k_enter: no rule for these arguments") (by exact locs rfl) ?_ (by exact rfl) (by exact rfl) (by exact rfl) (by decide)))
  k_with "m2" => ((refine' code_defC (by k_asm) (by k_asm) (by k_asm) (by k_asm) (by k_asm) (by exact rfl) (by exact rfl) (by first | exact rfl | assumption) (by k_is) (by k_is) (by first | k_room | ktr_room) (by first | exact BindsTo.of_eq rfl | exact binds_K (by k_in) rfl (by k_is) rfl rfl rfl | fail "k_enter: no rule for these arguments") (by exact rfl) (by decide +kernel) ?_ (by exact rfl) (by exact rfl) (by exact rfl)))
  k_with "call builtin:str.find" => (((with_reducible show wpAny _ _ (call (Value.builtin "str.find") [Value.str _ _, Value.str _ _, Value.int _ _, Value.int _ _]) _ _ _); k_dflt (refine find4_call ?_)))
  k_with "call builtin:len" => (((with_reducible show wpAny _ _ (call (Value.builtin "len") [Value.str (PySem.Str.mk _) _]) _ _ _); k_dflt (refine SBL.len (by first | decide | (simp only [PySem.Str.length, List.size_toArray, List.length_cons, List.length_nil]; omega)) ?_); (try dsimp only)))
  k_with "UnrEnd" => ((k_dflt (refine' unrEnd_pickL (by k_asm) (by k_asm) (by kd_mem) (by k_all) (by k_mem) ?_; k_whole)))
  k_with "kcj_m" => ((intro _ zqhp; repeat (first | exact zqhp | apply List.Mem.tail)))
  k_with "k_mem" => (((show @Membership.mem (PySem.Addr × PySem.Obj) (List (PySem.Addr × PySem.Obj)) List.instMembership _ _); with_reducible assumption))
  k_with "kn_code" => (first | exact codeHd_of_K (c := 37) (P := 33) (by k_asm) (by kernel_rfl) | exact codeHd_of_K (c := 117) (P := 113) (by k_asm) (by kernel_rfl))
  k_with "is_list" => (exact News.isList (by k_asm) (by k_mem))
  k_with "k_room" => (ktr_room)
  k_with "Kq" => ((k_dflt (refine' Kq.of (by with_reducible assumption) ?_)))
  k_with "truthy ref" => ((k_here; (with_reducible show wpAny _ _ (truthy (Value.ref _)) _ _ _); (with_unfolding_all refine' wpAny_truthy_list (items := _) (by is_list) (by (simp only [List.size_toArray, List.length_cons, List.length_nil]; omega)) ?_; k_whole; (try simp only [List.isEmpty_toArray, List.isEmpty_cons, List.isEmpty_nil, Array.isEmpty_push, Bool.not_false, Bool.not_true]))))
  k_with "call builtin:list.pop" => (((k_here; (with_reducible show wpAny _ _ (call (Value.builtin _) [Value.ref _, Value.int 0 _]) _ _ _); k_dflt (refine' popU (by k_asm) (by k_asm) (by k_upd) (by rfl) (by (simp only [List.size_toArray, List.length_cons]; exact seqIndex_zero _)) (by rfl) (by (rw [sizeLine_eq]; simp only [List.length_cons]; omega)) ?_); intro _ _ zqN'; (try dsimp only [List.nil_append, List.cons_append] at zqN')); (try (revert zqN'; intro _))))
  k_with "call builtin:list.append" => ((k_here; (with_reducible show wpAny _ _ (call (Value.builtin _) [Value.ref _, _]) _ _ _); k_dflt (refine' append_K (by k_asm) (by k_asm) (by k_upd) ?_ (by (rw [sizeLine_eq]; simp only [List.size_toArray]; omega)); k_whole); intro _ _ _; (try k_sweep)))
  k_with "eval ListComp" => ((k_here; lcg_look; k_dflt (refine evalU (F₀ := by k_asm) (by with_unfolding_all rfl) (by decide) (by rfl) (by decide) (by rfl) ?_)))
  k_with "eval ListComp" => ((k_here; lct_look; k_dflt (refine evalT (F₀ := by k_asm) (by with_unfolding_all rfl) (by decide) (by rfl) (by decide) (by rfl) ?_)))
  k_with "exec Assign cons ListComp" => ((k_here; lcg_look; k_dflt (refine assignU (F₀ := by k_asm) (by rfl) (by with_unfolding_all rfl) (by with_unfolding_all rfl) (by decide) (by rfl) (by decide) (by rfl) (by rfl) (by rfl) ?_)))
  k_with "exec Assign cons ListComp" => ((k_here; lct_look; k_dflt (refine assignT (F₀ := by k_asm) (by rfl) (by with_unfolding_all rfl) (by with_unfolding_all rfl) (by decide) (by rfl) (by decide) (by rfl) (by rfl) (by rfl) ?_)))
  k_with "CompEnd" => ((k_dflt (refine' compEnd_of (by k_asm) (by k_asm) (by with_reducible assumption) (by kcj_m) (by with_reducible assumption) ?_; k_whole)))
  k_with "call builtin:len" => ((k_here; (with_reducible show wpAny _ _ (call (Value.builtin "len") [Value.ref _]) _ _ _); k_dflt (refine' kun_lenL (by exact News.isList (by k_asm) (by k_mem)) (by with_reducible assumption) (by omega) ?_; k_whole)))
  exact True.intro
theorem top_off_E17 : True := by
  w_top off
  exact True.intro
open PyProof.Rows.LCg (NsObj lst Off3 Off1 CompEnd CompRest FinE FinA SrcAt)
theorem words_40 : True := by
  k_with "kcj_m" => ((with_reducible ((repeat (refine sub_step ?_ ?_; (· (repeat (first | exact List.mem_cons_self | apply List.mem_cons_of_mem))))); (intro _ zqhp; (repeat (first | exact zqhp | apply List.mem_cons_of_mem)); done))))
  k_with "k_ne" => (first | (with_reducible assumption) | (with_reducible exact Ne.symm (by assumption)) | ((try dsimp only); (repeat ((rename (@Ne Nat _ _) => zqhz'); clear zqhz')); omega))
  k_with "NextT" => ((refine halt ?_))
  k_with "call builtin:iter" => (((k_here; k_dflt (refine' iter2_call (by k_asm) (by k_asm) (by k_mem) ?_); intro _ _ zql1' _ _; k_lt zql1'; (try k_sweep)); (try (revert zql1'; intro _))))
  k_with "exec For Name Name cons nil" => ((refine halt ?_))
  k_with "call ref" => (((k_dflt (show wpAny _ _ (call (Value.ref 73) [Value.ref _] []) _ _ _)); refine halt ?_))
  exact True.intro
theorem ext0 {a : Array Nat} {j : Nat} (h : a.size ≤ j) : a.extract j (j + 1) = #[] := by
  apply Array.ext
  · simp; omega
  · intro k h1 h2; simp at h2
set_option maxHeartbeats 8000000 in
theorem toke_spec (w : World) (x : Str) (am dx ap AL : Addr) (core : List (Addr × Obj)) (e : MachE) (k kp ka i : Nat) (ln : Int) (tl ti : Tok) (rest : List (Addr × Obj)) (hln : e.ln = .int ln tl) (hl0 : 0 ≤ ln ∧ ln < 90) (FN RF : Addr) (hst : e.st = .ref FN) (tw : Tok) (hws : e.ws = .str (Str.ofString "\n\t\r ") tw)
    (hin : (am, instObj 90 dx) ∈ rest) (hS : StreamOk core FN RF) (hR : ReadOk w RF x AL core) (hsub : Sub core rest) (hx : x.length < 100) (hd0 : ∀ p ∈ rest, p.1 ≠ dx) (hA0 : ∀ p ∈ rest, p.1 ≠ AL) (hp0 : ∀ p ∈ rest, p.1 ≠ ap) (hdA : @Ne Nat dx AL) (hdp : @Ne Nat dx ap) (hpA : @Ne Nat ap AL)
    (hend : i = x.length) :
    Ctr w 8 (.ref 80) [.ref am] ((dx, machD e ap k) :: (ap, pbOf [] kp) :: (AL, listOf #[.int (i : Int) ti] ka) :: rest) (fun v n' => ∃ t e' k' t3 ka', v = .str (Str.ofString "") t ∧ n' = (dx, machD e' ap k') :: (ap, pbOf [] kp) :: (AL, listOf #[.int (i : Int) t3] ka') :: rest ∧ (∃ t', e'.ln = .int ln t') ∧ e'.st = e.st ∧ e'.ws = e.ws) := by
  unfold Ctr
  k_fill
  intro p loose mean mg mb dp un gd cn cs a ccd cl outer A₀ base h₀ L m s Q E B F X N T hk hd hu hret
  rw [machD_eq, pbOf_eq] at N
  refine wpAny_call ?_
  k_dflt k_enter
  k_steps
  rename_i g6 L6 h6 FG6 B6 X6 T6 tka tkb h61 q6 h62 lq6 I6 h63 lI6 h64 F6 N6
  rw [← machD_eq, ← pbOf_eq [] kp] at N6
  obtain ⟨of, hof, hfd⟩ := fn_in (K := Mine.hd.heap_39 w.params) (f := 73) (by rfl)
  have hfg : ∀ h m, Fr g6 L6 h m → h.get? 73 = some of := fun h m F => F.keep _ _ (X6 73 of hof)
  refine ⟨?_⟩
  refine forCI_once (self := .ref am) (f := 73) (of := of) (by rfl) (by k_asm) (by rfl) N6 hfd ?iter ?ne ?turn (by rfl) (by rfl) (by intro _; rfl) (by passes_own)
  case iter => k_steps
  case ne => repeat (first | with_reducible assumption | exact ne_of_top (by omega) | refine ne_cons (by k_ne) ?_)
  case turn =>
    intro h7 tk7 F7 N7
    refine ⟨news_get N7 (.tail _ (.head _)), hfg _ _ F7, ?_⟩
    have hnq : ∀ p ∈ rest, p.1 ≠ q6 := ne_of_top (by omega)
    have hnI : ∀ p ∈ rest, p.1 ≠ I6 := ne_of_top (by omega)
    refine rc_go (ap := ap) (e := e) (k := k) (ka := ka) (ti := ti) (i := i) (rest := (I6, callIt q6 (tkb + 1 + 1 + 1)) :: (q6, methodObj (.ref 73) (.ref am)) :: (ap, pbOf [] kp) :: rest) hln ⟨hl0.1, by omega⟩ hst (.tail _ (.tail _ (.tail _ hin))) hS hR hsub.cons.cons.cons (by omega) hx ?d0 ?A0 hdA B6 F7 X6 (cb_drop N7 ?sub) T6 (by first | exact rfl | assumption) (by ktr_room) (by ktr_units) ?ret
    case d0 => repeat (first | with_reducible assumption | refine ne_cons (by k_ne) ?_)
    case A0 => repeat (first | with_reducible assumption | refine ne_cons (by k_ne) ?_)
    case sub => kcj_m
    case ret =>
      intro h' tk' F8 t e1 k1 t3 ka1 t' N8 hln1 hst1 hws1
      have hext : x.cps.extract i (i + 1) = #[] := ext0 (show x.length ≤ i by omega)
      have hmin : min (i + 1) x.length = i := by omega
      have hne10 : (#[] : Array Nat) ≠ #[10] := fun e => by simp at e
      rw [hext, if_neg hne10, Int.add_zero] at hln1
      rw [hmin] at N8
      refine ⟨_, t, (q6, methodObj (.ref 73) (.ref am)) :: (dx, machD e1 ap k1) :: (ap, pbOf [] kp) :: (AL, listOf #[.int (i : Int) t3] ka1) :: rest, h', tk', F8, cb_drop N8 (by kcj_m), news_get N8 (by k_mem), hfg _ _ F8, ?ne2, ?_⟩
      case ne2 => repeat (first | with_reducible assumption | refine ne_cons (by k_ne) ?_)
      refine ip1 (by rw [hext]; exact empty_is.symm) ?_
      intro h2 tk2 F9 N9
      k_steps
      rename_i kF kN Tc kX
      exact hret _ _ _ _ kF (cb_drop kN (by kcj_m)) ⟨_, e1, k1, t3, ka1, rfl, rfl, ⟨_, hln1⟩, hst1, hws1⟩

end
-- part LawCode
section
theorem words_41 : True := by
  k_with_none
  k_with "k_all" => (first | assumption | exact ne_of_top (by omega))
  k_with "kd_mem" => (first | exact Pick.head | (apply Pick.tail; kd_mem))
  k_with "UnrEnd" => ((k_dflt (refine' unrEnd_pick (by k_asm) (by k_asm) (by kd_mem) (by k_all) ?_; k_whole)))
  k_with "exec For Name Name cons nil" => ((k_here; (with_unfolding_all refine' For_invVF (by k_asm) (by exact rfl) (by exact rfl) ?_; k_whole)))
  k_with "pyIter ref" => ((((with_reducible show wpAny _ _ (pyIter (Value.ref _)) (fun it s₂ => LoopAtV _ _ _ _ _ _ _ _ _ it s₂) _ _); k_dflt (refine' iter_listUnr (by exact rfl) (by k_asm) (by k_asm) (by k_mem) (by exact rfl) (by exact rfl) ?_; k_whole); intro _ zql1'; (try k_lt zql1')); (try (revert zql1'; intro _))))
  k_with "m1" => ((refine' code_def (by k_asm) (by k_asm) (by k_asm) (by k_asm) (by k_asm) (by exact rfl) (by exact rfl) (by first | exact rfl | assumption) (by k_is) (by k_is) (by first | k_room | ktr_room) (by first | exact BindsTo.of_eq rfl | exact binds_K (by k_in) rfl (by k_is) rfl rfl rfl | fail "k_enter: no rule for these arguments") (by exact locs rfl) ?_ (by exact rfl) (by exact rfl) (by exact rfl) (by decide)))
  k_with "m2" => ((refine' code_defC (by k_asm) (by k_asm) (by k_asm) (by k_asm) (by k_asm) (by exact rfl) (by exact rfl) (by first | exact rfl | assumption) (by k_is) (by k_is) (by first | k_room | ktr_room) (by first | exact BindsTo.of_eq rfl | exact binds_K (by k_in) rfl (by k_is) rfl rfl rfl | fail "k_enter: no rule for these arguments") (by exact rfl) (by decide +kernel) ?_ (by exact rfl) (by exact rfl) (by exact rfl)))
  k_with "call builtin:str.find" => (((with_reducible show wpAny _ _ (call (Value.builtin "str.find") [Value.str _ _, Value.str _ _, Value.int _ _, Value.int _ _]) _ _ _); k_dflt (refine find4_call ?_)))
  k_with "call builtin:len" => (((with_reducible show wpAny _ _ (call (Value.builtin "len") [Value.str (PySem.Str.mk _) _]) _ _ _); k_dflt (refine SBL.len (by first | decide | (simp only [PySem.Str.length, List.size_toArray, List.length_cons, List.length_nil]; omega)) ?_); (try dsimp only)))
  k_with "UnrEnd" => ((k_dflt (refine' unrEnd_pickL (by k_asm) (by k_asm) (by kd_mem) (by k_all) (by k_mem) ?_; k_whole)))
  k_with "kcj_m" => ((intro _ zqhp; repeat (first | exact zqhp | apply List.Mem.tail)))
  k_with "k_mem" => (((show @Membership.mem (PySem.Addr × PySem.Obj) (List (PySem.Addr × PySem.Obj)) List.instMembership _ _); with_reducible assumption))
  k_with "kn_code" => (first | exact codeHd_of_K (c := 37) (P := 33) (by k_asm) (by kernel_rfl) | exact codeHd_of_K (c := 117) (P := 113) (by k_asm) (by kernel_rfl))
  k_with "is_list" => (exact News.isList (by k_asm) (by k_mem))
  k_with "k_room" => (ktr_room)
  k_with "Kq" => ((k_dflt (refine' Kq.of (by with_reducible assumption) ?_)))
  k_with "truthy ref" => ((k_here; (with_reducible show wpAny _ _ (truthy (Value.ref _)) _ _ _); (with_unfolding_all refine' wpAny_truthy_list (items := _) (by is_list) (by (simp only [List.size_toArray, List.length_cons, List.length_nil]; omega)) ?_; k_whole; (try simp only [List.isEmpty_toArray, List.isEmpty_cons, List.isEmpty_nil, Array.isEmpty_push, Bool.not_false, Bool.not_true]))))
  k_with "call builtin:list.pop" => (((k_here; (with_reducible show wpAny _ _ (call (Value.builtin _) [Value.ref _, Value.int 0 _]) _ _ _); k_dflt (refine' popU (by k_asm) (by k_asm) (by k_upd) (by rfl) (by (simp only [List.size_toArray, List.length_cons]; exact seqIndex_zero _)) (by rfl) (by (rw [sizeLine_eq]; simp only [List.length_cons]; omega)) ?_); intro _ _ zqN'; (try dsimp only [List.nil_append, List.cons_append] at zqN')); (try (revert zqN'; intro _))))
  k_with "call builtin:list.append" => ((k_here; (with_reducible show wpAny _ _ (call (Value.builtin _) [Value.ref _, _]) _ _ _); k_dflt (refine' append_K (by k_asm) (by k_asm) (by k_upd) ?_ (by (rw [sizeLine_eq]; simp only [List.size_toArray]; omega)); k_whole); intro _ _ _; (try k_sweep)))
  k_with "eval ListComp" => ((k_here; lcg_look; k_dflt (refine evalU (F₀ := by k_asm) (by with_unfolding_all rfl) (by decide) (by rfl) (by decide) (by rfl) ?_)))
  k_with "eval ListComp" => ((k_here; lct_look; k_dflt (refine evalT (F₀ := by k_asm) (by with_unfolding_all rfl) (by decide) (by rfl) (by decide) (by rfl) ?_)))
  k_with "exec Assign cons ListComp" => ((k_here; lcg_look; k_dflt (refine assignU (F₀ := by k_asm) (by rfl) (by with_unfolding_all rfl) (by with_unfolding_all rfl) (by decide) (by rfl) (by decide) (by rfl) (by rfl) (by rfl) ?_)))
  k_with "exec Assign cons ListComp" => ((k_here; lct_look; k_dflt (refine assignT (F₀ := by k_asm) (by rfl) (by with_unfolding_all rfl) (by with_unfolding_all rfl) (by decide) (by rfl) (by decide) (by rfl) (by rfl) (by rfl) ?_)))
  k_with "CompEnd" => ((k_dflt (refine' compEnd_of (by k_asm) (by k_asm) (by with_reducible assumption) (by kcj_m) (by with_reducible assumption) ?_; k_whole)))
  k_with "call builtin:len" => ((k_here; (with_reducible show wpAny _ _ (call (Value.builtin "len") [Value.ref _]) _ _ _); k_dflt (refine' kun_lenL (by exact News.isList (by k_asm) (by k_mem)) (by with_reducible assumption) (by omega) ?_; k_whole)))
  exact True.intro
def recOf {p : Program} {ls : List Str} {X : (Str → Option Value) → Heap → Prop} {H : World → Heap → Prop} {r : RowW} {d : DefRec} {es : List (Str × Expr)} {f : Value → List Value → Sem Value} {P : Prop} (_ : WalkO p ls X H r d es f → P) : DefRec := d
def lawRec : DefRec := recOf hd
def lawTail (i : Nat) : List Stmt := lawRec.body.drop i
def lawStmt (i : Nat) : Stmt := (lawRec.body.drop i).headD (Stmt.Pass ⟨0, 0, 0, 0⟩)
abbrev lawEnv (L a : Addr) (ccd : Value) : Env := envX lawRec.name lawRec.scope L a ccd (cellsFrom (L + 1) lawRec.scope.names [])
abbrev lawAround (dp un : Nat) (gd : Option (List Code)) (L a : Addr) (ccd : Value) (outer : List Env) : Around := ktrTop dp un gd lawRec.name lawRec.scope L a ccd (cellsFrom (L + 1) lawRec.scope.names []) outer

end
-- part LawDef
section
def cells10 (sc : List Int) : List Int := List.zipWith (· + ·) [6, 24, 41, 51, 0, 0, 0, 0, 0, 0] (sc.take 10 ++ List.replicate 10 0)
def bitZ (z : Int) (k : Nat) : Bool := Builtin.bitAnd ((1 + z.fmod 63).fdiv (2 ^ k)) 1 != 0
def lineOf (z : Int) : List Nat := [97, 98, 99, 100, 101, 102].filter fun c => bitZ z (c - 97)
@[reducible] def pieceOf (x : Str) (z : Int) : Str := Str.ofString "." ++ x ++ Txt.item (Str.ofString " \n\t\r") (z.fmod 4)
def pieces (ls : List Str) (zs : List Int) : List Str := List.zipWith pieceOf ls zs
structure Toks (x : Str) (off len : Nat → Nat) : Prop where
  zero : off 0 = 0
  step : ∀ i, i < 4 → off (i + 1) = off i + len i + 1
  one : ∀ i, i < 4 → 1 ≤ len i
  ins : ∀ i, i < 4 → off i + len i < x.length
  ch : ∀ i, i < 4 → ∀ j, j < len i → x.cps.getD (off i + j) 0 = 46 ∨ (97 ≤ x.cps.getD (off i + j) 0 ∧ x.cps.getD (off i + j) 0 ≤ 102)
  sp : ∀ i, i < 4 → x.cps.getD (off i + len i) 0 = 10 ∨ x.cps.getD (off i + len i) 0 = 9 ∨ x.cps.getD (off i + len i) 0 = 13 ∨ x.cps.getD (off i + len i) 0 = 32
  last : off 4 = x.length
  sz : x.length < 100
def nlOf (x : Str) (off len : Nat → Nat) : Nat → Int
  | 0 => 1
  | i + 1 => nlOf x off len i + if x.cps.getD (off i + len i) 0 = 10 then 1 else 0
theorem nlOf_le (x : Str) (off len : Nat → Nat) : ∀ i, 1 ≤ nlOf x off len i ∧ nlOf x off len i ≤ 1 + (i : Int)
  | 0 => by simp [nlOf]
  | i + 1 => by
    have := nlOf_le x off len i
    simp only [nlOf]
    split <;> omega
def tokAt (x : Str) (off len : Nat → Nat) (i : Nat) : Str := if i < 4 then ⟨x.cps.extract (off i) (off i + len i)⟩ else Str.ofString ""

end
-- part Pl
section
/-! the plain law: what the game's turns do to the weights -/
theorem inL_list (l : List Nat) (c : Nat) : inL ⟨l.toArray⟩ c = l.contains c := by
  unfold inL
  rw [StrLaws.found_one, List.contains_eq_mem]
theorem cntS_cons (x : Str) (xs : List Str) (j : Int) : cntS (x :: xs) j = (if rowIdx x = j then 1 else 0) + cntS xs j := by
  unfold cntS
  rw [List.filter_cons]
  by_cases h : rowIdx x = j
  · rw [if_pos (by simpa using h), if_pos h, List.length_cons]; omega
  · rw [if_neg (by simpa using h), if_neg h]; omega
theorem pow_pick : ∀ n : Nat, n < 7 → (if (n : Int) = 0 then (1 : Int) else 0) + 2 * (if (n : Int) = 1 then 1 else 0) + 4 * (if (n : Int) = 2 then 1 else 0) + 8 * (if (n : Int) = 3 then 1 else 0) + 16 * (if (n : Int) = 4 then 1 else 0) + 32 * (if (n : Int) = 5 then 1 else 0) + 64 * (if (n : Int) = 6 then 1 else 0) = 2 ^ n := by decide +kernel
theorem weiS_cons {x : Str} {xs : List Str} (h0 : 0 ≤ rowIdx x) (h6 : rowIdx x ≤ 6) : weiS (x :: xs) = 2 ^ (rowIdx x).toNat + weiS xs := by
  have h := pow_pick (rowIdx x).toNat (by omega)
  rw [Int.toNat_of_nonneg h0] at h
  rw [← h]
  unfold weiS
  simp only [cntS_cons, Int.mul_add]
  ac_rfl
theorem weiS_sum : ∀ xs : List Str, (∀ x ∈ xs, 0 ≤ rowIdx x ∧ rowIdx x ≤ 6) → weiS xs = (xs.map fun x => (2 : Int) ^ (rowIdx x).toNat).sum
  | [], _ => rfl
  | x :: xs, h => by
    obtain ⟨h0, h6⟩ := h x (.head _)
    rw [weiS_cons h0 h6, weiS_sum xs fun y hy => h y (.tail _ hy), List.map_cons, List.sum_cons]
theorem filter_sum {α : Type} (p : α → Bool) (f : α → Int) : ∀ xs : List α, ((xs.filter p).map f).sum = (xs.map fun x => if p x = true then f x else 0).sum
  | [] => rfl
  | x :: xs => by
    rw [List.filter_cons, List.map_cons, List.sum_cons]
    by_cases h : p x = true
    · rw [if_pos h, if_pos h, List.map_cons, List.sum_cons, filter_sum p f xs]
    · rw [if_neg h, if_neg h, filter_sum p f xs]; omega
theorem sum_le {α : Type} {f g : α → Int} : ∀ xs : List α, (∀ x ∈ xs, f x ≤ g x) → (xs.map f).sum ≤ (xs.map g).sum
  | [], _ => Int.le_refl _
  | x :: xs, h => by
    have h1 := h x (.head _)
    have h2 := sum_le xs fun y hy => h y (.tail _ hy)
    simp only [List.map_cons, List.sum_cons]
    omega
theorem sum_comb {α : Type} (f g k : α → Int) : ∀ xs : List α, (xs.map fun x => f x - g x + k x).sum = (xs.map f).sum - (xs.map g).sum + (xs.map k).sum
  | [] => rfl
  | x :: xs => by
    have := sum_comb f g k xs
    simp only [List.map_cons, List.sum_cons]
    omega
def lack (mine l : List Nat) : Nat := (l.filter fun c => !mine.contains c).length
def du (mine theirs l : List Nat) : Int := if (theirs.any fun c => l.contains c) = true then 0 else 2 ^ (6 - lack mine l)
theorem lack_le (mine l : List Nat) : lack mine l ≤ l.length := List.length_filter_le _ _
theorem du_nn (mine theirs l : List Nat) : 0 ≤ du mine theirs l := by
  unfold du
  split
  · exact Int.le_refl 0
  · exact Int.le_of_lt (Int.pow_pos (by decide))
theorem fdiv_all : ∀ n : Nat, n < 7 → Int.fdiv 64 (2 ^ n) = 2 ^ (6 - n) := by decide +kernel
theorem dueOne_du {mine theirs l : List Nat} (h : l.length ≤ 6) : dueOne mine theirs ⟨l.toArray⟩ = du mine theirs l := by
  unfold dueOne du
  have e1 : theirs.any (inL ⟨l.toArray⟩) = theirs.any fun c => l.contains c := by
    congr 1
    funext c
    exact inL_list l c
  rw [e1]
  split
  · rfl
  · exact fdiv_all (lack mine l) (Nat.lt_succ_of_le (Nat.le_trans (lack_le mine l) h))
def St (mine theirs l : List Nat) (x : Str) : Prop :=
  ∃ j i, x = row j i l ∧ ((theirs.any fun c => l.contains c) = false → j = 0 ∧ i + lack mine l = l.length) ∧ ((theirs.any fun c => l.contains c) = true → 1 ≤ j)
theorem lack_nil (l : List Nat) : lack [] l = l.length := by simp [lack]
theorem lack_add {a : Nat} {mine : List Nat} (ha : a ∉ mine) : ∀ {l : List Nat}, l.Nodup → lack mine l = lack (mine ++ [a]) l + (if l.contains a = true then 1 else 0)
  | [], _ => by simp [lack]
  | c :: l, nd => by
    rw [List.nodup_cons] at nd
    have ih := lack_add ha nd.2
    unfold lack at ih ⊢
    rw [List.filter_cons, List.filter_cons]
    by_cases hc : c = a
    · subst hc
      have e1 : mine.contains c = false := by rw [Bool.eq_false_iff]; intro h; exact ha (List.contains_iff_mem.mp h)
      have e2 : (mine ++ [c]).contains c = true := List.contains_iff_mem.mpr (by simp)
      have e3 : l.contains c = false := by rw [Bool.eq_false_iff]; intro h; exact nd.1 (List.contains_iff_mem.mp h)
      have e4 : (c :: l).contains c = true := List.contains_iff_mem.mpr (by simp)
      rw [e3] at ih
      rw [e1, e2, e4]
      simp only [Bool.not_false, Bool.not_true, if_true, Bool.false_eq_true, if_false, List.length_cons] at ih ⊢
      omega
    · have e1 : (mine ++ [a]).contains c = mine.contains c := by
        rw [Bool.eq_iff_iff, List.contains_iff_mem, List.contains_iff_mem]; simp [hc]
      have e2 : (c :: l).contains a = l.contains a := by
        rw [Bool.eq_iff_iff, List.contains_iff_mem, List.contains_iff_mem]
        simp only [List.mem_cons]
        exact ⟨fun h => h.resolve_left (fun e => hc e.symm), .inr⟩
      rw [e1, e2]
      by_cases hm : mine.contains c = true
      · rw [hm]; simp only [Bool.not_true, Bool.false_eq_true, if_false]; exact ih
      · rw [if_pos (by simpa using hm), if_pos (by simpa using hm), List.length_cons, List.length_cons]; omega
theorem St.start (l : List Nat) : St [] [] l (row 0 0 l) := ⟨0, 0, rfl, fun _ => ⟨rfl, by rw [lack_nil]; omega⟩, fun h => by simp at h⟩
theorem St.maker {mine theirs l : List Nat} {x : Str} {a : Nat} (ha : a ∉ mine) (h97 : 97 ≤ a) (nd : l.Nodup) (h : St mine theirs l x) : St (mine ++ [a]) theirs l (stp true a x) := by
  obtain ⟨j, i, rfl, h1, h2⟩ := h
  have hl := lack_add ha nd
  rw [stp_row true h97]
  by_cases hm : l.contains a = true
  · rw [if_pos hm, if_pos rfl]
    rw [if_pos hm] at hl
    by_cases hj : j = 0
    · rw [if_pos hj]
      refine ⟨0, i + 1, rfl, fun hb => ⟨rfl, ?_⟩, fun hb => ?_⟩
      · have := (h1 hb).2; omega
      · have := h2 hb; omega
    · rw [if_neg hj]
      exact ⟨j, i, rfl, fun hb => absurd (h1 hb).1 hj, h2⟩
  · rw [if_neg hm]
    rw [if_neg hm] at hl
    refine ⟨j, i, rfl, fun hb => ?_, h2⟩
    have := h1 hb
    exact ⟨this.1, by omega⟩
theorem St.breaker {mine theirs l : List Nat} {x : Str} {b : Nat} (h97 : 97 ≤ b) (h : St mine theirs l x) : St mine (theirs ++ [b]) l (stp false b x) := by
  obtain ⟨j, i, rfl, h1, h2⟩ := h
  rw [stp_row false h97]
  have e : ((theirs ++ [b]).any fun c => l.contains c) = ((theirs.any fun c => l.contains c) || l.contains b) := by simp [List.any_append]
  by_cases hm : l.contains b = true
  · rw [if_pos hm, if_neg (by decide)]
    refine ⟨j + 1, i, rfl, fun hb => ?_, fun _ => by omega⟩
    rw [e, hm] at hb
    simp at hb
  · rw [if_neg hm]
    have e2 : ((theirs ++ [b]).any fun c => l.contains c) = (theirs.any fun c => l.contains c) := by
      rw [e, Bool.eq_false_iff.mpr hm, Bool.or_false]
    rw [St, e2]
    exact ⟨j, i, rfl, h1, h2⟩
theorem St.alive {mine theirs l : List Nat} {x : Str} (h : St mine theirs l x) : isAlive x = !(theirs.any fun c => l.contains c) := by
  obtain ⟨j, i, rfl, h1, h2⟩ := h
  rw [alive_row]
  cases hb : theirs.any fun c => l.contains c with
  | false => rw [(h1 hb).1]; rfl
  | true => have := h2 hb; simp; omega
theorem St.idx {mine theirs l : List Nat} {x : Str} (hl : Let l) (h : St mine theirs l x) (ha : isAlive x = true) : 0 ≤ rowIdx x ∧ rowIdx x ≤ 6 ∧ (2 : Int) ^ (rowIdx x).toNat = du mine theirs l := by
  have hal := h.alive
  rw [ha] at hal
  obtain ⟨j, i, rfl, h1, h2⟩ := h
  have hb : (theirs.any fun c => l.contains c) = false := by simpa using hal.symm
  obtain ⟨rfl, hi⟩ := h1 hb
  have := hl.le
  unfold du
  rw [row_idx hl, if_neg (by rw [hb]; decide)]
  refine ⟨by omega, by omega, ?_⟩
  congr 1
  omega
theorem St.has {mine theirs l : List Nat} {x : Str} {c : Nat} (h97 : 97 ≤ c) (h : St mine theirs l x) : x.cps.contains c = l.contains c := by
  obtain ⟨j, i, rfl, _, _⟩ := h
  exact row_has h97
def Rows (Ls : List (List Nat)) (mine theirs : List Nat) (g : List Nat → Str) : Prop := ∀ l ∈ Ls, St mine theirs l (g l)
theorem wei_alive {Ls : List (List Nat)} {mine theirs : List Nat} {g : List Nat → Str} (hL : ∀ l ∈ Ls, Let l) (h : Rows Ls mine theirs g) (p : Str → Bool) (q : List Nat → Bool) (hpq : ∀ l ∈ Ls, p (g l) = q l) :
    weiS (((Ls.map g).filter isAlive).filter p) = (Ls.map fun l => if q l = true then du mine theirs l else 0).sum := by
  rw [weiS_sum, filter_sum, filter_sum, List.map_map]
  · refine congrArg List.sum (List.map_congr_left fun l hl => ?_)
    show (if isAlive (g l) = true then (if p (g l) = true then (2 : Int) ^ (rowIdx (g l)).toNat else 0) else 0) = _
    rw [hpq l hl]
    by_cases ha : isAlive (g l) = true
    · rw [if_pos ha, ((h l hl).idx (hL l hl) ha).2.2]
    · rw [if_neg ha]
      have := (h l hl).alive
      rw [Bool.eq_false_iff.mpr ha] at this
      have hd : du mine theirs l = 0 := by unfold du; rw [if_pos (by simpa using this.symm)]
      rw [hd]
      split <;> rfl
  · intro x hx
    rw [List.mem_filter, List.mem_filter, List.mem_map] at hx
    obtain ⟨⟨⟨l, hl, rfl⟩, ha⟩, _⟩ := hx
    have := (h l hl).idx (hL l hl) ha
    exact ⟨this.1, this.2.1⟩
theorem wei_all {Ls : List (List Nat)} {mine theirs : List Nat} {g : List Nat → Str} (hL : ∀ l ∈ Ls, Let l) (h : Rows Ls mine theirs g) :
    weiS ((Ls.map g).filter isAlive) = (Ls.map (du mine theirs)).sum := by
  have := wei_alive hL h (fun _ => true) (fun _ => true) fun _ _ => rfl
  simpa using this
theorem du_step {mine theirs l : List Nat} {a b : Nat} (h6 : l.length ≤ 6) (nd : l.Nodup) (ha : a ∉ mine) :
    du (mine ++ [a]) (theirs ++ [b]) l ≤ du mine theirs l - (if l.contains b = true then du mine theirs l else 0) + (if l.contains a = true then du mine theirs l else 0) := by
  have hn := du_nn mine theirs l
  have e : ((theirs ++ [b]).any fun c => l.contains c) = ((theirs.any fun c => l.contains c) || l.contains b) := by simp [List.any_append]
  by_cases hb : l.contains b = true
  · rw [if_pos hb]
    have : du (mine ++ [a]) (theirs ++ [b]) l = 0 := by unfold du; rw [e, hb, Bool.or_true]; rfl
    rw [this]
    split <;> omega
  · rw [if_neg hb]
    by_cases ht : (theirs.any fun c => l.contains c) = true
    · have : du (mine ++ [a]) (theirs ++ [b]) l = 0 := by unfold du; rw [e, ht, Bool.true_or]; rfl
      rw [this]
      split <;> omega
    · have hl := lack_add ha nd
      have h7 := lack_le mine l
      have e1 : du (mine ++ [a]) (theirs ++ [b]) l = 2 ^ (6 - lack (mine ++ [a]) l) := by unfold du; rw [if_neg (by rw [e]; simp only [Bool.or_eq_true]; rintro (h | h) <;> contradiction)]
      have e2 : du mine theirs l = 2 ^ (6 - lack mine l) := by unfold du; rw [if_neg ht]
      rw [e1]
      by_cases hc : l.contains a = true
      · rw [if_pos hc] at hl ⊢
        rw [e2]
        have : 6 - lack (mine ++ [a]) l = (6 - lack mine l) + 1 := by omega
        rw [this, Int.pow_succ]
        omega
      · rw [if_neg hc] at hl ⊢
        rw [e2]
        have : lack (mine ++ [a]) l = lack mine l := by omega
        rw [this]
        omega
theorem du_first {l : List Nat} {a : Nat} (h6 : l.length ≤ 6) (nd : l.Nodup) : du [a] [] l ≤ 2 * du [] [] l := by
  have hl := lack_add (a := a) (mine := []) (by simp) nd
  have h7 := lack_le [] l
  have e1 : du [a] [] l = 2 ^ (6 - lack [a] l) := by unfold du; rfl
  have e2 : du [] [] l = 2 ^ (6 - lack [] l) := by unfold du; rfl
  rw [e1, e2]
  rw [List.nil_append] at hl
  have hp : (0 : Int) < 2 ^ (6 - lack [] l) := Int.pow_pos (by decide)
  split at hl
  · have : 6 - lack [a] l = (6 - lack [] l) + 1 := by omega
    rw [this, Int.pow_succ]
    omega
  · have : lack [a] l = lack [] l := by omega
    rw [this]
    omega
theorem mul_marks (b1 b3 b5 : Bool) : Txt.mul (Str.ofString "# ") (nT b1 b3 b5) = ⟨(hsh (nT b1 b3 b5).toNat).toArray⟩ := by
  cases b1 <;> cases b3 <;> cases b5 <;> decide +kernel
theorem mul_dots : ∀ {n : Nat}, n ≤ 3 → Txt.mul (Str.ofString ".") (1 + (n : Int)) = ⟨(List.replicate (n + 1) 46).toArray⟩ := fun {n} h =>
  (by decide +kernel : ∀ n : Nat, n < 4 → Txt.mul (Str.ofString ".") (1 + (n : Int)) = ⟨(List.replicate (n + 1) 46).toArray⟩) n (Nat.lt_succ_of_le h)
def nD (b0 b1 b2 b3 b4 b5 : Bool) : Nat := (([0, 2, 4].filter (fun a : Int => if a = 0 then b0 else if a = 1 then b1 else if a = 2 then b2 else if a = 3 then b3 else if a = 4 then b4 else b5)).filter (fun a => decide (a < firstOf b1 b3 b5))).length
theorem nD_le : ∀ b0 b1 b2 b3 b4 b5 : Bool, nD b0 b1 b2 b3 b4 b5 ≤ 3 := by decide +kernel
theorem tolV_row (l : List Nat) (c0 c1 c2 c3 c4 c5 : Nat) : tolV ⟨l.toArray⟩ c0 c1 c2 c3 c4 c5 = row (nT (l.contains c1) (l.contains c3) (l.contains c5)).toNat (nD (l.contains c0) (l.contains c1) (l.contains c2) (l.contains c3) (l.contains c4) (l.contains c5)) l := by
  unfold tolV
  simp only [inL_list]
  have e : (([0, 2, 4].filter (fun a => l.contains (mv c0 c1 c2 c3 c4 c5 a))).filter (fun a => decide (a < firstOf (l.contains c1) (l.contains c3) (l.contains c5)))).length = nD (l.contains c0) (l.contains c1) (l.contains c2) (l.contains c3) (l.contains c4) (l.contains c5) := by
    unfold nD
    congr 3
    funext a
    unfold mv
    repeat (split; rfl)
    rfl
  rw [e, mul_marks, mul_dots (nD_le _ _ _ _ _ _), str_app, str_app]
  exact str_ext (by simp [rowL])
def sB (mk b : Bool) (p : Nat × Nat) : Nat × Nat := if b then (if mk then (if p.1 = 0 then (0, p.2 + 1) else p) else (p.1 + 1, p.2)) else p
theorem stp_sB (mk : Bool) {c : Nat} (h : 97 ≤ c) (p : Nat × Nat) (l : List Nat) : stp mk c (row p.1 p.2 l) = row (sB mk (l.contains c) p).1 (sB mk (l.contains c) p).2 l := by
  rw [stp_row mk h]
  unfold sB
  cases l.contains c with
  | false => rfl
  | true =>
    cases mk with
    | false => rfl
    | true =>
      by_cases e : p.1 = 0
      · simp only [if_true, if_pos e]
      · simp only [if_true, if_neg e]
theorem sB_all : ∀ b0 b1 b2 b3 b4 b5 : Bool, sB false b5 (sB true b4 (sB false b3 (sB true b2 (sB false b1 (sB true b0 (0, 0)))))) = ((nT b1 b3 b5).toNat, nD b0 b1 b2 b3 b4 b5) := by decide +kernel
theorem steps_row (l : List Nat) {c0 c1 c2 c3 c4 c5 : Nat} (h0 : 97 ≤ c0) (h1 : 97 ≤ c1) (h2 : 97 ≤ c2) (h3 : 97 ≤ c3) (h4 : 97 ≤ c4) (h5 : 97 ≤ c5) :
    stp false c5 (stp true c4 (stp false c3 (stp true c2 (stp false c1 (stp true c0 (row 0 0 l)))))) = tolV ⟨l.toArray⟩ c0 c1 c2 c3 c4 c5 := by
  rw [tolV_row, stp_sB true h0 (0, 0), stp_sB false h1, stp_sB true h2, stp_sB false h3, stp_sB true h4, stp_sB false h5, sB_all]
theorem free_mem {p q : List Nat} {a c : Nat} : c ∈ p ++ a :: q ↔ c = a ∨ c ∈ p ++ q := by
  simp only [List.mem_append, List.mem_cons]
  constructor
  · rintro (h | h | h)
    · exact .inr (.inl h)
    · exact .inl h
    · exact .inr (.inr h)
  · rintro (h | h | h)
    · exact .inr (.inl h)
    · exact .inl h
    · exact .inr (.inr h)
theorem PlayStep.letters {rows rows' : List Str} {fs fs' : List Nat} {a b : Nat} {W : Int} (h : PlayStep rows fs rows' fs' a b W) (hf : FreeOk fs) : FreeOk fs' ∧ (97 ≤ a ∧ a ≤ 102) ∧ (97 ≤ b ∧ b ≤ 102) ∧ a ∈ fs ∧ b ∈ fs ∧ a ≠ b ∧ a ∉ fs' ∧ b ∉ fs' ∧ ∀ c, c ∈ fs → c = a ∨ c = b ∨ c ∈ fs' := by
  obtain ⟨p1, q1, p2, q2, rfl, e, rfl, -, -, -⟩ := h
  obtain ⟨f1, a1, a2, an⟩ := hf.cut
  rw [e] at f1 an
  obtain ⟨f2, b1, b2, bn⟩ := f1.cut
  refine ⟨f2, ⟨a1, a2⟩, ⟨b1, b2⟩, by simp, ?_, ?_, ?_, bn, ?_⟩
  · rw [free_mem, e]; exact .inr (free_mem.mpr (.inl rfl))
  · rintro rfl; exact an (free_mem.mpr (.inl rfl))
  · intro h; exact an (free_mem.mpr (.inr h))
  · intro c hc
    rcases free_mem.mp hc with h | h
    · exact .inl h
    · rw [e] at h
      rcases free_mem.mp h with h | h
      · exact .inr (.inl h)
      · exact .inr (.inr h)
theorem PlayStep.lines {Ls : List (List Nat)} {g : List Nat → Str} {mine theirs : List Nat} {rows' : List Str} {fs fs' : List Nat} {a b : Nat} {W : Int} (hL : ∀ l ∈ Ls, Let l ∧ l.Nodup) (hf : FreeOk fs) (ha : a ∉ mine) (hg : Rows Ls mine theirs g) (h : PlayStep (Ls.map g) fs rows' fs' a b W) :
    rows' = Ls.map (fun l => stp false b (stp true a (g l))) ∧ Rows Ls (mine ++ [a]) (theirs ++ [b]) (fun l => stp false b (stp true a (g l))) ∧ W = (Ls.map (du (mine ++ [a]) theirs)).sum ∧
    ∀ y ∈ fs', (Ls.map fun l => if l.contains y = true then du (mine ++ [a]) theirs l else 0).sum ≤ (Ls.map fun l => if l.contains b = true then du (mine ++ [a]) theirs l else 0).sum := by
  obtain ⟨f1, a1, b1, ma, mb, -, -, -, -⟩ := h.letters hf
  have hg1 : Rows Ls (mine ++ [a]) theirs (fun l => stp true a (g l)) := fun l hl => (hg l hl).maker ha a1.1 (hL l hl).2
  have hLt : ∀ l ∈ Ls, Let l := fun l hl => (hL l hl).1
  obtain ⟨p1, q1, p2, q2, rfl, e, rfl, hW, hB, hr⟩ := h
  have em : (Ls.map g).map (stp true a) = Ls.map (fun l => stp true a (g l)) := by rw [List.map_map]; rfl
  rw [em] at hW hB hr
  refine ⟨by rw [hr, List.map_map]; rfl, fun l hl => (hg1 l hl).breaker b1.1, by rw [hW, wei_all hLt hg1], fun y hy => ?_⟩
  have hy2 : y ∈ p1 ++ q1 := by rw [e]; exact free_mem.mpr (.inr hy)
  have hy3 := (hf.cut.1).ok y hy2
  have := hB y hy2
  rw [wei_alive hLt hg1 (fun x => x.cps.contains y) (fun l => l.contains y) fun l hl => (hg1 l hl).has hy3.1, wei_alive hLt hg1 (fun x => x.cps.contains b) (fun l => l.contains b) fun l hl => (hg1 l hl).has b1.1] at this
  exact this
theorem pot {Ls : List (List Nat)} {mine theirs : List Nat} {a b : Nat} (hL : ∀ l ∈ Ls, Let l ∧ l.Nodup) (ha : a ∉ mine)
    (hB : (Ls.map fun l => if l.contains a = true then du mine theirs l else 0).sum ≤ (Ls.map fun l => if l.contains b = true then du mine theirs l else 0).sum) :
    (Ls.map (du (mine ++ [a]) (theirs ++ [b]))).sum ≤ (Ls.map (du mine theirs)).sum := by
  have h1 := sum_le (f := du (mine ++ [a]) (theirs ++ [b])) Ls fun l hl => du_step (mine := mine) (theirs := theirs) (a := a) (b := b) (hL l hl).1.le (hL l hl).2 ha
  rw [sum_comb] at h1
  omega
def lostN (theirs : List Nat) (Ls : List (List Nat)) : Nat := (Ls.filter fun l => !(theirs.any fun c => l.contains c)).length
theorem lost_sum (theirs : List Nat) : ∀ Ls : List (List Nat), 64 * (lostN theirs Ls : Int) = (Ls.map fun l => if (theirs.any fun c => l.contains c) = true then (0 : Int) else 64).sum
  | [] => rfl
  | l :: Ls => by
    have ih := lost_sum theirs Ls
    unfold lostN at ih ⊢
    rw [List.filter_cons, List.map_cons, List.sum_cons]
    cases h : theirs.any fun c => l.contains c with
    | true => simp only [Bool.not_true, Bool.false_eq_true, if_false, if_true]; omega
    | false => simp only [Bool.not_false, Bool.false_eq_true, if_false, if_true, List.length_cons]; omega
theorem du_lost {mine theirs l : List Nat} {b : Nat} (hall : ∀ c ∈ l, c ∈ mine ∨ c ∈ theirs ++ [b]) : (if ((theirs ++ [b]).any fun c => l.contains c) = true then (0 : Int) else 64) ≤ du mine theirs l := by
  have hn := du_nn mine theirs l
  by_cases h : ((theirs ++ [b]).any fun c => l.contains c) = true
  · rw [if_pos h]; exact hn
  · rw [if_neg h]
    have e1 : (theirs.any fun c => l.contains c) = false := by
      rw [Bool.eq_false_iff]; intro h2; refine h ?_; rw [List.any_append, h2, Bool.true_or]
    have e2 : lack mine l = 0 := by
      unfold lack
      rw [List.length_eq_zero_iff, List.filter_eq_nil_iff]
      intro c hc
      rcases hall c hc with hm | hm
      · simp [hm]
      · exact absurd (List.any_eq_true.mpr ⟨c, hm, List.contains_iff_mem.mpr hc⟩) h
    unfold du
    rw [if_neg (by rw [e1]; decide), e2]
    decide
theorem PlayTo.inv {rs0 rows : List Str} {n : Nat} {fs ms : List Nat} {sc : List Int} (h : PlayTo rs0 (n + 1) rows fs ms sc) {P : Prop}
    (k : ∀ rows1 fs1 ms1 sc1 a b W, PlayTo rs0 n rows1 fs1 ms1 sc1 → PlayStep rows1 fs1 rows fs a b W → ms = ms1 ++ [a, b] → sc = sc1 ++ [W] → P) : P := by
  cases h with
  | succ h1 s1 => exact k _ _ _ _ _ _ _ h1 s1 rfl rfl
theorem PlayTo.inv0 {rs0 rows : List Str} {fs ms : List Nat} {sc : List Int} (h : PlayTo rs0 0 rows fs ms sc) {P : Prop} (k : rows = rs0 → fs = [97, 98, 99, 100, 101, 102] → ms = [] → sc = [] → P) : P := by
  cases h with
  | zero => exact k rfl rfl rfl rfl
theorem plain {Ls : List (List Nat)} (hL : ∀ l ∈ Ls, Let l ∧ l.Nodup) {rs' : List Str} {ms : List Nat} {sc : List Int} (h : PlayTo (Ls.map (row 0 0)) 3 rs' [] ms sc) :
    ∃ c0 c1 c2 c3 c4 c5, ms = [c0, c1, c2, c3, c4, c5] ∧ (97 ≤ c1 ∧ c1 ≤ 102) ∧ (97 ≤ c3 ∧ c3 ≤ 102) ∧ (97 ≤ c5 ∧ c5 ≤ 102) ∧ rs' = Ls.map (fun l => tolV ⟨l.toArray⟩ c0 c1 c2 c3 c4 c5) ∧
      sc = [(Ls.map (du [c0] [])).sum, (Ls.map (du [c0, c2] [c1])).sum, (Ls.map (du [c0, c2, c4] [c1, c3])).sum] ∧
      64 * (lostN [c1, c3, c5] Ls : Int) ≤ (Ls.map (du [c0, c2, c4] [c1, c3])).sum ∧ (Ls.map (du [c0, c2, c4] [c1, c3])).sum ≤ (Ls.map (du [c0, c2] [c1])).sum ∧
      (Ls.map (du [c0, c2] [c1])).sum ≤ (Ls.map (du [c0] [])).sum ∧ (Ls.map (du [c0] [])).sum ≤ 2 * (Ls.map (du [] [])).sum := by
  refine hideP ?_
  intro G hG
  refine h.inv fun rows2 fs2 ms2 sc2 c4 c5 W2 h2 s3 em3 es3 => h2.inv fun rows1 fs1 ms1 sc1 c2 c3 W1 h1 s2 em2 es2 => h1.inv fun rows0 fs0 ms0 sc0 c0 c1 W0 h0 s1 em1 es1 => h0.inv0 fun er0 ef0 em0 es0 => ?_
  have em : ms = [c0, c1, c2, c3, c4, c5] := by rw [em3, em2, em1, em0]; rfl
  have es : sc = [W0, W1, W2] := by rw [es3, es2, es1, es0]; rfl
  clear em3 es3 em2 es2 em1 es1 em0 es0 h h2 h1 h0
  subst er0 ef0
  have hf0 : FreeOk [97, 98, 99, 100, 101, 102] := ⟨by decide, by decide⟩
  obtain ⟨hf1, a0, a1, m0, m1, n01, n0, n1, all1⟩ := s1.letters hf0
  obtain ⟨hf2, a2, a3, m2, m3, n23, n2, n3, all2⟩ := s2.letters hf1
  obtain ⟨hf3, a4, a5, m4, m5, n45, n4, n5, all3⟩ := s3.letters hf2
  obtain ⟨r1, g1, w1, B1⟩ := s1.lines hL hf0 (mine := []) (by simp) fun l _ => St.start l
  subst r1
  have n20 : c2 ∉ [] ++ [c0] := by
    simp only [List.nil_append, List.mem_singleton]; rintro rfl; exact n0 m2
  obtain ⟨r2, g2, w2, B2⟩ := s2.lines hL hf1 n20 g1
  subst r2
  have n42 : c4 ∉ [] ++ [c0] ++ [c2] := by
    simp only [List.nil_append, List.mem_append, List.mem_singleton]
    rintro (rfl | rfl)
    · rcases all1 c4 (hf0 |> fun _ => m0) with h | h | h
      · exact n0 (by
          have : c4 ∈ fs1 := by
            obtain ⟨p1, q1, p2, q2, e0, e, e3, -, -, -⟩ := s2
            rw [e0, free_mem, e, free_mem]; subst e3; exact .inr (.inr m4)
          exact this)
      · exact n01 h
      · exact n0 h
    · exact n2 m4
  obtain ⟨r3, g3, w3, B3⟩ := s3.lines hL hf2 n42 g2
  subst r3
  simp only [List.nil_append, List.cons_append] at w1 w2 w3 B1 B2 g1 g2 g3 n20 n42
  have hmem4 : c4 ∈ fs1 := by
    obtain ⟨p1, q1, p2, q2, e0, e, e3, -, -, -⟩ := s2
    rw [e0, free_mem, e, free_mem]; subst e3; exact .inr (.inr m4)
  refine hG ?_
  clear hG G
  refine ⟨c0, c1, c2, c3, c4, c5, em, a1, a3, a5, ?_, ?_, ?_, ?_, ?_, ?_⟩
  · exact List.map_congr_left fun l _ => steps_row l a0.1 a1.1 a2.1 a3.1 a4.1 a5.1
  · rw [es, w1, w2, w3]
  · rw [lost_sum]
    refine sum_le Ls fun l hl => du_lost (mine := [c0, c2, c4]) (theirs := [c1, c3]) (b := c5) fun c hc => ?_
    have h6 : c ∈ [97, 98, 99, 100, 101, 102] := by
      have := (hL l hl).1.ok c hc
      simp only [List.mem_cons, List.not_mem_nil, or_false]
      exact six c this.1 this.2
    rcases all1 c h6 with h | h | h
    · exact .inl (by simp [h])
    · exact .inr (by simp [h])
    · rcases all2 c h with h | h | h
      · exact .inl (by simp [h])
      · exact .inr (by simp [h])
      · rcases all3 c h with h | h | h
        · exact .inl (by simp [h])
        · exact .inr (by simp [h])
        · exact absurd h List.not_mem_nil
  · exact pot (mine := [c0, c2]) (theirs := [c1]) (a := c4) (b := c3) hL n42 (B2 c4 m4)
  · exact pot (mine := [c0]) (theirs := []) (a := c2) (b := c1) hL n20 (B1 c2 m2)
  · have h1 := sum_le Ls fun l hl => du_first (a := c0) (hL l hl).1.le (hL l hl).2
    have e2 : ∀ Ls : List (List Nat), (Ls.map fun l => 2 * du [] [] l).sum = 2 * (Ls.map (du [] [])).sum := by
      intro Ls
      induction Ls with
      | nil => rfl
      | cons l Ls ih => simp only [List.map_cons, List.sum_cons]; omega
    rw [e2] at h1
    exact h1

end
-- part Txq
section
/-! the text that the lines make, and its tokens -/
def piece (p : List Nat × Nat) : List Nat := 46 :: (p.1 ++ [p.2])
def flat (segs : List (List Nat × Nat)) : List Nat := segs.flatMap piece
def offS (segs : List (List Nat × Nat)) (i : Nat) : Nat := (flat (segs.take i)).length
def lenS (segs : List (List Nat × Nat)) (i : Nat) : Nat := (segs.getD i ([], 0)).1.length + 1
theorem piece_len (p : List Nat × Nat) : (piece p).length = p.1.length + 2 := by simp [piece]
theorem flat_snoc (segs : List (List Nat × Nat)) (p : List Nat × Nat) : flat (segs ++ [p]) = flat segs ++ piece p := by simp [flat, List.flatMap_append]
theorem flat_take {segs : List (List Nat × Nat)} {i : Nat} {p : List Nat × Nat} (h : segs[i]? = some p) : flat (segs.take (i + 1)) = flat (segs.take i) ++ piece p := by
  rw [List.take_add_one, h, Option.toList_some, flat_snoc]
theorem flat_split {segs : List (List Nat × Nat)} {i : Nat} {p : List Nat × Nat} (h : segs[i]? = some p) : flat segs = flat (segs.take i) ++ ((46 :: p.1) ++ (p.2 :: flat (segs.drop (i + 1)))) := by
  have hlt : i < segs.length := (List.getElem?_eq_some_iff.mp h).1
  have e : segs.drop i = p :: segs.drop (i + 1) := by
    rw [List.drop_eq_getElem_cons hlt]
    congr 1
    exact (List.getElem?_eq_some_iff.mp h).2
  conv => lhs; rw [← List.take_append_drop i segs, e]
  simp [flat, piece, List.flatMap_append]
theorem arr_getD (l : List Nat) (k : Nat) : (l.toArray).getD k 0 = l.getD k 0 := by
  rw [Array.getD_eq_getD_getElem?, List.getElem?_toArray, List.getD_eq_getElem?_getD]
theorem arr_extract (A M Z : List Nat) : ((A ++ (M ++ Z)).toArray).extract A.length (A.length + M.length) = M.toArray := by
  rw [List.extract_toArray]
  simp [List.extract]
structure SegsOk (segs : List (List Nat × Nat)) : Prop where
  four : segs.length = 4
  ok : ∀ p ∈ segs, Let p.1 ∧ (p.2 = 10 ∨ p.2 = 9 ∨ p.2 = 13 ∨ p.2 = 32)
theorem seg_get {segs : List (List Nat × Nat)} (h : SegsOk segs) {i : Nat} (hi : i < 4) : ∃ p, segs[i]? = some p ∧ segs.getD i ([], 0) = p ∧ p ∈ segs := by
  have hlt : i < segs.length := by rw [h.four]; exact hi
  refine ⟨segs[i], List.getElem?_eq_getElem hlt, ?_, List.getElem_mem hlt⟩
  rw [List.getD_eq_getElem?_getD, List.getElem?_eq_getElem hlt]; rfl
theorem flat_le : ∀ {segs : List (List Nat × Nat)}, (∀ p ∈ segs, p.1.length ≤ 6) → (flat segs).length ≤ 8 * segs.length
  | [], _ => Nat.le_refl _
  | p :: segs, h => by
    have h1 := h p (.head _)
    have h2 := flat_le fun q hq => h q (.tail _ hq)
    have e : flat (p :: segs) = piece p ++ flat segs := rfl
    rw [e, List.length_append, piece_len, List.length_cons]
    omega
theorem tok_get {segs : List (List Nat × Nat)} {i : Nat} {p : List Nat × Nat} (h : segs[i]? = some p) (j : Nat) : (flat segs).getD (offS segs i + j) 0 = ((46 :: p.1) ++ (p.2 :: flat (segs.drop (i + 1)))).getD j 0 := by
  rw [flat_split h, List.getD_eq_getElem?_getD, List.getElem?_append_right (by unfold offS; omega), List.getD_eq_getElem?_getD]
  congr 2
  unfold offS
  omega
theorem toks_of {segs : List (List Nat × Nat)} (h : SegsOk segs) : Toks ⟨(flat segs).toArray⟩ (offS segs) (lenS segs) where
  zero := by simp [offS, flat]
  step := fun i hi => by
    obtain ⟨p, h1, h2, h3⟩ := seg_get h hi
    unfold offS lenS
    rw [flat_take h1, List.length_append, piece_len, h2]
    omega
  one := fun i hi => by unfold lenS; omega
  ins := fun i hi => by
    obtain ⟨p, h1, h2, h3⟩ := seg_get h hi
    show _ < (flat segs).toArray.size
    rw [List.size_toArray, flat_split h1]
    unfold offS lenS
    rw [h2]
    simp only [List.length_append, List.length_cons]
    omega
  ch := fun i hi j hj => by
    obtain ⟨p, h1, h2, h3⟩ := seg_get h hi
    unfold lenS at hj
    rw [h2] at hj
    show (flat segs).toArray.getD _ 0 = 46 ∨ (97 ≤ (flat segs).toArray.getD _ 0 ∧ (flat segs).toArray.getD _ 0 ≤ 102)
    rw [arr_getD, tok_get h1]
    have hl : j < (46 :: p.1).length := by simpa using hj
    rw [List.getD_eq_getElem?_getD, List.getElem?_append_left hl, List.getElem?_eq_getElem hl]
    have hm := List.getElem_mem hl
    rcases List.mem_cons.mp hm with e | e
    · exact .inl (by simpa using e)
    · exact .inr (by simpa using (h.ok p h3).1.ok _ e)
  sp := fun i hi => by
    obtain ⟨p, h1, h2, h3⟩ := seg_get h hi
    have e : (flat segs).toArray.getD (offS segs i + lenS segs i) 0 = p.2 := by
      rw [arr_getD, tok_get h1, List.getD_eq_getElem?_getD, List.getElem?_append_right (by unfold lenS; rw [h2]; simp)]
      unfold lenS
      rw [h2]
      simp
    show (flat segs).toArray.getD _ 0 = 10 ∨ (flat segs).toArray.getD _ 0 = 9 ∨ (flat segs).toArray.getD _ 0 = 13 ∨ (flat segs).toArray.getD _ 0 = 32
    rw [e]
    exact (h.ok p h3).2
  last := by
    show _ = (flat segs).toArray.size
    unfold offS
    rw [List.size_toArray, List.take_of_length_le (by rw [h.four]; exact Nat.le_refl _)]
  sz := by
    show (flat segs).toArray.size < 100
    rw [List.size_toArray]
    have := flat_le (segs := segs) fun p hp => (h.ok p hp).1.le
    rw [h.four] at this
    omega
theorem tokAt_of {segs : List (List Nat × Nat)} (h : SegsOk segs) {i : Nat} {p : List Nat × Nat} (hi : segs[i]? = some p) : tokAt ⟨(flat segs).toArray⟩ (offS segs) (lenS segs) i = row 0 0 p.1 := by
  have hlt : i < 4 := by rw [← h.four]; exact (List.getElem?_eq_some_iff.mp hi).1
  unfold tokAt
  rw [if_pos hlt]
  have e : lenS segs i = (46 :: p.1).length := by
    unfold lenS; rw [List.getD_eq_getElem?_getD, hi]; rfl
  rw [e]
  show (⟨((flat segs).toArray).extract (flat (segs.take i)).length ((flat (segs.take i)).length + (46 :: p.1).length)⟩ : Str) = _
  rw [flat_split hi, arr_extract]
  rfl
theorem toks_list {segs : List (List Nat × Nat)} (h : SegsOk segs) : (List.range 5).map (tokAt ⟨(flat segs).toArray⟩ (offS segs) (lenS segs)) = segs.map (fun p => row 0 0 p.1) ++ [Str.ofString ""] := by
  have h4 := h.four
  match segs, h4, h with
  | [p0, p1, p2, p3], _, h =>
    show [tokAt _ _ _ 0, tokAt _ _ _ 1, tokAt _ _ _ 2, tokAt _ _ _ 3, tokAt _ _ _ 4] = [row 0 0 p0.1, row 0 0 p1.1, row 0 0 p2.1, row 0 0 p3.1, Str.ofString ""]
    rw [tokAt_of h (i := 0) rfl, tokAt_of h (i := 1) rfl, tokAt_of h (i := 2) rfl, tokAt_of h (i := 3) rfl]
    rfl
theorem cnt_free (c : Nat) : ∀ l : List Nat, c ∉ l → cnt c l = 0 := cnt_none c
theorem nl_of {segs : List (List Nat × Nat)} (h : SegsOk segs) : ∀ i, i ≤ 4 → nlOf ⟨(flat segs).toArray⟩ (offS segs) (lenS segs) i = 1 + cnt 10 (flat (segs.take i))
  | 0, _ => by simp [nlOf, flat, cnt_nil]
  | i + 1, hi => by
    obtain ⟨p, h1, h2, h3⟩ := seg_get h (show i < 4 by omega)
    have ih := nl_of h i (by omega)
    have e : (flat segs).toArray.getD (offS segs i + lenS segs i) 0 = p.2 := by
      rw [arr_getD, tok_get h1, List.getD_eq_getElem?_getD, List.getElem?_append_right (by unfold lenS; rw [h2]; simp)]
      unfold lenS
      rw [h2]
      simp
    have e0 : cnt 10 p.1 = 0 := cnt_none 10 _ fun hm => by have := (h.ok p h3).1.ok 10 hm; omega
    unfold nlOf
    rw [ih, flat_take h1, cnt_append]
    show _ + (if (flat segs).toArray.getD (offS segs i + lenS segs i) 0 = 10 then 1 else 0) = _
    rw [e]
    unfold piece
    rw [cnt_cons, cnt_append, e0, cnt_cons, cnt_nil]
    split <;> simp <;> omega
theorem nl_all {segs : List (List Nat × Nat)} (h : SegsOk segs) : nlOf ⟨(flat segs).toArray⟩ (offS segs) (lenS segs) 4 = 1 + Txt.count ⟨(flat segs).toArray⟩ (Str.ofString "\n") := by
  rw [nl_of h 4 (Nat.le_refl _), List.take_of_length_le (by rw [h.four]; exact Nat.le_refl _)]
  have e : Str.ofString "\n" = ⟨#[10]⟩ := by decide +kernel
  rw [e, count_cnt]
def sgn (z : Int) : Nat := if z.fmod 4 = 0 then 32 else if z.fmod 4 = 1 then 10 else if z.fmod 4 = 2 then 9 else 13
theorem sgn_ok (z : Int) : sgn z = 10 ∨ sgn z = 9 ∨ sgn z = 13 ∨ sgn z = 32 := by
  unfold sgn
  split
  · simp
  · split
    · simp
    · split <;> simp
theorem pieceOf_list (l : List Nat) (z : Int) : pieceOf ⟨l.toArray⟩ z = ⟨(piece (l, sgn z)).toArray⟩ := by
  have h0 : 0 ≤ z.fmod 4 := Int.fmod_nonneg_of_pos z (by decide)
  have h1 : z.fmod 4 < 4 := Int.fmod_lt_of_pos z (by decide)
  have e : Txt.item (Str.ofString " \n\t\r") (z.fmod 4) = ⟨[sgn z].toArray⟩ := by
    unfold sgn
    have h4 : z.fmod 4 = 0 ∨ z.fmod 4 = 1 ∨ z.fmod 4 = 2 ∨ z.fmod 4 = 3 := by omega
    rcases h4 with h | h | h | h <;> rw [h] <;> decide +kernel
  unfold pieceOf
  rw [e, dot_is, str_app, str_app]
  rfl
theorem join_lists0 : ∀ ss : List (List Nat), PySem.Str.join (Str.ofString "") (ss.map fun l => (⟨l.toArray⟩ : Str)) = ⟨ss.flatten.toArray⟩
  | [] => rfl
  | [l] => by simp [PySem.Str.join]
  | l :: q :: ss => by
    have ih := join_lists0 (q :: ss)
    have e0 : Str.ofString "" = ⟨([] : List Nat).toArray⟩ := by decide +kernel
    show (⟨l.toArray⟩ : Str) ++ Str.ofString "" ++ PySem.Str.join (Str.ofString "") ((q :: ss).map fun l => (⟨l.toArray⟩ : Str)) = _
    rw [ih, e0, str_app, str_app, List.append_nil]
    rfl
theorem join_lists (ss : List (List Nat)) : Txt.join (Str.ofString "") (ss.map fun l => (⟨l.toArray⟩ : Str)) = ⟨ss.flatten.toArray⟩ := by
  show Builtin.Str.glued (PySem.Str.ofString "") _ = _
  rw [StrLaws.glued_eq_join]
  exact join_lists0 ss
def segsOf (Ls : List (List Nat)) (zs : List Int) : List (List Nat × Nat) := List.zipWith (fun l z => (l, sgn z)) Ls zs
theorem text_of (Ls : List (List Nat)) (zs : List Int) (h : Ls.length = 4) : Txt.join (Str.ofString "") ((pieces (Ls.map fun l => (⟨l.toArray⟩ : Str)) zs).take 4) = ⟨(flat (segsOf Ls zs)).toArray⟩ := by
  have e1 : (pieces (Ls.map fun l => (⟨l.toArray⟩ : Str)) zs).take 4 = ((segsOf Ls zs).map piece).map fun l => (⟨l.toArray⟩ : Str) := by
    rw [List.take_of_length_le (by unfold pieces; rw [List.length_zipWith, List.length_map]; omega)]
    unfold pieces segsOf
    rw [List.zipWith_map_left, List.map_zipWith, List.map_zipWith]
    congr 1
    funext l z
    exact pieceOf_list l z
  rw [e1, join_lists]
  rfl
theorem segs_ok {Ls : List (List Nat)} {zs : List Int} (h : Ls.length = 4) (hz : zs.length = 6) (hL : ∀ l ∈ Ls, Let l) : SegsOk (segsOf Ls zs) where
  four := by unfold segsOf; rw [List.length_zipWith]; omega
  ok := fun p hp => by
    unfold segsOf at hp
    obtain ⟨i, hi, rfl⟩ := List.mem_iff_getElem.mp hp
    rw [List.getElem_zipWith]
    exact ⟨hL _ (List.getElem_mem _), sgn_ok _⟩
theorem segs_fst {Ls : List (List Nat)} {zs : List Int} (h : Ls.length = 4) (hz : zs.length = 6) : (segsOf Ls zs).map (fun p => row 0 0 p.1) = Ls.map (row 0 0) := by
  unfold segsOf
  rw [List.map_zipWith]
  obtain ⟨a, l1, rfl, hq1⟩ := cons_len h
  obtain ⟨b, l2, rfl, hq2⟩ := cons_len hq1
  obtain ⟨c, l3, rfl, hq3⟩ := cons_len hq2
  obtain ⟨d, l4, rfl, hq4⟩ := cons_len hq3
  obtain rfl := List.eq_nil_of_length_eq_zero hq4
  obtain ⟨_, z1, rfl, hzq1⟩ := cons_len hz
  obtain ⟨_, z2, rfl, hzq2⟩ := cons_len hzq1
  obtain ⟨_, z3, rfl, hzq3⟩ := cons_len hzq2
  obtain ⟨_, z4, rfl, hzq4⟩ := cons_len hzq3
  rfl
theorem bits_any : ∀ n : Nat, n < 63 → ([97, 98, 99, 100, 101, 102].filter fun c => Builtin.bitAnd ((1 + (n : Int)).fdiv (2 ^ (c - 97))) 1 != 0) ≠ [] := by
  decide +kernel
theorem line_let (z : Int) : Let (lineOf z) ∧ (lineOf z).Nodup := by
  refine ⟨⟨?_, ?_, ?_⟩, ?_⟩
  · have h0 : 0 ≤ z.fmod 63 := Int.fmod_nonneg_of_pos z (by decide)
    have h1 : z.fmod 63 < 63 := Int.fmod_lt_of_pos z (by decide)
    obtain ⟨n, hn⟩ := Int.eq_ofNat_of_zero_le h0
    unfold lineOf bitZ
    rw [hn]
    exact bits_any n (by omega)
  · exact List.length_filter_le (fun c => bitZ z (c - 97)) [97, 98, 99, 100, 101, 102]
  · intro c hc
    have := (List.mem_filter.mp hc).1
    simp only [List.mem_cons, List.not_mem_nil, or_false] at this
    omega
  · exact List.Pairwise.filter _ (show ([97, 98, 99, 100, 101, 102] : List Nat).Nodup by decide)
theorem dot_row (l : List Nat) : Str.ofString "." ++ (⟨l.toArray⟩ : Str) = row 0 0 l := by
  rw [dot_is, str_app]
  rfl
theorem row_ok0 {l : List Nat} (h : Let l) : RowInv [97, 98, 99, 100, 101, 102] (row 0 0 l) := by
  refine ⟨0, 0, l, rfl, h, ?_, by decide⟩
  rw [Nat.zero_add]
  exact List.length_filter_le _ _

end
-- part LawT
section
open PyProof.Rows.LCg (NsObj lst Off3 Off1 CompEnd CompRest FinE FinA SrcAt)
theorem ints_at : ∀ {vs : List Value} {ns : List Int} {i : Nat} {v : Value}, IntsAre vs ns → vs[i]? = some v → ∃ a t, ns[i]? = some a ∧ v = .int a t
  | _, _, 0, _, .cons a t _, h => ⟨a, t, rfl, by injection h with h; exact h.symm⟩
  | _, _, i + 1, _, .cons _ _ r, h => ints_at (i := i) r (by simpa using h)
  | _, _, _, _, .nil, h => by simp at h
theorem cells10_len (sc : List Int) : (cells10 sc).length = 10 := by simp [cells10]
theorem off1_mem {D : Addr} : ∀ {rest : List (Addr × Obj)}, Off1 D rest → ∀ p ∈ rest, p.1 ≠ D
  | [], _, p, hp => by cases hp
  | q :: r, h, p, hp => by
    rcases List.mem_cons.mp hp with rfl | hp
    · first | exact Ne.symm h.1 | exact h.1
    · exact off1_mem h.2 p hp
theorem join_of {prog : Program} {w : World} {A : Around} {E : Value → Shared → Prop} {s : Shared} {D : Addr} {rs : List Str} {ys : List Value} {t : Tok} {n : Nat} {h₀ : Heap} {L : Addr} {news : List (Addr × Obj)} {Q : Value → Shared → Prop} (N : News h₀ L s.heap news) (hm : (D, listOf ys.toArray n) ∈ news)
    (hs : StrsAre ys rs) (hl : (rs.map Str.length).sum + rs.length ≤ 1000) (h : ∀ t' k, Q (.str (Txt.join (Str.ofString "") rs) t') { s with toks := k }) : wpAny (model prog w) A (call (.builtin "str.join") [.str (Str.ofString "") t, .ref D]) Q E s := by
  refine join_listW (News.isList N hm) hs (by decide +kernel) (Nat.le_trans hl (by decide)) ?_
  exact h
theorem five {α : Type} {l : List α} (h : l.length = 5) : ∃ a b c d e, l = [a, b, c, d, e] := by
  obtain ⟨a, l1, rfl, hq1⟩ := cons_len h
  obtain ⟨b, l2, rfl, hq2⟩ := cons_len hq1
  obtain ⟨c, l3, rfl, hq3⟩ := cons_len hq2
  obtain ⟨d, l4, rfl, hq4⟩ := cons_len hq3
  obtain ⟨e, l5, rfl, hq5⟩ := cons_len hq4
  obtain rfl := List.eq_nil_of_length_eq_zero hq5
  exact ⟨a, b, c, d, e, rfl⟩
theorem ivOf : ∀ {vs : List Value} {ns : List Int}, IntsAre vs ns → ∃ cs : List (Int × Tok), vs = iv cs ∧ cs.map Prod.fst = ns
  | _, _, .nil => ⟨[], rfl, rfl⟩
  | _, _, .cons a t r => by
    obtain ⟨cs, rfl, rfl⟩ := ivOf r
    exact ⟨(a, t) :: cs, rfl, rfl⟩
theorem news_ne {h₀ h : Heap} {L a b : Addr} {oa ob : Obj} {l : List (Addr × Obj)} (N : News h₀ L h l) (ha : (a, oa) ∈ l) (hb : (b, ob) ∈ l) (hd : oa.data ≠ ob.data) : @Ne Nat a b := by
  rintro rfl
  have h1 := (N _ ha).1
  have h2 := (N _ hb).1
  rw [show (a, oa).2 = oa from rfl] at h1
  have : some oa = some ob := h1.symm.trans h2
  injection this with this
  exact hd (by rw [this])
theorem ne_strs {prog : Program} {w : World} {A : Around} {E : Value → Shared → Prop} {s : Shared} {a b : Addr} {rs ts : List (Str × Tok)} {Q : Value → Shared → Prop}
    (ha : s.heap.IsList a (strValues rs).toArray) (hb : s.heap.IsList b (strValues ts).toArray) (e : rs.map Prod.fst = ts.map Prod.fst) (hok : ∀ x ∈ rs.map Prod.fst, PyData.strOk x = true) (hu : A.units + 64 < cLine) (h : Q (.bool false) s) :
    wpAny (model prog w) A (compareOp .NotEq (.ref a) (.ref b)) Q E s := by
  have c1 := sv_carried rs
  have c2 := sv_carried ts
  have e1 : (rs.map fun r => PyData.str r.1) = (rs.map Prod.fst).map PyData.str := by rw [List.map_map]; rfl
  have e2 : (ts.map fun r => PyData.str r.1) = (rs.map Prod.fst).map PyData.str := by rw [e, List.map_map]; rfl
  rw [e1] at c1
  rw [e2] at c2
  refine ne_dataH (reads_newData ha c1) (reads_newData hb c2) (strs_shaped hok) (strs_shaped hok) hu ?_
  have : PyData.eqv (.list ((rs.map Prod.fst).map PyData.str)) (.list ((rs.map Prod.fst).map PyData.str)) = true := by
    simp only [PyData.eqv]; exact strs_eqv _
  rw [this]
  exact h
def isTx (r : Str × Tok) (v : Value) : Prop := v = .str r.1 r.2
theorem sv_isTx {rs : List (Str × Tok)} {i : Nat} {v : Value} (h : (strValues rs).toArray[i]? = some v) : ∃ a, rs[i]? = some a ∧ isTx a v := by
  simp only [strValues, List.getElem?_toArray, List.getElem?_map, Option.map_eq_some_iff] at h
  obtain ⟨r, h1, h2⟩ := h
  exact ⟨r, h1, h2.symm⟩

theorem ints_get : ∀ {vs : List Value} {ns : List Int} {i : Nat} {v : Value}, IntsAre vs ns → vs[i]? = some v → ∃ a t, ns[i]? = some a ∧ v = .int a t
  | _, _, 0, _, .cons a t _, h => ⟨a, t, rfl, by injection h with h; exact h.symm⟩
  | _, _, i + 1, _, .cons _ _ r, h => ints_get (i := i) r (by simpa using h)
  | _, _, _, _, .nil, h => by simp at h
theorem ints_len : ∀ {vs : List Value} {ns : List Int}, IntsAre vs ns → vs.length = ns.length
  | _, _, .nil => rfl
  | _, _, .cons _ _ r => by simp [ints_len r]

end
section
open PyProof.Rows.LCg (NsObj lst Off3 Off1 CompEnd CompRest FinE FinA SrcAt)
-- part P0
section
theorem words_42 : True := by
  k_with "kcj_m" => ((with_reducible ((repeat (refine sub_step ?_ ?_; (· (repeat (first | exact List.mem_cons_self | apply List.mem_cons_of_mem))))); (intro _ zqhp; (repeat (first | exact zqhp | apply List.mem_cons_of_mem)); done))))
  k_with "k_ne" => (first | (with_reducible assumption) | (with_reducible exact Ne.symm (by assumption)) | ((try dsimp only); (repeat ((rename (@Ne Nat _ _) => zqhz'); clear zqhz')); omega))
  k_with "FinE" => ((((k_dflt (intro _ _ _ _ _ zqo1')); refine hideP ?_; intro zqG' zqhG'; (try simp only [LCg.Off1, and_true] at zqo1'); (repeat (obtain ⟨_, zqo1'⟩ := zqo1')); refine zqhG' ?_; clear zqhG' zqG'; (try (revert zqo1'; intro _)); (first | ((rename News _ _ _ _ => zqN'); (simp only [List.nil_append, List.cons_append] at zqN'); (revert zqN'; intro _)) | skip); (try dsimp only)); (try (revert zqN'; intro _)); (try (revert zqo1'; intro _))))
  k_with "FinA" => ((((k_dflt (intro _ _ _ _ _ zqo1')); refine hideP ?_; intro zqG' zqhG'; (try simp only [LCg.Off1, and_true] at zqo1'); (repeat (obtain ⟨_, zqo1'⟩ := zqo1')); refine zqhG' ?_; clear zqhG' zqG'; (try (revert zqo1'; intro _)); (first | ((rename News _ _ _ _ => zqN'); (simp only [List.nil_append, List.cons_append] at zqN'); (revert zqN'; intro _)) | skip); (try dsimp only)); (try (revert zqN'; intro _)); (try (revert zqo1'; intro _))))
  k_with "exec Assign cons ListComp" => ((k_here; k_dflt (refine wpAny_Assign_Name ?_ (by rfl))))
  k_with "exec Assign cons ListComp" => ((k_here; (with_reducible show wpAny _ _ (exec (Stmt.Assign [Expr.Name _ _] (Expr.ListComp _ [⟨Expr.Tuple _ _ _, _, _, _⟩] _ _) _) _) _ _ _); k_dflt (refine assignZ (_F₀ := by k_asm) (by rfl) (by with_unfolding_all rfl) (by with_unfolding_all rfl) (by decide) (by rfl) (by decide) (by rfl) (by rfl) (by decide) (by rfl) (by rfl) ?_)))
  k_with "eval ListComp" => ((k_here; (with_reducible show wpAny _ _ (eval (Expr.ListComp _ [⟨Expr.Name _ _, _, _, _⟩] _ _) _) _ _ _); k_dflt (refine evalK (_F₀ := by k_asm) (by with_unfolding_all rfl) (by intro _; rfl) (by intro _; rfl) (by rfl) (by decide) (by intro _ _; rfl) ?_)))
  k_with "eval ListComp" => ((k_here; (with_reducible show wpAny _ _ (eval (Expr.ListComp _ [⟨Expr.Tuple _ _ _, _, [_], _⟩] _ _) _) _ _ _); k_dflt (refine evalZT (_F₀ := by k_asm) (by with_unfolding_all rfl) (by decide) (by rfl) (by decide) (by rfl) (by rfl) (by decide) ?_)))
  k_with "call type:zip" => ((refine halt ?_))
  k_with "call type:enumerate" => ((refine halt ?_))
  k_with "CompK" => ((refine halt ?_))
  k_with "CompU" => ((refine halt ?_))
  k_with "CompT" => ((refine halt ?_))
  k_with "ZEnd" => ((refine halt ?_))
  k_with "EndK" => ((refine halt ?_))
  k_with "eval Name" => ((k_here; (with_reducible show wpAny _ _ (eval (Expr.Name _ _) (envX _ _ _ _ _ _)) _ _ _); k_dflt (refine' nameX_L (by k_asm) (by first | rfl | k_asm) ?_ (by rfl) (by rfl); k_whole)))
  k_with "eval Name" => ((k_here; (with_reducible show wpAny _ _ (eval (Expr.Name _ _) (envX _ _ _ _ _ _)) _ _ _); k_dflt (refine' nameX_B (by k_asm) (by k_asm) (by k_asm) (by first | k_is | kernel_rfl | with_unfolding_all rfl) (by boot_by_name) (by decide) ?_ (by rfl) (by rfl); k_whole)))
  k_with "exec Assign cons ListComp" => ((k_here; (with_reducible show wpAny _ _ (exec (Stmt.Assign [Expr.Name _ _] (Expr.ListComp _ [⟨Expr.Name _ _, _, [], _⟩] _ _) _) _) _ _ _); k_dflt (refine assignU (F₀ := by k_asm) (by rfl) (by with_unfolding_all rfl) (by with_unfolding_all rfl) (by decide) (by rfl) (by decide) (by rfl) (by rfl) (by rfl) ?_)))
  k_with "eval ListComp" => ((k_here; (with_reducible show wpAny _ _ (eval (Expr.ListComp _ [⟨Expr.Name _ _, _, [], _⟩] _ _) _) _ _ _); k_dflt (refine evalU (F₀ := by k_asm) (by with_unfolding_all rfl) (by decide) (by rfl) (by decide) (by rfl) ?_)))
  k_with "eval ListComp" => ((k_here; (with_reducible show wpAny _ _ (eval (Expr.ListComp _ [⟨Expr.Name _ _, _, [_], _⟩] _ _) _) _ _ _); k_dflt (refine evalT (F₀ := by k_asm) (by with_unfolding_all rfl) (by decide) (by rfl) (by decide) (by rfl) ?_)))
  exact True.intro
theorem top_off_P0 : True := by
  w_top off
  exact True.intro
theorem ints_snoc : ∀ {vs : List Value} {ns : List Int} (a : Int) (t : Tok), IntsAre vs ns → IntsAre (vs ++ [.int a t]) (ns ++ [a])
  | _, _, a, t, .nil => .cons a t .nil
  | _, _, a, t, .cons b u r => .cons b u (ints_snoc a t r)
theorem take_zip_snoc {f : Int → Int → Int} {as bs : List Int} {i : Nat} {a b : Int} (ha : as[i]? = some a) (hb : bs[i]? = some b) : (List.zipWith f as bs).take i ++ [f a b] = (List.zipWith f as bs).take (i + 1) := by
  have e : (List.zipWith f as bs)[i]? = some (f a b) := by rw [List.getElem?_zipWith, ha, hb]
  rw [List.take_add_one, e, Option.toList_some]
set_option maxHeartbeats 800000 in
theorem law_part0 (w : World) (p : Program) (loose : List Str) (mean : ExcName → Option Value) (mg mb : Str → Option Value) (dp un : Nat) (gd : Option (List Code)) (L a : Addr) (ccd : Value) (outer : List Env) (A₀ : Around) (base h₀ : Heap) (m : Str → Option Value) (s : Shared) (Q : Flow → Shared → Prop) (E : Value → Shared → Prop)
    (B : Below A₀ base outer h₀) (X : (Mine.hd.heap_39 w.params).In h₀) (T : Top p loose mean mg mb h₀) (hd : dp + 60 < recursionLimit) (hu : un + 600 < cLine)
    (S : Addr) (vs : List Value) (sc : List Int) (hS : h₀.IsList S vs.toArray) (hI : IntsAre vs sc) (hl : sc.length ≤ 63) (hm : m (Str.ofString "script") = some (.ref S)) (rest : List (Addr × Obj)) (F : Fr h₀ L s.heap m) (N : News h₀ L s.heap rest)
    (next : ∀ (DC : Addr) (cs : List (Int × Tok)) (n : Nat) (h' : Heap) (tk' : Nat), cs.map Prod.fst = cells10 sc → Fr h₀ L h' (fun y => if y = Str.ofString "cells" then some (.ref DC) else m y) → News h₀ L h' ((DC, listOf (iv cs).toArray n) :: rest) → (∀ p ∈ rest, p.1 ≠ DC) → Q .next { s with heap := h', toks := tk' }) :
    wpAny (model PySem.Challenge.rw_sh0017_01.prog w) (lawAround dp un gd L a ccd outer) (exec (lawStmt 0) (lawEnv L a ccd)) Q E s := by
  k_fill
  simp only [lawStmt, lawEnv, lawAround, lawRec, recOf, List.drop_zero, List.headD_cons]
  k_steps
  refine ⟨?_⟩
  rename_i D3 ws3 h3 F3 N3 hI3 l3
  have hw3 : ws3.length = (sc.take 10 ++ List.replicate 10 0).length := ints_len hI3
  have hw3' : 10 ≤ ws3.length := by rw [hw3]; simp
  refine zipZ (n := 10) (fun i ws => ∃ cs : List (Int × Tok), ws = iv cs ∧ cs.map Prod.fst = (cells10 sc).take i) (by rfl) (by k_asm) (by k_asm) (by k_mem) (by k_mem) ?_ (by decide) ⟨[], rfl, rfl⟩ ?_ ?_
  · show 10 = min 10 ws3.length
    omega
  · intro s₁ i v₁ v₂ ws C oC D2 m₂ h tk E' hi hx1 hx2 hqq1_ hC hm1 hm2 F4 N4 hCD
    refine hideP ?_
    intro Gq hGq
    obtain ⟨cs, rfl, hcs⟩ := hqq1_
    obtain ⟨b, tb, hb, rfl⟩ := ints_get hI3 hx2
    obtain ⟨a', ta, ha, rfl⟩ := ints_get (ns := [6, 24, 41, 51, 0, 0, 0, 0, 0, 0]) (by repeat constructor) hx1
    refine hGq ?_
    clear hGq Gq
    k_steps
    refine ⟨?_⟩
    refine ⟨⟨_, rfl⟩, cs ++ [(a' + b, _)], by (unfold iv; rw [List.map_append]; rfl), ?_⟩
    rw [List.map_append, hcs]
    exact take_zip_snoc (f := (· + ·)) ha hb
  · rintro ws g₂ tk₂ ⟨cs, rfl, hcs⟩
    k_steps
    rename_i D4 h4 t4 F4 N4 oa1 oa2 oa3 oa4 oa5 oa6
    refine next D4 cs _ h4 _ ?_ F4 (cb_drop N4 (by kcj_m)) (off1_mem oa6)
    rw [hcs]
    exact List.take_of_length_le (by rw [cells10_len]; exact Nat.le_refl _)

end
-- part P1
section
theorem top_off_P1 : True := by
  w_top off
  exact True.intro
theorem ints_iv : ∀ {vs : List Value} {ns : List Int}, IntsAre vs ns → ∃ cs : List (Int × Tok), vs = iv cs ∧ cs.map Prod.fst = ns
  | _, _, .nil => ⟨[], rfl, rfl⟩
  | _, _, .cons a t r => by
    obtain ⟨cs, rfl, rfl⟩ := ints_iv r
    exact ⟨(a, t) :: cs, rfl, rfl⟩
def isZ (z : Int × Tok) (v : Value) : Prop := v = .int z.1 z.2
theorem iv_isZ {cs : List (Int × Tok)} {i : Nat} {v : Value} (h : (iv cs).toArray[i]? = some v) : ∃ a, cs[i]? = some a ∧ isZ a v := by
  simp only [iv, List.getElem?_toArray, List.getElem?_map, Option.map_eq_some_iff] at h
  obtain ⟨r, h1, h2⟩ := h
  exact ⟨r, h1, h2.symm⟩
def isLn (z : Int × Tok) (v : Value) : Prop := ∃ t, v = .str ⟨(lineOf z.1).toArray⟩ t
theorem cps_abc {i c : Nat} (h : (Str.ofString "abcdef").cps[i]? = some c) : c = 97 + i := by
  have e : (Str.ofString "abcdef").cps = #[97, 98, 99, 100, 101, 102] := by decide +kernel
  rw [e] at h
  have hi : i < 6 := by
    rcases Nat.lt_or_ge i 6 with h2 | h2
    · exact h2
    · rw [Array.getElem?_eq_none (by simpa using h2)] at h; cases h
  have h6 : i = 0 ∨ i = 1 ∨ i = 2 ∨ i = 3 ∨ i = 4 ∨ i = 5 := by omega
  rcases h6 with rfl | rfl | rfl | rfl | rfl | rfl <;> (simp at h; omega)
theorem cv_snoc (fs : List (Nat × Tok)) (a : Nat) (t : Tok) : cv fs ++ [.str ⟨#[a]⟩ t] = cv (fs ++ [(a, t)]) := by simp [cv]
theorem take_abc {i : Nat} (h : i < 6) : ([97, 98, 99, 100, 101, 102] : List Nat).take (i + 1) = ([97, 98, 99, 100, 101, 102] : List Nat).take i ++ [97 + i] := by
  have h6 : i = 0 ∨ i = 1 ∨ i = 2 ∨ i = 3 ∨ i = 4 ∨ i = 5 := by omega
  rcases h6 with rfl | rfl | rfl | rfl | rfl | rfl <;> rfl
theorem fs_yes {z : Int} {i : Nat} {fs : List (Nat × Tok)} {t : Tok} {b : Int} (h : fs.map Prod.fst = (([97, 98, 99, 100, 101, 102] : List Nat).take i).filter (fun c => bitZ z (c - 97))) (hb : b = Builtin.bitAnd ((1 + z.fmod 63).fdiv (2 ^ i)) 1) (hn : b ≠ 0) (hi : i < 6 := by omega) :
    (fs ++ [(97 + i, t)]).map Prod.fst = (([97, 98, 99, 100, 101, 102] : List Nat).take (i + 1)).filter (fun c => bitZ z (c - 97)) := by
  rw [take_abc hi, List.filter_append, List.map_append, h]
  have e : bitZ z (97 + i - 97) = true := by
    rw [Nat.add_sub_cancel_left]
    unfold bitZ
    rw [← hb]
    simpa using hn
  rw [List.filter_cons, if_pos e]
  rfl
theorem fs_no {z : Int} {i : Nat} {fs : List (Nat × Tok)} {b : Int} (h : fs.map Prod.fst = (([97, 98, 99, 100, 101, 102] : List Nat).take i).filter (fun c => bitZ z (c - 97))) (hb : b = Builtin.bitAnd ((1 + z.fmod 63).fdiv (2 ^ i)) 1) (hn : b = 0) (hi : i < 6 := by omega) :
    fs.map Prod.fst = (([97, 98, 99, 100, 101, 102] : List Nat).take (i + 1)).filter (fun c => bitZ z (c - 97)) := by
  rw [take_abc hi, List.filter_append, h]
  have e : bitZ z (97 + i - 97) = false := by
    rw [Nat.add_sub_cancel_left]
    unfold bitZ
    rw [← hb]
    simpa using hn
  rw [List.filter_cons, if_neg (by rw [e]; exact Bool.false_ne_true)]
  exact (List.append_nil _).symm
theorem join_cv0 : ∀ fs : List (Nat × Tok), PySem.Str.join (Str.ofString "") (fs.map fun p => (⟨#[p.1]⟩ : Str)) = ⟨(fs.map Prod.fst).toArray⟩
  | [] => rfl
  | [_] => rfl
  | (a, _) :: q :: fs => by
    have ih := join_cv0 (q :: fs)
    have e0 : Str.ofString "" = ⟨([] : List Nat).toArray⟩ := by decide +kernel
    show (⟨#[a]⟩ : Str) ++ Str.ofString "" ++ PySem.Str.join (Str.ofString "") ((q :: fs).map fun p => (⟨#[p.1]⟩ : Str)) = _
    rw [ih, e0]
    show (⟨[a].toArray⟩ : Str) ++ ⟨([] : List Nat).toArray⟩ ++ _ = _
    rw [str_app, str_app]
    rfl
theorem join_cv (fs : List (Nat × Tok)) : Txt.join (Str.ofString "") (fs.map fun p => (⟨#[p.1]⟩ : Str)) = ⟨(fs.map Prod.fst).toArray⟩ := by
  show Builtin.Str.glued (PySem.Str.ofString "") _ = _
  rw [StrLaws.glued_eq_join]
  exact join_cv0 fs
theorem isLn_sv : ∀ {l : List (Int × Tok)} {ys : List Value}, All2 isLn l ys → ∃ rs : List (Str × Tok), ys = strValues rs ∧ rs.map Prod.fst = l.map fun z => (⟨(lineOf z.1).toArray⟩ : Str)
  | [], [], _ => ⟨[], rfl, rfl⟩
  | a :: l, _ :: ys, ⟨⟨t, h⟩, h2⟩ => by
    obtain ⟨rs, e1, e2⟩ := isLn_sv h2
    exact ⟨(_, t) :: rs, by rw [h, e1]; rfl, by rw [List.map_cons, List.map_cons, ← e2]⟩
theorem cv_strs : ∀ fs : List (Nat × Tok), StrsAre (cv fs) (fs.map fun p => (⟨#[p.1]⟩ : Str))
  | [] => .nil
  | (a, t) :: fs => .cons _ t (cv_strs fs)
theorem cv_sum : ∀ fs : List (Nat × Tok), (((fs.map fun p => (⟨#[p.1]⟩ : Str)).map Str.length).sum + (fs.map fun p => (⟨#[p.1]⟩ : Str)).length) = 2 * fs.length
  | [] => rfl
  | (a, _) :: fs => by
    have := cv_sum fs
    simp only [List.map_cons, List.sum_cons, List.length_cons, List.length_map] at this ⊢
    have e : Str.length (⟨#[a]⟩ : Str) = 1 := rfl
    rw [e]; omega
theorem words_43 : True := by
  k_with "call builtin:str.join" => ((k_here; (with_reducible show wpAny _ _ (call (Value.builtin "str.join") [Value.str _ _, Value.ref _]) _ _ _); k_dflt (refine' join_of (by k_asm) (by k_mem) (by exact cv_strs _) (by rw [cv_sum]; omega) ?_); intro _ _))
  exact True.intro
set_option maxHeartbeats 800000 in
theorem law_part1 (w : World) (p : Program) (loose : List Str) (mean : ExcName → Option Value) (mg mb : Str → Option Value) (dp un : Nat) (gd : Option (List Code)) (L a : Addr) (ccd : Value) (outer : List Env) (A₀ : Around) (base h₀ : Heap) (m : Str → Option Value) (s : Shared) (Q : Flow → Shared → Prop) (E : Value → Shared → Prop)
    (B : Below A₀ base outer h₀) (X : (Mine.hd.heap_39 w.params).In h₀) (T : Top p loose mean mg mb h₀) (hd : dp + 60 < recursionLimit) (hu : un + 600 < cLine)
    (DC : Addr) (cs : List (Int × Tok)) (nC : Nat) (o1 : Obj) (v1 : Option Value) (rest : List (Addr × Obj)) (F : Fr h₀ L s.heap (fun y => if y = Str.ofString "cells" then some (.ref DC) else m y)) (N : News h₀ L s.heap ((L + 1, o1) :: rest)) (hC : (DC, listOf (iv cs).toArray nC) ∈ rest) (d1 : o1.data = .cell v1) (hne : ∀ p ∈ rest, p.1 ≠ L + 1) (h10 : cs.length = 10)
    (next : ∀ (DL : Addr) (rs : List (Str × Tok)) (o' : Obj) (h' : Heap) (tk' : Nat), rs.map Prod.fst = ((cs.map Prod.fst).take 4).map (fun z => (⟨(lineOf z).toArray⟩ : Str)) → Fr h₀ L h' (fun y => if y = Str.ofString "cells" then some (.ref DC) else m y) → News h₀ L h' ((DL, listOf (strValues rs).toArray (strValues rs).length) :: (L + 1, o') :: rest) → o'.data = .cell (some (.ref DL)) → @Ne Nat DL (L + 1) → (∀ p ∈ rest, p.1 ≠ DL) → Q .next { s with heap := h', toks := tk' }) :
    wpAny (model PySem.Challenge.rw_sh0017_01.prog w) (lawAround dp un gd L a ccd outer) (exec (lawStmt 1) (lawEnv L a ccd)) Q E s := by
  simp only [lawStmt, lawRec, recOf, List.drop_succ_cons, List.drop_zero, List.headD_cons]
  k_fill
  have hic : IntsAre (iv cs) (cs.map Prod.fst) := iv_ints cs
  k_steps
  refine ⟨?_⟩
  rename_i D1 ws1 h1 F1 N1 i1 c1 c2 l1
  obtain ⟨c4, rfl, hc4⟩ := ints_iv i1
  have hc4l : c4.length = 4 := by have := congrArg List.length hc4; simp at this; omega
  refine CompK.map isZ isLn c4 (Src.list (its := (iv c4).toArray) (by rfl) (by k_asm) (by k_asm) (.inr ⟨_, by k_mem, rfl, _, rfl⟩) (by rw [sizeLine_eq]; simp only [List.size_toArray, iv, List.length_map]; omega)) (by k_asm) (by k_asm) (by simp only [List.size_toArray, iv, List.length_map]) (fun i v h _ => iv_isZ h) ?_ ?_
  · intro g z v ys I oI C D K oK h tk E' hz hpq1 hoK F2 N2 hS off hpq2
    refine hideP ?_
    intro Gq hGq
    obtain rfl := hpq1
    obtain ⟨i9, i10, i11, i12, i13, i14⟩ := hpq2
    refine hGq ?_
    clear hGq Gq
    refine hideQ ?_
    intro qqh eeh hqqh
    try dsimp only
    k_steps
    first
      | refine ⟨?_⟩
      | (k_dflt (refine' LCgL.ld_built ?f ?x ?t ?i ?b ?d ?_); (case f => k_asm); (case x => k_asm); (case t => k_asm); (case i => first | k_is | kernel_rfl | with_unfolding_all rfl); (case b => boot_by_name); (case d => decide); k_steps; refine ⟨?_⟩)
    refine enumZT (fun i ws => ∃ fs : List (Nat × Tok), ws = cv fs ∧ fs.map Prod.fst = ([97, 98, 99, 100, 101, 102].take i).filter (fun c => bitZ z.1 (c - 97))) (by rfl) (by k_asm) (by k_asm) (by decide +kernel) (by decide +kernel) ⟨[], rfl, rfl⟩ ?_ ?_
    · intro s₁ i c v1 v2 ws C2 oC2 D2 m₂ h tk E'' hi hc hpq1 hpq2 hpq3 hC2 hx hx2 F3 N3 hCD
      refine hideP ?_
      intro Gq hGq
      obtain ⟨t1, rfl⟩ := hpq1
      obtain ⟨t2, rfl⟩ := hpq2
      obtain ⟨fs, rfl, hfs⟩ := hpq3
      have hi6 : i < 6 := hi
      have h6 : i = 0 ∨ i = 1 ∨ i = 2 ∨ i = 3 ∨ i = 4 ∨ i = 5 := by omega
      refine hGq ?_
      clear hGq Gq
      rcases h6 with rfl | rfl | rfl | rfl | rfl | rfl
      all_goals
        obtain rfl := cps_abc hc
        k_steps
        · rename Builtin.bitAnd _ 1 ≠ 0 => hb
          refine ⟨?_⟩
          refine ⟨⟨_, rfl⟩, fs ++ [(_, t2)], by rw [cv_snoc], ?_⟩
          exact fs_yes hfs rfl hb
        · rename Builtin.bitAnd _ 1 = 0 => hb
          refine ⟨?_⟩
          refine ⟨⟨_, rfl⟩, fs, rfl, ?_⟩
          exact fs_no hfs rfl hb
    · rintro ws g₂ tk₂ ⟨fs, rfl, hfs⟩
      have hfl : fs.length ≤ 6 := by
        have := congrArg List.length hfs
        rw [List.length_map] at this
        have h2 := List.length_filter_le (fun c => bitZ z.1 (c - 97)) (List.take (Str.ofString "abcdef").cps.size [97, 98, 99, 100, 101, 102])
        rw [List.length_take] at h2
        have h3 : ([97, 98, 99, 100, 101, 102] : List Nat).length = 6 := rfl
        omega
      k_steps
      refine ⟨?_⟩
      refine endK_same (by k_asm) (by k_asm) (by kcj_m) off hS ?_
      refine ⟨rfl, ?_⟩
      rw [join_cv]
      have : fs.map Prod.fst = lineOf z.1 := hfs
      rw [this]
      exact ⟨_, rfl⟩
  · intro g ys hys
    obtain ⟨rs, rfl, hrs⟩ := isLn_sv hys
    k_steps
    rename_i D2 h2 t2 od1 od2 od3 h3 o3 F3 N3 d3
    have N4 : News h₀ L h3 ((D2, listOf (strValues rs).toArray (strValues rs).length) :: (D1, listOf (iv c4).toArray 0) :: (L + 1, o3) :: rest) := N3
    refine next D2 rs o3 _ _ ?_ F3 (cb_drop N4 (by kcj_m)) d3 ?_ ?_
    · rw [hrs]
      have e2 : c4.map (fun z => (⟨(lineOf z.1).toArray⟩ : Str)) = (c4.map Prod.fst).map fun z => (⟨(lineOf z).toArray⟩ : Str) := by rw [List.map_map]; rfl
      rw [e2, hc4, List.map_take]
    · exact Ne.symm od2
    · exact off1_mem od3

end
-- part P2
section
theorem words_44 : True := by
  k_with_none
  k_with "k_all" => (first | assumption | exact ne_of_top (by omega))
  k_with "kd_mem" => (first | exact Pick.head | (apply Pick.tail; kd_mem))
  k_with "UnrEnd" => ((k_dflt (refine' unrEnd_pick (by k_asm) (by k_asm) (by kd_mem) (by k_all) ?_; k_whole)))
  k_with "exec For Name Name cons nil" => ((k_here; (with_unfolding_all refine' For_invVF (by k_asm) (by exact rfl) (by exact rfl) ?_; k_whole)))
  k_with "pyIter ref" => ((((with_reducible show wpAny _ _ (pyIter (Value.ref _)) (fun it s₂ => LoopAtV _ _ _ _ _ _ _ _ _ it s₂) _ _); k_dflt (refine' iter_listUnr (by exact rfl) (by k_asm) (by k_asm) (by k_mem) (by exact rfl) (by exact rfl) ?_; k_whole); intro _ zql1'; (try k_lt zql1')); (try (revert zql1'; intro _))))
  k_with "m1" => ((refine' code_def (by k_asm) (by k_asm) (by k_asm) (by k_asm) (by k_asm) (by exact rfl) (by exact rfl) (by first | exact rfl | assumption) (by k_is) (by k_is) (by first | k_room | ktr_room) (by first | exact BindsTo.of_eq rfl | exact binds_K (by k_in) rfl (by k_is) rfl rfl rfl | fail "k_enter: no rule for these arguments") (by exact locs rfl) ?_ (by exact rfl) (by exact rfl) (by exact rfl) (by decide)))
  k_with "m2" => ((refine' code_defC (by k_asm) (by k_asm) (by k_asm) (by k_asm) (by k_asm) (by exact rfl) (by exact rfl) (by first | exact rfl | assumption) (by k_is) (by k_is) (by first | k_room | ktr_room) (by first | exact BindsTo.of_eq rfl | exact binds_K (by k_in) rfl (by k_is) rfl rfl rfl | fail "k_enter: no rule for these arguments") (by exact rfl) (by decide +kernel) ?_ (by exact rfl) (by exact rfl) (by exact rfl)))
  k_with "call builtin:str.find" => (((with_reducible show wpAny _ _ (call (Value.builtin "str.find") [Value.str _ _, Value.str _ _, Value.int _ _, Value.int _ _]) _ _ _); k_dflt (refine find4_call ?_)))
  k_with "call builtin:len" => (((with_reducible show wpAny _ _ (call (Value.builtin "len") [Value.str (PySem.Str.mk _) _]) _ _ _); k_dflt (refine SBL.len (by first | decide | (simp only [PySem.Str.length, List.size_toArray, List.length_cons, List.length_nil]; omega)) ?_); (try dsimp only)))
  k_with "UnrEnd" => ((k_dflt (refine' unrEnd_pickL (by k_asm) (by k_asm) (by kd_mem) (by k_all) (by k_mem) ?_; k_whole)))
  k_with "kcj_m" => ((intro _ zqhp; repeat (first | exact zqhp | apply List.Mem.tail)))
  k_with "k_mem" => (((show @Membership.mem (PySem.Addr × PySem.Obj) (List (PySem.Addr × PySem.Obj)) List.instMembership _ _); with_reducible assumption))
  k_with "kn_code" => (first | exact codeHd_of_K (c := 37) (P := 33) (by k_asm) (by kernel_rfl) | exact codeHd_of_K (c := 117) (P := 113) (by k_asm) (by kernel_rfl))
  k_with "is_list" => (exact News.isList (by k_asm) (by k_mem))
  k_with "k_room" => (ktr_room)
  k_with "Kq" => ((k_dflt (refine' Kq.of (by with_reducible assumption) ?_)))
  k_with "truthy ref" => ((k_here; (with_reducible show wpAny _ _ (truthy (Value.ref _)) _ _ _); (with_unfolding_all refine' wpAny_truthy_list (items := _) (by is_list) (by (simp only [List.size_toArray, List.length_cons, List.length_nil]; omega)) ?_; k_whole; (try simp only [List.isEmpty_toArray, List.isEmpty_cons, List.isEmpty_nil, Array.isEmpty_push, Bool.not_false, Bool.not_true]))))
  k_with "call builtin:list.pop" => (((k_here; (with_reducible show wpAny _ _ (call (Value.builtin _) [Value.ref _, Value.int 0 _]) _ _ _); k_dflt (refine' popU (by k_asm) (by k_asm) (by k_upd) (by rfl) (by (simp only [List.size_toArray, List.length_cons]; exact seqIndex_zero _)) (by rfl) (by (rw [sizeLine_eq]; simp only [List.length_cons]; omega)) ?_); intro _ _ zqN'; (try dsimp only [List.nil_append, List.cons_append] at zqN')); (try (revert zqN'; intro _))))
  k_with "call builtin:list.append" => ((k_here; (with_reducible show wpAny _ _ (call (Value.builtin _) [Value.ref _, _]) _ _ _); k_dflt (refine' append_K (by k_asm) (by k_asm) (by k_upd) ?_ (by (rw [sizeLine_eq]; simp only [List.size_toArray]; omega)); k_whole); intro _ _ _; (try k_sweep)))
  k_with "eval ListComp" => ((k_here; lcg_look; k_dflt (refine evalU (F₀ := by k_asm) (by with_unfolding_all rfl) (by decide) (by rfl) (by decide) (by rfl) ?_)))
  k_with "eval ListComp" => ((k_here; lct_look; k_dflt (refine evalT (F₀ := by k_asm) (by with_unfolding_all rfl) (by decide) (by rfl) (by decide) (by rfl) ?_)))
  k_with "exec Assign cons ListComp" => ((k_here; lcg_look; k_dflt (refine assignU (F₀ := by k_asm) (by rfl) (by with_unfolding_all rfl) (by with_unfolding_all rfl) (by decide) (by rfl) (by decide) (by rfl) (by rfl) (by rfl) ?_)))
  k_with "exec Assign cons ListComp" => ((k_here; lct_look; k_dflt (refine assignT (F₀ := by k_asm) (by rfl) (by with_unfolding_all rfl) (by with_unfolding_all rfl) (by decide) (by rfl) (by decide) (by rfl) (by rfl) (by rfl) ?_)))
  k_with "CompEnd" => ((k_dflt (refine' compEnd_of (by k_asm) (by k_asm) (by with_reducible assumption) (by kcj_m) (by with_reducible assumption) ?_; k_whole)))
  k_with "call builtin:len" => ((k_here; (with_reducible show wpAny _ _ (call (Value.builtin "len") [Value.ref _]) _ _ _); k_dflt (refine' kun_lenL (by exact News.isList (by k_asm) (by k_mem)) (by with_reducible assumption) (by omega) ?_; k_whole)))
  k_with "kcj_m" => ((with_reducible ((repeat (refine sub_step ?_ ?_; (· (repeat (first | exact List.mem_cons_self | apply List.mem_cons_of_mem))))); (intro _ zqhp; (repeat (first | exact zqhp | apply List.mem_cons_of_mem)); done))))
  k_with "k_ne" => (first | (with_reducible assumption) | (with_reducible exact Ne.symm (by assumption)) | ((try dsimp only); (repeat ((rename (@Ne Nat _ _) => zqhz'); clear zqhz')); omega))
  k_with "FinE" => ((((k_dflt (intro _ _ _ _ _ zqo1')); refine hideP ?_; intro zqG' zqhG'; (try simp only [LCg.Off1, and_true] at zqo1'); (repeat (obtain ⟨_, zqo1'⟩ := zqo1')); refine zqhG' ?_; clear zqhG' zqG'; (try (revert zqo1'; intro _)); (first | ((rename News _ _ _ _ => zqN'); (simp only [List.nil_append, List.cons_append] at zqN'); (revert zqN'; intro _)) | skip); (try dsimp only)); (try (revert zqN'; intro _)); (try (revert zqo1'; intro _))))
  k_with "FinA" => ((((k_dflt (intro _ _ _ _ _ zqo1')); refine hideP ?_; intro zqG' zqhG'; (try simp only [LCg.Off1, and_true] at zqo1'); (repeat (obtain ⟨_, zqo1'⟩ := zqo1')); refine zqhG' ?_; clear zqhG' zqG'; (try (revert zqo1'; intro _)); (first | ((rename News _ _ _ _ => zqN'); (simp only [List.nil_append, List.cons_append] at zqN'); (revert zqN'; intro _)) | skip); (try dsimp only)); (try (revert zqN'; intro _)); (try (revert zqo1'; intro _))))
  k_with "exec Assign cons ListComp" => ((k_here; k_dflt (refine wpAny_Assign_Name ?_ (by rfl))))
  k_with "exec Assign cons ListComp" => ((k_here; (with_reducible show wpAny _ _ (exec (Stmt.Assign [Expr.Name _ _] (Expr.ListComp _ [⟨Expr.Tuple _ _ _, _, _, _⟩] _ _) _) _) _ _ _); k_dflt (refine assignZ (_F₀ := by k_asm) (by rfl) (by with_unfolding_all rfl) (by with_unfolding_all rfl) (by decide) (by rfl) (by decide) (by rfl) (by rfl) (by decide) (by rfl) (by rfl) ?_)))
  k_with "eval ListComp" => ((k_here; (with_reducible show wpAny _ _ (eval (Expr.ListComp _ [⟨Expr.Name _ _, _, _, _⟩] _ _) _) _ _ _); k_dflt (refine evalK (_F₀ := by k_asm) (by with_unfolding_all rfl) (by intro _; rfl) (by intro _; rfl) (by rfl) (by decide) (by intro _ _; rfl) ?_)))
  k_with "eval ListComp" => ((k_here; (with_reducible show wpAny _ _ (eval (Expr.ListComp _ [⟨Expr.Tuple _ _ _, _, [_], _⟩] _ _) _) _ _ _); k_dflt (refine evalZT (_F₀ := by k_asm) (by with_unfolding_all rfl) (by decide) (by rfl) (by decide) (by rfl) (by rfl) (by decide) ?_)))
  k_with "call type:zip" => ((refine halt ?_))
  k_with "call type:enumerate" => ((refine halt ?_))
  k_with "CompK" => ((refine halt ?_))
  k_with "CompU" => ((refine halt ?_))
  k_with "CompT" => ((refine halt ?_))
  k_with "ZEnd" => ((refine halt ?_))
  k_with "EndK" => ((refine halt ?_))
  k_with "eval Name" => ((k_here; (with_reducible show wpAny _ _ (eval (Expr.Name _ _) (envX _ _ _ _ _ _)) _ _ _); k_dflt (refine' nameX_L (by k_asm) (by first | rfl | k_asm) ?_ (by rfl) (by rfl); k_whole)))
  k_with "eval Name" => ((k_here; (with_reducible show wpAny _ _ (eval (Expr.Name _ _) (envX _ _ _ _ _ _)) _ _ _); k_dflt (refine' nameX_B (by k_asm) (by k_asm) (by k_asm) (by first | k_is | kernel_rfl | with_unfolding_all rfl) (by boot_by_name) (by decide) ?_ (by rfl) (by rfl); k_whole)))
  k_with "exec Assign cons ListComp" => ((k_here; (with_reducible show wpAny _ _ (exec (Stmt.Assign [Expr.Name _ _] (Expr.ListComp _ [⟨Expr.Name _ _, _, [], _⟩] _ _) _) _) _ _ _); k_dflt (refine assignU (F₀ := by k_asm) (by rfl) (by with_unfolding_all rfl) (by with_unfolding_all rfl) (by decide) (by rfl) (by decide) (by rfl) (by rfl) (by rfl) ?_)))
  k_with "eval ListComp" => ((k_here; (with_reducible show wpAny _ _ (eval (Expr.ListComp _ [⟨Expr.Name _ _, _, [], _⟩] _ _) _) _ _ _); k_dflt (refine evalU (F₀ := by k_asm) (by with_unfolding_all rfl) (by decide) (by rfl) (by decide) (by rfl) ?_)))
  k_with "eval ListComp" => ((k_here; (with_reducible show wpAny _ _ (eval (Expr.ListComp _ [⟨Expr.Name _ _, _, [_], _⟩] _ _) _) _ _ _); k_dflt (refine evalT (F₀ := by k_asm) (by with_unfolding_all rfl) (by decide) (by rfl) (by decide) (by rfl) ?_)))
  exact True.intro
theorem top_off_P2 : True := by
  w_top off
  exact True.intro
theorem words_45 : True := by
  k_with "eval ListComp" => ((k_here; (with_reducible show wpAny _ _ (eval (Expr.ListComp _ [⟨Expr.Tuple _ _ _, _, [], _⟩] _ _) _) _ _ _); k_dflt (refine evalZ (_F₀ := by k_asm) (by with_unfolding_all rfl) (by decide) (by rfl) (by decide) (by rfl) (by rfl) (by decide) ?_)))
  exact True.intro
theorem take_zip_snoc2 {α β γ : Type} {f : α → β → γ} {as : List α} {bs : List β} {i : Nat} {a : α} {b : β} (ha : as[i]? = some a) (hb : bs[i]? = some b) : (List.zipWith f as bs).take i ++ [f a b] = (List.zipWith f as bs).take (i + 1) := by
  have e : (List.zipWith f as bs)[i]? = some (f a b) := by rw [List.getElem?_zipWith, ha, hb]
  rw [List.take_add_one, e, Option.toList_some]
theorem sv_strs : ∀ ts : List (Str × Tok), StrsAre (strValues ts) (ts.map Prod.fst)
  | [] => .nil
  | (a, t) :: ts => .cons _ t (sv_strs ts)
theorem sum_le8 : ∀ ts : List (Str × Tok), (∀ r ∈ ts, r.1.length ≤ 8) → ((ts.map Prod.fst).map Str.length).sum ≤ 8 * ts.length
  | [], _ => Nat.le_refl _
  | r :: ts, h => by
    have h1 := h r List.mem_cons_self
    have h2 := sum_le8 ts fun r hr => h r (.tail _ hr)
    simp only [List.map_cons, List.sum_cons, List.length_cons]
    omega
theorem strs_get {rs : List (Str × Tok)} {i : Nat} {v : Value} (h : (strValues rs)[i]? = some v) : ∃ x t, (rs.map Prod.fst)[i]? = some x ∧ (x, t) ∈ rs ∧ v = .str x t := by
  simp only [strValues, List.getElem?_map, Option.map_eq_some_iff] at h
  obtain ⟨r, h1, h2⟩ := h
  exact ⟨r.1, r.2, by rw [List.getElem?_map, h1]; rfl, List.mem_of_getElem? h1, h2.symm⟩
set_option maxHeartbeats 800000 in
theorem law_part2 (w : World) (p : Program) (loose : List Str) (mean : ExcName → Option Value) (mg mb : Str → Option Value) (dp un : Nat) (gd : Option (List Code)) (L a : Addr) (ccd : Value) (outer : List Env) (A₀ : Around) (base h₀ : Heap) (m : Str → Option Value) (s : Shared) (Q : Flow → Shared → Prop) (E : Value → Shared → Prop)
    (B : Below A₀ base outer h₀) (X : (Mine.hd.heap_39 w.params).In h₀) (T : Top p loose mean mg mb h₀) (hd : dp + 60 < recursionLimit) (hu : un + 600 < cLine)
    (DC DL : Addr) (cs : List (Int × Tok)) (nC nL : Nat) (rs : List (Str × Tok)) (o1 : Obj) (rest : List (Addr × Obj)) (hm : m (Str.ofString "cells") = some (.ref DC)) (F : Fr h₀ L s.heap m) (N : News h₀ L s.heap ((DL, listOf (strValues rs).toArray nL) :: (L + 1, o1) :: rest)) (hC : (DC, listOf (iv cs).toArray nC) ∈ rest) (d1 : o1.data = .cell (some (.ref DL))) (h10 : cs.length = 10) (h4 : rs.length = 4) (hlen : ∀ r ∈ rs, r.1.length ≤ 6)
    (next : ∀ (t' : Tok) (h' : Heap) (tk' : Nat), Fr h₀ L h' (fun y => if y = Str.ofString "text" then some (.str (Txt.join (Str.ofString "") ((pieces (rs.map Prod.fst) ((cs.map Prod.fst).drop 4)).take 4)) t') else m y) → News h₀ L h' ((DL, listOf (strValues rs).toArray nL) :: (L + 1, o1) :: rest) → Q .next { s with heap := h', toks := tk' }) :
    wpAny (model PySem.Challenge.rw_sh0017_01.prog w) (lawAround dp un gd L a ccd outer) (exec (lawStmt 2) (lawEnv L a ccd)) Q E s := by
  revert X
  k_fill
  intro X
  simp only [lawStmt, lawEnv, lawAround, lawRec, recOf, List.drop_succ_cons, List.drop_zero, List.headD_cons]
  have hic : IntsAre (iv cs) (cs.map Prod.fst) := iv_ints cs
  k_steps
  refine ⟨?_⟩
  rename_i D3 ws3 h3 F3 N3 hI3 hc3 hl3 l3
  have hw3 : ws3.length = 6 := by rw [ints_len hI3]; simp only [List.length_drop, List.length_map]; omega
  refine zipZ (n := 4) (fun i ws => ∃ ts : List (Str × Tok), ws = strValues ts ∧ (∀ r ∈ ts, r.1.length ≤ 8) ∧ ts.map Prod.fst = (pieces (rs.map Prod.fst) ((cs.map Prod.fst).drop 4)).take i) (by rfl) (by k_asm) (by k_asm) (by k_mem) (by k_mem) ?_ (by decide) ⟨[], rfl, (fun _ h => nomatch h), rfl⟩ ?_ ?_
  · show 4 = min (strValues rs).length ws3.length
    rw [hw3]
    simp only [strValues, List.length_map]
    omega
  · intro s₁ i v₁ v₂ ws C oC D2 m₂ h tk E' hi hx1 hx2 hqq1_ hC2 hm1 hm2 F4 N4 hCD
    refine hideP ?_
    intro Gq hGq
    obtain ⟨ts, rfl, h8, hts⟩ := hqq1_
    obtain ⟨b, tb, hb, rfl⟩ := ints_get hI3 hx2
    obtain ⟨x, tx, hx, hmem, rfl⟩ := strs_get hx1
    have hlx : x.length ≤ 6 := hlen _ hmem
    refine hGq ?_
    clear hGq Gq
    refine hideQ ?_
    intro qqh eeh hqqh
    try dsimp only
    k_steps
    rename (Txt.item _ _).length = 1 => hone
    have hl8 : (Str.ofString "." ++ x ++ Txt.item (Str.ofString " \n\t\r") (b.fmod 4)).length ≤ 8 := by
      rw [PySem.Str.length_append, PySem.Str.length_append, hone]
      have : (Str.ofString ".").length = 1 := by decide +kernel
      omega
    refine ⟨?_⟩
    refine ⟨⟨_, rfl⟩, ts ++ [(_, _)], by (unfold strValues; rw [List.map_append]; rfl), ?_, ?_⟩
    · intro r hr
      rcases List.mem_append.mp hr with hr | hr
      · exact h8 r hr
      · rw [List.mem_singleton.mp hr]; exact hl8
    · have e := take_zip_snoc2 (f := pieceOf) hx hb
      rw [List.map_append, hts, List.map_cons, List.map_nil]
      unfold pieces
      rw [← e]
  · intro ws g₂ tk₂ hqq2_
    refine hideP ?_
    intro Gq hGq
    obtain ⟨ts, rfl, h8, hts⟩ := hqq2_
    have htl : ts.length ≤ 4 := by
      have := congrArg List.length hts
      rw [List.length_map] at this
      have h2 := List.length_take_le 4 (pieces (rs.map Prod.fst) ((cs.map Prod.fst).drop 4))
      omega
    have hsum := sum_le8 ts h8
    refine hGq ?_
    clear hGq Gq
    k_steps
    rename_i D4 h4' t4 F4 N4 oa1 oa2 oa3 oa4
    refine join_of N4 List.mem_cons_self (sv_strs ts) ?_ ?_
    · rw [List.length_map]; omega
    · intro t' k'
      k_steps
      rename_i h5 F5 N5
      rw [hts] at F5
      exact next t' h5 _ F5 (cb_drop N5 (by kcj_m))

end
-- part P3
section
theorem words_46 : True := by
  k_with_none
  k_with "k_all" => (first | assumption | exact ne_of_top (by omega))
  k_with "kd_mem" => (first | exact Pick.head | (apply Pick.tail; kd_mem))
  k_with "UnrEnd" => ((k_dflt (refine' unrEnd_pick (by k_asm) (by k_asm) (by kd_mem) (by k_all) ?_; k_whole)))
  k_with "exec For Name Name cons nil" => ((k_here; (with_unfolding_all refine' For_invVF (by k_asm) (by exact rfl) (by exact rfl) ?_; k_whole)))
  k_with "pyIter ref" => ((((with_reducible show wpAny _ _ (pyIter (Value.ref _)) (fun it s₂ => LoopAtV _ _ _ _ _ _ _ _ _ it s₂) _ _); k_dflt (refine' iter_listUnr (by exact rfl) (by k_asm) (by k_asm) (by k_mem) (by exact rfl) (by exact rfl) ?_; k_whole); intro _ zql1'; (try k_lt zql1')); (try (revert zql1'; intro _))))
  k_with "m1" => ((refine' code_def (by k_asm) (by k_asm) (by k_asm) (by k_asm) (by k_asm) (by exact rfl) (by exact rfl) (by first | exact rfl | assumption) (by k_is) (by k_is) (by first | k_room | ktr_room) (by first | exact BindsTo.of_eq rfl | exact binds_K (by k_in) rfl (by k_is) rfl rfl rfl | fail "k_enter: no rule for these arguments") (by exact locs rfl) ?_ (by exact rfl) (by exact rfl) (by exact rfl) (by decide)))
  k_with "m2" => ((refine' code_defC (by k_asm) (by k_asm) (by k_asm) (by k_asm) (by k_asm) (by exact rfl) (by exact rfl) (by first | exact rfl | assumption) (by k_is) (by k_is) (by first | k_room | ktr_room) (by first | exact BindsTo.of_eq rfl | exact binds_K (by k_in) rfl (by k_is) rfl rfl rfl | fail "k_enter: no rule for these arguments") (by exact rfl) (by decide +kernel) ?_ (by exact rfl) (by exact rfl) (by exact rfl)))
  k_with "call builtin:str.find" => (((with_reducible show wpAny _ _ (call (Value.builtin "str.find") [Value.str _ _, Value.str _ _, Value.int _ _, Value.int _ _]) _ _ _); k_dflt (refine find4_call ?_)))
  k_with "call builtin:len" => (((with_reducible show wpAny _ _ (call (Value.builtin "len") [Value.str (PySem.Str.mk _) _]) _ _ _); k_dflt (refine SBL.len (by first | decide | (simp only [PySem.Str.length, List.size_toArray, List.length_cons, List.length_nil]; omega)) ?_); (try dsimp only)))
  k_with "UnrEnd" => ((k_dflt (refine' unrEnd_pickL (by k_asm) (by k_asm) (by kd_mem) (by k_all) (by k_mem) ?_; k_whole)))
  k_with "kcj_m" => ((intro _ zqhp; repeat (first | exact zqhp | apply List.Mem.tail)))
  k_with "k_mem" => (((show @Membership.mem (PySem.Addr × PySem.Obj) (List (PySem.Addr × PySem.Obj)) List.instMembership _ _); with_reducible assumption))
  k_with "kn_code" => (first | exact codeHd_of_K (c := 37) (P := 33) (by k_asm) (by kernel_rfl) | exact codeHd_of_K (c := 117) (P := 113) (by k_asm) (by kernel_rfl))
  k_with "is_list" => (exact News.isList (by k_asm) (by k_mem))
  k_with "k_room" => (ktr_room)
  k_with "Kq" => ((k_dflt (refine' Kq.of (by with_reducible assumption) ?_)))
  k_with "truthy ref" => ((k_here; (with_reducible show wpAny _ _ (truthy (Value.ref _)) _ _ _); (with_unfolding_all refine' wpAny_truthy_list (items := _) (by is_list) (by (simp only [List.size_toArray, List.length_cons, List.length_nil]; omega)) ?_; k_whole; (try simp only [List.isEmpty_toArray, List.isEmpty_cons, List.isEmpty_nil, Array.isEmpty_push, Bool.not_false, Bool.not_true]))))
  k_with "call builtin:list.pop" => (((k_here; (with_reducible show wpAny _ _ (call (Value.builtin _) [Value.ref _, Value.int 0 _]) _ _ _); k_dflt (refine' popU (by k_asm) (by k_asm) (by k_upd) (by rfl) (by (simp only [List.size_toArray, List.length_cons]; exact seqIndex_zero _)) (by rfl) (by (rw [sizeLine_eq]; simp only [List.length_cons]; omega)) ?_); intro _ _ zqN'; (try dsimp only [List.nil_append, List.cons_append] at zqN')); (try (revert zqN'; intro _))))
  k_with "call builtin:list.append" => ((k_here; (with_reducible show wpAny _ _ (call (Value.builtin _) [Value.ref _, _]) _ _ _); k_dflt (refine' append_K (by k_asm) (by k_asm) (by k_upd) ?_ (by (rw [sizeLine_eq]; simp only [List.size_toArray]; omega)); k_whole); intro _ _ _; (try k_sweep)))
  k_with "eval ListComp" => ((k_here; lcg_look; k_dflt (refine evalU (F₀ := by k_asm) (by with_unfolding_all rfl) (by decide) (by rfl) (by decide) (by rfl) ?_)))
  k_with "eval ListComp" => ((k_here; lct_look; k_dflt (refine evalT (F₀ := by k_asm) (by with_unfolding_all rfl) (by decide) (by rfl) (by decide) (by rfl) ?_)))
  k_with "exec Assign cons ListComp" => ((k_here; lcg_look; k_dflt (refine assignU (F₀ := by k_asm) (by rfl) (by with_unfolding_all rfl) (by with_unfolding_all rfl) (by decide) (by rfl) (by decide) (by rfl) (by rfl) (by rfl) ?_)))
  k_with "exec Assign cons ListComp" => ((k_here; lct_look; k_dflt (refine assignT (F₀ := by k_asm) (by rfl) (by with_unfolding_all rfl) (by with_unfolding_all rfl) (by decide) (by rfl) (by decide) (by rfl) (by rfl) (by rfl) ?_)))
  k_with "CompEnd" => ((k_dflt (refine' compEnd_of (by k_asm) (by k_asm) (by with_reducible assumption) (by kcj_m) (by with_reducible assumption) ?_; k_whole)))
  k_with "call builtin:len" => ((k_here; (with_reducible show wpAny _ _ (call (Value.builtin "len") [Value.ref _]) _ _ _); k_dflt (refine' kun_lenL (by exact News.isList (by k_asm) (by k_mem)) (by with_reducible assumption) (by omega) ?_; k_whole)))
  k_with "kcj_m" => ((with_reducible ((repeat (refine sub_step ?_ ?_; (· (repeat (first | exact List.mem_cons_self | apply List.mem_cons_of_mem))))); (intro _ zqhp; (repeat (first | exact zqhp | apply List.mem_cons_of_mem)); done))))
  k_with "k_ne" => (first | (with_reducible assumption) | (with_reducible exact Ne.symm (by assumption)) | ((try dsimp only); (repeat ((rename (@Ne Nat _ _) => zqhz'); clear zqhz')); omega))
  k_with "FinE" => ((((k_dflt (intro _ _ _ _ _ zqo1')); refine hideP ?_; intro zqG' zqhG'; (try simp only [LCg.Off1, and_true] at zqo1'); (repeat (obtain ⟨_, zqo1'⟩ := zqo1')); refine zqhG' ?_; clear zqhG' zqG'; (try (revert zqo1'; intro _)); (first | ((rename News _ _ _ _ => zqN'); (simp only [List.nil_append, List.cons_append] at zqN'); (revert zqN'; intro _)) | skip); (try dsimp only)); (try (revert zqN'; intro _)); (try (revert zqo1'; intro _))))
  k_with "FinA" => ((((k_dflt (intro _ _ _ _ _ zqo1')); refine hideP ?_; intro zqG' zqhG'; (try simp only [LCg.Off1, and_true] at zqo1'); (repeat (obtain ⟨_, zqo1'⟩ := zqo1')); refine zqhG' ?_; clear zqhG' zqG'; (try (revert zqo1'; intro _)); (first | ((rename News _ _ _ _ => zqN'); (simp only [List.nil_append, List.cons_append] at zqN'); (revert zqN'; intro _)) | skip); (try dsimp only)); (try (revert zqN'; intro _)); (try (revert zqo1'; intro _))))
  k_with "exec Assign cons ListComp" => ((k_here; k_dflt (refine wpAny_Assign_Name ?_ (by rfl))))
  k_with "exec Assign cons ListComp" => ((k_here; (with_reducible show wpAny _ _ (exec (Stmt.Assign [Expr.Name _ _] (Expr.ListComp _ [⟨Expr.Tuple _ _ _, _, _, _⟩] _ _) _) _) _ _ _); k_dflt (refine assignZ (_F₀ := by k_asm) (by rfl) (by with_unfolding_all rfl) (by with_unfolding_all rfl) (by decide) (by rfl) (by decide) (by rfl) (by rfl) (by decide) (by rfl) (by rfl) ?_)))
  k_with "eval ListComp" => ((k_here; (with_reducible show wpAny _ _ (eval (Expr.ListComp _ [⟨Expr.Name _ _, _, _, _⟩] _ _) _) _ _ _); k_dflt (refine evalK (_F₀ := by k_asm) (by with_unfolding_all rfl) (by intro _; rfl) (by intro _; rfl) (by rfl) (by decide) (by intro _ _; rfl) ?_)))
  k_with "eval ListComp" => ((k_here; (with_reducible show wpAny _ _ (eval (Expr.ListComp _ [⟨Expr.Tuple _ _ _, _, [_], _⟩] _ _) _) _ _ _); k_dflt (refine evalZT (_F₀ := by k_asm) (by with_unfolding_all rfl) (by decide) (by rfl) (by decide) (by rfl) (by rfl) (by decide) ?_)))
  k_with "call type:zip" => ((refine halt ?_))
  k_with "call type:enumerate" => ((refine halt ?_))
  k_with "CompK" => ((refine halt ?_))
  k_with "CompU" => ((refine halt ?_))
  k_with "CompT" => ((refine halt ?_))
  k_with "ZEnd" => ((refine halt ?_))
  k_with "EndK" => ((refine halt ?_))
  k_with "eval Name" => ((k_here; (with_reducible show wpAny _ _ (eval (Expr.Name _ _) (envX _ _ _ _ _ _)) _ _ _); k_dflt (refine' nameX_L (by k_asm) (by first | rfl | k_asm) ?_ (by rfl) (by rfl); k_whole)))
  k_with "eval Name" => ((k_here; (with_reducible show wpAny _ _ (eval (Expr.Name _ _) (envX _ _ _ _ _ _)) _ _ _); k_dflt (refine' nameX_B (by k_asm) (by k_asm) (by k_asm) (by first | k_is | kernel_rfl | with_unfolding_all rfl) (by boot_by_name) (by decide) ?_ (by rfl) (by rfl); k_whole)))
  k_with "exec Assign cons ListComp" => ((k_here; (with_reducible show wpAny _ _ (exec (Stmt.Assign [Expr.Name _ _] (Expr.ListComp _ [⟨Expr.Name _ _, _, [], _⟩] _ _) _) _) _ _ _); k_dflt (refine assignU (F₀ := by k_asm) (by rfl) (by with_unfolding_all rfl) (by with_unfolding_all rfl) (by decide) (by rfl) (by decide) (by rfl) (by rfl) (by rfl) ?_)))
  k_with "eval ListComp" => ((k_here; (with_reducible show wpAny _ _ (eval (Expr.ListComp _ [⟨Expr.Name _ _, _, [], _⟩] _ _) _) _ _ _); k_dflt (refine evalU (F₀ := by k_asm) (by with_unfolding_all rfl) (by decide) (by rfl) (by decide) (by rfl) ?_)))
  k_with "eval ListComp" => ((k_here; (with_reducible show wpAny _ _ (eval (Expr.ListComp _ [⟨Expr.Name _ _, _, [_], _⟩] _ _) _) _ _ _); k_dflt (refine evalT (F₀ := by k_asm) (by with_unfolding_all rfl) (by decide) (by rfl) (by decide) (by rfl) ?_)))
  exact True.intro
theorem top_off_P3 : True := by
  w_top off
  exact True.intro
theorem words_47 : True := by
  k_with "call ref" => ((((k_dflt (show wpAny _ _ (call (Value.ref 118) [Value.str _ _] []) _ _ _)); k_dflt (refine' Ctr.use (mac_spec _ _ _ _ (by assumption)) (by k_asm) (by k_asm) (by k_asm) (by k_asm) (by k_asm) (by first | exact rfl | assumption) (by ktr_room) (by ktr_units) ?_); (rintro _ _ _ _ _ zqkN ⟨_, _, _, _, _, _, _, _, zqq1, zqq2, _, _, _, _, _⟩); subst zqq1; subst zqq2; (try simp only [List.cons_append] at zqkN)); (try (revert zqkN; intro _))))
  exact True.intro
set_option maxHeartbeats 800000 in
theorem law_part3 (w : World) (p : Program) (loose : List Str) (mean : ExcName → Option Value) (mg mb : Str → Option Value) (dp un : Nat) (gd : Option (List Code)) (L a : Addr) (ccd : Value) (outer : List Env) (A₀ : Around) (base h₀ : Heap) (m : Str → Option Value) (s : Shared) (Q : Flow → Shared → Prop) (E : Value → Shared → Prop)
    (B : Below A₀ base outer h₀) (X : (Mine.hd.heap_39 w.params).In h₀) (T : Top p loose mean mg mb h₀) (hd : dp + 60 < recursionLimit) (hu : un + 600 < cLine)
    (x : Str) (t : Tok) (hm : m (Str.ofString "text") = some (.str x t)) (o2 : Obj) (v2 : Option Value) (d2 : o2.data = .cell v2) (rest : List (Addr × Obj)) (h113 : ∀ p ∈ (L + 2, o2) :: rest, p.1 ≠ 113) (hne : ∀ p ∈ rest, p.1 ≠ L + 2) (F : Fr h₀ L s.heap m) (N : News h₀ L s.heap ((113, tabObj #[]) :: (L + 2, o2) :: rest))
    (next : ∀ (am dx ap AL : Addr) (core : List (Addr × Obj)) (e : MachE) (k : Nat) (ta : Tok) (o' : Obj) (h' : Heap) (tk' : Nat), Fr h₀ L h' m → News h₀ L h' ((dx, machD e ap k) :: (ap, pbOf [] 0) :: (AL, listOf #[.int 0 ta] 0) :: (L + 2, o') :: (rest ++ core)) → MacOk w x am dx ap AL core e → o'.data = .cell (some (.ref am)) → (∀ p ∈ (L + 2, o2) :: rest, p.1 < AL) → @LT.lt Nat _ AL dx → @LT.lt Nat _ dx ap → (∀ p ∈ core, ∀ q ∈ (L + 2, o2) :: rest, @Ne Nat p.1 q.1) → Q .next { s with heap := h', toks := tk' }) :
    wpAny (model PySem.Challenge.rw_sh0017_01.prog w) (lawAround dp un gd L a ccd outer) (exec (lawStmt 3) (lawEnv L a ccd)) Q E s := by
  revert X
  k_fill
  intro X
  simp only [lawStmt, lawEnv, lawAround, lawRec, recOf, List.drop_succ_cons, List.drop_zero, List.headD_cons]
  k_steps
  rename_i kh ktk kF am dx ap AL core e k ta kM kl1 kl2 kl3 kcr kN
  have hall : ∀ p ∈ rest ++ core, p.1 ≠ L + 2 := by
    intro p hp
    rcases List.mem_append.mp hp with hp | hp
    · exact hne p hp
    · exact kcr p hp _ List.mem_cons_self
  have hlt : @LT.lt Nat _ (L + 2) AL := kl1 _ List.mem_cons_self
  refine storeX_C kF kN (c := L + 2) rfl (.tail (by dsimp only; k_ne) (.tail (by dsimp only; k_ne) (.tail (by dsimp only; k_ne) (.head hall)))) d2 ?_ rfl rfl
  intro h' o' F' N' d'
  k_steps
  exact next am dx ap AL core e k ta o' h' _ F' N' kM d' kl1 kl2 kl3 kcr

end
-- part P4
section
theorem words_48 : True := by
  k_with_none
  k_with "k_all" => (first | assumption | exact ne_of_top (by omega))
  k_with "kd_mem" => (first | exact Pick.head | (apply Pick.tail; kd_mem))
  k_with "UnrEnd" => ((k_dflt (refine' unrEnd_pick (by k_asm) (by k_asm) (by kd_mem) (by k_all) ?_; k_whole)))
  k_with "exec For Name Name cons nil" => ((k_here; (with_unfolding_all refine' For_invVF (by k_asm) (by exact rfl) (by exact rfl) ?_; k_whole)))
  k_with "pyIter ref" => ((((with_reducible show wpAny _ _ (pyIter (Value.ref _)) (fun it s₂ => LoopAtV _ _ _ _ _ _ _ _ _ it s₂) _ _); k_dflt (refine' iter_listUnr (by exact rfl) (by k_asm) (by k_asm) (by k_mem) (by exact rfl) (by exact rfl) ?_; k_whole); intro _ zql1'; (try k_lt zql1')); (try (revert zql1'; intro _))))
  k_with "m1" => ((refine' code_def (by k_asm) (by k_asm) (by k_asm) (by k_asm) (by k_asm) (by exact rfl) (by exact rfl) (by first | exact rfl | assumption) (by k_is) (by k_is) (by first | k_room | ktr_room) (by first | exact BindsTo.of_eq rfl | exact binds_K (by k_in) rfl (by k_is) rfl rfl rfl | fail "k_enter: no rule for these arguments") (by exact locs rfl) ?_ (by exact rfl) (by exact rfl) (by exact rfl) (by decide)))
  k_with "m2" => ((refine' code_defC (by k_asm) (by k_asm) (by k_asm) (by k_asm) (by k_asm) (by exact rfl) (by exact rfl) (by first | exact rfl | assumption) (by k_is) (by k_is) (by first | k_room | ktr_room) (by first | exact BindsTo.of_eq rfl | exact binds_K (by k_in) rfl (by k_is) rfl rfl rfl | fail "k_enter: no rule for these arguments") (by exact rfl) (by decide +kernel) ?_ (by exact rfl) (by exact rfl) (by exact rfl)))
  k_with "call builtin:str.find" => (((with_reducible show wpAny _ _ (call (Value.builtin "str.find") [Value.str _ _, Value.str _ _, Value.int _ _, Value.int _ _]) _ _ _); k_dflt (refine find4_call ?_)))
  k_with "call builtin:len" => (((with_reducible show wpAny _ _ (call (Value.builtin "len") [Value.str (PySem.Str.mk _) _]) _ _ _); k_dflt (refine SBL.len (by first | decide | (simp only [PySem.Str.length, List.size_toArray, List.length_cons, List.length_nil]; omega)) ?_); (try dsimp only)))
  k_with "UnrEnd" => ((k_dflt (refine' unrEnd_pickL (by k_asm) (by k_asm) (by kd_mem) (by k_all) (by k_mem) ?_; k_whole)))
  k_with "kcj_m" => ((intro _ zqhp; repeat (first | exact zqhp | apply List.Mem.tail)))
  k_with "k_mem" => (((show @Membership.mem (PySem.Addr × PySem.Obj) (List (PySem.Addr × PySem.Obj)) List.instMembership _ _); with_reducible assumption))
  k_with "kn_code" => (first | exact codeHd_of_K (c := 37) (P := 33) (by k_asm) (by kernel_rfl) | exact codeHd_of_K (c := 117) (P := 113) (by k_asm) (by kernel_rfl))
  k_with "is_list" => (exact News.isList (by k_asm) (by k_mem))
  k_with "k_room" => (ktr_room)
  k_with "Kq" => ((k_dflt (refine' Kq.of (by with_reducible assumption) ?_)))
  k_with "truthy ref" => ((k_here; (with_reducible show wpAny _ _ (truthy (Value.ref _)) _ _ _); (with_unfolding_all refine' wpAny_truthy_list (items := _) (by is_list) (by (simp only [List.size_toArray, List.length_cons, List.length_nil]; omega)) ?_; k_whole; (try simp only [List.isEmpty_toArray, List.isEmpty_cons, List.isEmpty_nil, Array.isEmpty_push, Bool.not_false, Bool.not_true]))))
  k_with "call builtin:list.pop" => (((k_here; (with_reducible show wpAny _ _ (call (Value.builtin _) [Value.ref _, Value.int 0 _]) _ _ _); k_dflt (refine' popU (by k_asm) (by k_asm) (by k_upd) (by rfl) (by (simp only [List.size_toArray, List.length_cons]; exact seqIndex_zero _)) (by rfl) (by (rw [sizeLine_eq]; simp only [List.length_cons]; omega)) ?_); intro _ _ zqN'; (try dsimp only [List.nil_append, List.cons_append] at zqN')); (try (revert zqN'; intro _))))
  k_with "call builtin:list.append" => ((k_here; (with_reducible show wpAny _ _ (call (Value.builtin _) [Value.ref _, _]) _ _ _); k_dflt (refine' append_K (by k_asm) (by k_asm) (by k_upd) ?_ (by (rw [sizeLine_eq]; simp only [List.size_toArray]; omega)); k_whole); intro _ _ _; (try k_sweep)))
  k_with "eval ListComp" => ((k_here; lcg_look; k_dflt (refine evalU (F₀ := by k_asm) (by with_unfolding_all rfl) (by decide) (by rfl) (by decide) (by rfl) ?_)))
  k_with "eval ListComp" => ((k_here; lct_look; k_dflt (refine evalT (F₀ := by k_asm) (by with_unfolding_all rfl) (by decide) (by rfl) (by decide) (by rfl) ?_)))
  k_with "exec Assign cons ListComp" => ((k_here; lcg_look; k_dflt (refine assignU (F₀ := by k_asm) (by rfl) (by with_unfolding_all rfl) (by with_unfolding_all rfl) (by decide) (by rfl) (by decide) (by rfl) (by rfl) (by rfl) ?_)))
  k_with "exec Assign cons ListComp" => ((k_here; lct_look; k_dflt (refine assignT (F₀ := by k_asm) (by rfl) (by with_unfolding_all rfl) (by with_unfolding_all rfl) (by decide) (by rfl) (by decide) (by rfl) (by rfl) (by rfl) ?_)))
  k_with "CompEnd" => ((k_dflt (refine' compEnd_of (by k_asm) (by k_asm) (by with_reducible assumption) (by kcj_m) (by with_reducible assumption) ?_; k_whole)))
  k_with "call builtin:len" => ((k_here; (with_reducible show wpAny _ _ (call (Value.builtin "len") [Value.ref _]) _ _ _); k_dflt (refine' kun_lenL (by exact News.isList (by k_asm) (by k_mem)) (by with_reducible assumption) (by omega) ?_; k_whole)))
  k_with "kcj_m" => ((with_reducible ((repeat (refine sub_step ?_ ?_; (· (repeat (first | exact List.mem_cons_self | apply List.mem_cons_of_mem))))); (intro _ zqhp; (repeat (first | exact zqhp | apply List.mem_cons_of_mem)); done))))
  k_with "k_ne" => (first | (with_reducible assumption) | (with_reducible exact Ne.symm (by assumption)) | ((try dsimp only); (repeat ((rename (@Ne Nat _ _) => zqhz'); clear zqhz')); omega))
  k_with "FinE" => ((((k_dflt (intro _ _ _ _ _ zqo1')); refine hideP ?_; intro zqG' zqhG'; (try simp only [LCg.Off1, and_true] at zqo1'); (repeat (obtain ⟨_, zqo1'⟩ := zqo1')); refine zqhG' ?_; clear zqhG' zqG'; (try (revert zqo1'; intro _)); (first | ((rename News _ _ _ _ => zqN'); (simp only [List.nil_append, List.cons_append] at zqN'); (revert zqN'; intro _)) | skip); (try dsimp only)); (try (revert zqN'; intro _)); (try (revert zqo1'; intro _))))
  k_with "FinA" => ((((k_dflt (intro _ _ _ _ _ zqo1')); refine hideP ?_; intro zqG' zqhG'; (try simp only [LCg.Off1, and_true] at zqo1'); (repeat (obtain ⟨_, zqo1'⟩ := zqo1')); refine zqhG' ?_; clear zqhG' zqG'; (try (revert zqo1'; intro _)); (first | ((rename News _ _ _ _ => zqN'); (simp only [List.nil_append, List.cons_append] at zqN'); (revert zqN'; intro _)) | skip); (try dsimp only)); (try (revert zqN'; intro _)); (try (revert zqo1'; intro _))))
  k_with "exec Assign cons ListComp" => ((k_here; k_dflt (refine wpAny_Assign_Name ?_ (by rfl))))
  k_with "exec Assign cons ListComp" => ((k_here; (with_reducible show wpAny _ _ (exec (Stmt.Assign [Expr.Name _ _] (Expr.ListComp _ [⟨Expr.Tuple _ _ _, _, _, _⟩] _ _) _) _) _ _ _); k_dflt (refine assignZ (_F₀ := by k_asm) (by rfl) (by with_unfolding_all rfl) (by with_unfolding_all rfl) (by decide) (by rfl) (by decide) (by rfl) (by rfl) (by decide) (by rfl) (by rfl) ?_)))
  k_with "eval ListComp" => ((k_here; (with_reducible show wpAny _ _ (eval (Expr.ListComp _ [⟨Expr.Name _ _, _, _, _⟩] _ _) _) _ _ _); k_dflt (refine evalK (_F₀ := by k_asm) (by with_unfolding_all rfl) (by intro _; rfl) (by intro _; rfl) (by rfl) (by decide) (by intro _ _; rfl) ?_)))
  k_with "eval ListComp" => ((k_here; (with_reducible show wpAny _ _ (eval (Expr.ListComp _ [⟨Expr.Tuple _ _ _, _, [_], _⟩] _ _) _) _ _ _); k_dflt (refine evalZT (_F₀ := by k_asm) (by with_unfolding_all rfl) (by decide) (by rfl) (by decide) (by rfl) (by rfl) (by decide) ?_)))
  k_with "call type:zip" => ((refine halt ?_))
  k_with "call type:enumerate" => ((refine halt ?_))
  k_with "CompK" => ((refine halt ?_))
  k_with "CompU" => ((refine halt ?_))
  k_with "CompT" => ((refine halt ?_))
  k_with "ZEnd" => ((refine halt ?_))
  k_with "EndK" => ((refine halt ?_))
  k_with "eval Name" => ((k_here; (with_reducible show wpAny _ _ (eval (Expr.Name _ _) (envX _ _ _ _ _ _)) _ _ _); k_dflt (refine' nameX_L (by k_asm) (by first | rfl | k_asm) ?_ (by rfl) (by rfl); k_whole)))
  k_with "eval Name" => ((k_here; (with_reducible show wpAny _ _ (eval (Expr.Name _ _) (envX _ _ _ _ _ _)) _ _ _); k_dflt (refine' nameX_B (by k_asm) (by k_asm) (by k_asm) (by first | k_is | kernel_rfl | with_unfolding_all rfl) (by boot_by_name) (by decide) ?_ (by rfl) (by rfl); k_whole)))
  k_with "exec Assign cons ListComp" => ((k_here; (with_reducible show wpAny _ _ (exec (Stmt.Assign [Expr.Name _ _] (Expr.ListComp _ [⟨Expr.Name _ _, _, [], _⟩] _ _) _) _) _ _ _); k_dflt (refine assignU (F₀ := by k_asm) (by rfl) (by with_unfolding_all rfl) (by with_unfolding_all rfl) (by decide) (by rfl) (by decide) (by rfl) (by rfl) (by rfl) ?_)))
  k_with "eval ListComp" => ((k_here; (with_reducible show wpAny _ _ (eval (Expr.ListComp _ [⟨Expr.Name _ _, _, [], _⟩] _ _) _) _ _ _); k_dflt (refine evalU (F₀ := by k_asm) (by with_unfolding_all rfl) (by decide) (by rfl) (by decide) (by rfl) ?_)))
  k_with "eval ListComp" => ((k_here; (with_reducible show wpAny _ _ (eval (Expr.ListComp _ [⟨Expr.Name _ _, _, [_], _⟩] _ _) _) _ _ _); k_dflt (refine evalT (F₀ := by k_asm) (by with_unfolding_all rfl) (by decide) (by rfl) (by decide) (by rfl) ?_)))
  exact True.intro
theorem top_off_P4 : True := by
  w_top off
  exact True.intro
theorem words_49 : True := by
  k_with "call ref" => (((k_dflt (show wpAny _ _ (call (Value.ref 80) [Value.ref _] []) _ _ _)); refine halt ?_))
  exact True.intro
theorem map_snoc {f : Nat → Str} {hs : List (Str × Tok)} {i : Nat} {y : Str} {t : Tok} (h : hs.map Prod.fst = (List.range i).map f) (hy : y = f i) : (hs ++ [(y, t)]).map Prod.fst = (List.range (i + 1)).map f := by
  rw [List.map_append, h, List.range_succ, List.map_append, hy]; rfl
set_option maxHeartbeats 800000 in
theorem law_part4 (w : World) (p : Program) (loose : List Str) (mean : ExcName → Option Value) (mg mb : Str → Option Value) (dp un : Nat) (gd : Option (List Code)) (L a : Addr) (ccd : Value) (outer : List Env) (A₀ : Around) (base h₀ : Heap) (m : Str → Option Value) (s : Shared) (Q : Flow → Shared → Prop) (E : Value → Shared → Prop)
    (B : Below A₀ base outer h₀) (X : (Mine.hd.heap_39 w.params).In h₀) (T : Top p loose mean mg mb h₀) (hd : dp + 60 < recursionLimit) (hu : un + 600 < cLine)
    (x : Str) (off len : Nat → Nat) (hT : Toks x off len) (am dx ap AL : Addr) (core : List (Addr × Obj)) (e : MachE) (k kp ka : Nat) (ta : Tok) (oM : Obj) (dM : oM.data = .cell (some (.ref am))) (rest : List (Addr × Obj)) (hsub : Sub core rest) (hM : MacOk w x am dx ap AL core e)
    (hd0 : ∀ p ∈ (L + 2, oM) :: rest, p.1 ≠ dx) (hA0 : ∀ p ∈ (L + 2, oM) :: rest, p.1 ≠ AL) (hp0 : ∀ p ∈ (L + 2, oM) :: rest, p.1 ≠ ap)
    (F : Fr h₀ L s.heap m) (N : News h₀ L s.heap ((dx, machD e ap k) :: (ap, pbOf [] kp) :: (AL, listOf #[.int 0 ta] ka) :: (L + 2, oM) :: rest))
    (next : ∀ (DH : Addr) (hs : List (Str × Tok)) (e' : MachE) (k' ka' : Nat) (t3 : Tok) (h' : Heap) (tk' : Nat), hs.map Prod.fst = (List.range 5).map (tokAt x off len) → Fr h₀ L h' (fun y => if y = Str.ofString "heard" then some (.ref DH) else m y) →
      News h₀ L h' ((DH, listOf (strValues hs).toArray (strValues hs).length) :: (dx, machD e' ap k') :: (ap, pbOf [] kp) :: (AL, listOf #[.int (x.length : Int) t3] ka') :: (L + 2, oM) :: rest) → (∃ t', e'.ln = .int (nlOf x off len 4) t') → e'.st = e.st → e'.ws = e.ws → (@Ne Nat DH dx ∧ @Ne Nat DH ap ∧ @Ne Nat DH AL) → (∀ p ∈ (L + 2, oM) :: rest, p.1 ≠ DH) → Q .next { s with heap := h', toks := tk' }) :
    wpAny (model PySem.Challenge.rw_sh0017_01.prog w) (lawAround dp un gd L a ccd outer) (exec (lawStmt 4) (lawEnv L a ccd)) Q E s := by
  revert X
  k_fill
  intro X
  simp only [lawStmt, lawEnv, lawAround, lawRec, recOf, List.drop_succ_cons, List.drop_zero, List.headD_cons]
  refine hideP ?_
  intro Gq hGq
  obtain ⟨minst, ⟨tl1, mln⟩, ⟨tw, mws⟩, ⟨FN, RF, mst, mso, mrd⟩, moff, ⟨mne1, mne2, mne3⟩, _⟩ := hM
  have minst2 := hsub.h _ minst
  refine hGq ?_
  clear hGq Gq
  k_steps
  refine ⟨?_⟩
  refine ⟨5, _, _, _, Src.range (by rfl) (by k_asm) (by k_asm) (by assumption) (by rfl) (by rfl) (by decide), by k_asm, by k_asm, fun g => restU_inv (fun i ys nw => ∃ e1 k1 ka1 t1 hs, ys = strValues hs ∧ nw = (dx, machD e1 ap k1) :: (ap, pbOf [] kp) :: (AL, listOf #[.int ((if i < 4 then off i else x.length : Nat) : Int) t1] ka1) :: (L + 2, oM) :: rest ∧
    hs.map Prod.fst = (List.range i).map (tokAt x off len) ∧ (∃ t', e1.ln = .int (nlOf x off len (min i 4)) t') ∧ e1.st = e.st ∧ e1.ws = e.ws) ⟨e, k, ka, ta, [], rfl, by rw [if_pos (by decide), hT.zero]; rfl, rfl, ⟨tl1, mln⟩, rfl, rfl⟩ ?_ ?_⟩
  · intro i v ys nw I oI C oC D m₂ h tk E' hi hPv hpq1 hC hx2 F2 N2 off3 ne3
    refine hideP ?_
    intro Gq hGq
    obtain ⟨e1, k1, ka1, t1, hs, rfl, rfl, hhs, ⟨tl, hln⟩, hst, hws⟩ := hpq1
    refine hGq ?_
    clear hGq Gq
    rw [machD_eq] at N2
    k_steps
    refine ⟨?_⟩
    rename News _ _ _ _ => N3
    refine hideP ?_
    intro Gq hGq
    rw [← machD_eq] at N3
    have off3' := off3
    simp only [Off3] at off3'
    obtain ⟨⟨ox1, ox2, ox3⟩, ⟨oy1, oy2, oy3⟩, ⟨oz1, oz2, oz3⟩, ⟨ow1, ow2, ow3⟩, offr⟩ := off3'
    have hnl := nlOf_le x off len (min i 4)
    refine hGq ?_
    clear hGq Gq
    rcases Nat.lt_or_ge i 4 with h4 | h4
    · rw [if_pos h4] at N3
      have hmin : min i 4 = i := by omega
      rw [hmin] at hln hnl
      refine Ctr.use (tokr_spec w x am dx ap AL core e1 k1 kp ka1 (off i) (len i) (nlOf x off len i) tl t1 ((I, oI) :: (C, oC) :: (D, lst (strValues hs)) :: (L + 2, oM) :: rest) hln (by omega) FN RF (hst.trans mst) tw (hws.trans mws) (.tail _ (.tail _ (.tail _ (.tail _ minst2)))) mso mrd hsub.cons.cons.cons.cons hT.sz
        (ne_cons (Ne.symm ox1) (ne_cons (Ne.symm ox2) (ne_cons (Ne.symm ox3) hd0))) (ne_cons (Ne.symm oz1) (ne_cons (Ne.symm oz2) (ne_cons (Ne.symm oz3) hA0))) (ne_cons (Ne.symm oy1) (ne_cons (Ne.symm oy2) (ne_cons (Ne.symm oy3) hp0))) mne3 (Ne.symm mne1) mne2 (hT.one i h4) (hT.ins i h4) (hT.ch i h4) (hT.sp i h4)) B F2 X (cb_drop N3 (by kcj_m)) T (by first | exact rfl | assumption) (by ktr_room) (by ktr_units) ?_
      intro v2 n2 h2 tk2 F4 N4 hqq1_
      refine hideP ?_
      intro Gq hGq
      obtain ⟨t4, e4, k4, t5, ka4, rfl, rfl, ⟨t6, hln4⟩, hst4, hws4⟩ := hqq1_
      refine hGq ?_
      clear hGq Gq
      refine compEnd_of (news := (dx, machD e4 ap k4) :: (ap, pbOf [] kp) :: (AL, listOf #[.int ((off i + len i + 1 : Nat) : Int) t5] ka4) :: (L + 2, oM) :: rest) F4 N4 ⟨⟨ox1, ox2, ox3⟩, ⟨oy1, oy2, oy3⟩, ⟨oz1, oz2, oz3⟩, ⟨ow1, ow2, ow3⟩, offr⟩ (by kcj_m) trivial ?_
      refine ⟨e4, k4, ka4, t5, hs ++ [(_, t4)], sv_snoc _ _ _, ?_, map_snoc hhs ?_, ⟨t6, ?_⟩, hst4.trans hst, hws4.trans hws⟩
      · by_cases h5 : i + 1 < 4
        · rw [if_pos h5, hT.step i h4]
        · rw [if_neg h5, ← hT.last, ← hT.step i h4, show i + 1 = 4 by omega]
      · rw [tokAt, if_pos h4]
      · rw [hln4, show min (i + 1) 4 = i + 1 by omega]; rfl
    · rw [if_neg (by omega)] at N3
      have hmin : min i 4 = 4 := by omega
      rw [hmin] at hln hnl
      refine Ctr.use (toke_spec w x am dx ap AL core e1 k1 kp ka1 x.length (nlOf x off len 4) tl t1 ((I, oI) :: (C, oC) :: (D, lst (strValues hs)) :: (L + 2, oM) :: rest) hln (by omega) FN RF (hst.trans mst) tw (hws.trans mws) (.tail _ (.tail _ (.tail _ (.tail _ minst2)))) mso mrd hsub.cons.cons.cons.cons hT.sz
        (ne_cons (Ne.symm ox1) (ne_cons (Ne.symm ox2) (ne_cons (Ne.symm ox3) hd0))) (ne_cons (Ne.symm oz1) (ne_cons (Ne.symm oz2) (ne_cons (Ne.symm oz3) hA0))) (ne_cons (Ne.symm oy1) (ne_cons (Ne.symm oy2) (ne_cons (Ne.symm oy3) hp0))) mne3 (Ne.symm mne1) mne2 rfl) B F2 X (cb_drop N3 (by kcj_m)) T (by first | exact rfl | assumption) (by ktr_room) (by ktr_units) ?_
      intro v2 n2 h2 tk2 F4 N4 hqq2_
      refine hideP ?_
      intro Gq hGq
      obtain ⟨t4, e4, k4, t5, ka4, rfl, rfl, ⟨t6, hln4⟩, hst4, hws4⟩ := hqq2_
      refine hGq ?_
      clear hGq Gq
      refine compEnd_of (news := (dx, machD e4 ap k4) :: (ap, pbOf [] kp) :: (AL, listOf #[.int ((x.length : Nat) : Int) t5] ka4) :: (L + 2, oM) :: rest) F4 N4 ⟨⟨ox1, ox2, ox3⟩, ⟨oy1, oy2, oy3⟩, ⟨oz1, oz2, oz3⟩, ⟨ow1, ow2, ow3⟩, offr⟩ (by kcj_m) trivial ?_
      refine ⟨e4, k4, ka4, t5, hs ++ [(_, t4)], sv_snoc _ _ _, ?_, map_snoc hhs ?_, ⟨t6, ?_⟩, hst4.trans hst, hws4.trans hws⟩
      · rw [if_neg (by omega)]
      · rw [tokAt, if_neg (by omega)]
      · rw [hln4, show min (i + 1) 4 = 4 by omega]
  · intro ys nw hqq3_
    refine hideP ?_
    intro Gq hGq
    obtain ⟨e1, k1, ka1, t1, hs, rfl, rfl, hhs, ⟨tl, hln⟩, hst, hws⟩ := hqq3_
    refine hGq ?_
    clear hGq Gq
    rw [if_neg (by decide)]
    k_steps
    rename_i D1 h1 tk1 F1 N1 oa1 oa2 oa3 oa4 oa5
    refine next D1 hs e1 k1 ka1 t1 h1 _ hhs F1 N1 ⟨_, hln⟩ hst hws ⟨Ne.symm oa1, Ne.symm oa2, Ne.symm oa3⟩ (ne_cons oa4 (off1_mem oa5))

end
-- part P5
section
theorem words_50 : True := by
  k_with_none
  k_with "k_all" => (first | assumption | exact ne_of_top (by omega))
  k_with "kd_mem" => (first | exact Pick.head | (apply Pick.tail; kd_mem))
  k_with "UnrEnd" => ((k_dflt (refine' unrEnd_pick (by k_asm) (by k_asm) (by kd_mem) (by k_all) ?_; k_whole)))
  k_with "exec For Name Name cons nil" => ((k_here; (with_unfolding_all refine' For_invVF (by k_asm) (by exact rfl) (by exact rfl) ?_; k_whole)))
  k_with "pyIter ref" => ((((with_reducible show wpAny _ _ (pyIter (Value.ref _)) (fun it s₂ => LoopAtV _ _ _ _ _ _ _ _ _ it s₂) _ _); k_dflt (refine' iter_listUnr (by exact rfl) (by k_asm) (by k_asm) (by k_mem) (by exact rfl) (by exact rfl) ?_; k_whole); intro _ zql1'; (try k_lt zql1')); (try (revert zql1'; intro _))))
  k_with "m1" => ((refine' code_def (by k_asm) (by k_asm) (by k_asm) (by k_asm) (by k_asm) (by exact rfl) (by exact rfl) (by first | exact rfl | assumption) (by k_is) (by k_is) (by first | k_room | ktr_room) (by first | exact BindsTo.of_eq rfl | exact binds_K (by k_in) rfl (by k_is) rfl rfl rfl | fail "k_enter: no rule for these arguments") (by exact locs rfl) ?_ (by exact rfl) (by exact rfl) (by exact rfl) (by decide)))
  k_with "m2" => ((refine' code_defC (by k_asm) (by k_asm) (by k_asm) (by k_asm) (by k_asm) (by exact rfl) (by exact rfl) (by first | exact rfl | assumption) (by k_is) (by k_is) (by first | k_room | ktr_room) (by first | exact BindsTo.of_eq rfl | exact binds_K (by k_in) rfl (by k_is) rfl rfl rfl | fail "k_enter: no rule for these arguments") (by exact rfl) (by decide +kernel) ?_ (by exact rfl) (by exact rfl) (by exact rfl)))
  k_with "call builtin:str.find" => (((with_reducible show wpAny _ _ (call (Value.builtin "str.find") [Value.str _ _, Value.str _ _, Value.int _ _, Value.int _ _]) _ _ _); k_dflt (refine find4_call ?_)))
  k_with "call builtin:len" => (((with_reducible show wpAny _ _ (call (Value.builtin "len") [Value.str (PySem.Str.mk _) _]) _ _ _); k_dflt (refine SBL.len (by first | decide | (simp only [PySem.Str.length, List.size_toArray, List.length_cons, List.length_nil]; omega)) ?_); (try dsimp only)))
  k_with "UnrEnd" => ((k_dflt (refine' unrEnd_pickL (by k_asm) (by k_asm) (by kd_mem) (by k_all) (by k_mem) ?_; k_whole)))
  k_with "kcj_m" => ((intro _ zqhp; repeat (first | exact zqhp | apply List.Mem.tail)))
  k_with "k_mem" => (((show @Membership.mem (PySem.Addr × PySem.Obj) (List (PySem.Addr × PySem.Obj)) List.instMembership _ _); with_reducible assumption))
  k_with "kn_code" => (first | exact codeHd_of_K (c := 37) (P := 33) (by k_asm) (by kernel_rfl) | exact codeHd_of_K (c := 117) (P := 113) (by k_asm) (by kernel_rfl))
  k_with "is_list" => (exact News.isList (by k_asm) (by k_mem))
  k_with "k_room" => (ktr_room)
  k_with "Kq" => ((k_dflt (refine' Kq.of (by with_reducible assumption) ?_)))
  k_with "truthy ref" => ((k_here; (with_reducible show wpAny _ _ (truthy (Value.ref _)) _ _ _); (with_unfolding_all refine' wpAny_truthy_list (items := _) (by is_list) (by (simp only [List.size_toArray, List.length_cons, List.length_nil]; omega)) ?_; k_whole; (try simp only [List.isEmpty_toArray, List.isEmpty_cons, List.isEmpty_nil, Array.isEmpty_push, Bool.not_false, Bool.not_true]))))
  k_with "call builtin:list.pop" => (((k_here; (with_reducible show wpAny _ _ (call (Value.builtin _) [Value.ref _, Value.int 0 _]) _ _ _); k_dflt (refine' popU (by k_asm) (by k_asm) (by k_upd) (by rfl) (by (simp only [List.size_toArray, List.length_cons]; exact seqIndex_zero _)) (by rfl) (by (rw [sizeLine_eq]; simp only [List.length_cons]; omega)) ?_); intro _ _ zqN'; (try dsimp only [List.nil_append, List.cons_append] at zqN')); (try (revert zqN'; intro _))))
  k_with "call builtin:list.append" => ((k_here; (with_reducible show wpAny _ _ (call (Value.builtin _) [Value.ref _, _]) _ _ _); k_dflt (refine' append_K (by k_asm) (by k_asm) (by k_upd) ?_ (by (rw [sizeLine_eq]; simp only [List.size_toArray]; omega)); k_whole); intro _ _ _; (try k_sweep)))
  k_with "eval ListComp" => ((k_here; lcg_look; k_dflt (refine evalU (F₀ := by k_asm) (by with_unfolding_all rfl) (by decide) (by rfl) (by decide) (by rfl) ?_)))
  k_with "eval ListComp" => ((k_here; lct_look; k_dflt (refine evalT (F₀ := by k_asm) (by with_unfolding_all rfl) (by decide) (by rfl) (by decide) (by rfl) ?_)))
  k_with "exec Assign cons ListComp" => ((k_here; lcg_look; k_dflt (refine assignU (F₀ := by k_asm) (by rfl) (by with_unfolding_all rfl) (by with_unfolding_all rfl) (by decide) (by rfl) (by decide) (by rfl) (by rfl) (by rfl) ?_)))
  k_with "exec Assign cons ListComp" => ((k_here; lct_look; k_dflt (refine assignT (F₀ := by k_asm) (by rfl) (by with_unfolding_all rfl) (by with_unfolding_all rfl) (by decide) (by rfl) (by decide) (by rfl) (by rfl) (by rfl) ?_)))
  k_with "CompEnd" => ((k_dflt (refine' compEnd_of (by k_asm) (by k_asm) (by with_reducible assumption) (by kcj_m) (by with_reducible assumption) ?_; k_whole)))
  k_with "call builtin:len" => ((k_here; (with_reducible show wpAny _ _ (call (Value.builtin "len") [Value.ref _]) _ _ _); k_dflt (refine' kun_lenL (by exact News.isList (by k_asm) (by k_mem)) (by with_reducible assumption) (by omega) ?_; k_whole)))
  k_with "kcj_m" => ((with_reducible ((repeat (refine sub_step ?_ ?_; (· (repeat (first | exact List.mem_cons_self | apply List.mem_cons_of_mem))))); (intro _ zqhp; (repeat (first | exact zqhp | apply List.mem_cons_of_mem)); done))))
  k_with "k_ne" => (first | (with_reducible assumption) | (with_reducible exact Ne.symm (by assumption)) | ((try dsimp only); (repeat ((rename (@Ne Nat _ _) => zqhz'); clear zqhz')); omega))
  k_with "FinE" => ((((k_dflt (intro _ _ _ _ _ zqo1')); refine hideP ?_; intro zqG' zqhG'; (try simp only [LCg.Off1, and_true] at zqo1'); (repeat (obtain ⟨_, zqo1'⟩ := zqo1')); refine zqhG' ?_; clear zqhG' zqG'; (try (revert zqo1'; intro _)); (first | ((rename News _ _ _ _ => zqN'); (simp only [List.nil_append, List.cons_append] at zqN'); (revert zqN'; intro _)) | skip); (try dsimp only)); (try (revert zqN'; intro _)); (try (revert zqo1'; intro _))))
  k_with "FinA" => ((((k_dflt (intro _ _ _ _ _ zqo1')); refine hideP ?_; intro zqG' zqhG'; (try simp only [LCg.Off1, and_true] at zqo1'); (repeat (obtain ⟨_, zqo1'⟩ := zqo1')); refine zqhG' ?_; clear zqhG' zqG'; (try (revert zqo1'; intro _)); (first | ((rename News _ _ _ _ => zqN'); (simp only [List.nil_append, List.cons_append] at zqN'); (revert zqN'; intro _)) | skip); (try dsimp only)); (try (revert zqN'; intro _)); (try (revert zqo1'; intro _))))
  k_with "exec Assign cons ListComp" => ((k_here; k_dflt (refine wpAny_Assign_Name ?_ (by rfl))))
  k_with "exec Assign cons ListComp" => ((k_here; (with_reducible show wpAny _ _ (exec (Stmt.Assign [Expr.Name _ _] (Expr.ListComp _ [⟨Expr.Tuple _ _ _, _, _, _⟩] _ _) _) _) _ _ _); k_dflt (refine assignZ (_F₀ := by k_asm) (by rfl) (by with_unfolding_all rfl) (by with_unfolding_all rfl) (by decide) (by rfl) (by decide) (by rfl) (by rfl) (by decide) (by rfl) (by rfl) ?_)))
  k_with "eval ListComp" => ((k_here; (with_reducible show wpAny _ _ (eval (Expr.ListComp _ [⟨Expr.Name _ _, _, _, _⟩] _ _) _) _ _ _); k_dflt (refine evalK (_F₀ := by k_asm) (by with_unfolding_all rfl) (by intro _; rfl) (by intro _; rfl) (by rfl) (by decide) (by intro _ _; rfl) ?_)))
  k_with "eval ListComp" => ((k_here; (with_reducible show wpAny _ _ (eval (Expr.ListComp _ [⟨Expr.Tuple _ _ _, _, [_], _⟩] _ _) _) _ _ _); k_dflt (refine evalZT (_F₀ := by k_asm) (by with_unfolding_all rfl) (by decide) (by rfl) (by decide) (by rfl) (by rfl) (by decide) ?_)))
  k_with "call type:zip" => ((refine halt ?_))
  k_with "call type:enumerate" => ((refine halt ?_))
  k_with "CompK" => ((refine halt ?_))
  k_with "CompU" => ((refine halt ?_))
  k_with "CompT" => ((refine halt ?_))
  k_with "ZEnd" => ((refine halt ?_))
  k_with "EndK" => ((refine halt ?_))
  k_with "eval Name" => ((k_here; (with_reducible show wpAny _ _ (eval (Expr.Name _ _) (envX _ _ _ _ _ _)) _ _ _); k_dflt (refine' nameX_L (by k_asm) (by first | rfl | k_asm) ?_ (by rfl) (by rfl); k_whole)))
  k_with "eval Name" => ((k_here; (with_reducible show wpAny _ _ (eval (Expr.Name _ _) (envX _ _ _ _ _ _)) _ _ _); k_dflt (refine' nameX_B (by k_asm) (by k_asm) (by k_asm) (by first | k_is | kernel_rfl | with_unfolding_all rfl) (by boot_by_name) (by decide) ?_ (by rfl) (by rfl); k_whole)))
  k_with "exec Assign cons ListComp" => ((k_here; (with_reducible show wpAny _ _ (exec (Stmt.Assign [Expr.Name _ _] (Expr.ListComp _ [⟨Expr.Name _ _, _, [], _⟩] _ _) _) _) _ _ _); k_dflt (refine assignU (F₀ := by k_asm) (by rfl) (by with_unfolding_all rfl) (by with_unfolding_all rfl) (by decide) (by rfl) (by decide) (by rfl) (by rfl) (by rfl) ?_)))
  k_with "eval ListComp" => ((k_here; (with_reducible show wpAny _ _ (eval (Expr.ListComp _ [⟨Expr.Name _ _, _, [], _⟩] _ _) _) _ _ _); k_dflt (refine evalU (F₀ := by k_asm) (by with_unfolding_all rfl) (by decide) (by rfl) (by decide) (by rfl) ?_)))
  k_with "eval ListComp" => ((k_here; (with_reducible show wpAny _ _ (eval (Expr.ListComp _ [⟨Expr.Name _ _, _, [_], _⟩] _ _) _) _ _ _); k_dflt (refine evalT (F₀ := by k_asm) (by with_unfolding_all rfl) (by decide) (by rfl) (by decide) (by rfl) ?_)))
  exact True.intro
theorem top_off_P5 : True := by
  w_top off
  exact True.intro
theorem words_51 : True := by
  k_with "compareOp NotEq ref ref" => ((k_here; (with_reducible show wpAny _ _ (compareOp CmpOp.NotEq (Value.ref _) (Value.ref _)) _ _ _); refine halt ?_))
  k_with "binaryOp Add ref ref" => ((k_here; (with_reducible show wpAny _ _ (binaryOp _ (Value.ref _) (Value.ref _)) _ _ _); refine halt ?_))
  exact True.intro
def isDot (r : Str × Tok) (v : Value) : Prop := ∃ t, v = .str (Str.ofString "." ++ r.1) t
theorem isDot_sv : ∀ {l : List (Str × Tok)} {ys : List Value}, All2 isDot l ys → ∃ rs : List (Str × Tok), ys = strValues rs ∧ rs.map Prod.fst = l.map fun z => (Str.ofString "." ++ z.1 : Str)
  | [], [], _ => ⟨[], rfl, rfl⟩
  | a :: l, _ :: ys, ⟨⟨t, h⟩, h2⟩ => by
    obtain ⟨rs, e1, e2⟩ := isDot_sv h2
    exact ⟨(_, t) :: rs, by rw [h, e1]; rfl, by rw [List.map_cons, List.map_cons, ← e2]⟩
set_option maxHeartbeats 800000 in
theorem law_part5 (w : World) (p : Program) (loose : List Str) (mean : ExcName → Option Value) (mg mb : Str → Option Value) (dp un : Nat) (gd : Option (List Code)) (L a : Addr) (ccd : Value) (outer : List Env) (A₀ : Around) (base h₀ : Heap) (m : Str → Option Value) (s : Shared) (Q : Flow → Shared → Prop) (E : Value → Shared → Prop)
    (B : Below A₀ base outer h₀) (X : (Mine.hd.heap_39 w.params).In h₀) (T : Top p loose mean mg mb h₀) (hd : dp + 60 < recursionLimit) (hu : un + 600 < cLine)
    (x : Str) (tx : Tok) (am dx ap DH DL : Addr) (e : MachE) (k nH nL : Nat) (hs rs : List (Str × Tok)) (oM o1 : Obj) (dM : oM.data = .cell (some (.ref am))) (d1 : o1.data = .cell (some (.ref DL))) (rest : List (Addr × Obj)) (minst : (am, instObj 90 dx) ∈ rest) (hDL : (DL, listOf (strValues rs).toArray nL) ∈ rest) (hl1 : (L + 1, o1) ∈ rest)
    (mH : m (Str.ofString "heard") = some (.ref DH)) (mT : m (Str.ofString "text") = some (.str x tx)) (tl : Tok) (hln : e.ln = .int (1 + Txt.count x (Str.ofString "\n")) tl) (h4 : rs.length = 4) (hlen : ∀ r ∈ rs, r.1.length ≤ 6)
    (hh : hs.map Prod.fst = (rs.map fun r => (Str.ofString "." ++ r.1 : Str)) ++ [Str.ofString ""]) (hok : ∀ x ∈ hs.map Prod.fst, PyData.strOk x = true) (hx : x.length < 100)
    (F : Fr h₀ L s.heap m) (N : News h₀ L s.heap ((DH, listOf (strValues hs).toArray nH) :: (dx, machD e ap k) :: (L + 2, oM) :: rest))
    (next : ∀ (h' : Heap) (tk' : Nat), Fr h₀ L h' m → News h₀ L h' ((DH, listOf (strValues hs).toArray nH) :: (dx, machD e ap k) :: (L + 2, oM) :: rest) → Q .next { s with heap := h', toks := tk' }) :
    wpAny (model PySem.Challenge.rw_sh0017_01.prog w) (lawAround dp un gd L a ccd outer) (exec (lawStmt 5) (lawEnv L a ccd)) Q E s := by
  revert X
  k_fill
  intro X
  simp only [lawStmt, lawEnv, lawAround, lawRec, recOf, List.drop_succ_cons, List.drop_zero, List.headD_cons]
  have hcb := count_bounds x (Str.ofString "\n")
  rw [machD_eq, hln] at N
  k_steps
  refine ⟨?_⟩
  refine CompU.map isTx isDot rs (Src.list (its := (strValues rs).toArray) (by rfl) (by k_asm) (by k_asm) (.inr ⟨_, .tail _ (.tail _ (.tail _ hDL)), rfl, _, rfl⟩) (by rw [sizeLine_eq]; simp only [List.size_toArray, strValues, List.length_map]; omega)) (by k_asm) (by k_asm) (by simp only [List.size_toArray, strValues, List.length_map]) (fun i v h _ => sv_isTx h) ?_ ?_
  · intro g hpq1 v ys I oI C oC D m₂ h tk E' hy hpq2 hS hC hx2 F2 N2 off ne
    obtain ⟨y, ty⟩ := hpq1
    obtain rfl := hpq2
    have hly : y.length ≤ 6 := hlen _ hy
    refine hideQ ?_
    intro qqh eeh hqqh
    try dsimp only
    k_steps
    exact ⟨rfl, _, rfl⟩
  · intro g ys hys
    obtain ⟨qs, rfl, hqs⟩ := isDot_sv hys
    have hql : qs.length = 4 := by have := congrArg List.length hqs; simpa [h4] using this
    k_steps
    rename_i D1 h1 t1 oa1 oa2 oa3 oa4 D2 h2 F2 N2 l2
    refine ⟨?_⟩
    refine kmk_add_lit F2 N2 (its := (strValues qs).toArray) (its2 := #[.str (Str.ofString "") t1]) (zs := strValues (qs ++ [(Str.ofString "", t1)])) (News.isList N2 (.tail _ (.head _))) (News.isList N2 (.head _)) ?_ ?_ ?_
    · simp [strValues]
    · intro D3 h3 F3 N3 l3
      k_lt l3
      k_steps
      refine ⟨?_⟩
      refine ne_strs (News.isList N3 (.tail _ (.tail _ (.tail _ (.head _))))) (News.isList N3 (.head _)) ?_ hok (by ktr_units) ?_
      · rw [List.map_append, hqs, hh]; rfl
      k_steps
      all_goals first
        | (rename (1 + Txt.count _ _ ≠ _) => hbad
           exact absurd rfl hbad)
        | (rw [← hln, ← machD_eq] at N3
           exact next h3 _ F3 (cb_drop N3 (by kcj_m)))
    · rw [sizeLine_eq]; simp [strValues, hql]

end
-- part P6
section
theorem words_52 : True := by
  k_with_none
  k_with "k_all" => (first | assumption | exact ne_of_top (by omega))
  k_with "kd_mem" => (first | exact Pick.head | (apply Pick.tail; kd_mem))
  k_with "UnrEnd" => ((k_dflt (refine' unrEnd_pick (by k_asm) (by k_asm) (by kd_mem) (by k_all) ?_; k_whole)))
  k_with "exec For Name Name cons nil" => ((k_here; (with_unfolding_all refine' For_invVF (by k_asm) (by exact rfl) (by exact rfl) ?_; k_whole)))
  k_with "pyIter ref" => ((((with_reducible show wpAny _ _ (pyIter (Value.ref _)) (fun it s₂ => LoopAtV _ _ _ _ _ _ _ _ _ it s₂) _ _); k_dflt (refine' iter_listUnr (by exact rfl) (by k_asm) (by k_asm) (by k_mem) (by exact rfl) (by exact rfl) ?_; k_whole); intro _ zql1'; (try k_lt zql1')); (try (revert zql1'; intro _))))
  k_with "m1" => ((refine' code_def (by k_asm) (by k_asm) (by k_asm) (by k_asm) (by k_asm) (by exact rfl) (by exact rfl) (by first | exact rfl | assumption) (by k_is) (by k_is) (by first | k_room | ktr_room) (by first | exact BindsTo.of_eq rfl | exact binds_K (by k_in) rfl (by k_is) rfl rfl rfl | fail "k_enter: no rule for these arguments") (by exact locs rfl) ?_ (by exact rfl) (by exact rfl) (by exact rfl) (by decide)))
  k_with "m2" => ((refine' code_defC (by k_asm) (by k_asm) (by k_asm) (by k_asm) (by k_asm) (by exact rfl) (by exact rfl) (by first | exact rfl | assumption) (by k_is) (by k_is) (by first | k_room | ktr_room) (by first | exact BindsTo.of_eq rfl | exact binds_K (by k_in) rfl (by k_is) rfl rfl rfl | fail "k_enter: no rule for these arguments") (by exact rfl) (by decide +kernel) ?_ (by exact rfl) (by exact rfl) (by exact rfl)))
  k_with "call builtin:str.find" => (((with_reducible show wpAny _ _ (call (Value.builtin "str.find") [Value.str _ _, Value.str _ _, Value.int _ _, Value.int _ _]) _ _ _); k_dflt (refine find4_call ?_)))
  k_with "call builtin:len" => (((with_reducible show wpAny _ _ (call (Value.builtin "len") [Value.str (PySem.Str.mk _) _]) _ _ _); k_dflt (refine SBL.len (by first | decide | (simp only [PySem.Str.length, List.size_toArray, List.length_cons, List.length_nil]; omega)) ?_); (try dsimp only)))
  k_with "UnrEnd" => ((k_dflt (refine' unrEnd_pickL (by k_asm) (by k_asm) (by kd_mem) (by k_all) (by k_mem) ?_; k_whole)))
  k_with "kcj_m" => ((intro _ zqhp; repeat (first | exact zqhp | apply List.Mem.tail)))
  k_with "k_mem" => (((show @Membership.mem (PySem.Addr × PySem.Obj) (List (PySem.Addr × PySem.Obj)) List.instMembership _ _); with_reducible assumption))
  k_with "kn_code" => (first | exact codeHd_of_K (c := 37) (P := 33) (by k_asm) (by kernel_rfl) | exact codeHd_of_K (c := 117) (P := 113) (by k_asm) (by kernel_rfl))
  k_with "is_list" => (exact News.isList (by k_asm) (by k_mem))
  k_with "k_room" => (ktr_room)
  k_with "Kq" => ((k_dflt (refine' Kq.of (by with_reducible assumption) ?_)))
  k_with "truthy ref" => ((k_here; (with_reducible show wpAny _ _ (truthy (Value.ref _)) _ _ _); (with_unfolding_all refine' wpAny_truthy_list (items := _) (by is_list) (by (simp only [List.size_toArray, List.length_cons, List.length_nil]; omega)) ?_; k_whole; (try simp only [List.isEmpty_toArray, List.isEmpty_cons, List.isEmpty_nil, Array.isEmpty_push, Bool.not_false, Bool.not_true]))))
  k_with "call builtin:list.pop" => (((k_here; (with_reducible show wpAny _ _ (call (Value.builtin _) [Value.ref _, Value.int 0 _]) _ _ _); k_dflt (refine' popU (by k_asm) (by k_asm) (by k_upd) (by rfl) (by (simp only [List.size_toArray, List.length_cons]; exact seqIndex_zero _)) (by rfl) (by (rw [sizeLine_eq]; simp only [List.length_cons]; omega)) ?_); intro _ _ zqN'; (try dsimp only [List.nil_append, List.cons_append] at zqN')); (try (revert zqN'; intro _))))
  k_with "call builtin:list.append" => ((k_here; (with_reducible show wpAny _ _ (call (Value.builtin _) [Value.ref _, _]) _ _ _); k_dflt (refine' append_K (by k_asm) (by k_asm) (by k_upd) ?_ (by (rw [sizeLine_eq]; simp only [List.size_toArray]; omega)); k_whole); intro _ _ _; (try k_sweep)))
  k_with "eval ListComp" => ((k_here; lcg_look; k_dflt (refine evalU (F₀ := by k_asm) (by with_unfolding_all rfl) (by decide) (by rfl) (by decide) (by rfl) ?_)))
  k_with "eval ListComp" => ((k_here; lct_look; k_dflt (refine evalT (F₀ := by k_asm) (by with_unfolding_all rfl) (by decide) (by rfl) (by decide) (by rfl) ?_)))
  k_with "exec Assign cons ListComp" => ((k_here; lcg_look; k_dflt (refine assignU (F₀ := by k_asm) (by rfl) (by with_unfolding_all rfl) (by with_unfolding_all rfl) (by decide) (by rfl) (by decide) (by rfl) (by rfl) (by rfl) ?_)))
  k_with "exec Assign cons ListComp" => ((k_here; lct_look; k_dflt (refine assignT (F₀ := by k_asm) (by rfl) (by with_unfolding_all rfl) (by with_unfolding_all rfl) (by decide) (by rfl) (by decide) (by rfl) (by rfl) (by rfl) ?_)))
  k_with "CompEnd" => ((k_dflt (refine' compEnd_of (by k_asm) (by k_asm) (by with_reducible assumption) (by kcj_m) (by with_reducible assumption) ?_; k_whole)))
  k_with "call builtin:len" => ((k_here; (with_reducible show wpAny _ _ (call (Value.builtin "len") [Value.ref _]) _ _ _); k_dflt (refine' kun_lenL (by exact News.isList (by k_asm) (by k_mem)) (by with_reducible assumption) (by omega) ?_; k_whole)))
  k_with "kcj_m" => ((with_reducible ((repeat (refine sub_step ?_ ?_; (· (repeat (first | exact List.mem_cons_self | apply List.mem_cons_of_mem))))); (intro _ zqhp; (repeat (first | exact zqhp | apply List.mem_cons_of_mem)); done))))
  k_with "k_ne" => (first | (with_reducible assumption) | (with_reducible exact Ne.symm (by assumption)) | ((try dsimp only); (repeat ((rename (@Ne Nat _ _) => zqhz'); clear zqhz')); omega))
  k_with "FinE" => ((((k_dflt (intro _ _ _ _ _ zqo1')); refine hideP ?_; intro zqG' zqhG'; (try simp only [LCg.Off1, and_true] at zqo1'); (repeat (obtain ⟨_, zqo1'⟩ := zqo1')); refine zqhG' ?_; clear zqhG' zqG'; (try (revert zqo1'; intro _)); (first | ((rename News _ _ _ _ => zqN'); (simp only [List.nil_append, List.cons_append] at zqN'); (revert zqN'; intro _)) | skip); (try dsimp only)); (try (revert zqN'; intro _)); (try (revert zqo1'; intro _))))
  k_with "FinA" => ((((k_dflt (intro _ _ _ _ _ zqo1')); refine hideP ?_; intro zqG' zqhG'; (try simp only [LCg.Off1, and_true] at zqo1'); (repeat (obtain ⟨_, zqo1'⟩ := zqo1')); refine zqhG' ?_; clear zqhG' zqG'; (try (revert zqo1'; intro _)); (first | ((rename News _ _ _ _ => zqN'); (simp only [List.nil_append, List.cons_append] at zqN'); (revert zqN'; intro _)) | skip); (try dsimp only)); (try (revert zqN'; intro _)); (try (revert zqo1'; intro _))))
  k_with "exec Assign cons ListComp" => ((k_here; k_dflt (refine wpAny_Assign_Name ?_ (by rfl))))
  k_with "exec Assign cons ListComp" => ((k_here; (with_reducible show wpAny _ _ (exec (Stmt.Assign [Expr.Name _ _] (Expr.ListComp _ [⟨Expr.Tuple _ _ _, _, _, _⟩] _ _) _) _) _ _ _); k_dflt (refine assignZ (_F₀ := by k_asm) (by rfl) (by with_unfolding_all rfl) (by with_unfolding_all rfl) (by decide) (by rfl) (by decide) (by rfl) (by rfl) (by decide) (by rfl) (by rfl) ?_)))
  k_with "eval ListComp" => ((k_here; (with_reducible show wpAny _ _ (eval (Expr.ListComp _ [⟨Expr.Name _ _, _, _, _⟩] _ _) _) _ _ _); k_dflt (refine evalK (_F₀ := by k_asm) (by with_unfolding_all rfl) (by intro _; rfl) (by intro _; rfl) (by rfl) (by decide) (by intro _ _; rfl) ?_)))
  k_with "eval ListComp" => ((k_here; (with_reducible show wpAny _ _ (eval (Expr.ListComp _ [⟨Expr.Tuple _ _ _, _, [_], _⟩] _ _) _) _ _ _); k_dflt (refine evalZT (_F₀ := by k_asm) (by with_unfolding_all rfl) (by decide) (by rfl) (by decide) (by rfl) (by rfl) (by decide) ?_)))
  k_with "call type:zip" => ((refine halt ?_))
  k_with "call type:enumerate" => ((refine halt ?_))
  k_with "CompK" => ((refine halt ?_))
  k_with "CompU" => ((refine halt ?_))
  k_with "CompT" => ((refine halt ?_))
  k_with "ZEnd" => ((refine halt ?_))
  k_with "EndK" => ((refine halt ?_))
  k_with "eval Name" => ((k_here; (with_reducible show wpAny _ _ (eval (Expr.Name _ _) (envX _ _ _ _ _ _)) _ _ _); k_dflt (refine' nameX_L (by k_asm) (by first | rfl | k_asm) ?_ (by rfl) (by rfl); k_whole)))
  k_with "eval Name" => ((k_here; (with_reducible show wpAny _ _ (eval (Expr.Name _ _) (envX _ _ _ _ _ _)) _ _ _); k_dflt (refine' nameX_B (by k_asm) (by k_asm) (by k_asm) (by first | k_is | kernel_rfl | with_unfolding_all rfl) (by boot_by_name) (by decide) ?_ (by rfl) (by rfl); k_whole)))
  k_with "exec Assign cons ListComp" => ((k_here; (with_reducible show wpAny _ _ (exec (Stmt.Assign [Expr.Name _ _] (Expr.ListComp _ [⟨Expr.Name _ _, _, [], _⟩] _ _) _) _) _ _ _); k_dflt (refine assignU (F₀ := by k_asm) (by rfl) (by with_unfolding_all rfl) (by with_unfolding_all rfl) (by decide) (by rfl) (by decide) (by rfl) (by rfl) (by rfl) ?_)))
  k_with "eval ListComp" => ((k_here; (with_reducible show wpAny _ _ (eval (Expr.ListComp _ [⟨Expr.Name _ _, _, [], _⟩] _ _) _) _ _ _); k_dflt (refine evalU (F₀ := by k_asm) (by with_unfolding_all rfl) (by decide) (by rfl) (by decide) (by rfl) ?_)))
  k_with "eval ListComp" => ((k_here; (with_reducible show wpAny _ _ (eval (Expr.ListComp _ [⟨Expr.Name _ _, _, [_], _⟩] _ _) _) _ _ _); k_dflt (refine evalT (F₀ := by k_asm) (by with_unfolding_all rfl) (by decide) (by rfl) (by decide) (by rfl) ?_)))
  exact True.intro
theorem top_off_P6 : True := by
  w_top off
  exact True.intro
theorem words_53 : True := by
  k_with "call ref" => (((k_dflt (show wpAny _ _ (call (Value.ref 144) [Value.ref _, Value.ref _, Value.ref _] []) _ _ _)); refine halt ?_))
  exact True.intro
set_option maxHeartbeats 800000 in
theorem law_part6 (w : World) (p : Program) (loose : List Str) (mean : ExcName → Option Value) (mg mb : Str → Option Value) (dp un : Nat) (gd : Option (List Code)) (L a : Addr) (ccd : Value) (outer : List Env) (A₀ : Around) (base h₀ : Heap) (m : Str → Option Value) (s : Shared) (Q : Flow → Shared → Prop) (E : Value → Shared → Prop)
    (B : Below A₀ base outer h₀) (X : (Mine.hd.heap_39 w.params).In h₀) (T : Top p loose mean mg mb h₀) (hd : dp + 60 < recursionLimit) (hu : un + 600 < cLine)
    (am ap DH DC : Addr) (kp nH nC : Nat) (hs : List (Str × Tok)) (cs : List (Int × Tok)) (oM o3 : Obj) (v3 : Option Value) (dM : oM.data = .cell (some (.ref am))) (d3 : o3.data = .cell v3) (rest : List (Addr × Obj)) (hMa : Mach rest am ap)
    (mH : m (Str.ofString "heard") = some (.ref DH)) (mC : m (Str.ofString "cells") = some (.ref DC)) (h5 : hs.length = 5) (h10 : cs.length = 10) (hri : ∀ r ∈ hs.take 4, RowInv [97, 98, 99, 100, 101, 102] r.1)
    (hap : ∀ p ∈ (33, tabObj #[]) :: (L + 3, o3) :: (L + 2, oM) :: rest, p.1 ≠ ap) (h33 : ∀ p ∈ (L + 3, o3) :: (L + 2, oM) :: rest, p.1 ≠ 33)
    (h3r : ∀ p ∈ (L + 2, oM) :: rest, p.1 ≠ L + 3) (hH : (DH, listOf (strValues hs).toArray nH) ∈ rest) (hC : (DC, listOf (iv cs).toArray nC) ∈ rest)
    (F : Fr h₀ L s.heap m) (N : News h₀ L s.heap ((ap, pbOf [] kp) :: (33, tabObj #[]) :: (L + 3, o3) :: (L + 2, oM) :: rest))
    (next : ∀ (SA MA : Addr) (pt : Array Value) (rs' : List (Str × Tok)) (ms : List (Nat × Tok)) (sc : List (Int × Tok)) (nS nm kp' : Nat) (o3' : Obj) (h' : Heap) (tk' : Nat), PlayTo ((hs.take 4).map Prod.fst) 3 (rs'.map Prod.fst) [] (ms.map Prod.fst) (sc.map Prod.fst) → o3'.data = .cell (some (.ref MA)) →
      Fr h₀ L h' (fun y => if y = Str.ofString "scale" then some (.ref SA) else m y) → News h₀ L h' ((SA, listOf (iv sc).toArray nS) :: (MA, listOf (cv ms).toArray nm) :: (ap, pbOf (strValues rs') kp') :: (L + 3, o3') :: (L + 2, oM) :: (33, tabObj pt) :: rest) → (@Ne Nat SA ap ∧ @Ne Nat MA ap) → Q .next { s with heap := h', toks := tk' }) :
    wpAny (model PySem.Challenge.rw_sh0017_01.prog w) (lawAround dp un gd L a ccd outer) (exec (lawStmt 6) (lawEnv L a ccd)) Q E s := by
  revert X
  k_fill
  intro X
  simp only [lawStmt, lawEnv, lawAround, lawRec, recOf, List.drop_succ_cons, List.drop_zero, List.headD_cons]
  refine hideP ?_
  intro Gq hGq
  obtain ⟨⟨x0, t0⟩, ⟨x1, t1⟩, ⟨x2, t2⟩, ⟨x3, t3⟩, ⟨x4, t4⟩, rfl⟩ := five h5
  simp only [strValues, List.map_cons, List.map_nil] at hH
  have hic : IntsAre (iv cs) (cs.map Prod.fst) := iv_ints cs
  refine hGq ?_
  clear hGq Gq
  k_steps
  refine ⟨?_⟩
  rename_i D1 h1 l1 D2 ws2 h2 F2 N2 hI2 hC2 hL2 l2
  obtain ⟨zs, rfl, hzs⟩ := ivOf hI2
  have h6 : zs.length = 6 := by have := congrArg List.length hzs; simp at this; omega
  refine Ctr.use (play_spec w am ap D1 D2 [(x0, t0), (x1, t1), (x2, t2), (x3, t3)] 0 0 kp #[] (33, tabObj #[]) ((D2, listOf (iv zs).toArray 0) :: (D1, listOf (strValues [(x0, t0), (x1, t1), (x2, t2), (x3, t3)]).toArray 0) :: (L + 3, o3) :: (L + 2, oM) :: rest)
    (hMa.mono fun p hp => .tail _ (.tail _ (.tail _ (.tail _ hp)))) (ne_cons (hap _ (.head _)) (ne_cons (hap _ (.head _)) (ne_cons (by dsimp only; omega) (ne_cons (by dsimp only; omega) fun p hp => hap p (.tail _ hp)))))
    (ne_cons (by dsimp only; omega) (ne_cons (by dsimp only; omega) h33)) (ne_cons (by dsimp only; omega) (ne_cons (by dsimp only; omega) h33)) (.inl ⟨rfl, rfl⟩) rfl (.tail _ (.head _)) zs h6 (.head _) hri) B F2 X (cb_drop N2 ?sub) T (by first | exact rfl | assumption) (by ktr_room) (by ktr_units) ?_
  case sub =>
    intro p hp
    simp only [List.mem_cons] at hp ⊢
    rcases hp with h | h | h | h | h | h | h | h <;> simp [h, strValues]
  intro v n' h' tk' F4 N4 hqq1_
  refine hideP ?_
  intro Gq hGq
  obtain ⟨TT, SA, MA, rs', ms, sc, nS, nm, kp', ps', q', rfl, rfl, hPlay, ⟨ne1, ne2, ne3, ne4⟩, l4, l6, l3⟩ := hqq1_
  refine hGq ?_
  clear hGq Gq
  k_steps
  rename_i h5 F5 N5
  have m3 : ∀ {l : List (Addr × Obj)}, (L + 3, o3) ∈ (L + 3, o3) :: l := .head _
  have e1 : @Ne Nat TT (L + 3) := news_ne N5 (.head _) (.tail _ (.tail _ (.tail _ (.tail _ (.tail _ (.tail _ (.tail _ (.tail _ m3)))))))) (by rw [d3]; simp)
  have e2 : @Ne Nat SA (L + 3) := news_ne N5 (.tail _ (.head _)) (.tail _ (.tail _ (.tail _ (.tail _ (.tail _ (.tail _ (.tail _ (.tail _ m3)))))))) (by rw [d3]; simp)
  have e3 : @Ne Nat MA (L + 3) := news_ne N5 (.tail _ (.tail _ (.head _))) (.tail _ (.tail _ (.tail _ (.tail _ (.tail _ (.tail _ (.tail _ (.tail _ m3)))))))) (by rw [d3]; simp)
  have N6 := cb_drop (news := (SA, listOf (iv sc).toArray nS) :: (MA, listOf (cv ms).toArray nm) :: (ap, pbOf (strValues rs') kp') :: (L + 3, o3) :: (L + 2, oM) :: (33, tabObj ps') :: rest) N5 (by kcj_m)
  refine storeX_C F5 N6 (c := L + 3) rfl (.tail e2 (.tail e3 (.tail (Ne.symm (hap _ (.tail _ (.head _)))) (.head (ne_cons (h3r _ (.head _)) (ne_cons (Ne.symm (h33 _ (.head _))) fun p hp => h3r p (.tail _ hp))))))) d3 ?_ rfl rfl
  intro h6 o3' F6 N6 d6
  k_steps
  rename_i h7 F7 N7
  exact next SA MA ps' rs' ms sc nS nm kp' o3' h7 _ hPlay d6 F7 N7 ⟨ne2, ne3⟩

end
-- part P7
section
theorem words_54 : True := by
  k_with_none
  k_with "k_all" => (first | assumption | exact ne_of_top (by omega))
  k_with "kd_mem" => (first | exact Pick.head | (apply Pick.tail; kd_mem))
  k_with "UnrEnd" => ((k_dflt (refine' unrEnd_pick (by k_asm) (by k_asm) (by kd_mem) (by k_all) ?_; k_whole)))
  k_with "exec For Name Name cons nil" => ((k_here; (with_unfolding_all refine' For_invVF (by k_asm) (by exact rfl) (by exact rfl) ?_; k_whole)))
  k_with "pyIter ref" => ((((with_reducible show wpAny _ _ (pyIter (Value.ref _)) (fun it s₂ => LoopAtV _ _ _ _ _ _ _ _ _ it s₂) _ _); k_dflt (refine' iter_listUnr (by exact rfl) (by k_asm) (by k_asm) (by k_mem) (by exact rfl) (by exact rfl) ?_; k_whole); intro _ zql1'; (try k_lt zql1')); (try (revert zql1'; intro _))))
  k_with "m1" => ((refine' code_def (by k_asm) (by k_asm) (by k_asm) (by k_asm) (by k_asm) (by exact rfl) (by exact rfl) (by first | exact rfl | assumption) (by k_is) (by k_is) (by first | k_room | ktr_room) (by first | exact BindsTo.of_eq rfl | exact binds_K (by k_in) rfl (by k_is) rfl rfl rfl | fail "k_enter: no rule for these arguments") (by exact locs rfl) ?_ (by exact rfl) (by exact rfl) (by exact rfl) (by decide)))
  k_with "m2" => ((refine' code_defC (by k_asm) (by k_asm) (by k_asm) (by k_asm) (by k_asm) (by exact rfl) (by exact rfl) (by first | exact rfl | assumption) (by k_is) (by k_is) (by first | k_room | ktr_room) (by first | exact BindsTo.of_eq rfl | exact binds_K (by k_in) rfl (by k_is) rfl rfl rfl | fail "k_enter: no rule for these arguments") (by exact rfl) (by decide +kernel) ?_ (by exact rfl) (by exact rfl) (by exact rfl)))
  k_with "call builtin:str.find" => (((with_reducible show wpAny _ _ (call (Value.builtin "str.find") [Value.str _ _, Value.str _ _, Value.int _ _, Value.int _ _]) _ _ _); k_dflt (refine find4_call ?_)))
  k_with "call builtin:len" => (((with_reducible show wpAny _ _ (call (Value.builtin "len") [Value.str (PySem.Str.mk _) _]) _ _ _); k_dflt (refine SBL.len (by first | decide | (simp only [PySem.Str.length, List.size_toArray, List.length_cons, List.length_nil]; omega)) ?_); (try dsimp only)))
  k_with "UnrEnd" => ((k_dflt (refine' unrEnd_pickL (by k_asm) (by k_asm) (by kd_mem) (by k_all) (by k_mem) ?_; k_whole)))
  k_with "kcj_m" => ((intro _ zqhp; repeat (first | exact zqhp | apply List.Mem.tail)))
  k_with "k_mem" => (((show @Membership.mem (PySem.Addr × PySem.Obj) (List (PySem.Addr × PySem.Obj)) List.instMembership _ _); with_reducible assumption))
  k_with "kn_code" => (first | exact codeHd_of_K (c := 37) (P := 33) (by k_asm) (by kernel_rfl) | exact codeHd_of_K (c := 117) (P := 113) (by k_asm) (by kernel_rfl))
  k_with "is_list" => (exact News.isList (by k_asm) (by k_mem))
  k_with "k_room" => (ktr_room)
  k_with "Kq" => ((k_dflt (refine' Kq.of (by with_reducible assumption) ?_)))
  k_with "truthy ref" => ((k_here; (with_reducible show wpAny _ _ (truthy (Value.ref _)) _ _ _); (with_unfolding_all refine' wpAny_truthy_list (items := _) (by is_list) (by (simp only [List.size_toArray, List.length_cons, List.length_nil]; omega)) ?_; k_whole; (try simp only [List.isEmpty_toArray, List.isEmpty_cons, List.isEmpty_nil, Array.isEmpty_push, Bool.not_false, Bool.not_true]))))
  k_with "call builtin:list.pop" => (((k_here; (with_reducible show wpAny _ _ (call (Value.builtin _) [Value.ref _, Value.int 0 _]) _ _ _); k_dflt (refine' popU (by k_asm) (by k_asm) (by k_upd) (by rfl) (by (simp only [List.size_toArray, List.length_cons]; exact seqIndex_zero _)) (by rfl) (by (rw [sizeLine_eq]; simp only [List.length_cons]; omega)) ?_); intro _ _ zqN'; (try dsimp only [List.nil_append, List.cons_append] at zqN')); (try (revert zqN'; intro _))))
  k_with "call builtin:list.append" => ((k_here; (with_reducible show wpAny _ _ (call (Value.builtin _) [Value.ref _, _]) _ _ _); k_dflt (refine' append_K (by k_asm) (by k_asm) (by k_upd) ?_ (by (rw [sizeLine_eq]; simp only [List.size_toArray]; omega)); k_whole); intro _ _ _; (try k_sweep)))
  k_with "eval ListComp" => ((k_here; lcg_look; k_dflt (refine evalU (F₀ := by k_asm) (by with_unfolding_all rfl) (by decide) (by rfl) (by decide) (by rfl) ?_)))
  k_with "eval ListComp" => ((k_here; lct_look; k_dflt (refine evalT (F₀ := by k_asm) (by with_unfolding_all rfl) (by decide) (by rfl) (by decide) (by rfl) ?_)))
  k_with "exec Assign cons ListComp" => ((k_here; lcg_look; k_dflt (refine assignU (F₀ := by k_asm) (by rfl) (by with_unfolding_all rfl) (by with_unfolding_all rfl) (by decide) (by rfl) (by decide) (by rfl) (by rfl) (by rfl) ?_)))
  k_with "exec Assign cons ListComp" => ((k_here; lct_look; k_dflt (refine assignT (F₀ := by k_asm) (by rfl) (by with_unfolding_all rfl) (by with_unfolding_all rfl) (by decide) (by rfl) (by decide) (by rfl) (by rfl) (by rfl) ?_)))
  k_with "CompEnd" => ((k_dflt (refine' compEnd_of (by k_asm) (by k_asm) (by with_reducible assumption) (by kcj_m) (by with_reducible assumption) ?_; k_whole)))
  k_with "call builtin:len" => ((k_here; (with_reducible show wpAny _ _ (call (Value.builtin "len") [Value.ref _]) _ _ _); k_dflt (refine' kun_lenL (by exact News.isList (by k_asm) (by k_mem)) (by with_reducible assumption) (by omega) ?_; k_whole)))
  k_with "kcj_m" => ((with_reducible ((repeat (refine sub_step ?_ ?_; (· (repeat (first | exact List.mem_cons_self | apply List.mem_cons_of_mem))))); (intro _ zqhp; (repeat (first | exact zqhp | apply List.mem_cons_of_mem)); done))))
  k_with "k_ne" => (first | (with_reducible assumption) | (with_reducible exact Ne.symm (by assumption)) | ((try dsimp only); (repeat ((rename (@Ne Nat _ _) => zqhz'); clear zqhz')); omega))
  k_with "FinE" => ((((k_dflt (intro _ _ _ _ _ zqo1')); refine hideP ?_; intro zqG' zqhG'; (try simp only [LCg.Off1, and_true] at zqo1'); (repeat (obtain ⟨_, zqo1'⟩ := zqo1')); refine zqhG' ?_; clear zqhG' zqG'; (try (revert zqo1'; intro _)); (first | ((rename News _ _ _ _ => zqN'); (simp only [List.nil_append, List.cons_append] at zqN'); (revert zqN'; intro _)) | skip); (try dsimp only)); (try (revert zqN'; intro _)); (try (revert zqo1'; intro _))))
  k_with "FinA" => ((((k_dflt (intro _ _ _ _ _ zqo1')); refine hideP ?_; intro zqG' zqhG'; (try simp only [LCg.Off1, and_true] at zqo1'); (repeat (obtain ⟨_, zqo1'⟩ := zqo1')); refine zqhG' ?_; clear zqhG' zqG'; (try (revert zqo1'; intro _)); (first | ((rename News _ _ _ _ => zqN'); (simp only [List.nil_append, List.cons_append] at zqN'); (revert zqN'; intro _)) | skip); (try dsimp only)); (try (revert zqN'; intro _)); (try (revert zqo1'; intro _))))
  k_with "exec Assign cons ListComp" => ((k_here; k_dflt (refine wpAny_Assign_Name ?_ (by rfl))))
  k_with "exec Assign cons ListComp" => ((k_here; (with_reducible show wpAny _ _ (exec (Stmt.Assign [Expr.Name _ _] (Expr.ListComp _ [⟨Expr.Tuple _ _ _, _, _, _⟩] _ _) _) _) _ _ _); k_dflt (refine assignZ (_F₀ := by k_asm) (by rfl) (by with_unfolding_all rfl) (by with_unfolding_all rfl) (by decide) (by rfl) (by decide) (by rfl) (by rfl) (by decide) (by rfl) (by rfl) ?_)))
  k_with "eval ListComp" => ((k_here; (with_reducible show wpAny _ _ (eval (Expr.ListComp _ [⟨Expr.Name _ _, _, _, _⟩] _ _) _) _ _ _); k_dflt (refine evalK (_F₀ := by k_asm) (by with_unfolding_all rfl) (by intro _; rfl) (by intro _; rfl) (by rfl) (by decide) (by intro _ _; rfl) ?_)))
  k_with "eval ListComp" => ((k_here; (with_reducible show wpAny _ _ (eval (Expr.ListComp _ [⟨Expr.Tuple _ _ _, _, [_], _⟩] _ _) _) _ _ _); k_dflt (refine evalZT (_F₀ := by k_asm) (by with_unfolding_all rfl) (by decide) (by rfl) (by decide) (by rfl) (by rfl) (by decide) ?_)))
  k_with "call type:zip" => ((refine halt ?_))
  k_with "call type:enumerate" => ((refine halt ?_))
  k_with "CompK" => ((refine halt ?_))
  k_with "CompU" => ((refine halt ?_))
  k_with "CompT" => ((refine halt ?_))
  k_with "ZEnd" => ((refine halt ?_))
  k_with "EndK" => ((refine halt ?_))
  k_with "eval Name" => ((k_here; (with_reducible show wpAny _ _ (eval (Expr.Name _ _) (envX _ _ _ _ _ _)) _ _ _); k_dflt (refine' nameX_L (by k_asm) (by first | rfl | k_asm) ?_ (by rfl) (by rfl); k_whole)))
  k_with "eval Name" => ((k_here; (with_reducible show wpAny _ _ (eval (Expr.Name _ _) (envX _ _ _ _ _ _)) _ _ _); k_dflt (refine' nameX_B (by k_asm) (by k_asm) (by k_asm) (by first | k_is | kernel_rfl | with_unfolding_all rfl) (by boot_by_name) (by decide) ?_ (by rfl) (by rfl); k_whole)))
  k_with "exec Assign cons ListComp" => ((k_here; (with_reducible show wpAny _ _ (exec (Stmt.Assign [Expr.Name _ _] (Expr.ListComp _ [⟨Expr.Name _ _, _, [], _⟩] _ _) _) _) _ _ _); k_dflt (refine assignU (F₀ := by k_asm) (by rfl) (by with_unfolding_all rfl) (by with_unfolding_all rfl) (by decide) (by rfl) (by decide) (by rfl) (by rfl) (by rfl) ?_)))
  k_with "eval ListComp" => ((k_here; (with_reducible show wpAny _ _ (eval (Expr.ListComp _ [⟨Expr.Name _ _, _, [], _⟩] _ _) _) _ _ _); k_dflt (refine evalU (F₀ := by k_asm) (by with_unfolding_all rfl) (by decide) (by rfl) (by decide) (by rfl) ?_)))
  k_with "eval ListComp" => ((k_here; (with_reducible show wpAny _ _ (eval (Expr.ListComp _ [⟨Expr.Name _ _, _, [_], _⟩] _ _) _) _ _ _); k_dflt (refine evalT (F₀ := by k_asm) (by with_unfolding_all rfl) (by decide) (by rfl) (by decide) (by rfl) ?_)))
  exact True.intro
theorem top_off_P7 : True := by
  w_top off
  exact True.intro
theorem words_55 : True := by
  k_with "call ref" => (((k_dflt (show wpAny _ _ (call (Value.ref 80) [Value.ref _] []) _ _ _)); refine halt ?_))
  k_with "call ref" => (((k_dflt (show wpAny _ _ (call (Value.ref 154) [Value.str _ _, Value.ref _] []) _ _ _)); refine halt ?_))
  k_with "compareOp NotEq ref ref" => ((k_here; (with_reducible show wpAny _ _ (compareOp CmpOp.NotEq (Value.ref _) (Value.ref _)) _ _ _); refine halt ?_))
  exact True.intro
def isTol (c0 c1 c2 c3 c4 c5 : Nat) (r : Str × Tok) (v : Value) : Prop := ∃ t, v = .str (tolV r.1 c0 c1 c2 c3 c4 c5) t
theorem isTol_sv {c0 c1 c2 c3 c4 c5 : Nat} : ∀ {l : List (Str × Tok)} {ys : List Value}, All2 (isTol c0 c1 c2 c3 c4 c5) l ys → ∃ rs : List (Str × Tok), ys = strValues rs ∧ rs.map Prod.fst = l.map fun z => tolV z.1 c0 c1 c2 c3 c4 c5
  | [], [], _ => ⟨[], rfl, rfl⟩
  | a :: l, _ :: ys, ⟨⟨t, h⟩, h2⟩ => by
    obtain ⟨rs, e1, e2⟩ := isTol_sv h2
    exact ⟨(tolV a.1 c0 c1 c2 c3 c4 c5, t) :: rs, by rw [h, e1]; rfl, by rw [List.map_cons, List.map_cons, ← e2]⟩
set_option maxHeartbeats 800000 in
theorem law_part7 (w : World) (p : Program) (loose : List Str) (mean : ExcName → Option Value) (mg mb : Str → Option Value) (dp un : Nat) (gd : Option (List Code)) (L a : Addr) (ccd : Value) (outer : List Env) (A₀ : Around) (base h₀ : Heap) (m : Str → Option Value) (s : Shared) (Q : Flow → Shared → Prop) (E : Value → Shared → Prop)
    (B : Below A₀ base outer h₀) (X : (Mine.hd.heap_39 w.params).In h₀) (T : Top p loose mean mg mb h₀) (hd : dp + 60 < recursionLimit) (hu : un + 600 < cLine)
    (am ap dx SA MA DL : Addr) (e : MachE) (kp k nm nL : Nat) (oS : Obj) (qs rs : List (Str × Tok)) (c0 c1 c2 c3 c4 c5 : Nat) (u0 u1 u2 u3 u4 u5 : Tok) (oM o3 o1 : Obj) (dM : oM.data = .cell (some (.ref am))) (d3 : o3.data = .cell (some (.ref MA))) (d1 : o1.data = .cell (some (.ref DL))) (rest : List (Addr × Obj)) (minst : (am, instObj 90 dx) ∈ rest) (mdx : (dx, machD e ap k) ∈ rest)
    (h4 : rs.length = 4) (hq4 : qs.length = 4) (hlen : ∀ r ∈ rs, r.1.length ≤ 6) (hqr : qs.map Prod.fst = rs.map fun r => tolV r.1 c0 c1 c2 c3 c4 c5) (hok : ∀ x ∈ qs.map Prod.fst, PyData.strOk x = true)
    (hap : ∀ p ∈ (L + 3, o3) :: (L + 2, oM) :: rest, p.1 ≠ ap) (hSA : @Ne Nat SA ap ∧ @Ne Nat MA ap)
    (hDL : (DL, listOf (strValues rs).toArray nL) ∈ rest) (hl1 : (L + 1, o1) ∈ rest)
    (F : Fr h₀ L s.heap m) (N : News h₀ L s.heap ((SA, oS) :: (MA, listOf (cv [(c0, u0), (c1, u1), (c2, u2), (c3, u3), (c4, u4), (c5, u5)]).toArray nm) :: (ap, pbOf (strValues qs) kp) :: (L + 3, o3) :: (L + 2, oM) :: rest))
    (next : ∀ (h' : Heap) (tk' : Nat), Fr h₀ L h' m → News h₀ L h' ((SA, oS) :: (MA, listOf (cv [(c0, u0), (c1, u1), (c2, u2), (c3, u3), (c4, u4), (c5, u5)]).toArray nm) :: (L + 3, o3) :: (L + 2, oM) :: rest) → Q .next { s with heap := h', toks := tk' }) :
    wpAny (model PySem.Challenge.rw_sh0017_01.prog w) (lawAround dp un gd L a ccd outer) (exec (lawStmt 7) (lawEnv L a ccd)) Q E s := by
  revert X
  k_fill
  intro X
  simp only [lawStmt, lawEnv, lawAround, lawRec, recOf, List.drop_succ_cons, List.drop_zero, List.headD_cons]
  have hMa : Mach rest am ap := ⟨dx, e, k, minst, mdx⟩
  rw [machD_eq] at mdx
  k_steps
  refine ⟨?_⟩
  refine ⟨4, _, _, _, Src.range (by rfl) (by k_asm) (by k_asm) (by assumption) (by rfl) (by rfl) (by decide), by k_asm, by k_asm, fun g => restU_inv (fun i ys nw => ∃ k1, ys = strValues (qs.take i) ∧ nw = (SA, oS) :: (MA, listOf (cv [(c0, u0), (c1, u1), (c2, u2), (c3, u3), (c4, u4), (c5, u5)]).toArray nm) :: (ap, pbOf (strValues (qs.drop i)) k1) :: (L + 3, o3) :: (L + 2, oM) :: rest) ⟨kp, rfl, rfl⟩ ?_ ?_⟩
  · intro i v ys nw I oI C oC D m₂ h tk E' hi hPv hpq1 hC hx2 F2 N2 off3 ne3
    obtain ⟨k1, rfl, rfl⟩ := hpq1
    k_steps
    refine ⟨?_⟩
    refine hideP ?_
    intro Gq hGq
    have hlt : i < qs.length := by omega
    obtain ⟨⟨y, ty⟩, hy⟩ : ∃ r, r = qs[i] := ⟨_, rfl⟩
    have hdrop : qs.drop i = (y, ty) :: qs.drop (i + 1) := by rw [hy]; exact List.drop_eq_getElem_cons hlt
    have htake : qs.take (i + 1) = qs.take i ++ [(y, ty)] := by rw [hy]; exact List.take_succ_eq_append_getElem hlt
    have hcons : strValues ((y, ty) :: qs.drop (i + 1)) = .str y ty :: strValues (qs.drop (i + 1)) := rfl
    rw [hdrop, hcons] at N2
    have off3' := off3
    simp only [Off3] at off3'
    obtain ⟨⟨ox1, ox2, ox3⟩, ⟨oy1, oy2, oy3⟩, ⟨oz1, oz2, oz3⟩, ⟨ow1, ow2, ow3⟩, ⟨ov1, ov2, ov3⟩, offr⟩ := off3'
    refine hGq ?_
    clear hGq Gq
    refine Ctr.use (tok_spec w am ap y ty (strValues (qs.drop (i + 1))) k1 ((I, oI) :: (C, oC) :: (D, lst (strValues (qs.take i))) :: (SA, oS) :: (MA, listOf (cv [(c0, u0), (c1, u1), (c2, u2), (c3, u3), (c4, u4), (c5, u5)]).toArray nm) :: (L + 3, o3) :: (L + 2, oM) :: rest) (hMa.mono fun p hp => .tail _ (.tail _ (.tail _ (.tail _ (.tail _ (.tail _ (.tail _ hp)))))))
      (ne_cons (Ne.symm oz1) (ne_cons (Ne.symm oz2) (ne_cons (Ne.symm oz3) (ne_cons hSA.1 (ne_cons hSA.2 hap))))) (by simp only [strValues, List.length_map, List.length_drop]; omega)) B F2 X (cb_drop N2 (by kcj_m)) T (by first | exact rfl | assumption) (by ktr_room) (by ktr_units) ?_
    rintro v2 n2 h2 tk2 F4 N4 ⟨rfl, k2, rfl⟩
    refine compEnd_of (news := (SA, oS) :: (MA, listOf (cv [(c0, u0), (c1, u1), (c2, u2), (c3, u3), (c4, u4), (c5, u5)]).toArray nm) :: (ap, pbOf (strValues (qs.drop (i + 1))) k2) :: (L + 3, o3) :: (L + 2, oM) :: rest) F4 N4 ⟨⟨ox1, ox2, ox3⟩, ⟨oy1, oy2, oy3⟩, ⟨oz1, oz2, oz3⟩, ⟨ow1, ow2, ow3⟩, ⟨ov1, ov2, ov3⟩, offr⟩ (by kcj_m) trivial ?_
    exact ⟨k2, by rw [htake, ← sv_snoc], rfl⟩
  · rintro ys nw ⟨k1, rfl, rfl⟩
    have et : qs.take 4 = qs := by rw [← hq4]; exact List.take_length
    have ed : qs.drop 4 = [] := by rw [← hq4]; exact List.drop_length
    rw [et, ed]
    k_steps
    refine ⟨?_⟩
    refine CompU.map isTx (isTol c0 c1 c2 c3 c4 c5) rs (Src.list (its := (strValues rs).toArray) (by rfl) (by k_asm) (by k_asm) (.inr ⟨_, .tail _ (.tail _ (.tail _ (.tail _ (.tail _ (.tail _ hDL))))), rfl, _, rfl⟩) (by rw [sizeLine_eq]; simp only [List.size_toArray, strValues, List.length_map]; omega)) (by k_asm) (by k_asm) (by simp only [List.size_toArray, strValues, List.length_map]) (fun i v h _ => sv_isTx h) ?_ ?_
    · intro g2 hpq1 v ys I oI C oC D m₂ h tk E' hy hpq2 hS hC hx2 F2 N2 off ne
      obtain ⟨y, ty⟩ := hpq1
      obtain rfl := hpq2
      have hly : y.length ≤ 6 := hlen _ hy
      k_steps
      refine ⟨?_⟩
      refine Ctr.use (told_spec w MA y ty c0 c1 c2 c3 c4 c5 u0 u1 u2 u3 u4 u5 nm _ (.tail _ (.tail _ (.tail _ (.tail _ (.tail _ (.head _)))))) (by omega)) B F2 X N2 T (by first | exact rfl | assumption) (by ktr_room) (by ktr_units) ?_
      rintro v2 n2 h2 tk2 F4 N4 ⟨rfl, t4, rfl⟩
      refine compEnd_of F4 N4 off (by kcj_m) hS ⟨rfl, t4, rfl⟩
    · intro g2 ys hys
      obtain ⟨ts, rfl, hts⟩ := isTol_sv hys
      k_steps
      refine ⟨?_⟩
      rename_i D1 h1 t1 oa1 oa2 oa3 oa4 oa5 oa6 D2 h2 t2 F2 N2 ob1 ob2 ob3 ob4 ob5 ob6 ob7
      refine ne_strs (News.isList N2 (.tail _ (.head _))) (News.isList N2 (.head _)) (by rw [hqr, hts]) hok (by ktr_units) ?_
      k_steps
      exact next _ _ F2 (cb_drop N2 (by kcj_m))

end
-- part P8
section
theorem words_56 : True := by
  k_with_none
  k_with "k_all" => (first | assumption | exact ne_of_top (by omega))
  k_with "kd_mem" => (first | exact Pick.head | (apply Pick.tail; kd_mem))
  k_with "UnrEnd" => ((k_dflt (refine' unrEnd_pick (by k_asm) (by k_asm) (by kd_mem) (by k_all) ?_; k_whole)))
  k_with "exec For Name Name cons nil" => ((k_here; (with_unfolding_all refine' For_invVF (by k_asm) (by exact rfl) (by exact rfl) ?_; k_whole)))
  k_with "pyIter ref" => ((((with_reducible show wpAny _ _ (pyIter (Value.ref _)) (fun it s₂ => LoopAtV _ _ _ _ _ _ _ _ _ it s₂) _ _); k_dflt (refine' iter_listUnr (by exact rfl) (by k_asm) (by k_asm) (by k_mem) (by exact rfl) (by exact rfl) ?_; k_whole); intro _ zql1'; (try k_lt zql1')); (try (revert zql1'; intro _))))
  k_with "m1" => ((refine' code_def (by k_asm) (by k_asm) (by k_asm) (by k_asm) (by k_asm) (by exact rfl) (by exact rfl) (by first | exact rfl | assumption) (by k_is) (by k_is) (by first | k_room | ktr_room) (by first | exact BindsTo.of_eq rfl | exact binds_K (by k_in) rfl (by k_is) rfl rfl rfl | fail "k_enter: no rule for these arguments") (by exact locs rfl) ?_ (by exact rfl) (by exact rfl) (by exact rfl) (by decide)))
  k_with "m2" => ((refine' code_defC (by k_asm) (by k_asm) (by k_asm) (by k_asm) (by k_asm) (by exact rfl) (by exact rfl) (by first | exact rfl | assumption) (by k_is) (by k_is) (by first | k_room | ktr_room) (by first | exact BindsTo.of_eq rfl | exact binds_K (by k_in) rfl (by k_is) rfl rfl rfl | fail "k_enter: no rule for these arguments") (by exact rfl) (by decide +kernel) ?_ (by exact rfl) (by exact rfl) (by exact rfl)))
  k_with "call builtin:str.find" => (((with_reducible show wpAny _ _ (call (Value.builtin "str.find") [Value.str _ _, Value.str _ _, Value.int _ _, Value.int _ _]) _ _ _); k_dflt (refine find4_call ?_)))
  k_with "call builtin:len" => (((with_reducible show wpAny _ _ (call (Value.builtin "len") [Value.str (PySem.Str.mk _) _]) _ _ _); k_dflt (refine SBL.len (by first | decide | (simp only [PySem.Str.length, List.size_toArray, List.length_cons, List.length_nil]; omega)) ?_); (try dsimp only)))
  k_with "UnrEnd" => ((k_dflt (refine' unrEnd_pickL (by k_asm) (by k_asm) (by kd_mem) (by k_all) (by k_mem) ?_; k_whole)))
  k_with "kcj_m" => ((intro _ zqhp; repeat (first | exact zqhp | apply List.Mem.tail)))
  k_with "k_mem" => (((show @Membership.mem (PySem.Addr × PySem.Obj) (List (PySem.Addr × PySem.Obj)) List.instMembership _ _); with_reducible assumption))
  k_with "kn_code" => (first | exact codeHd_of_K (c := 37) (P := 33) (by k_asm) (by kernel_rfl) | exact codeHd_of_K (c := 117) (P := 113) (by k_asm) (by kernel_rfl))
  k_with "is_list" => (exact News.isList (by k_asm) (by k_mem))
  k_with "k_room" => (ktr_room)
  k_with "Kq" => ((k_dflt (refine' Kq.of (by with_reducible assumption) ?_)))
  k_with "truthy ref" => ((k_here; (with_reducible show wpAny _ _ (truthy (Value.ref _)) _ _ _); (with_unfolding_all refine' wpAny_truthy_list (items := _) (by is_list) (by (simp only [List.size_toArray, List.length_cons, List.length_nil]; omega)) ?_; k_whole; (try simp only [List.isEmpty_toArray, List.isEmpty_cons, List.isEmpty_nil, Array.isEmpty_push, Bool.not_false, Bool.not_true]))))
  k_with "call builtin:list.pop" => (((k_here; (with_reducible show wpAny _ _ (call (Value.builtin _) [Value.ref _, Value.int 0 _]) _ _ _); k_dflt (refine' popU (by k_asm) (by k_asm) (by k_upd) (by rfl) (by (simp only [List.size_toArray, List.length_cons]; exact seqIndex_zero _)) (by rfl) (by (rw [sizeLine_eq]; simp only [List.length_cons]; omega)) ?_); intro _ _ zqN'; (try dsimp only [List.nil_append, List.cons_append] at zqN')); (try (revert zqN'; intro _))))
  k_with "call builtin:list.append" => ((k_here; (with_reducible show wpAny _ _ (call (Value.builtin _) [Value.ref _, _]) _ _ _); k_dflt (refine' append_K (by k_asm) (by k_asm) (by k_upd) ?_ (by (rw [sizeLine_eq]; simp only [List.size_toArray]; omega)); k_whole); intro _ _ _; (try k_sweep)))
  k_with "eval ListComp" => ((k_here; lcg_look; k_dflt (refine evalU (F₀ := by k_asm) (by with_unfolding_all rfl) (by decide) (by rfl) (by decide) (by rfl) ?_)))
  k_with "eval ListComp" => ((k_here; lct_look; k_dflt (refine evalT (F₀ := by k_asm) (by with_unfolding_all rfl) (by decide) (by rfl) (by decide) (by rfl) ?_)))
  k_with "exec Assign cons ListComp" => ((k_here; lcg_look; k_dflt (refine assignU (F₀ := by k_asm) (by rfl) (by with_unfolding_all rfl) (by with_unfolding_all rfl) (by decide) (by rfl) (by decide) (by rfl) (by rfl) (by rfl) ?_)))
  k_with "exec Assign cons ListComp" => ((k_here; lct_look; k_dflt (refine assignT (F₀ := by k_asm) (by rfl) (by with_unfolding_all rfl) (by with_unfolding_all rfl) (by decide) (by rfl) (by decide) (by rfl) (by rfl) (by rfl) ?_)))
  k_with "CompEnd" => ((k_dflt (refine' compEnd_of (by k_asm) (by k_asm) (by with_reducible assumption) (by kcj_m) (by with_reducible assumption) ?_; k_whole)))
  k_with "call builtin:len" => ((k_here; (with_reducible show wpAny _ _ (call (Value.builtin "len") [Value.ref _]) _ _ _); k_dflt (refine' kun_lenL (by exact News.isList (by k_asm) (by k_mem)) (by with_reducible assumption) (by omega) ?_; k_whole)))
  k_with "kcj_m" => ((with_reducible ((repeat (refine sub_step ?_ ?_; (· (repeat (first | exact List.mem_cons_self | apply List.mem_cons_of_mem))))); (intro _ zqhp; (repeat (first | exact zqhp | apply List.mem_cons_of_mem)); done))))
  k_with "k_ne" => (first | (with_reducible assumption) | (with_reducible exact Ne.symm (by assumption)) | ((try dsimp only); (repeat ((rename (@Ne Nat _ _) => zqhz'); clear zqhz')); omega))
  k_with "FinE" => ((((k_dflt (intro _ _ _ _ _ zqo1')); refine hideP ?_; intro zqG' zqhG'; (try simp only [LCg.Off1, and_true] at zqo1'); (repeat (obtain ⟨_, zqo1'⟩ := zqo1')); refine zqhG' ?_; clear zqhG' zqG'; (try (revert zqo1'; intro _)); (first | ((rename News _ _ _ _ => zqN'); (simp only [List.nil_append, List.cons_append] at zqN'); (revert zqN'; intro _)) | skip); (try dsimp only)); (try (revert zqN'; intro _)); (try (revert zqo1'; intro _))))
  k_with "FinA" => ((((k_dflt (intro _ _ _ _ _ zqo1')); refine hideP ?_; intro zqG' zqhG'; (try simp only [LCg.Off1, and_true] at zqo1'); (repeat (obtain ⟨_, zqo1'⟩ := zqo1')); refine zqhG' ?_; clear zqhG' zqG'; (try (revert zqo1'; intro _)); (first | ((rename News _ _ _ _ => zqN'); (simp only [List.nil_append, List.cons_append] at zqN'); (revert zqN'; intro _)) | skip); (try dsimp only)); (try (revert zqN'; intro _)); (try (revert zqo1'; intro _))))
  k_with "exec Assign cons ListComp" => ((k_here; k_dflt (refine wpAny_Assign_Name ?_ (by rfl))))
  k_with "exec Assign cons ListComp" => ((k_here; (with_reducible show wpAny _ _ (exec (Stmt.Assign [Expr.Name _ _] (Expr.ListComp _ [⟨Expr.Tuple _ _ _, _, _, _⟩] _ _) _) _) _ _ _); k_dflt (refine assignZ (_F₀ := by k_asm) (by rfl) (by with_unfolding_all rfl) (by with_unfolding_all rfl) (by decide) (by rfl) (by decide) (by rfl) (by rfl) (by decide) (by rfl) (by rfl) ?_)))
  k_with "eval ListComp" => ((k_here; (with_reducible show wpAny _ _ (eval (Expr.ListComp _ [⟨Expr.Name _ _, _, _, _⟩] _ _) _) _ _ _); k_dflt (refine evalK (_F₀ := by k_asm) (by with_unfolding_all rfl) (by intro _; rfl) (by intro _; rfl) (by rfl) (by decide) (by intro _ _; rfl) ?_)))
  k_with "eval ListComp" => ((k_here; (with_reducible show wpAny _ _ (eval (Expr.ListComp _ [⟨Expr.Tuple _ _ _, _, [_], _⟩] _ _) _) _ _ _); k_dflt (refine evalZT (_F₀ := by k_asm) (by with_unfolding_all rfl) (by decide) (by rfl) (by decide) (by rfl) (by rfl) (by decide) ?_)))
  k_with "call type:zip" => ((refine halt ?_))
  k_with "call type:enumerate" => ((refine halt ?_))
  k_with "CompK" => ((refine halt ?_))
  k_with "CompU" => ((refine halt ?_))
  k_with "CompT" => ((refine halt ?_))
  k_with "ZEnd" => ((refine halt ?_))
  k_with "EndK" => ((refine halt ?_))
  k_with "eval Name" => ((k_here; (with_reducible show wpAny _ _ (eval (Expr.Name _ _) (envX _ _ _ _ _ _)) _ _ _); k_dflt (refine' nameX_L (by k_asm) (by first | rfl | k_asm) ?_ (by rfl) (by rfl); k_whole)))
  k_with "eval Name" => ((k_here; (with_reducible show wpAny _ _ (eval (Expr.Name _ _) (envX _ _ _ _ _ _)) _ _ _); k_dflt (refine' nameX_B (by k_asm) (by k_asm) (by k_asm) (by first | k_is | kernel_rfl | with_unfolding_all rfl) (by boot_by_name) (by decide) ?_ (by rfl) (by rfl); k_whole)))
  k_with "exec Assign cons ListComp" => ((k_here; (with_reducible show wpAny _ _ (exec (Stmt.Assign [Expr.Name _ _] (Expr.ListComp _ [⟨Expr.Name _ _, _, [], _⟩] _ _) _) _) _ _ _); k_dflt (refine assignU (F₀ := by k_asm) (by rfl) (by with_unfolding_all rfl) (by with_unfolding_all rfl) (by decide) (by rfl) (by decide) (by rfl) (by rfl) (by rfl) ?_)))
  k_with "eval ListComp" => ((k_here; (with_reducible show wpAny _ _ (eval (Expr.ListComp _ [⟨Expr.Name _ _, _, [], _⟩] _ _) _) _ _ _); k_dflt (refine evalU (F₀ := by k_asm) (by with_unfolding_all rfl) (by decide) (by rfl) (by decide) (by rfl) ?_)))
  k_with "eval ListComp" => ((k_here; (with_reducible show wpAny _ _ (eval (Expr.ListComp _ [⟨Expr.Name _ _, _, [_], _⟩] _ _) _) _ _ _); k_dflt (refine evalT (F₀ := by k_asm) (by with_unfolding_all rfl) (by decide) (by rfl) (by decide) (by rfl) ?_)))
  exact True.intro
theorem top_off_P8 : True := by
  w_top off
  exact True.intro
theorem words_57 : True := by
  k_with "call ref" => (((k_dflt (show wpAny _ _ (call (Value.ref 149) [Value.ref _, Value.ref _] []) _ _ _)); refine halt ?_))
  exact True.intro
def dU (d0 d1 d2 a : Int) : Int := if a = 1 then d0 else if a = 3 then d1 else d2
def isDu (d0 d1 d2 : Int) (a : Int) (v : Value) : Prop := ∃ t, v = .int (dU d0 d1 d2 a) t
theorem isDu_iv {d0 d1 d2 : Int} : ∀ {l : List Int} {ys : List Value}, All2 (isDu d0 d1 d2) l ys → IntsAre ys (l.map (dU d0 d1 d2))
  | [], [], _ => .nil
  | a :: l, _ :: ys, ⟨⟨t, h⟩, h2⟩ => by rw [h]; exact .cons _ t (isDu_iv h2)
set_option maxHeartbeats 800000 in
theorem law_part8 (w : World) (p : Program) (loose : List Str) (mean : ExcName → Option Value) (mg mb : Str → Option Value) (dp un : Nat) (gd : Option (List Code)) (L a : Addr) (ccd : Value) (outer : List Env) (A₀ : Around) (base h₀ : Heap) (m : Str → Option Value) (s : Shared) (Q : Flow → Shared → Prop) (E : Value → Shared → Prop)
    (B : Below A₀ base outer h₀) (X : (Mine.hd.heap_39 w.params).In h₀) (T : Top p loose mean mg mb h₀) (hd : dp + 60 < recursionLimit) (hu : un + 600 < cLine)
    (SA MA DL : Addr) (nS nm nL : Nat) (rs : List (Str × Tok)) (c0 c1 c2 c3 c4 c5 : Nat) (u0 u1 u2 u3 u4 u5 : Tok) (d0 d1 d2 : Int) (v0 v1 v2 : Tok) (o3 o1 : Obj) (dd3 : o3.data = .cell (some (.ref MA))) (dd1 : o1.data = .cell (some (.ref DL))) (rest : List (Addr × Obj))
    (h4 : rs.length = 4) (hlen : ∀ r ∈ rs, r.1.length ≤ 6 ∧ r.1.cps.all (· < 128) = true) (ok1 : PyData.strOk ⟨#[c1]⟩ = true) (ok3 : PyData.strOk ⟨#[c3]⟩ = true) (mS : m (Str.ofString "scale") = some (.ref SA))
    (e0 : d0 = (rs.map fun r => dueOne [c0] [] r.1).sum) (e1 : d1 = (rs.map fun r => dueOne [c0, c2] [c1] r.1).sum) (e2 : d2 = (rs.map fun r => dueOne [c0, c2, c4] [c1, c3] r.1).sum)
    (hDL : (DL, listOf (strValues rs).toArray nL) ∈ rest) (hl1 : (L + 1, o1) ∈ rest)
    (F : Fr h₀ L s.heap m) (N : News h₀ L s.heap ((SA, listOf (iv [(d0, v0), (d1, v1), (d2, v2)]).toArray nS) :: (MA, listOf (cv [(c0, u0), (c1, u1), (c2, u2), (c3, u3), (c4, u4), (c5, u5)]).toArray nm) :: (L + 3, o3) :: rest))
    (next : ∀ (h' : Heap) (tk' : Nat), Fr h₀ L h' m → News h₀ L h' ((SA, listOf (iv [(d0, v0), (d1, v1), (d2, v2)]).toArray nS) :: (MA, listOf (cv [(c0, u0), (c1, u1), (c2, u2), (c3, u3), (c4, u4), (c5, u5)]).toArray nm) :: (L + 3, o3) :: rest) → Q .next { s with heap := h', toks := tk' }) :
    wpAny (model PySem.Challenge.rw_sh0017_01.prog w) (lawAround dp un gd L a ccd outer) (exec (lawStmt 8) (lawEnv L a ccd)) Q E s := by
  revert X
  k_fill
  intro X
  simp only [lawStmt, lawEnv, lawAround, lawRec, recOf, List.drop_succ_cons, List.drop_zero, List.headD_cons]
  simp only [iv, cv, List.map_cons, List.map_nil] at N
  k_steps
  refine ⟨?_⟩
  rename_i D1 h1 F1 N1 l1
  refine CompU.map isI (isDu d0 d1 d2) [1, 3, 5] (Src.tuple (o := { cls := Value.type "tuple", data := Data.seq #[Value.int 1 s.toks, Value.int 3 (s.toks + 1), Value.int 5 (s.toks + 1 + 1)] }) (by rfl) (by k_asm) (by k_asm) (.head _) rfl ⟨_, rfl⟩ (show 3 ≤ sizeLine by decide)) (by k_asm) (by k_asm) rfl ?_ ?_ ?_
  · intro i v hv hi
    match i, hi with
    | 0, _ => exact ⟨1, rfl, _, (Option.some.inj hv).symm⟩
    | 1, _ => exact ⟨3, rfl, _, (Option.some.inj hv).symm⟩
    | 2, _ => exact ⟨5, rfl, _, (Option.some.inj hv).symm⟩
  · intro g a v ys I oI C oC D m₂ h tk E' ha hpq1 hS hC hx2 F2 N2 off ne
    obtain ⟨t, rfl⟩ := hpq1
    simp only [List.mem_cons, List.not_mem_nil, or_false] at ha
    rcases ha with rfl | rfl | rfl
    · k_steps
      refine ⟨?_⟩
      rename_i D3 h3 F3 N3 l3
      refine Ctr.use (due1_spec w DL D3 rs c0 u0 nL 0 _ (.tail _ (.tail _ (.tail _ (.tail _ (.tail _ (.tail _ (.tail _ (.tail _ hDL)))))))) (.head _) (by omega)  hlen) B F3 X N3 T (by first | exact rfl | assumption) (by ktr_room) (by ktr_units) ?_
      rintro v2 n2 h2 tk2 F4 N4 ⟨rfl, t4, rfl⟩
      exact compEnd_of F4 N4 off (by kcj_m) hS ⟨rfl, t4, by rw [← e0]; rfl⟩
    · k_steps
      refine ⟨?_⟩
      rename_i D3 h3 F3 N3 l3
      refine Ctr.use (due3_spec w DL D3 rs c0 c1 c2 u0 u1 u2 nL 0 _ (.tail _ (.tail _ (.tail _ (.tail _ (.tail _ (.tail _ (.tail _ (.tail _ hDL)))))))) (.head _) (by omega) ok1 hlen) B F3 X N3 T (by first | exact rfl | assumption) (by ktr_room) (by ktr_units) ?_
      rintro v2 n2 h2 tk2 F4 N4 ⟨rfl, t4, rfl⟩
      exact compEnd_of F4 N4 off (by kcj_m) hS ⟨rfl, t4, by rw [← e1]; rfl⟩
    · k_steps
      refine ⟨?_⟩
      rename_i D3 h3 F3 N3 l3
      refine Ctr.use (due5_spec w DL D3 rs c0 c1 c2 c3 c4 u0 u1 u2 u3 u4 nL 0 _ (.tail _ (.tail _ (.tail _ (.tail _ (.tail _ (.tail _ (.tail _ (.tail _ hDL)))))))) (.head _) (by omega) ok1 ok3 hlen) B F3 X N3 T (by first | exact rfl | assumption) (by ktr_room) (by ktr_units) ?_
      rintro v2 n2 h2 tk2 F4 N4 ⟨rfl, t4, rfl⟩
      exact compEnd_of F4 N4 off (by kcj_m) hS ⟨rfl, t4, by rw [← e2]; rfl⟩
  · intro g2 ys hys
    have hi := isDu_iv hys
    k_steps
    · rename_i h3 t3 F3 N3 oa1 oa2 oa3 oa4 oa5 heq
      have N4 := cb_drop (news := (SA, listOf #[.int d0 v0, .int d1 v1, .int d2 v2] nS) :: (MA, listOf #[.str ⟨#[c0]⟩ u0, .str ⟨#[c1]⟩ u1, .str ⟨#[c2]⟩ u2, .str ⟨#[c3]⟩ u3, .str ⟨#[c4]⟩ u4, .str ⟨#[c5]⟩ u5] nm) :: (L + 3, o3) :: rest) N3 (by kcj_m)
      exact next _ _ F3 N4
    · rename_i hne
      exact absurd rfl hne

end
-- part P9
section
theorem words_58 : True := by
  k_with_none
  k_with "k_all" => (first | assumption | exact ne_of_top (by omega))
  k_with "kd_mem" => (first | exact Pick.head | (apply Pick.tail; kd_mem))
  k_with "UnrEnd" => ((k_dflt (refine' unrEnd_pick (by k_asm) (by k_asm) (by kd_mem) (by k_all) ?_; k_whole)))
  k_with "exec For Name Name cons nil" => ((k_here; (with_unfolding_all refine' For_invVF (by k_asm) (by exact rfl) (by exact rfl) ?_; k_whole)))
  k_with "pyIter ref" => ((((with_reducible show wpAny _ _ (pyIter (Value.ref _)) (fun it s₂ => LoopAtV _ _ _ _ _ _ _ _ _ it s₂) _ _); k_dflt (refine' iter_listUnr (by exact rfl) (by k_asm) (by k_asm) (by k_mem) (by exact rfl) (by exact rfl) ?_; k_whole); intro _ zql1'; (try k_lt zql1')); (try (revert zql1'; intro _))))
  k_with "m1" => ((refine' code_def (by k_asm) (by k_asm) (by k_asm) (by k_asm) (by k_asm) (by exact rfl) (by exact rfl) (by first | exact rfl | assumption) (by k_is) (by k_is) (by first | k_room | ktr_room) (by first | exact BindsTo.of_eq rfl | exact binds_K (by k_in) rfl (by k_is) rfl rfl rfl | fail "k_enter: no rule for these arguments") (by exact locs rfl) ?_ (by exact rfl) (by exact rfl) (by exact rfl) (by decide)))
  k_with "m2" => ((refine' code_defC (by k_asm) (by k_asm) (by k_asm) (by k_asm) (by k_asm) (by exact rfl) (by exact rfl) (by first | exact rfl | assumption) (by k_is) (by k_is) (by first | k_room | ktr_room) (by first | exact BindsTo.of_eq rfl | exact binds_K (by k_in) rfl (by k_is) rfl rfl rfl | fail "k_enter: no rule for these arguments") (by exact rfl) (by decide +kernel) ?_ (by exact rfl) (by exact rfl) (by exact rfl)))
  k_with "call builtin:str.find" => (((with_reducible show wpAny _ _ (call (Value.builtin "str.find") [Value.str _ _, Value.str _ _, Value.int _ _, Value.int _ _]) _ _ _); k_dflt (refine find4_call ?_)))
  k_with "call builtin:len" => (((with_reducible show wpAny _ _ (call (Value.builtin "len") [Value.str (PySem.Str.mk _) _]) _ _ _); k_dflt (refine SBL.len (by first | decide | (simp only [PySem.Str.length, List.size_toArray, List.length_cons, List.length_nil]; omega)) ?_); (try dsimp only)))
  k_with "UnrEnd" => ((k_dflt (refine' unrEnd_pickL (by k_asm) (by k_asm) (by kd_mem) (by k_all) (by k_mem) ?_; k_whole)))
  k_with "kcj_m" => ((intro _ zqhp; repeat (first | exact zqhp | apply List.Mem.tail)))
  k_with "k_mem" => (((show @Membership.mem (PySem.Addr × PySem.Obj) (List (PySem.Addr × PySem.Obj)) List.instMembership _ _); with_reducible assumption))
  k_with "kn_code" => (first | exact codeHd_of_K (c := 37) (P := 33) (by k_asm) (by kernel_rfl) | exact codeHd_of_K (c := 117) (P := 113) (by k_asm) (by kernel_rfl))
  k_with "is_list" => (exact News.isList (by k_asm) (by k_mem))
  k_with "k_room" => (ktr_room)
  k_with "Kq" => ((k_dflt (refine' Kq.of (by with_reducible assumption) ?_)))
  k_with "truthy ref" => ((k_here; (with_reducible show wpAny _ _ (truthy (Value.ref _)) _ _ _); (with_unfolding_all refine' wpAny_truthy_list (items := _) (by is_list) (by (simp only [List.size_toArray, List.length_cons, List.length_nil]; omega)) ?_; k_whole; (try simp only [List.isEmpty_toArray, List.isEmpty_cons, List.isEmpty_nil, Array.isEmpty_push, Bool.not_false, Bool.not_true]))))
  k_with "call builtin:list.pop" => (((k_here; (with_reducible show wpAny _ _ (call (Value.builtin _) [Value.ref _, Value.int 0 _]) _ _ _); k_dflt (refine' popU (by k_asm) (by k_asm) (by k_upd) (by rfl) (by (simp only [List.size_toArray, List.length_cons]; exact seqIndex_zero _)) (by rfl) (by (rw [sizeLine_eq]; simp only [List.length_cons]; omega)) ?_); intro _ _ zqN'; (try dsimp only [List.nil_append, List.cons_append] at zqN')); (try (revert zqN'; intro _))))
  k_with "call builtin:list.append" => ((k_here; (with_reducible show wpAny _ _ (call (Value.builtin _) [Value.ref _, _]) _ _ _); k_dflt (refine' append_K (by k_asm) (by k_asm) (by k_upd) ?_ (by (rw [sizeLine_eq]; simp only [List.size_toArray]; omega)); k_whole); intro _ _ _; (try k_sweep)))
  k_with "eval ListComp" => ((k_here; lcg_look; k_dflt (refine evalU (F₀ := by k_asm) (by with_unfolding_all rfl) (by decide) (by rfl) (by decide) (by rfl) ?_)))
  k_with "eval ListComp" => ((k_here; lct_look; k_dflt (refine evalT (F₀ := by k_asm) (by with_unfolding_all rfl) (by decide) (by rfl) (by decide) (by rfl) ?_)))
  k_with "exec Assign cons ListComp" => ((k_here; lcg_look; k_dflt (refine assignU (F₀ := by k_asm) (by rfl) (by with_unfolding_all rfl) (by with_unfolding_all rfl) (by decide) (by rfl) (by decide) (by rfl) (by rfl) (by rfl) ?_)))
  k_with "exec Assign cons ListComp" => ((k_here; lct_look; k_dflt (refine assignT (F₀ := by k_asm) (by rfl) (by with_unfolding_all rfl) (by with_unfolding_all rfl) (by decide) (by rfl) (by decide) (by rfl) (by rfl) (by rfl) ?_)))
  k_with "CompEnd" => ((k_dflt (refine' compEnd_of (by k_asm) (by k_asm) (by with_reducible assumption) (by kcj_m) (by with_reducible assumption) ?_; k_whole)))
  k_with "call builtin:len" => ((k_here; (with_reducible show wpAny _ _ (call (Value.builtin "len") [Value.ref _]) _ _ _); k_dflt (refine' kun_lenL (by exact News.isList (by k_asm) (by k_mem)) (by with_reducible assumption) (by omega) ?_; k_whole)))
  k_with "kcj_m" => ((with_reducible ((repeat (refine sub_step ?_ ?_; (· (repeat (first | exact List.mem_cons_self | apply List.mem_cons_of_mem))))); (intro _ zqhp; (repeat (first | exact zqhp | apply List.mem_cons_of_mem)); done))))
  k_with "k_ne" => (first | (with_reducible assumption) | (with_reducible exact Ne.symm (by assumption)) | ((try dsimp only); (repeat ((rename (@Ne Nat _ _) => zqhz'); clear zqhz')); omega))
  k_with "FinE" => ((((k_dflt (intro _ _ _ _ _ zqo1')); refine hideP ?_; intro zqG' zqhG'; (try simp only [LCg.Off1, and_true] at zqo1'); (repeat (obtain ⟨_, zqo1'⟩ := zqo1')); refine zqhG' ?_; clear zqhG' zqG'; (try (revert zqo1'; intro _)); (first | ((rename News _ _ _ _ => zqN'); (simp only [List.nil_append, List.cons_append] at zqN'); (revert zqN'; intro _)) | skip); (try dsimp only)); (try (revert zqN'; intro _)); (try (revert zqo1'; intro _))))
  k_with "FinA" => ((((k_dflt (intro _ _ _ _ _ zqo1')); refine hideP ?_; intro zqG' zqhG'; (try simp only [LCg.Off1, and_true] at zqo1'); (repeat (obtain ⟨_, zqo1'⟩ := zqo1')); refine zqhG' ?_; clear zqhG' zqG'; (try (revert zqo1'; intro _)); (first | ((rename News _ _ _ _ => zqN'); (simp only [List.nil_append, List.cons_append] at zqN'); (revert zqN'; intro _)) | skip); (try dsimp only)); (try (revert zqN'; intro _)); (try (revert zqo1'; intro _))))
  k_with "exec Assign cons ListComp" => ((k_here; k_dflt (refine wpAny_Assign_Name ?_ (by rfl))))
  k_with "exec Assign cons ListComp" => ((k_here; (with_reducible show wpAny _ _ (exec (Stmt.Assign [Expr.Name _ _] (Expr.ListComp _ [⟨Expr.Tuple _ _ _, _, _, _⟩] _ _) _) _) _ _ _); k_dflt (refine assignZ (_F₀ := by k_asm) (by rfl) (by with_unfolding_all rfl) (by with_unfolding_all rfl) (by decide) (by rfl) (by decide) (by rfl) (by rfl) (by decide) (by rfl) (by rfl) ?_)))
  k_with "eval ListComp" => ((k_here; (with_reducible show wpAny _ _ (eval (Expr.ListComp _ [⟨Expr.Name _ _, _, _, _⟩] _ _) _) _ _ _); k_dflt (refine evalK (_F₀ := by k_asm) (by with_unfolding_all rfl) (by intro _; rfl) (by intro _; rfl) (by rfl) (by decide) (by intro _ _; rfl) ?_)))
  k_with "eval ListComp" => ((k_here; (with_reducible show wpAny _ _ (eval (Expr.ListComp _ [⟨Expr.Tuple _ _ _, _, [_], _⟩] _ _) _) _ _ _); k_dflt (refine evalZT (_F₀ := by k_asm) (by with_unfolding_all rfl) (by decide) (by rfl) (by decide) (by rfl) (by rfl) (by decide) ?_)))
  k_with "call type:zip" => ((refine halt ?_))
  k_with "call type:enumerate" => ((refine halt ?_))
  k_with "CompK" => ((refine halt ?_))
  k_with "CompU" => ((refine halt ?_))
  k_with "CompT" => ((refine halt ?_))
  k_with "ZEnd" => ((refine halt ?_))
  k_with "EndK" => ((refine halt ?_))
  k_with "eval Name" => ((k_here; (with_reducible show wpAny _ _ (eval (Expr.Name _ _) (envX _ _ _ _ _ _)) _ _ _); k_dflt (refine' nameX_L (by k_asm) (by first | rfl | k_asm) ?_ (by rfl) (by rfl); k_whole)))
  k_with "eval Name" => ((k_here; (with_reducible show wpAny _ _ (eval (Expr.Name _ _) (envX _ _ _ _ _ _)) _ _ _); k_dflt (refine' nameX_B (by k_asm) (by k_asm) (by k_asm) (by first | k_is | kernel_rfl | with_unfolding_all rfl) (by boot_by_name) (by decide) ?_ (by rfl) (by rfl); k_whole)))
  k_with "exec Assign cons ListComp" => ((k_here; (with_reducible show wpAny _ _ (exec (Stmt.Assign [Expr.Name _ _] (Expr.ListComp _ [⟨Expr.Name _ _, _, [], _⟩] _ _) _) _) _ _ _); k_dflt (refine assignU (F₀ := by k_asm) (by rfl) (by with_unfolding_all rfl) (by with_unfolding_all rfl) (by decide) (by rfl) (by decide) (by rfl) (by rfl) (by rfl) ?_)))
  k_with "eval ListComp" => ((k_here; (with_reducible show wpAny _ _ (eval (Expr.ListComp _ [⟨Expr.Name _ _, _, [], _⟩] _ _) _) _ _ _); k_dflt (refine evalU (F₀ := by k_asm) (by with_unfolding_all rfl) (by decide) (by rfl) (by decide) (by rfl) ?_)))
  k_with "eval ListComp" => ((k_here; (with_reducible show wpAny _ _ (eval (Expr.ListComp _ [⟨Expr.Name _ _, _, [_], _⟩] _ _) _) _ _ _); k_dflt (refine evalT (F₀ := by k_asm) (by with_unfolding_all rfl) (by decide) (by rfl) (by decide) (by rfl) ?_)))
  exact True.intro
theorem top_off_P9 : True := by
  w_top off
  exact True.intro
theorem words_59 : True := by
  k_with "compareOp Eq ref ref" => ((k_here; (with_reducible show wpAny _ _ (compareOp CmpOp.Eq (Value.ref _) (Value.ref _)) _ _ _); refine halt ?_))
  exact True.intro
theorem pick_odd6 (a b c d e f : Value) : slicePick #[a, b, c, d, e, f] (some 1) none (some 2) = #[b, d, f] := by kernel_rfl
theorem litC3 {a b c : Nat} {u v x : Tok} (i : Nat) (y : Value) (h : (#[Value.str ⟨#[a]⟩ u, Value.str ⟨#[b]⟩ v, Value.str ⟨#[c]⟩ x] : Array Value)[i]? = some y) (hi : i < 3) : ∃ k, [a, b, c][i]? = some k ∧ isC k y := by
  match i, hi with
  | 0, _ => exact ⟨a, rfl, u, by cases h; rfl⟩
  | 1, _ => exact ⟨b, rfl, v, by cases h; rfl⟩
  | 2, _ => exact ⟨c, rfl, x, by cases h; rfl⟩
set_option maxHeartbeats 800000 in
theorem law_part9 (w : World) (p : Program) (loose : List Str) (mean : ExcName → Option Value) (mg mb : Str → Option Value) (dp un : Nat) (gd : Option (List Code)) (L a : Addr) (ccd : Value) (outer : List Env) (A₀ : Around) (base h₀ : Heap) (m : Str → Option Value) (s : Shared) (Q : Flow → Shared → Prop) (E : Value → Shared → Prop)
    (B : Below A₀ base outer h₀) (X : (Mine.hd.heap_39 w.params).In h₀) (T : Top p loose mean mg mb h₀) (hd : dp + 60 < recursionLimit) (hu : un + 600 < cLine)
    (SA MA DL : Addr) (oS : Obj) (nm nL : Nat) (rs : List (Str × Tok)) (c0 c1 c2 c3 c4 c5 : Nat) (u0 u1 u2 u3 u4 u5 : Tok) (o3 o1 : Obj) (dd3 : o3.data = .cell (some (.ref MA))) (dd1 : o1.data = .cell (some (.ref DL))) (rest : List (Addr × Obj))
    (h4 : rs.length = 4) (hlen : ∀ r ∈ rs, r.1.length ≤ 6) (ok1 : PyData.strOk ⟨#[c1]⟩ = true) (ok3 : PyData.strOk ⟨#[c3]⟩ = true) (ok5 : PyData.strOk ⟨#[c5]⟩ = true)
    (hDL : (DL, listOf (strValues rs).toArray nL) ∈ rest) (hl1 : (L + 1, o1) ∈ rest)
    (F : Fr h₀ L s.heap m) (N : News h₀ L s.heap ((SA, oS) :: (MA, listOf (cv [(c0, u0), (c1, u1), (c2, u2), (c3, u3), (c4, u4), (c5, u5)]).toArray nm) :: (L + 3, o3) :: rest))
    (next : ∀ (t' : Tok) (h' : Heap) (tk' : Nat), Fr h₀ L h' (fun y => if y = Str.ofString "lost" then some (.int ((rs.filter fun r => !([c1, c3, c5].any (inL r.1))).length : Int) t') else m y) → News h₀ L h' ((SA, oS) :: (MA, listOf (cv [(c0, u0), (c1, u1), (c2, u2), (c3, u3), (c4, u4), (c5, u5)]).toArray nm) :: (L + 3, o3) :: rest) → Q .next { s with heap := h', toks := tk' }) :
    wpAny (model PySem.Challenge.rw_sh0017_01.prog w) (lawAround dp un gd L a ccd outer) (exec (lawStmt 9) (lawEnv L a ccd)) Q E s := by
  revert X
  k_fill
  intro X
  simp only [lawStmt, lawEnv, lawAround, lawRec, recOf, List.drop_succ_cons, List.drop_zero, List.headD_cons]
  simp only [cv, List.map_cons, List.map_nil] at N
  k_steps
  refine ⟨?_⟩
  refine CompK.filter isTx isTx (fun r => !([c1, c3, c5].any (inL r.1))) rs (Src.list (its := (strValues rs).toArray) (by rfl) (by k_asm) (by k_asm) (.inr ⟨_, .tail _ (.tail _ (.tail _ hDL)), rfl, _, rfl⟩) (by rw [sizeLine_eq]; simp only [List.size_toArray, strValues, List.length_map]; omega)) (by k_asm) (by k_asm) (by simp only [List.size_toArray, strValues, List.length_map]) (fun i v h _ => sv_isTx h) ?_ ?_
  · intro g hpq1 v ys I oI C D K oK h tk E' hy hpq2 hoK F2 N2 hS off ne
    obtain ⟨y, ty⟩ := hpq1
    obtain rfl := hpq2
    have hly : y.length ≤ 6 := hlen _ hy
    refine hideQ ?_
    intro qqh eeh hqqh
    try dsimp only
    k_steps
    refine ⟨?_⟩
    rename News _ _ _ _ => N6
    rw [pick_odd6] at N6
    refine CompT.filter isC isC (inL y) [c1, c3, c5] (Src.list (its := #[.str ⟨#[c1]⟩ u1, .str ⟨#[c3]⟩ u3, .str ⟨#[c5]⟩ u5]) (by rfl) (by k_asm) (by k_asm) (.inr ⟨_, by k_mem, rfl, _, rfl⟩) (show 3 ≤ sizeLine by decide)) (by k_asm) (by k_asm) rfl litC3 ?_ ?_
    · intro g a v ys2 I2 oI2 C2 oC2 D2 m₂ h9 tk9 E'' ha hpq1 hS2 hC hx2 F' N' off2 ne2
      obtain ⟨t, rfl⟩ := hpq1
      refine hideQ ?_
      intro qqh eeh hqqh
      try dsimp only
      k_steps
      · rename (Builtin.Str.occurrences _ _ 0 _ 1).isEmpty = _ => hf; exact ⟨rfl, inL_f hf⟩
      · rename (Builtin.Str.occurrences _ _ 0 _ 1).isEmpty = _ => hf; exact ⟨rfl, inL_t hf, _, rfl⟩
    · intro g2 zs hzs
      obtain ⟨ts, rfl, hts⟩ := isC_sv hzs
      have hem := empty_any hts
      k_steps
      refine ⟨?_⟩
      rename_i D2 h2 t2 oa1 oa2 oa3 oa4 oa5 oa6 oa7 oa8 oa9 l2 h3 F3 N3 l3
      refine eq_nil (rs := ts) (News.isList N3 (.tail _ (.head _))) (News.isList N3 (.head _)) ?_ (by ktr_units) ?_
      · intro x hx
        rw [hts] at hx
        obtain ⟨c, hc, rfl⟩ := List.mem_map.mp hx
        have hc2 := (List.mem_filter.mp hc).1
        simp only [List.mem_cons, List.not_mem_nil, or_false] at hc2
        rcases hc2 with rfl | rfl | rfl
        · exact ok1
        · exact ok3
        · exact ok5
      · rw [hem]
        cases hb : [c1, c3, c5].any (inL y)
        · k_steps
          refine ⟨?_⟩
          refine endK_same F3 N3 (by kcj_m) off hS ⟨rfl, ?_, rfl⟩
          dsimp only; rw [hb]; rfl
        · k_steps
          refine ⟨?_⟩
          refine endK_same F3 N3 (by kcj_m) off hS ⟨rfl, ?_⟩
          dsimp only; rw [hb]; rfl
  · intro g ys hys
    obtain ⟨KM, hKM⟩ : ∃ k : Int, k = ((rs.filter fun r => !([c1, c3, c5].any (inL r.1))).length : Int) := ⟨_, rfl⟩
    have hl3 : (ys.toArray.size : Int) = KM := by rw [hKM, List.size_toArray, hys.length]
    have hk0 : 0 ≤ KM := by omega
    have hk3 : KM ≤ 4 := by
      have := List.length_filter_le (fun r => !([c1, c3, c5].any (inL r.1))) rs
      omega
    k_steps
    rename_i h3 t3 oa1 oa2 oa3 oa4 h5 F5 N5
    rw [hKM] at F5
    have N4 := cb_drop (news := (SA, oS) :: (MA, listOf #[.str ⟨#[c0]⟩ u0, .str ⟨#[c1]⟩ u1, .str ⟨#[c2]⟩ u2, .str ⟨#[c3]⟩ u3, .str ⟨#[c4]⟩ u4, .str ⟨#[c5]⟩ u5] nm) :: (L + 3, o3) :: rest) N5 (by kcj_m)
    exact next _ _ _ F5 N4

end
-- part P10
section
theorem words_60 : True := by
  k_with_none
  k_with "k_all" => (first | assumption | exact ne_of_top (by omega))
  k_with "kd_mem" => (first | exact Pick.head | (apply Pick.tail; kd_mem))
  k_with "UnrEnd" => ((k_dflt (refine' unrEnd_pick (by k_asm) (by k_asm) (by kd_mem) (by k_all) ?_; k_whole)))
  k_with "exec For Name Name cons nil" => ((k_here; (with_unfolding_all refine' For_invVF (by k_asm) (by exact rfl) (by exact rfl) ?_; k_whole)))
  k_with "pyIter ref" => ((((with_reducible show wpAny _ _ (pyIter (Value.ref _)) (fun it s₂ => LoopAtV _ _ _ _ _ _ _ _ _ it s₂) _ _); k_dflt (refine' iter_listUnr (by exact rfl) (by k_asm) (by k_asm) (by k_mem) (by exact rfl) (by exact rfl) ?_; k_whole); intro _ zql1'; (try k_lt zql1')); (try (revert zql1'; intro _))))
  k_with "m1" => ((refine' code_def (by k_asm) (by k_asm) (by k_asm) (by k_asm) (by k_asm) (by exact rfl) (by exact rfl) (by first | exact rfl | assumption) (by k_is) (by k_is) (by first | k_room | ktr_room) (by first | exact BindsTo.of_eq rfl | exact binds_K (by k_in) rfl (by k_is) rfl rfl rfl | fail "k_enter: no rule for these arguments") (by exact locs rfl) ?_ (by exact rfl) (by exact rfl) (by exact rfl) (by decide)))
  k_with "m2" => ((refine' code_defC (by k_asm) (by k_asm) (by k_asm) (by k_asm) (by k_asm) (by exact rfl) (by exact rfl) (by first | exact rfl | assumption) (by k_is) (by k_is) (by first | k_room | ktr_room) (by first | exact BindsTo.of_eq rfl | exact binds_K (by k_in) rfl (by k_is) rfl rfl rfl | fail "k_enter: no rule for these arguments") (by exact rfl) (by decide +kernel) ?_ (by exact rfl) (by exact rfl) (by exact rfl)))
  k_with "call builtin:str.find" => (((with_reducible show wpAny _ _ (call (Value.builtin "str.find") [Value.str _ _, Value.str _ _, Value.int _ _, Value.int _ _]) _ _ _); k_dflt (refine find4_call ?_)))
  k_with "call builtin:len" => (((with_reducible show wpAny _ _ (call (Value.builtin "len") [Value.str (PySem.Str.mk _) _]) _ _ _); k_dflt (refine SBL.len (by first | decide | (simp only [PySem.Str.length, List.size_toArray, List.length_cons, List.length_nil]; omega)) ?_); (try dsimp only)))
  k_with "UnrEnd" => ((k_dflt (refine' unrEnd_pickL (by k_asm) (by k_asm) (by kd_mem) (by k_all) (by k_mem) ?_; k_whole)))
  k_with "kcj_m" => ((intro _ zqhp; repeat (first | exact zqhp | apply List.Mem.tail)))
  k_with "k_mem" => (((show @Membership.mem (PySem.Addr × PySem.Obj) (List (PySem.Addr × PySem.Obj)) List.instMembership _ _); with_reducible assumption))
  k_with "kn_code" => (first | exact codeHd_of_K (c := 37) (P := 33) (by k_asm) (by kernel_rfl) | exact codeHd_of_K (c := 117) (P := 113) (by k_asm) (by kernel_rfl))
  k_with "is_list" => (exact News.isList (by k_asm) (by k_mem))
  k_with "k_room" => (ktr_room)
  k_with "Kq" => ((k_dflt (refine' Kq.of (by with_reducible assumption) ?_)))
  k_with "truthy ref" => ((k_here; (with_reducible show wpAny _ _ (truthy (Value.ref _)) _ _ _); (with_unfolding_all refine' wpAny_truthy_list (items := _) (by is_list) (by (simp only [List.size_toArray, List.length_cons, List.length_nil]; omega)) ?_; k_whole; (try simp only [List.isEmpty_toArray, List.isEmpty_cons, List.isEmpty_nil, Array.isEmpty_push, Bool.not_false, Bool.not_true]))))
  k_with "call builtin:list.pop" => (((k_here; (with_reducible show wpAny _ _ (call (Value.builtin _) [Value.ref _, Value.int 0 _]) _ _ _); k_dflt (refine' popU (by k_asm) (by k_asm) (by k_upd) (by rfl) (by (simp only [List.size_toArray, List.length_cons]; exact seqIndex_zero _)) (by rfl) (by (rw [sizeLine_eq]; simp only [List.length_cons]; omega)) ?_); intro _ _ zqN'; (try dsimp only [List.nil_append, List.cons_append] at zqN')); (try (revert zqN'; intro _))))
  k_with "call builtin:list.append" => ((k_here; (with_reducible show wpAny _ _ (call (Value.builtin _) [Value.ref _, _]) _ _ _); k_dflt (refine' append_K (by k_asm) (by k_asm) (by k_upd) ?_ (by (rw [sizeLine_eq]; simp only [List.size_toArray]; omega)); k_whole); intro _ _ _; (try k_sweep)))
  k_with "eval ListComp" => ((k_here; lcg_look; k_dflt (refine evalU (F₀ := by k_asm) (by with_unfolding_all rfl) (by decide) (by rfl) (by decide) (by rfl) ?_)))
  k_with "eval ListComp" => ((k_here; lct_look; k_dflt (refine evalT (F₀ := by k_asm) (by with_unfolding_all rfl) (by decide) (by rfl) (by decide) (by rfl) ?_)))
  k_with "exec Assign cons ListComp" => ((k_here; lcg_look; k_dflt (refine assignU (F₀ := by k_asm) (by rfl) (by with_unfolding_all rfl) (by with_unfolding_all rfl) (by decide) (by rfl) (by decide) (by rfl) (by rfl) (by rfl) ?_)))
  k_with "exec Assign cons ListComp" => ((k_here; lct_look; k_dflt (refine assignT (F₀ := by k_asm) (by rfl) (by with_unfolding_all rfl) (by with_unfolding_all rfl) (by decide) (by rfl) (by decide) (by rfl) (by rfl) (by rfl) ?_)))
  k_with "CompEnd" => ((k_dflt (refine' compEnd_of (by k_asm) (by k_asm) (by with_reducible assumption) (by kcj_m) (by with_reducible assumption) ?_; k_whole)))
  k_with "call builtin:len" => ((k_here; (with_reducible show wpAny _ _ (call (Value.builtin "len") [Value.ref _]) _ _ _); k_dflt (refine' kun_lenL (by exact News.isList (by k_asm) (by k_mem)) (by with_reducible assumption) (by omega) ?_; k_whole)))
  k_with "kcj_m" => ((with_reducible ((repeat (refine sub_step ?_ ?_; (· (repeat (first | exact List.mem_cons_self | apply List.mem_cons_of_mem))))); (intro _ zqhp; (repeat (first | exact zqhp | apply List.mem_cons_of_mem)); done))))
  k_with "k_ne" => (first | (with_reducible assumption) | (with_reducible exact Ne.symm (by assumption)) | ((try dsimp only); (repeat ((rename (@Ne Nat _ _) => zqhz'); clear zqhz')); omega))
  k_with "FinE" => ((((k_dflt (intro _ _ _ _ _ zqo1')); refine hideP ?_; intro zqG' zqhG'; (try simp only [LCg.Off1, and_true] at zqo1'); (repeat (obtain ⟨_, zqo1'⟩ := zqo1')); refine zqhG' ?_; clear zqhG' zqG'; (try (revert zqo1'; intro _)); (first | ((rename News _ _ _ _ => zqN'); (simp only [List.nil_append, List.cons_append] at zqN'); (revert zqN'; intro _)) | skip); (try dsimp only)); (try (revert zqN'; intro _)); (try (revert zqo1'; intro _))))
  k_with "FinA" => ((((k_dflt (intro _ _ _ _ _ zqo1')); refine hideP ?_; intro zqG' zqhG'; (try simp only [LCg.Off1, and_true] at zqo1'); (repeat (obtain ⟨_, zqo1'⟩ := zqo1')); refine zqhG' ?_; clear zqhG' zqG'; (try (revert zqo1'; intro _)); (first | ((rename News _ _ _ _ => zqN'); (simp only [List.nil_append, List.cons_append] at zqN'); (revert zqN'; intro _)) | skip); (try dsimp only)); (try (revert zqN'; intro _)); (try (revert zqo1'; intro _))))
  k_with "exec Assign cons ListComp" => ((k_here; k_dflt (refine wpAny_Assign_Name ?_ (by rfl))))
  k_with "exec Assign cons ListComp" => ((k_here; (with_reducible show wpAny _ _ (exec (Stmt.Assign [Expr.Name _ _] (Expr.ListComp _ [⟨Expr.Tuple _ _ _, _, _, _⟩] _ _) _) _) _ _ _); k_dflt (refine assignZ (_F₀ := by k_asm) (by rfl) (by with_unfolding_all rfl) (by with_unfolding_all rfl) (by decide) (by rfl) (by decide) (by rfl) (by rfl) (by decide) (by rfl) (by rfl) ?_)))
  k_with "eval ListComp" => ((k_here; (with_reducible show wpAny _ _ (eval (Expr.ListComp _ [⟨Expr.Name _ _, _, _, _⟩] _ _) _) _ _ _); k_dflt (refine evalK (_F₀ := by k_asm) (by with_unfolding_all rfl) (by intro _; rfl) (by intro _; rfl) (by rfl) (by decide) (by intro _ _; rfl) ?_)))
  k_with "eval ListComp" => ((k_here; (with_reducible show wpAny _ _ (eval (Expr.ListComp _ [⟨Expr.Tuple _ _ _, _, [_], _⟩] _ _) _) _ _ _); k_dflt (refine evalZT (_F₀ := by k_asm) (by with_unfolding_all rfl) (by decide) (by rfl) (by decide) (by rfl) (by rfl) (by decide) ?_)))
  k_with "call type:zip" => ((refine halt ?_))
  k_with "call type:enumerate" => ((refine halt ?_))
  k_with "CompK" => ((refine halt ?_))
  k_with "CompU" => ((refine halt ?_))
  k_with "CompT" => ((refine halt ?_))
  k_with "ZEnd" => ((refine halt ?_))
  k_with "EndK" => ((refine halt ?_))
  k_with "eval Name" => ((k_here; (with_reducible show wpAny _ _ (eval (Expr.Name _ _) (envX _ _ _ _ _ _)) _ _ _); k_dflt (refine' nameX_L (by k_asm) (by first | rfl | k_asm) ?_ (by rfl) (by rfl); k_whole)))
  k_with "eval Name" => ((k_here; (with_reducible show wpAny _ _ (eval (Expr.Name _ _) (envX _ _ _ _ _ _)) _ _ _); k_dflt (refine' nameX_B (by k_asm) (by k_asm) (by k_asm) (by first | k_is | kernel_rfl | with_unfolding_all rfl) (by boot_by_name) (by decide) ?_ (by rfl) (by rfl); k_whole)))
  k_with "exec Assign cons ListComp" => ((k_here; (with_reducible show wpAny _ _ (exec (Stmt.Assign [Expr.Name _ _] (Expr.ListComp _ [⟨Expr.Name _ _, _, [], _⟩] _ _) _) _) _ _ _); k_dflt (refine assignU (F₀ := by k_asm) (by rfl) (by with_unfolding_all rfl) (by with_unfolding_all rfl) (by decide) (by rfl) (by decide) (by rfl) (by rfl) (by rfl) ?_)))
  k_with "eval ListComp" => ((k_here; (with_reducible show wpAny _ _ (eval (Expr.ListComp _ [⟨Expr.Name _ _, _, [], _⟩] _ _) _) _ _ _); k_dflt (refine evalU (F₀ := by k_asm) (by with_unfolding_all rfl) (by decide) (by rfl) (by decide) (by rfl) ?_)))
  k_with "eval ListComp" => ((k_here; (with_reducible show wpAny _ _ (eval (Expr.ListComp _ [⟨Expr.Name _ _, _, [_], _⟩] _ _) _) _ _ _); k_dflt (refine evalT (F₀ := by k_asm) (by with_unfolding_all rfl) (by decide) (by rfl) (by decide) (by rfl) ?_)))
  exact True.intro
theorem top_off_P10 : True := by
  w_top off
  exact True.intro
theorem words_61 : True := by
  k_with "compareChain" => ((k_here; (with_reducible show wpAny _ _ (compareChain _ _ (_ :: _ :: _) _) _ _ _); k_dflt (refine chain_link ?_)))
  k_with "call ref" => (((k_dflt (show wpAny _ _ (call (Value.ref 149) [Value.ref _, Value.ref _] []) _ _ _)); refine halt ?_))
  exact True.intro
set_option maxHeartbeats 800000 in
theorem law_part10 (w : World) (p : Program) (loose : List Str) (mean : ExcName → Option Value) (mg mb : Str → Option Value) (dp un : Nat) (gd : Option (List Code)) (L a : Addr) (ccd : Value) (outer : List Env) (A₀ : Around) (base h₀ : Heap) (m : Str → Option Value) (s : Shared) (Q : Flow → Shared → Prop) (E : Value → Shared → Prop)
    (B : Below A₀ base outer h₀) (X : (Mine.hd.heap_39 w.params).In h₀) (T : Top p loose mean mg mb h₀) (hd : dp + 60 < recursionLimit) (hu : un + 600 < cLine)
    (SA DL : Addr) (nS nL : Nat) (rs : List (Str × Tok)) (d0 d1 d2 k d9 : Int) (v0 v1 v2 tk : Tok) (o1 : Obj) (dd1 : o1.data = .cell (some (.ref DL))) (rest : List (Addr × Obj))
    (h4 : rs.length = 4) (hlen : ∀ r ∈ rs, r.1.length ≤ 6 ∧ r.1.cps.all (· < 128) = true) (mS : m (Str.ofString "scale") = some (.ref SA)) (mL : m (Str.ofString "lost") = some (.int k tk))
    (e9 : (rs.map fun r => dueOne [] [] r.1).sum = d9) (hk : 0 ≤ k ∧ k ≤ 4) (q1 : 64 * k ≤ d2) (q2 : d2 ≤ d1) (q3 : d1 ≤ d0) (q4 : d0 ≤ 2 * d9) (q5 : 0 ≤ d9 ∧ d9 ≤ 256)
    (hDL : (DL, listOf (strValues rs).toArray nL) ∈ rest) (hl1 : (L + 1, o1) ∈ rest)
    (F : Fr h₀ L s.heap m) (N : News h₀ L s.heap ((SA, listOf (iv [(d0, v0), (d1, v1), (d2, v2)]).toArray nS) :: rest))
    (next : ∀ (h' : Heap) (tk' : Nat), Fr h₀ L h' m → News h₀ L h' rest → Q (.ret (.bool true)) { s with heap := h', toks := tk' }) :
    wpAny (model PySem.Challenge.rw_sh0017_01.prog w) (lawAround dp un gd L a ccd outer) (exec (lawStmt 10) (lawEnv L a ccd)) Q E s := by
  revert X
  k_fill
  intro X
  simp only [lawStmt, lawEnv, lawAround, lawRec, recOf, List.drop_succ_cons, List.drop_zero, List.headD_cons]
  simp only [iv, List.map_cons, List.map_nil] at N
  have q1' : 64 * k ≤ [d0, d1, d2].getD (Int.toNat 2) 0 := q1
  have q2' : [d0, d1, d2].getD (Int.toNat 2) 0 ≤ [d0, d1, d2].getD (Int.toNat 1) 0 := q2
  have q3' : [d0, d1, d2].getD (Int.toNat 1) 0 ≤ [d0, d1, d2].getD (Int.toNat 0) 0 := q3
  have q4' : [d0, d1, d2].getD (Int.toNat 0) 0 ≤ 2 * d9 := q4
  k_steps
  refine ⟨?_⟩
  rename_i D1 h1 F1 N1 l1
  refine Ctr.use (due0_spec w DL D1 rs nL 0 _ (.tail _ (.tail _ hDL)) (.head _) (by omega) hlen) B F1 X N1 T (by first | exact rfl | assumption) (by ktr_room) (by ktr_units) ?_
  rintro v2 n2 h2 tk2 F4 N4 ⟨rfl, t4, rfl⟩
  rw [e9]
  obtain ⟨q5a, q5b⟩ := q5
  k_steps
  rw [decide_eq_true q4']
  exact next _ _ F4 (cb_drop N4 (by kcj_m))

end
-- part Main
section
theorem words_62 : True := by
  k_with_none
  k_with "k_all" => (first | assumption | exact ne_of_top (by omega))
  k_with "kd_mem" => (first | exact Pick.head | (apply Pick.tail; kd_mem))
  k_with "UnrEnd" => ((k_dflt (refine' unrEnd_pick (by k_asm) (by k_asm) (by kd_mem) (by k_all) ?_; k_whole)))
  k_with "exec For Name Name cons nil" => ((k_here; (with_unfolding_all refine' For_invVF (by k_asm) (by exact rfl) (by exact rfl) ?_; k_whole)))
  k_with "pyIter ref" => ((((with_reducible show wpAny _ _ (pyIter (Value.ref _)) (fun it s₂ => LoopAtV _ _ _ _ _ _ _ _ _ it s₂) _ _); k_dflt (refine' iter_listUnr (by exact rfl) (by k_asm) (by k_asm) (by k_mem) (by exact rfl) (by exact rfl) ?_; k_whole); intro _ zql1'; (try k_lt zql1')); (try (revert zql1'; intro _))))
  k_with "m1" => ((refine' code_def (by k_asm) (by k_asm) (by k_asm) (by k_asm) (by k_asm) (by exact rfl) (by exact rfl) (by first | exact rfl | assumption) (by k_is) (by k_is) (by first | k_room | ktr_room) (by first | exact BindsTo.of_eq rfl | exact binds_K (by k_in) rfl (by k_is) rfl rfl rfl | fail "k_enter: no rule for these arguments") (by exact locs rfl) ?_ (by exact rfl) (by exact rfl) (by exact rfl) (by decide)))
  k_with "m2" => ((refine' code_defC (by k_asm) (by k_asm) (by k_asm) (by k_asm) (by k_asm) (by exact rfl) (by exact rfl) (by first | exact rfl | assumption) (by k_is) (by k_is) (by first | k_room | ktr_room) (by first | exact BindsTo.of_eq rfl | exact binds_K (by k_in) rfl (by k_is) rfl rfl rfl | fail "k_enter: no rule for these arguments") (by exact rfl) (by decide +kernel) ?_ (by exact rfl) (by exact rfl) (by exact rfl)))
  k_with "call builtin:str.find" => (((with_reducible show wpAny _ _ (call (Value.builtin "str.find") [Value.str _ _, Value.str _ _, Value.int _ _, Value.int _ _]) _ _ _); k_dflt (refine find4_call ?_)))
  k_with "call builtin:len" => (((with_reducible show wpAny _ _ (call (Value.builtin "len") [Value.str (PySem.Str.mk _) _]) _ _ _); k_dflt (refine SBL.len (by first | decide | (simp only [PySem.Str.length, List.size_toArray, List.length_cons, List.length_nil]; omega)) ?_); (try dsimp only)))
  k_with "UnrEnd" => ((k_dflt (refine' unrEnd_pickL (by k_asm) (by k_asm) (by kd_mem) (by k_all) (by k_mem) ?_; k_whole)))
  k_with "kcj_m" => ((intro _ zqhp; repeat (first | exact zqhp | apply List.Mem.tail)))
  k_with "k_mem" => (((show @Membership.mem (PySem.Addr × PySem.Obj) (List (PySem.Addr × PySem.Obj)) List.instMembership _ _); with_reducible assumption))
  k_with "kn_code" => (first | exact codeHd_of_K (c := 37) (P := 33) (by k_asm) (by kernel_rfl) | exact codeHd_of_K (c := 117) (P := 113) (by k_asm) (by kernel_rfl))
  k_with "is_list" => (exact News.isList (by k_asm) (by k_mem))
  k_with "k_room" => (ktr_room)
  k_with "Kq" => ((k_dflt (refine' Kq.of (by with_reducible assumption) ?_)))
  k_with "truthy ref" => ((k_here; (with_reducible show wpAny _ _ (truthy (Value.ref _)) _ _ _); (with_unfolding_all refine' wpAny_truthy_list (items := _) (by is_list) (by (simp only [List.size_toArray, List.length_cons, List.length_nil]; omega)) ?_; k_whole; (try simp only [List.isEmpty_toArray, List.isEmpty_cons, List.isEmpty_nil, Array.isEmpty_push, Bool.not_false, Bool.not_true]))))
  k_with "call builtin:list.pop" => (((k_here; (with_reducible show wpAny _ _ (call (Value.builtin _) [Value.ref _, Value.int 0 _]) _ _ _); k_dflt (refine' popU (by k_asm) (by k_asm) (by k_upd) (by rfl) (by (simp only [List.size_toArray, List.length_cons]; exact seqIndex_zero _)) (by rfl) (by (rw [sizeLine_eq]; simp only [List.length_cons]; omega)) ?_); intro _ _ zqN'; (try dsimp only [List.nil_append, List.cons_append] at zqN')); (try (revert zqN'; intro _))))
  k_with "call builtin:list.append" => ((k_here; (with_reducible show wpAny _ _ (call (Value.builtin _) [Value.ref _, _]) _ _ _); k_dflt (refine' append_K (by k_asm) (by k_asm) (by k_upd) ?_ (by (rw [sizeLine_eq]; simp only [List.size_toArray]; omega)); k_whole); intro _ _ _; (try k_sweep)))
  k_with "eval ListComp" => ((k_here; lcg_look; k_dflt (refine evalU (F₀ := by k_asm) (by with_unfolding_all rfl) (by decide) (by rfl) (by decide) (by rfl) ?_)))
  k_with "eval ListComp" => ((k_here; lct_look; k_dflt (refine evalT (F₀ := by k_asm) (by with_unfolding_all rfl) (by decide) (by rfl) (by decide) (by rfl) ?_)))
  k_with "exec Assign cons ListComp" => ((k_here; lcg_look; k_dflt (refine assignU (F₀ := by k_asm) (by rfl) (by with_unfolding_all rfl) (by with_unfolding_all rfl) (by decide) (by rfl) (by decide) (by rfl) (by rfl) (by rfl) ?_)))
  k_with "exec Assign cons ListComp" => ((k_here; lct_look; k_dflt (refine assignT (F₀ := by k_asm) (by rfl) (by with_unfolding_all rfl) (by with_unfolding_all rfl) (by decide) (by rfl) (by decide) (by rfl) (by rfl) (by rfl) ?_)))
  k_with "CompEnd" => ((k_dflt (refine' compEnd_of (by k_asm) (by k_asm) (by with_reducible assumption) (by kcj_m) (by with_reducible assumption) ?_; k_whole)))
  k_with "call builtin:len" => ((k_here; (with_reducible show wpAny _ _ (call (Value.builtin "len") [Value.ref _]) _ _ _); k_dflt (refine' kun_lenL (by exact News.isList (by k_asm) (by k_mem)) (by with_reducible assumption) (by omega) ?_; k_whole)))
  k_with "kcj_m" => ((with_reducible ((repeat (refine sub_step ?_ ?_; (· (repeat (first | exact List.mem_cons_self | apply List.mem_cons_of_mem))))); (intro _ zqhp; (repeat (first | exact zqhp | apply List.mem_cons_of_mem)); done))))
  k_with "k_ne" => (first | (with_reducible assumption) | (with_reducible exact Ne.symm (by assumption)) | ((try dsimp only); (repeat ((rename (@Ne Nat _ _) => zqhz'); clear zqhz')); omega))
  k_with "FinE" => ((((k_dflt (intro _ _ _ _ _ zqo1')); refine hideP ?_; intro zqG' zqhG'; (try simp only [LCg.Off1, and_true] at zqo1'); (repeat (obtain ⟨_, zqo1'⟩ := zqo1')); refine zqhG' ?_; clear zqhG' zqG'; (try (revert zqo1'; intro _)); (first | ((rename News _ _ _ _ => zqN'); (simp only [List.nil_append, List.cons_append] at zqN'); (revert zqN'; intro _)) | skip); (try dsimp only)); (try (revert zqN'; intro _)); (try (revert zqo1'; intro _))))
  k_with "FinA" => ((((k_dflt (intro _ _ _ _ _ zqo1')); refine hideP ?_; intro zqG' zqhG'; (try simp only [LCg.Off1, and_true] at zqo1'); (repeat (obtain ⟨_, zqo1'⟩ := zqo1')); refine zqhG' ?_; clear zqhG' zqG'; (try (revert zqo1'; intro _)); (first | ((rename News _ _ _ _ => zqN'); (simp only [List.nil_append, List.cons_append] at zqN'); (revert zqN'; intro _)) | skip); (try dsimp only)); (try (revert zqN'; intro _)); (try (revert zqo1'; intro _))))
  k_with "exec Assign cons ListComp" => ((k_here; k_dflt (refine wpAny_Assign_Name ?_ (by rfl))))
  k_with "exec Assign cons ListComp" => ((k_here; (with_reducible show wpAny _ _ (exec (Stmt.Assign [Expr.Name _ _] (Expr.ListComp _ [⟨Expr.Tuple _ _ _, _, _, _⟩] _ _) _) _) _ _ _); k_dflt (refine assignZ (_F₀ := by k_asm) (by rfl) (by with_unfolding_all rfl) (by with_unfolding_all rfl) (by decide) (by rfl) (by decide) (by rfl) (by rfl) (by decide) (by rfl) (by rfl) ?_)))
  k_with "eval ListComp" => ((k_here; (with_reducible show wpAny _ _ (eval (Expr.ListComp _ [⟨Expr.Name _ _, _, _, _⟩] _ _) _) _ _ _); k_dflt (refine evalK (_F₀ := by k_asm) (by with_unfolding_all rfl) (by intro _; rfl) (by intro _; rfl) (by rfl) (by decide) (by intro _ _; rfl) ?_)))
  k_with "eval ListComp" => ((k_here; (with_reducible show wpAny _ _ (eval (Expr.ListComp _ [⟨Expr.Tuple _ _ _, _, [_], _⟩] _ _) _) _ _ _); k_dflt (refine evalZT (_F₀ := by k_asm) (by with_unfolding_all rfl) (by decide) (by rfl) (by decide) (by rfl) (by rfl) (by decide) ?_)))
  k_with "call type:zip" => ((refine halt ?_))
  k_with "call type:enumerate" => ((refine halt ?_))
  k_with "CompK" => ((refine halt ?_))
  k_with "CompU" => ((refine halt ?_))
  k_with "CompT" => ((refine halt ?_))
  k_with "ZEnd" => ((refine halt ?_))
  k_with "EndK" => ((refine halt ?_))
  k_with "eval Name" => ((k_here; (with_reducible show wpAny _ _ (eval (Expr.Name _ _) (envX _ _ _ _ _ _)) _ _ _); k_dflt (refine' nameX_L (by k_asm) (by first | rfl | k_asm) ?_ (by rfl) (by rfl); k_whole)))
  k_with "eval Name" => ((k_here; (with_reducible show wpAny _ _ (eval (Expr.Name _ _) (envX _ _ _ _ _ _)) _ _ _); k_dflt (refine' nameX_B (by k_asm) (by k_asm) (by k_asm) (by first | k_is | kernel_rfl | with_unfolding_all rfl) (by boot_by_name) (by decide) ?_ (by rfl) (by rfl); k_whole)))
  k_with "exec Assign cons ListComp" => ((k_here; (with_reducible show wpAny _ _ (exec (Stmt.Assign [Expr.Name _ _] (Expr.ListComp _ [⟨Expr.Name _ _, _, [], _⟩] _ _) _) _) _ _ _); k_dflt (refine assignU (F₀ := by k_asm) (by rfl) (by with_unfolding_all rfl) (by with_unfolding_all rfl) (by decide) (by rfl) (by decide) (by rfl) (by rfl) (by rfl) ?_)))
  k_with "eval ListComp" => ((k_here; (with_reducible show wpAny _ _ (eval (Expr.ListComp _ [⟨Expr.Name _ _, _, [], _⟩] _ _) _) _ _ _); k_dflt (refine evalU (F₀ := by k_asm) (by with_unfolding_all rfl) (by decide) (by rfl) (by decide) (by rfl) ?_)))
  k_with "eval ListComp" => ((k_here; (with_reducible show wpAny _ _ (eval (Expr.ListComp _ [⟨Expr.Name _ _, _, [_], _⟩] _ _) _) _ _ _); k_dflt (refine evalT (F₀ := by k_asm) (by with_unfolding_all rfl) (by decide) (by rfl) (by decide) (by rfl) ?_)))
  exact True.intro
theorem strOk_lt {x : Str} (h : ∀ c ∈ x.cps.toList, c < 128) : PyData.strOk x = true := by
  unfold PyData.strOk
  rw [Array.all_eq_true_iff_forall_mem]
  intro c hc
  have := h c (Array.mem_toList_iff.mpr hc)
  simp only [decide_eq_true_eq]
  omega
theorem strOk_one {c : Nat} (h : 97 ≤ c ∧ c ≤ 102) : PyData.strOk ⟨#[c]⟩ = true := strOk_lt fun d hd => by simp at hd; omega
theorem row_chars {j i : Nat} {l : List Nat} (h : Let l) : ∀ c ∈ (row j i l).cps.toList, c < 128 := by
  intro c hc
  have hc2 : c ∈ rowL j i l := by simpa [row] using hc
  rcases rowL_mem hc2 with e | e | e | e
  · omega
  · omega
  · omega
  · have := h.ok c e; omega
theorem ms_six {ms : List (Nat × Tok)} {c0 c1 c2 c3 c4 c5 : Nat} (h : ms.map Prod.fst = [c0, c1, c2, c3, c4, c5]) : ∃ u0 u1 u2 u3 u4 u5, ms = [(c0, u0), (c1, u1), (c2, u2), (c3, u3), (c4, u4), (c5, u5)] := by
  refine hideP ?_
  intro Gq hGq
  obtain ⟨u0, l0, rfl, hq1⟩ := cons_fst h
  obtain ⟨u1, l1, rfl, hq2⟩ := cons_fst hq1
  obtain ⟨u2, l2, rfl, hq3⟩ := cons_fst hq2
  obtain ⟨u3, l3, rfl, hq4⟩ := cons_fst hq3
  obtain ⟨u4, l4, rfl, hq5⟩ := cons_fst hq4
  obtain ⟨u5, l5, rfl, hq6⟩ := cons_fst hq5
  obtain rfl := nil_fst hq6
  refine hGq ?_
  clear hGq Gq
  exact ⟨u0, u1, u2, u3, u4, u5, rfl⟩
theorem sc_three {sc : List (Int × Tok)} {d0 d1 d2 : Int} (h : sc.map Prod.fst = [d0, d1, d2]) : ∃ u0 u1 u2, sc = [(d0, u0), (d1, u1), (d2, u2)] := by
  refine hideP ?_
  intro Gq hGq
  obtain ⟨u0, l0, rfl, hq7⟩ := cons_fst h
  obtain ⟨u1, l1, rfl, hq8⟩ := cons_fst hq7
  obtain ⟨u2, l2, rfl, hq9⟩ := cons_fst hq8
  obtain rfl := nil_fst hq9
  refine hGq ?_
  clear hGq Gq
  exact ⟨u0, u1, u2, rfl⟩
theorem fst_map {α : Type} {rs : List (Str × Tok)} {Ls : List (List Nat)} (h : rs.map Prod.fst = Ls.map fun l => (⟨l.toArray⟩ : Str)) (f : Str → α) : (rs.map fun r => f r.1) = Ls.map fun l => f ⟨l.toArray⟩ := by
  have : (rs.map fun r => f r.1) = (rs.map Prod.fst).map f := by rw [List.map_map]; rfl
  rw [this, h, List.map_map]
  rfl
theorem lost_of {theirs : List Nat} : ∀ {rs : List (Str × Tok)} {Ls : List (List Nat)}, (rs.map Prod.fst = Ls.map fun l => (⟨l.toArray⟩ : Str)) → (rs.filter fun r => !(theirs.any (inL r.1))).length = lostN theirs Ls
  | [], [], _ => rfl
  | (_, t) :: rs, l :: Ls, h => by
    simp only [List.map_cons, List.cons.injEq] at h
    obtain ⟨rfl, h2⟩ := h
    have ih := lost_of (theirs := theirs) h2
    unfold lostN at ih ⊢
    have e : theirs.any (inL (⟨l.toArray⟩ : Str)) = theirs.any fun c => l.contains c := by
      congr 1
      funext c
      exact inL_list l c
    rw [List.filter_cons, List.filter_cons]
    dsimp only
    rw [e]
    cases (theirs.any fun c => l.contains c) with
    | true => simpa using ih
    | false => simpa using ih
theorem mem_map_fst {rs : List (Str × Tok)} {Ls : List (List Nat)} (h : rs.map Prod.fst = Ls.map fun l => (⟨l.toArray⟩ : Str)) {r : Str × Tok} (hr : r ∈ rs) : ∃ l ∈ Ls, r.1 = ⟨l.toArray⟩ := by
  have : r.1 ∈ rs.map Prod.fst := List.mem_map_of_mem hr
  rw [h] at this
  obtain ⟨l, hl, e⟩ := List.mem_map.mp this
  exact ⟨l, hl, e.symm⟩
theorem du_all_le : ∀ {Ls : List (List Nat)}, (∀ l ∈ Ls, Let l) → 0 ≤ (Ls.map (du [] [])).sum ∧ (Ls.map (du [] [])).sum ≤ 64 * (Ls.length : Int)
  | [], _ => by simp
  | l :: Ls, h => by
    have ih := du_all_le fun q hq => h q (.tail _ hq)
    have h0 := du_nn [] [] l
    have h1 : du [] [] l ≤ 64 := by
      have hl := (h l (.head _)).le
      have hk : lack [] l ≤ l.length := lack_le [] l
      unfold du
      rw [if_neg (by simp)]
      have h7 : lack [] l = 0 ∨ lack [] l = 1 ∨ lack [] l = 2 ∨ lack [] l = 3 ∨ lack [] l = 4 ∨ lack [] l = 5 ∨ lack [] l = 6 := by omega
      rcases h7 with e | e | e | e | e | e | e <;> rw [e] <;> decide
    rw [List.map_cons, List.sum_cons, List.length_cons]
    omega
set_option maxHeartbeats 1600000 in
theorem law_walk (w : World) (p : Program) (loose : List Str) (mean : ExcName → Option Value) (mg mb : Str → Option Value) (dp un : Nat) (gd : Option (List Code)) (L a : Addr) (ccd : Value) (outer : List Env) (A₀ : Around) (base h₀ : Heap) (m : Str → Option Value) (s : Shared) (Q : Flow → Shared → Prop) (E : Value → Shared → Prop)
    (B : Below A₀ base outer h₀) (X : (Mine.hd.heap_39 w.params).In h₀) (T : Top p loose mean mg mb h₀) (hd : dp + 60 < recursionLimit) (hu : un + 600 < cLine)
    (S : Addr) (vs : List Value) (sc : List Int) (hS : h₀.IsList S vs.toArray) (hI : IntsAre vs sc) (hl : sc.length ≤ 63) (hm : m (Str.ofString "script") = some (.ref S))
    (o1 o2 o3 : Obj) (v1 v2 v3 : Option Value) (d1 : o1.data = .cell v1) (d2 : o2.data = .cell v2) (d3 : o3.data = .cell v3) (l33 : @LT.lt Nat _ 33 L) (l113 : @LT.lt Nat _ 113 L)
    (F : Fr h₀ L s.heap m) (N : News h₀ L s.heap [(L + 3, o3), (L + 2, o2), (L + 1, o1), (33, tabObj #[]), (113, tabObj #[])])
    (next : ∀ (m' : Str → Option Value) (h' : Heap) (tk' : Nat) (ps qs : Array Value), Fr h₀ L h' m' → News h₀ L h' [(33, tabObj ps), (113, tabObj qs)] → Q (.ret (.bool true)) { s with heap := h', toks := tk' }) :
    wpAny (model PySem.Challenge.rw_sh0017_01.prog w) (lawAround dp un gd L a ccd outer) (execs (lawTail 0) (lawEnv L a ccd)) Q E s := by
  rw [show lawTail 0 = lawStmt 0 :: lawTail 1 from rfl]
  refine wpAny_execs_cons ?_
  refine law_part0 w p loose mean mg mb dp un gd L a ccd outer A₀ base h₀ m s _ E B X T hd hu S vs sc hS hI hl hm _ F N ?_
  intro DC cs nC h1 tk1 hcs F1 N1 nDC
  rw [show lawTail 1 = lawStmt 1 :: lawTail 2 from rfl]
  refine wpAny_execs_cons ?_
  have h10 : cs.length = 10 := by have := congrArg List.length hcs; rw [List.length_map, cells10_len] at this; exact this
  have c3 : @Ne Nat (L + 3) DC := nDC _ (.head _)
  have c2 : @Ne Nat (L + 2) DC := nDC _ (.tail _ (.head _))
  have c1 : @Ne Nat (L + 1) DC := nDC _ (.tail _ (.tail _ (.head _)))
  have c33 : @Ne Nat 33 DC := nDC _ (.tail _ (.tail _ (.tail _ (.head _))))
  have c113 : @Ne Nat 113 DC := nDC _ (.tail _ (.tail _ (.tail _ (.tail _ (.head _)))))
  refine law_part1 w p loose mean mg mb dp un gd L a ccd outer A₀ base h₀ m _ _ E B X T hd hu DC cs nC o1 v1 [(DC, listOf (iv cs).toArray nC), (L + 3, o3), (L + 2, o2), (33, tabObj #[]), (113, tabObj #[])] F1 (cb_drop N1 (by kcj_m)) (.head _) d1 ?_ h10 ?_
  · exact ne_cons (Ne.symm c1) (ne_cons (by dsimp only; omega) (ne_cons (by dsimp only; omega) (ne_cons (by dsimp only; omega) (ne_cons (by dsimp only; omega) (fun p hp => nomatch hp)))))
  intro DL rs o1' h2 tk2 hrs F2 N2 d1' nL1 nDL
  rw [show lawTail 2 = lawStmt 2 :: lawTail 3 from rfl]
  refine wpAny_execs_cons ?_
  have hc4 : ((cs.map Prod.fst).take 4).length = 4 := by rw [List.length_take, List.length_map]; omega
  obtain ⟨Ls, hLs⟩ : ∃ Ls : List (List Nat), Ls = ((cs.map Prod.fst).take 4).map lineOf := ⟨_, rfl⟩
  have hL4 : Ls.length = 4 := by rw [hLs, List.length_map, hc4]
  have hLL : ∀ l ∈ Ls, Let l ∧ l.Nodup := by
    intro l hl
    rw [hLs] at hl
    obtain ⟨z, _, rfl⟩ := List.mem_map.mp hl
    exact line_let z
  have hLt : ∀ l ∈ Ls, Let l := fun l hl => (hLL l hl).1
  have hrL : rs.map Prod.fst = Ls.map fun l => (⟨l.toArray⟩ : Str) := by rw [hrs, hLs, List.map_map]; rfl
  have hr4 : rs.length = 4 := by have := congrArg List.length hrL; rw [List.length_map, List.length_map, hL4] at this; exact this
  have hr6 : ∀ r ∈ rs, r.1.length ≤ 6 := by
    intro r hr
    obtain ⟨l, hl, e⟩ := mem_map_fst hrL hr
    rw [e]
    exact (hLt l hl).le
  have hr7 : ∀ r ∈ rs, r.1.length ≤ 6 ∧ r.1.cps.all (· < 128) = true := by
    intro r hr
    refine ⟨hr6 r hr, ?_⟩
    obtain ⟨l, hl, e⟩ := mem_map_fst hrL hr
    rw [e, Array.all_eq_true_iff_forall_mem]
    intro c hc
    have := (hLt l hl).ok c (by simpa using hc)
    simp only [decide_eq_true_eq]
    omega
  clear hc4
  refine law_part2 w p loose mean mg mb dp un gd L a ccd outer A₀ base h₀ _ _ _ E B X T hd hu DC DL cs nC _ rs o1' [(DC, listOf (iv cs).toArray nC), (L + 3, o3), (L + 2, o2), (33, tabObj #[]), (113, tabObj #[])] (if_pos rfl) F2 N2 (.head _) d1' h10 hr4 hr6 ?_
  intro tx h3 tk3 F3 N3
  rw [hrL, text_of Ls _ hL4] at F3
  have hSg := segs_ok (zs := (cs.map Prod.fst).drop 4) hL4 (by rw [List.length_drop, List.length_map]; omega) hLt
  have hSf := segs_fst (zs := (cs.map Prod.fst).drop 4) hL4 (by rw [List.length_drop, List.length_map]; omega)
  generalize segsOf Ls ((cs.map Prod.fst).drop 4) = segs at F3 hSg hSf
  have hTk := toks_of hSg
  have hTl := toks_list hSg
  have hNl := nl_all hSg
  generalize (⟨(flat segs).toArray⟩ : Str) = x at F3 hTk hTl hNl
  generalize offS segs = off at hTk hTl hNl
  generalize lenS segs = len at hTk hTl hNl
  rw [hSf] at hTl
  clear hSg hSf segs
  rw [show lawTail 3 = lawStmt 3 :: lawTail 4 from rfl]
  refine wpAny_execs_cons ?_
  have b3 : @Ne Nat (L + 3) DL := nDL _ (.tail _ (.head _))
  have b2 : @Ne Nat (L + 2) DL := nDL _ (.tail _ (.tail _ (.head _)))
  have b33 : @Ne Nat 33 DL := nDL _ (.tail _ (.tail _ (.tail _ (.head _))))
  have b113 : @Ne Nat 113 DL := nDL _ (.tail _ (.tail _ (.tail _ (.tail _ (.head _)))))
  refine law_part3 w p loose mean mg mb dp un gd L a ccd outer A₀ base h₀ _ _ _ E B X T hd hu x tx (if_pos rfl) o2 v2 d2 [(DL, listOf (strValues rs).toArray (strValues rs).length), (L + 1, o1'), (DC, listOf (iv cs).toArray nC), (L + 3, o3), (33, tabObj #[])] ?_ ?_ F3 (cb_drop N3 (by kcj_m)) ?_
  · exact ne_cons (by dsimp only; omega) (ne_cons (Ne.symm b113) (ne_cons (by dsimp only; omega) (ne_cons (Ne.symm c113) (ne_cons (by dsimp only; omega) (ne_cons (by decide) (fun p hp => nomatch hp))))))
  · exact ne_cons (Ne.symm b2) (ne_cons (by dsimp only; omega) (ne_cons (Ne.symm c2) (ne_cons (by dsimp only; omega) (ne_cons (by dsimp only; omega) (fun p hp => nomatch hp)))))
  intro am dx ap AL core e k ta o2' h4 tk4 F4 N4 hM d2' hlt hAd hda hcr
  simp only [List.cons_append, List.nil_append] at N4
  have hk2 : @LT.lt Nat _ (L + 2) AL := hlt _ (.head _)
  have hkL : @LT.lt Nat _ DL AL := hlt _ (.tail _ (.head _))
  have hk1 : @LT.lt Nat _ (L + 1) AL := hlt _ (.tail _ (.tail _ (.head _)))
  have hkC : @LT.lt Nat _ DC AL := hlt _ (.tail _ (.tail _ (.tail _ (.head _))))
  have hk3 : @LT.lt Nat _ (L + 3) AL := hlt _ (.tail _ (.tail _ (.tail _ (.tail _ (.head _)))))
  have hk33 : @LT.lt Nat _ 33 AL := hlt _ (.tail _ (.tail _ (.tail _ (.tail _ (.tail _ (.head _))))))
  have moff := hM.off
  have minst := hM.inst
  obtain ⟨qt, mtab⟩ := hM.tab
  obtain ⟨R, hR⟩ : ∃ R : List (Addr × Obj), R = (DL, listOf (strValues rs).toArray (strValues rs).length) :: (L + 1, o1') :: (DC, listOf (iv cs).toArray nC) :: core := ⟨_, rfl⟩
  have hRL : (DL, listOf (strValues rs).toArray (strValues rs).length) ∈ R := by rw [hR]; exact .head _
  have hR1 : (L + 1, o1') ∈ R := by rw [hR]; exact .tail _ (.head _)
  have hRC : (DC, listOf (iv cs).toArray nC) ∈ R := by rw [hR]; exact .tail _ (.tail _ (.head _))
  have hRi : (am, instObj 90 dx) ∈ R := by rw [hR]; exact .tail _ (.tail _ (.tail _ minst))
  have hRt : (113, tabObj qt) ∈ R := by rw [hR]; exact .tail _ (.tail _ (.tail _ mtab))
  have hRs : Sub core R := ⟨fun p hp => by rw [hR]; exact .tail _ (.tail _ (.tail _ hp))⟩
  have eL1 : @Ne Nat DL ap := by omega
  have eL2 : @Ne Nat DL dx := by omega
  have eL3 : @Ne Nat DL AL := by omega
  have eC1 : @Ne Nat DC ap := by omega
  have eC2 : @Ne Nat DC dx := by omega
  have eC3 : @Ne Nat DC AL := by omega
  have e11 : @Ne Nat (L + 1) ap := by omega
  have e12 : @Ne Nat (L + 1) dx := by omega
  have e13 : @Ne Nat (L + 1) AL := by omega
  have e14 : @Ne Nat (L + 1) 33 := by omega
  have e15 : @Ne Nat (L + 1) (L + 2) := by omega
  have e16 : @Ne Nat (L + 1) (L + 3) := by omega
  have hRn : ∀ p ∈ R, p.1 ≠ ap ∧ p.1 ≠ dx ∧ p.1 ≠ AL ∧ p.1 ≠ 33 ∧ p.1 ≠ L + 2 ∧ p.1 ≠ L + 3 := by
    intro p hp
    rw [hR] at hp
    rcases List.mem_cons.mp hp with rfl | hp
    · exact ⟨eL1, eL2, eL3, Ne.symm b33, Ne.symm b2, Ne.symm b3⟩
    · rcases List.mem_cons.mp hp with rfl | hp
      · exact ⟨e11, e12, e13, e14, e15, e16⟩
      · rcases List.mem_cons.mp hp with rfl | hp
        · exact ⟨eC1, eC2, eC3, Ne.symm c33, Ne.symm c2, Ne.symm c3⟩
        · refine hideP ?_
          intro Gq hGq
          obtain ⟨m1, m2, m3, m4⟩ := moff p hp
          refine hGq ?_
          clear hGq Gq
          exact ⟨m1, m2, m3, m4, hcr p hp _ (.head _), hcr p hp _ (.tail _ (.tail _ (.tail _ (.tail _ (.head _)))))⟩
  have N4' : News h₀ L h4 ((dx, machD e ap k) :: (ap, pbOf [] 0) :: (AL, listOf #[.int 0 ta] 0) :: (L + 2, o2') :: (33, tabObj #[]) :: (L + 3, o3) :: R) := by rw [hR]; exact cb_drop N4 (by kcj_m)
  clear N4 hcr hlt moff minst mtab hR
  rw [show lawTail 4 = lawStmt 4 :: lawTail 5 from rfl]
  refine wpAny_execs_cons ?_
  refine law_part4 w p loose mean mg mb dp un gd L a ccd outer A₀ base h₀ _ _ _ E B X T hd hu x off len hTk am dx ap AL core e k 0 0 ta o2' d2' ((33, tabObj #[]) :: (L + 3, o3) :: R) hRs.cons.cons hM ?_ ?_ ?_ F4 N4' ?_
  · exact ne_cons (by dsimp only; omega) (ne_cons (by dsimp only; omega) (ne_cons (by dsimp only; omega) fun p hp => (hRn p hp).2.1))
  · exact ne_cons (by dsimp only; omega) (ne_cons (by dsimp only; omega) (ne_cons (by dsimp only; omega) fun p hp => (hRn p hp).2.2.1))
  · exact ne_cons (by dsimp only; omega) (ne_cons (by dsimp only; omega) (ne_cons (by dsimp only; omega) fun p hp => (hRn p hp).1))
  intro DH hs e' k' ka' t3 h5 tk5 hhs F5 N5 hln hst hws hDH nH
  refine hideP ?_
  intro Gq hGq
  obtain ⟨tl, hln⟩ := hln
  obtain ⟨nHd, nHa, nHA⟩ := hDH
  rw [hTl] at hhs
  rw [hNl] at hln
  have n33H : @Ne Nat 33 DH := nH _ (.tail _ (.head _))
  have n3H : @Ne Nat (L + 3) DH := nH _ (.tail _ (.tail _ (.head _)))
  have n2H : @Ne Nat (L + 2) DH := nH _ (.head _)
  refine hGq ?_
  clear hGq Gq
  rw [show lawTail 5 = lawStmt 5 :: lawTail 6 from rfl]
  refine wpAny_execs_cons ?_
  have hdot : (rs.map fun r => (Str.ofString "." ++ r.1 : Str)) = Ls.map (row 0 0) := by
    rw [fst_map hrL (fun y => (Str.ofString "." ++ y : Str))]
    exact List.map_congr_left fun l _ => dot_row l
  have hh5 : hs.length = 5 := by have := congrArg List.length hhs; rw [List.length_map, List.length_append, List.length_map, hL4] at this; exact this
  refine law_part5 w p loose mean mg mb dp un gd L a ccd outer A₀ base h₀ _ _ _ E B X T hd hu x tx am dx ap DH DL e' k' _ _ hs rs o2' o1' d2' d1' ((ap, pbOf [] 0) :: (33, tabObj #[]) :: (L + 3, o3) :: R) (.tail _ (.tail _ (.tail _ hRi))) (.tail _ (.tail _ (.tail _ hRL))) (.tail _ (.tail _ (.tail _ hR1))) (if_pos rfl) ((if_neg (by decide)).trans (if_pos rfl)) tl hln hr4 hr6 (by rw [hhs, hdot]) ?_ hTk.sz F5 (cb_drop N5 (by kcj_m)) ?_
  · intro y hy
    rw [hhs] at hy
    rcases List.mem_append.mp hy with hy | hy
    · obtain ⟨l, hl, rfl⟩ := List.mem_map.mp hy
      exact strOk_lt (row_chars (hLt l hl))
    · rw [List.mem_singleton.mp hy]; decide +kernel
  intro h6 tk6 F6 N6
  rw [show lawTail 6 = lawStmt 6 :: lawTail 7 from rfl]
  refine wpAny_execs_cons ?_
  have htake : (hs.take 4).map Prod.fst = Ls.map (row 0 0) := by
    rw [List.map_take, hhs, List.take_append_of_le_length (by rw [List.length_map]; omega), List.take_of_length_le (by rw [List.length_map]; omega)]
  have hri : ∀ r ∈ hs.take 4, RowInv [97, 98, 99, 100, 101, 102] r.1 := by
    intro r hr
    have : r.1 ∈ (hs.take 4).map Prod.fst := List.mem_map_of_mem hr
    rw [htake] at this
    obtain ⟨l, hl, e⟩ := List.mem_map.mp this
    rw [← e]
    exact row_ok0 (hLt l hl)
  refine law_part6 w p loose mean mg mb dp un gd L a ccd outer A₀ base h₀ _ _ _ E B X T hd hu am ap DH DC 0 _ nC hs cs o2' o3 v3 d2' d3 ((DH, listOf (strValues hs).toArray (strValues hs).length) :: (dx, machD e' ap k') :: R) ⟨dx, e', k', .tail _ (.tail _ hRi), .tail _ (.head _)⟩ (if_pos rfl) ((if_neg (by decide)).trans ((if_neg (by decide)).trans (if_pos rfl))) hh5 h10 hri ?_ ?_ ?_ (.head _) (.tail _ (.tail _ hRC)) F6 (cb_drop N6 (by kcj_m)) ?_
  · exact ne_cons (by dsimp only; omega) (ne_cons (by dsimp only; omega) (ne_cons (by dsimp only; omega) (ne_cons nHa (ne_cons (by dsimp only; omega) fun p hp => (hRn p hp).1))))
  · exact ne_cons (by dsimp only; omega) (ne_cons (by dsimp only; omega) (ne_cons (Ne.symm n33H) (ne_cons (by dsimp only; omega) fun p hp => (hRn p hp).2.2.2.1)))
  · exact ne_cons (by dsimp only; omega) (ne_cons (Ne.symm n3H) (ne_cons (by dsimp only; omega) fun p hp => (hRn p hp).2.2.2.2.2))
  intro SA MA pt rs' ms sc nS nm kp' o3' h7 tk7 hPl d3' F7 N7 hSM
  refine hideP ?_
  intro Gq hGq
  rw [htake] at hPl
  obtain ⟨c0, c1', c2', c3', c4', c5', hms, a1, a3, a5, hrs', hsc, q1, q2, q3, q4⟩ := plain hLL hPl
  obtain ⟨u0, u1, u2, u3, u4, u5, rfl⟩ := ms_six hms
  obtain ⟨w0, w1, w2, rfl⟩ := sc_three hsc
  clear hPl hms hsc
  have hq4 : rs'.length = 4 := by have := congrArg List.length hrs'; rw [List.length_map, List.length_map, hL4] at this; exact this
  have ok1 := strOk_one a1
  have ok3 := strOk_one a3
  have ok5 := strOk_one a5
  have hDu : ∀ (mine theirs : List Nat), (rs.map fun r => dueOne mine theirs r.1).sum = (Ls.map (du mine theirs)).sum := by
    intro mine theirs
    rw [fst_map hrL (fun y => dueOne mine theirs y)]
    exact congrArg List.sum (List.map_congr_left fun l hl => dueOne_du (hLt l hl).le)
  have hLo : (rs.filter fun r => !([c1', c3', c5'].any (inL r.1))).length = lostN [c1', c3', c5'] Ls := lost_of hrL
  have hLoN : lostN [c1', c3', c5'] Ls ≤ 4 := by rw [← hLo, ← hr4]; exact List.length_filter_le _ _
  have hd9 := du_all_le hLt
  rw [hL4] at hd9
  rw [← hLo] at q1 hLoN
  refine hGq ?_
  clear hGq Gq
  rw [← hDu [c0] []] at q3 q4
  rw [← hDu [c0, c2'] [c1']] at q2 q3
  rw [← hDu [c0, c2', c4'] [c1', c3']] at q1 q2
  rw [← hDu [] []] at q4 hd9
  simp only [← hDu] at N7
  rw [show lawTail 7 = lawStmt 7 :: lawTail 8 from rfl]
  refine wpAny_execs_cons ?_
  refine law_part7 w p loose mean mg mb dp un gd L a ccd outer A₀ base h₀ _ _ _ E B X T hd hu am ap dx SA MA DL e' kp' k' nm _ _ rs' rs c0 c1' c2' c3' c4' c5' u0 u1 u2 u3 u4 u5 o2' o3' o1' d2' d3' d1' ((33, tabObj pt) :: (DH, listOf (strValues hs).toArray (strValues hs).length) :: (dx, machD e' ap k') :: R) (.tail _ (.tail _ (.tail _ hRi))) (.tail _ (.tail _ (.head _))) hr4 hq4 hr6 ?_ ?_ ?_ hSM (.tail _ (.tail _ (.tail _ hRL))) (.tail _ (.tail _ (.tail _ hR1))) F7 N7 ?_
  · rw [hrs', fst_map hrL (fun y => tolV y c0 c1' c2' c3' c4' c5')]
  · intro y hy
    rw [hrs'] at hy
    obtain ⟨l, hl, rfl⟩ := List.mem_map.mp hy
    rw [tolV_row]
    exact strOk_lt (row_chars (hLt l hl))
  · exact ne_cons (by dsimp only; omega) (ne_cons (by dsimp only; omega) (ne_cons (by dsimp only; omega) (ne_cons nHa (ne_cons (by dsimp only; omega) fun p hp => (hRn p hp).1))))
  intro h8 tk8 F8 N8
  rw [show lawTail 8 = lawStmt 8 :: lawTail 9 from rfl]
  refine wpAny_execs_cons ?_
  refine law_part8 w p loose mean mg mb dp un gd L a ccd outer A₀ base h₀ _ _ _ E B X T hd hu SA MA DL nS nm _ rs c0 c1' c2' c3' c4' c5' u0 u1 u2 u3 u4 u5 _ _ _ w0 w1 w2 o3' o1' d3' d1' ((L + 2, o2') :: (33, tabObj pt) :: (DH, listOf (strValues hs).toArray (strValues hs).length) :: (dx, machD e' ap k') :: R) hr4 hr7 ok1 ok3 (if_pos rfl) rfl rfl rfl (.tail _ (.tail _ (.tail _ (.tail _ hRL)))) (.tail _ (.tail _ (.tail _ (.tail _ hR1)))) F8 N8 ?_
  intro h9 tk9 F9 N9
  rw [show lawTail 9 = lawStmt 9 :: lawTail 10 from rfl]
  refine wpAny_execs_cons ?_
  refine law_part9 w p loose mean mg mb dp un gd L a ccd outer A₀ base h₀ _ _ _ E B X T hd hu SA MA DL _ nm _ rs c0 c1' c2' c3' c4' c5' u0 u1 u2 u3 u4 u5 o3' o1' d3' d1' ((L + 2, o2') :: (33, tabObj pt) :: (DH, listOf (strValues hs).toArray (strValues hs).length) :: (dx, machD e' ap k') :: R) hr4 hr6 ok1 ok3 ok5 (.tail _ (.tail _ (.tail _ (.tail _ hRL)))) (.tail _ (.tail _ (.tail _ (.tail _ hR1)))) F9 N9 ?_
  intro t' h10' tk10 F10 N10
  rw [show lawTail 10 = lawStmt 10 :: [] from rfl]
  refine wpAny_execs_cons ?_
  refine law_part10 w p loose mean mg mb dp un gd L a ccd outer A₀ base h₀ _ _ _ E B X T hd hu SA DL nS _ rs _ _ _ _ _ w0 w1 w2 t' o1' d1' ((MA, listOf (cv [(c0, u0), (c1', u1), (c2', u2), (c3', u3), (c4', u4), (c5', u5)]).toArray nm) :: (L + 3, o3') :: (L + 2, o2') :: (33, tabObj pt) :: (DH, listOf (strValues hs).toArray (strValues hs).length) :: (dx, machD e' ap k') :: R) hr4 hr7 ((if_neg (by decide)).trans (if_pos rfl)) (if_pos rfl) rfl ⟨by omega, by omega⟩ q1 q2 q3 q4 ⟨hd9.1, by omega⟩ (.tail _ (.tail _ (.tail _ (.tail _ (.tail _ (.tail _ hRL)))))) (.tail _ (.tail _ (.tail _ (.tail _ (.tail _ (.tail _ hR1)))))) F10 N10 ?_
  intro h11 tk11 F11 N11
  exact next _ h11 tk11 pt qt F11 fun p hp => N11 p (by
    rcases List.mem_cons.mp hp with rfl | hp
    · exact .tail _ (.tail _ (.tail _ (.head _)))
    · rw [List.mem_singleton.mp hp]
      exact .tail _ (.tail _ (.tail _ (.tail _ (.tail _ (.tail _ hRt))))))

end
end
end
end
end
end
end Mine
theorem words_63 : True := by
  k_with_none
  exact True.intro
set_option maxHeartbeats 8000000 in
theorem PySem.Challenge.cw_sh0017_01_holds : PySem.Challenge.rw_sh0017_01.Holds := by
  refine Mine.hd ?_
  k_go0
  rename_i S vs wl hL ra w1 r0 hI hr hc1 hc2 hD h₁ tk₁ oa ob oc ha hb hc X0 X' T' K' F' cH N' l0
  refine Mine.law_walk _ _ _ _ _ _ _ _ _ _ _ _ _ _ _ _ _ _ _ _ K' X' T' ?_ ?_ S vs _ lifted hI ?_ ?_ oc ob oa _ _ _ hc hb ha l0.1 l0.2 F' N' ?_
  · decide +kernel
  · decide +kernel
  · omega
  · exact rfl
  · intro m' h' tk' ps qs F N
    k_steps
