import PyProof.Rows.All
import Wide.All
import OpenK.AllK
import Wide.FinOn
import PySem.Challenge.RW_fz0004_01
open PySem PySem.W PyProof.Rows
set_option Elab.async false
namespace Mine
section HdPart
set_option maxRecDepth 100000
set_option maxHeartbeats 8000000
open_top hd for PySem.Challenge.rw_fz0004_01
end HdPart
/-- a closed goal, hidden from the tactics that search the context -/
structure Hid (p : Prop) : Prop where
  out : p
end Mine
section ArPart
open PySem PySem.W PyProof.Rows
namespace Mine
section
variable {prog : Program} {w : World} {A : Around} {E : Value → Shared → Prop} {s : Shared} {a b : Int} {t u : Tok} {Q : Value → Shared → Prop}
theorem mod_by {d : Int} (hd : 0 < d) (h : Q (.int (a % d) s.toks) { s with toks := s.toks + 1 }) : wpAny (model prog w) A (binaryOp .Mod (.int a t) (.int d u)) Q E s := by
  refine mod_int' (by omega) ?_
  rw [Int.fmod_eq_emod_of_nonneg _ (by omega)]
  exact h
theorem mod_lit {d r : Int} (e : a % d = r) (hd : 0 < d) (h : Q (.int r s.toks) { s with toks := s.toks + 1 }) : wpAny (model prog w) A (binaryOp .Mod (.int a t) (.int d u)) Q E s := by
  refine mod_by hd ?_
  rw [e]
  exact h
theorem div_by {d : Int} (hd : 0 < d ∧ d < 1073741824) (h : Q (.int (a / d) s.toks) { s with toks := s.toks + 1 }) : wpAny (model prog w) A (binaryOp .FloorDiv (.int a t) (.int d u)) Q E s := by
  refine floordiv_int (by omega) ?_ (.inl (PyProof.noPylong_small (by omega)))
  rw [Int.fdiv_eq_ediv_of_nonneg _ (by omega)]
  exact h
theorem pow2_at {n r : Int} (k : Nat) (e : n = k) (hk : k ≤ 64) (hr : (2 : Int) ^ k = r) (h : Q (.int r s.toks) { s with toks := s.toks + 1 }) : wpAny (model prog w) A (binaryOp .Pow (.int 2 t) (.int n u)) Q E s := by
  subst e
  refine pow_int (by omega) ?_ ?_
  · have : Builtin.Int.intBits 2 = 2 := by decide +kernel
    rw [this]
    omega
  · rw [Int.toNat_natCast, hr]
    exact h
end
end Mine
end ArPart
section UcsPart
open PySem PySem.W PyProof.Rows
namespace Mine

/-- the octets of a number, as ints -/
def encL (n : Int) : List Int :=
  if n < 128 then [n]
  else if n < 2048 then [192 + n / 64, 128 + n % 64]
  else if n < 65536 then [224 + n / 4096, 128 + n / 64 % 64, 128 + n % 64]
  else if n < 2097152 then [240 + n / 262144, 128 + n / 4096 % 64, 128 + n / 64 % 64, 128 + n % 64]
  else if n < 67108864 then [248 + n / 16777216, 128 + n / 262144 % 64, 128 + n / 4096 % 64, 128 + n / 64 % 64, 128 + n % 64]
  else [252 + n / 1073741824, 128 + n / 16777216 % 64, 128 + n / 262144 % 64, 128 + n / 4096 % 64, 128 + n / 64 % 64, 128 + n % 64]
def enc (n : Int) : Array UInt8 := ((encL n).map fun k => k.toNat.toUInt8).toArray

theorem or_tab : ∀ k : Nat, k < 64 → Builtin.bitOr 128 (k : Int) = 128 + (k : Int) ∧ Builtin.bitOr 192 (k : Int) = 192 + (k : Int) := by decide +kernel
theorem or_tab2 : ∀ k : Nat, k < 16 → Builtin.bitOr 224 (k : Int) = 224 + (k : Int) ∧ Builtin.bitOr 240 (k : Int) = 240 + (k : Int) := by decide +kernel
theorem or_tab3 : ∀ k : Nat, k < 4 → Builtin.bitOr 248 (k : Int) = 248 + (k : Int) ∧ Builtin.bitOr 252 (k : Int) = 252 + (k : Int) := by decide +kernel
section
variable {prog : Program} {w : World} {A : Around} {E : Value → Shared → Prop} {s : Shared} {a b : Int} {t u : Tok} {Q : Value → Shared → Prop}
theorem shr_by {k d : Int} (h0 : 0 ≤ k) (hd : (2 : Int) ^ k.toNat = d) (hp : 0 ≤ d) (h : Q (.int (a / d) s.toks) { s with toks := s.toks + 1 }) :
    wpAny (model prog w) A (binaryOp .RShift (.int a t) (.int k u)) Q E s := by
  refine rshift_int h0 ?_
  rw [hd, Int.fdiv_eq_ediv_of_nonneg _ hp]
  exact h
theorem shr6 (h : Q (.int (a / 64) s.toks) { s with toks := s.toks + 1 }) : wpAny (model prog w) A (binaryOp .RShift (.int a t) (.int 6 u)) Q E s :=
  shr_by (k := 6) (by decide) (by decide) (by decide) h
theorem shr12 (h : Q (.int (a / 4096) s.toks) { s with toks := s.toks + 1 }) : wpAny (model prog w) A (binaryOp .RShift (.int a t) (.int 12 u)) Q E s :=
  shr_by (k := 12) (by decide) (by decide) (by decide) h
theorem shr18 (h : Q (.int (a / 262144) s.toks) { s with toks := s.toks + 1 }) : wpAny (model prog w) A (binaryOp .RShift (.int a t) (.int 18 u)) Q E s :=
  shr_by (k := 18) (by decide) (by decide) (by decide) h
theorem shr24 (h : Q (.int (a / 16777216) s.toks) { s with toks := s.toks + 1 }) : wpAny (model prog w) A (binaryOp .RShift (.int a t) (.int 24 u)) Q E s :=
  shr_by (k := 24) (by decide) (by decide) (by decide) h
theorem shr30 (h : Q (.int (a / 1073741824) s.toks) { s with toks := s.toks + 1 }) : wpAny (model prog w) A (binaryOp .RShift (.int a t) (.int 30 u)) Q E s :=
  shr_by (k := 30) (by decide) (by decide) (by decide) h
theorem and63 (h : Q (.int (a % 64) s.toks) { s with toks := s.toks + 1 }) : wpAny (model prog w) A (binaryOp .BitAnd (.int a t) (.int 63 u)) Q E s := by
  refine and_int ?_
  rw [bitAnd_m6]
  exact h
theorem or_by {c : Int} (h0 : 0 ≤ a) (hc : (c = 128 ∧ a < 64) ∨ (c = 192 ∧ a < 64) ∨ (c = 224 ∧ a < 16) ∨ (c = 240 ∧ a < 16) ∨ (c = 248 ∧ a < 4) ∨ (c = 252 ∧ a < 4)) (h : Q (.int (c + a) s.toks) { s with toks := s.toks + 1 }) :
    wpAny (model prog w) A (binaryOp .BitOr (.int c t) (.int a u)) Q E s := by
  refine or_int ?_
  obtain ⟨k, rfl⟩ := Int.eq_ofNat_of_zero_le h0
  have e : Builtin.bitOr c (k : Int) = c + k := by
    rcases hc with ⟨rfl, q⟩ | ⟨rfl, q⟩ | ⟨rfl, q⟩ | ⟨rfl, q⟩ | ⟨rfl, q⟩ | ⟨rfl, q⟩
    · exact (or_tab k (by omega)).1
    · exact (or_tab k (by omega)).2
    · exact (or_tab2 k (by omega)).1
    · exact (or_tab2 k (by omega)).2
    · exact (or_tab3 k (by omega)).1
    · exact (or_tab3 k (by omega)).2
  rw [e]
  exact h
end
theorem ucs_end {h₀ h' : Heap} {L : Addr} {m : Str → Option Value} {news news' : List (Addr × Obj)} {s : Shared} {Q : Value → Shared → Prop} {t : Tok} {tk' : Nat} {x y : Array UInt8}
    (hret : ∀ (t : Tok) (h' : Heap) (tk' : Nat), Fr h₀ L h' m → News h₀ L h' news → Q (.bytes x t) { s with heap := h', toks := tk' }) (F : Fr h₀ L h' m) (N : News h₀ L h' news') (hs : ∀ p ∈ news, p ∈ news') (e : y = x) :
    Q (.bytes y t) { s with heap := h', toks := tk' } := by
  subst e
  exact hret t h' tk' F (fun p hp => N p (hs p hp))

local macro_rules | `(tactic| walk_at "binaryOp RShift int int") => `(tactic| (first | refine shr6 ?_ | refine shr12 ?_ | refine shr18 ?_ | refine shr24 ?_ | refine shr30 ?_))
local macro_rules | `(tactic| walk_at "binaryOp BitAnd int int") => `(tactic| (refine and63 ?_))
local macro_rules | `(tactic| walk_at "binaryOp BitOr int int") => `(tactic| (refine or_by (by omega) (by omega) ?_))

set_option maxRecDepth 100000 in
set_option maxHeartbeats 8000000 in
theorem ucs_ok (w : World) (mean : ExcName → Option Value) (mg mb : Str → Option Value) (n : Int) (tn : Tok) (news : List (Addr × Obj)) :
   CbClaim PySem.Challenge.rw_fz0004_01.row.prog w (hd.heap_39 w.params) hd.view_39 (looseW hd.view_39 []) mean mg mb 21 news [] (0 ≤ n ∧ n < 2147483648) [.int n tn] (fun t => .bytes (enc n) t) := by
  k_fill
  dsimp only [CbClaim, CbLists, CbRet]
  intro dp un gd cn cs a ccd cl outer A₀ base h₀ L m s Q E B F X N T hk hn hdp hun hret
  obtain ⟨h0, h1⟩ := hn
  refine wpAny_call ?_
  k_dflt cell_enter
  k_steps

  all_goals (refine ucs_end hret (by assumption) (by assumption) (by simp +contextual) ?_)
  all_goals (simp [enc, encL, *])
set_option maxRecDepth 100000 in
set_option maxHeartbeats 8000000 in
theorem ucs_none (w : World) (mean : ExcName → Option Value) (mg mb : Str → Option Value) (n : Int) (tn : Tok) (news : List (Addr × Obj)) :
   CbClaim PySem.Challenge.rw_fz0004_01.row.prog w (hd.heap_39 w.params) hd.view_39 (looseW hd.view_39 []) mean mg mb 21 news [] (2147483648 ≤ n) [.int n tn] (fun _ => .none) := by
  k_fill
  dsimp only [CbClaim, CbLists, CbRet]
  intro dp un gd cn cs a ccd cl outer A₀ base h₀ L m s Q E B F X N T hk hn hdp hun hret
  refine wpAny_call ?_
  k_dflt cell_enter
  k_steps

  exact hret 0 _ _ (by assumption) (by assumption)
theorem ucs_use {w : World} {mean : ExcName → Option Value} {mg mb : Str → Option Value} {n : Int} {tn : Tok} {news : List (Addr × Obj)} {dp un : Nat} {gd : Option (List Code)} {cn : Str} {cs : Scope} {a : Addr} {ccd : Value} {cl : List (Str × Addr)} {outer : List Env} {A₀ : Around} {base h₀ : Heap} {L : Addr} {m : Str → Option Value} {s : Shared} {Q E : Value → Shared → Prop}
    (F : Fr h₀ L s.heap m) (B : Below A₀ base outer h₀) (X : (hd.heap_39 w.params).In h₀) (N : News h₀ L s.heap news) (T : Top hd.view_39 (looseW hd.view_39 []) mean mg mb h₀) (hk : cs.kind = .function) (hn : 0 ≤ n ∧ n < 2147483648) (hd : dp + 1 < recursionLimit) (hu : un + 8 < cLine)
    (ret : ∀ (t : Tok) (h' : Heap) (tk' : Nat), Fr h₀ L h' m → News h₀ L h' news → Q (.bytes (enc n) t) { s with heap := h', toks := tk' }) :
    wpAny (model PySem.Challenge.rw_fz0004_01.row.prog w) (ktrTop dp un gd cn cs L a ccd cl outer) (call (.ref 21) [.int n tn]) Q E s :=
  ucs_ok w mean mg mb n tn news dp un gd cn cs a ccd cl outer A₀ base h₀ L m s Q E B F X N T hk hn hd hu ret
theorem ucs_none_use {w : World} {mean : ExcName → Option Value} {mg mb : Str → Option Value} {n : Int} {tn : Tok} {news : List (Addr × Obj)} {dp un : Nat} {gd : Option (List Code)} {cn : Str} {cs : Scope} {a : Addr} {ccd : Value} {cl : List (Str × Addr)} {outer : List Env} {A₀ : Around} {base h₀ : Heap} {L : Addr} {m : Str → Option Value} {s : Shared} {Q E : Value → Shared → Prop}
    (F : Fr h₀ L s.heap m) (B : Below A₀ base outer h₀) (X : (hd.heap_39 w.params).In h₀) (N : News h₀ L s.heap news) (T : Top hd.view_39 (looseW hd.view_39 []) mean mg mb h₀) (hk : cs.kind = .function) (hn : 2147483648 ≤ n) (hd : dp + 1 < recursionLimit) (hu : un + 8 < cLine)
    (ret : ∀ (t : Tok) (h' : Heap) (tk' : Nat), Fr h₀ L h' m → News h₀ L h' news → Q (.none) { s with heap := h', toks := tk' }) :
    wpAny (model PySem.Challenge.rw_fz0004_01.row.prog w) (ktrTop dp un gd cn cs L a ccd cl outer) (call (.ref 21) [.int n tn]) Q E s :=
  ucs_none w mean mg mb n tn news dp un gd cn cs a ccd cl outer A₀ base h₀ L m s Q E B F X N T hk hn hd hu ret
end Mine
end UcsPart
section EndsPart
open PySem PySem.W PyProof.Rows
namespace Mine
abbrev ENDS : List Int := [0, 128, 2048, 65536, 2097152, 67108864, 2147483648]
set_option maxRecDepth 100000 in
set_option maxHeartbeats 8000000 in
theorem ends_use {w : World} {mean : ExcName → Option Value} {mg mb : Str → Option Value} {news : List (Addr × Obj)} {dp un : Nat} {gd : Option (List Code)} {cn : Str} {cs : Scope} {a : Addr} {ccd : Value} {cl : List (Str × Addr)} {outer : List Env} {A₀ : Around} {base h₀ : Heap} {L : Addr} {m : Str → Option Value} {s : Shared} {Q E : Value → Shared → Prop}
    (F : Fr h₀ L s.heap m) (B : Below A₀ base outer h₀) (X : (hd.heap_39 w.params).In h₀) (N : News h₀ L s.heap news) (T : Top hd.view_39 (looseW hd.view_39 []) mean mg mb h₀) (hk : cs.kind = .function) (hdp : dp < recursionLimit) (hun : un + 4 < cLine)
    (hret : ∀ (l : Addr) (vs : List Value) (h' : Heap) (tk' : Nat), Fr h₀ L h' m → News h₀ L h' ((l, PySem.W.listOf vs.toArray 0) :: news) → IntsAre vs ENDS → (∀ q ∈ news, q.1 < l) → Q (.ref l) { s with heap := h', toks := tk' }) :
    wpAny (model PySem.Challenge.rw_fz0004_01.row.prog w) (ktrTop dp un gd cn cs L a ccd cl outer) (call (.ref 28) []) Q E s := by
  revert X
  k_fill
  k_with_none
  intro X
  refine wpAny_call ?_
  k_dflt cell_enter
  k_steps
  refine hret _ [_, _, _, _, _, _, _] _ _ (by assumption) (by assumption) (by repeat constructor) (by assumption)
section
variable {prog : Program} {w : World} {A : Around} {E : Value → Shared → Prop} {s : Shared} {value slice : PySem.Expr} {t u : Tok} {h₀ : Heap} {L l : Addr} {news : List (Addr × Obj)} {Q : Value → Shared → Prop} {vs : List Value} {ns : List Int} {n : Nat}
theorem ends_item {k v : Int} (N : News h₀ L s.heap news) (hm : (l, PySem.W.listOf vs.toArray n) ∈ news) (hi : IntsAre vs ns) (h0 : 0 ≤ k ∧ k < 1000) (hk : ns[k.toNat]? = some v) (h : ∀ t, Q (.int v t) s)
    (hs : subscripted slice false (.ref l) (.int k u) = operate [.ref l, .int k u] (getItem (.ref l) (.int k u)) := by with_unfolding_all rfl) :
    wpAny (model prog w) A (subscriptTail value slice (.ref l) (.int k u)) Q E s := by
  have hl : s.heap.IsList l vs.toArray := ⟨_, (N _ hm).1, rfl, n, rfl⟩
  obtain ⟨t, ht⟩ := hi.get k.toNat v hk
  exact tail_any hl.typeIs slot_list_getitem.lookup (wpAny_getItem_list hl h0.1 (by omega) (by simpa using ht) (h t)) hs
end
end Mine
end EndsPart
section CompPart
open PySem PySem.W PyProof.Rows PySem.Calls
namespace Mine
inductive BytesAre : List Value → List (Array UInt8) → Prop
  | nil : BytesAre [] []
  | cons (b : Array UInt8) (t : Tok) {vs : List Value} {bs : List (Array UInt8)} : BytesAre vs bs → BytesAre (.bytes b t :: vs) (b :: bs)
theorem BytesAre.snoc {b : Array UInt8} {t : Tok} : ∀ {vs : List Value} {bs : List (Array UInt8)}, BytesAre vs bs → BytesAre (vs ++ [.bytes b t]) (bs ++ [b])
  | _, _, .nil => .cons b t .nil
  | _, _, .cons c u r => .cons c u r.snoc
theorem BytesAre.length {vs : List Value} {bs : List (Array UInt8)} (h : BytesAre vs bs) : vs.length = bs.length := by
  induction h with
  | nil => rfl
  | cons b t _ ih => rw [List.length_cons, List.length_cons, ih]
theorem BytesAre.get {vs : List Value} {bs : List (Array UInt8)} (h : BytesAre vs bs) : ∀ {k : Nat} {b : Array UInt8}, bs[k]? = some b → ∃ t, vs[k]? = some (.bytes b t) := by
  induction h with
  | nil => intro k b e; simp at e
  | cons c t _ ih =>
    intro k b e
    cases k with
    | zero => simp at e; subst e; exact ⟨t, rfl⟩
    | succ k => simpa using ih (by simpa using e)
theorem BytesAre.at {vs : List Value} {bs : List (Array UInt8)} (h : BytesAre vs bs) : ∀ {k : Nat} {v : Value}, vs[k]? = some v → ∃ b t, bs[k]? = some b ∧ v = .bytes b t := by
  induction h with
  | nil => intro k b e; simp at e
  | cons c t _ ih =>
    intro k b e
    cases k with
    | zero => simp at e; subst e; exact ⟨c, t, rfl, rfl⟩
    | succ k => simpa using ih (by simpa using e)
theorem ints_snoc {y : Int} {t : Tok} : ∀ {vs : List Value} {ys : List Int}, IntsAre vs ys → IntsAre (vs ++ [.int y t]) (ys ++ [y])
  | _, _, .nil => .cons y t .nil
  | _, _, .cons z u r => .cons z u (ints_snoc r)
section
variable {prog : Program} {w : World} {A : Around} {h₀ : Heap} {L : Addr} {m : Str → Option Value} {env : Env} {elt : Expr} {x : Str} {scope : Scope} {cl : List (Str × Addr)} {s : Shared} {S : List (Addr × Obj) → Prop} {P : Nat → Value → Prop} {Fin : List Value → List (Addr × Obj) → Prop} {news : List (Addr × Obj)}
/-- a comprehension over ints, each element of which is a bytes of the int -/
theorem comp_bytes {vs : List Value} {ns : List Int} (g : Int → Array UInt8) (hi : IntsAre vs ns)
    (turn : ∀ k t I oI C oC D m₂ ys h tk (E' : Value → Shared → Prop), k ∈ ns → LCg.NsObj oC m₂ → m₂ x = some (.int k t) → Fr h₀ L h m → News h₀ L h ((I, oI) :: (C, oC) :: (D, LCg.lst ys) :: news) → LCg.Off3 I C D news → ((@Ne Nat I C) ∧ (@Ne Nat I D) ∧ (@Ne Nat C D)) →
      wpAny (model prog w) A (eval elt (compEnvC scope cl C env)) (LCg.CompEnd h₀ L m { s with heap := h, toks := tk } I oI C oC D (LCg.lst ys) S (fun y news' => news' = news ∧ ∃ t, y = .bytes (g k) t)) E' { s with heap := h, toks := tk })
    (fin : ∀ ys, BytesAre ys (ns.map g) → Fin ys news) :
    LCg.CompRest prog w A h₀ L m env elt x scope cl s S (fun i v => vs.toArray[i]? = some v) Fin vs.toArray.size 0 [] news := by
  have hn : vs.toArray.size = ns.length := by rw [List.size_toArray]; exact hi.length
  have key : ∀ (j i : Nat) (ys : List Value), i + j = ns.length → BytesAre ys ((ns.take i).map g) → LCg.CompRest prog w A h₀ L m env elt x scope cl s S (fun i v => vs.toArray[i]? = some v) Fin j i ys news := by
    intro j
    induction j with
    | zero =>
      intro i ys hi' hy
      have e : i = ns.length := by omega
      subst e
      rw [List.take_length] at hy
      exact LCg.CompRest.zero (fin ys hy)
    | succ j ih =>
      intro i ys hi' hy
      refine LCg.CompRest.succ ?_
      intro v I oI C oC D m₂ h tk E' hv hC hx F N off ne
      obtain ⟨k, t, hv', hk⟩ := IntsAre.at hi i v (by simpa using hv)
      rw [hv'] at hx
      refine wpAny_mono (turn k t I oI C oC D m₂ ys h tk E' (List.mem_of_getElem? hk) hC hx F N off ne) (fun y s₂ hq => ?_) fun _ _ e => e
      obtain ⟨h', tk', nw, e, F', N', off', hS, hn, t', hy'⟩ := hq
      rw [hn] at N' off' hS
      refine ⟨h', tk', news, e, F', N', off', hS, ?_⟩
      rw [hy']
      refine ih (i + 1) _ (by omega) ?_
      rw [List.take_add_one, hk]
      simpa using hy.snoc
  rw [hn]
  exact key ns.length 0 [] (by omega) (by simp only [List.take_zero, List.map_nil]; exact .nil)
end
end Mine
end CompPart
section SortbPart
open PySem PySem.W PyProof.Rows PySem.Spec
set_option maxRecDepth 100000
namespace Mine
abbrev bkey (b : Array UInt8) : List Nat := b.toList.map UInt8.toNat
theorem order_lt : ∀ a b : List UInt8, (Builtin.Bytes.order a b == .lt) = decide (a.map UInt8.toNat < b.map UInt8.toNat)
  | [], [] => by simp [Builtin.Bytes.order]
  | [], _ :: _ => by simp [Builtin.Bytes.order]
  | _ :: _, [] => by simp [Builtin.Bytes.order]
  | x :: a, y :: b => by
    simp only [Builtin.Bytes.order, List.map_cons, List.cons_lt_cons_iff]
    by_cases h1 : x < y
    · have : x.toNat < y.toNat := h1
      simp [h1, this]
    · have h1' : ¬ x.toNat < y.toNat := h1
      by_cases h2 : x > y
      · have h2' : y.toNat < x.toNat := h2
        have : ¬ x.toNat = y.toNat := by omega
        simp [h1, h2, h1', this]
      · have h2' : ¬ y.toNat < x.toNat := h2
        have : x.toNat = y.toNat := by omega
        simp [h1, h2, h1', this, order_lt a b]
theorem slot_bytes_lt : Slot "bytes" (cmpInfo .Lt).2.1 "bytes.__lt__" :=
  .of (owner := "bytes") (n := "__lt__") (by rw [typeLookup_type, builtinLookup_eq_fast]; kernel_rfl) (by decide +kernel) (by decide +kernel) (by decide +kernel)
    (by first | exact .inl (by decide +kernel) | exact .inr (by decide +kernel)) (by rw [isSubtype_type]; kernel_rfl)
theorem entry_bytes_lt : entryFor table "bytes.__lt__" = some Builtin.«bytes.__lt__» := entryFor_of_tree (by kernel_rfl)
theorem args_bytes_lt (a b : Value) : argsOk "bytes.__lt__" ⟨[a, b], []⟩ := by unfold argsOk; kernel_rfl
@[reducible] def bytesKind : KeyKind where
  α := List Nat
  blt a b := decide (a < b)
  irrefl a := by simpa using List.lt_irrefl a
  trans a b c h1 h2 := by simp only [decide_eq_true_eq] at *; exact List.lt_trans h1 h2
  negTrans a b c h := by
    simp only [decide_eq_true_eq] at *
    by_cases hab : a < b
    · exact .inl hab
    · exact .inr (List.lt_of_le_of_lt (List.not_lt.mp hab) h)
  total a b h1 h2 := by simp only [decide_eq_false_iff_not] at *; exact List.le_antisymm (List.not_lt.mp h2) (List.not_lt.mp h1)
  keyOf v := match v with | .bytes b _ => some (bkey b) | _ => none
  dflt := []
section
variable {prog : Program} {w : World} {A : Around} {E : Value → Shared → Prop} {s : Shared}
theorem call_bytes_lt {a b : Array UInt8} {t u : Tok} {Q : Value → Shared → Prop} (h : Q (.bool (decide (bkey a < bkey b))) s) :
    wpAny (model prog w) A (call (.builtin "bytes.__lt__") [.bytes a t, .bytes b u]) Q E s := by
  refine wpAny_call_entry slot_bytes_lt (typeIs_bytes s a t) entry_bytes_lt ?_ (args_bytes_lt _ _)
  show wpAny _ _ (isInstance (.bytes b u) (.type "bytes") >>= fun r => _) _ E s
  refine wpAny_bind (wpAny_isInstance (typeIs_bytes s b u) F.sub_bytes_bytes ?_)
  rw [← order_lt] at h
  exact wpAny_pure ⟨_, rfl, h⟩
theorem oneLt_bytes {a b : Array UInt8} {t u : Tok} {Q : Bool → Shared → Prop} (h : Q (decide (bkey a < bkey b)) s) : wpAny (model prog w) A (oneLt' true (.bytes a t) (.bytes b u)) Q E s := by
  rw [oneLt'_eq]
  simp only [if_true]
  refine wpAny_bind (wpAny_cRoomFor_byValue rfl ?_)
  refine wpAny_bind (wpAny_callSpecialIfBound?_slot (typeIs_bytes s a t) slot_bytes_lt (call_bytes_lt ?_))
  exact wpAny_truthy_bool h
end
theorem bytesKind_oneLt : bytesKind.OneLt := by
  intro prog w A E s x y a b Q ha hb h
  cases x <;> simp only [bytesKind, reduceCtorEq, Option.some.injEq] at ha
  cases y <;> simp only [bytesKind, reduceCtorEq, Option.some.injEq] at hb
  cases ha; cases hb
  exact oneLt_bytes h

def bytesOf : Value → Array UInt8
  | .bytes b _ => b
  | _ => #[]
theorem BytesAre.all : ∀ {vs : List Value} {bs : List (Array UInt8)}, BytesAre vs bs → ∀ v, v ∈ vs → ∃ x t, v = .bytes x t
  | _, _, .nil, v, hv => by simp at hv
  | _, _, .cons x t h, v, hv => by
    rcases List.mem_cons.mp hv with rfl | hv
    · exact ⟨x, t, rfl⟩
    · exact h.all v hv
theorem BytesAre.bytes : ∀ {vs : List Value} {bs : List (Array UInt8)}, BytesAre vs bs → vs.map bytesOf = bs
  | _, _, .nil => rfl
  | _, _, .cons x t h => by rw [List.map_cons, h.bytes]; rfl
theorem bytesAre_map : ∀ (vs : List Value), (∀ v, v ∈ vs → ∃ x t, v = .bytes x t) → BytesAre vs (vs.map bytesOf)
  | [], _ => .nil
  | v :: vs, h => by
    obtain ⟨x, t, rfl⟩ := h v (List.mem_cons_self ..)
    exact .cons x t (bytesAre_map vs fun u hu => h u (List.mem_cons_of_mem _ hu))
theorem BytesAre.keysOf {vs : List Value} {bs : List (Array UInt8)} (hS : BytesAre vs bs) : KeysOf bytesKind (pairsOf vs) := by
  intro p hp
  rw [pairsOf_toList] at hp
  obtain ⟨x, t, e⟩ := hS.all _ (mem_zip_self hp).2
  exact ⟨bkey x, by rw [e]⟩
theorem KK_bytes {xs : Array Keyed} {i : Nat} (hi : i < xs.size) {x : Array UInt8} {t : Tok} {q : Value} (hx : xs[i] = (.bytes x t, q)) : KK bytesKind xs i = bkey x := by
  unfold KK; rw [getElem?_pos xs i hi, hx]; rfl
theorem firstOfTuple'_bytes (x : Array UInt8) (t : Tok) : firstOfTuple' (.bytes x t) = pure none := rfl
theorem mapM_first_bytes : ∀ {vs : List Value} {bs : List (Array UInt8)}, BytesAre vs bs → vs.mapM firstOfTuple' = pure (vs.map fun _ => none)
  | _, _, .nil => by simp
  | _, _, .cons x t h => by rw [List.mapM_cons, firstOfTuple'_bytes, mapM_first_bytes h]; simp
theorem mapM_typeOf_bytes : ∀ {vs : List Value} {bs : List (Array UInt8)}, BytesAre vs bs → vs.mapM typeOf = pure (vs.map fun _ => Value.type "bytes")
  | _, _, .nil => by simp
  | _, _, .cons x t h => by
    rw [List.mapM_cons, mapM_typeOf_bytes h]
    show (pure (Value.type "bytes") >>= fun b => pure _ >>= fun bs => pure (b :: bs)) = _
    simp
theorem keyKind_bytes {v₁ v₂ : Value} {vs : List Value} {bs : List (Array UInt8)} (hS : BytesAre (v₁ :: v₂ :: vs) bs) : keyKind' (v₁ :: v₂ :: vs).toArray = pure oneType' := by
  rw [keyKind'_eq, List.mapM_toArray, mapM_first_bytes hS]
  simp only [map_pure, pure_bind]
  rw [if_neg (by simp), if_neg (by simp)]
  rw [oneTypeOnly'_eq, List.mapM_toArray, mapM_typeOf_bytes hS]
  simp only [map_pure, pure_bind]
  have hall : ((List.map (fun _ => Value.type "bytes") (v₁ :: v₂ :: vs)).toArray.all fun x => x == Value.type "bytes") = true := by
    simp only [List.all_toArray, List.all_map, List.all_eq_true]
    intro _ _
    rfl
  have h0 : (List.map (fun _ => Value.type "bytes") (v₁ :: v₂ :: vs)).toArray[0]? = some (Value.type "bytes") := by simp
  rw [h0]
  simp only [hall, if_true, pure_bind, Option.isSome_some]
theorem sorted_out_bytes {vs : List Value} {bs : List (Array UInt8)} (hS : BytesAre vs bs) {xs : Array Keyed} (hp : xs.Perm (pairsOf vs)) (hs : SortedToK bytesKind xs (pairsOf vs).size) :
    ∃ bs', BytesAre (xs.map (·.2)).toList bs' ∧ bs'.Perm bs ∧ bs'.Pairwise (fun a b => ¬ bkey b < bkey a) := by
  have hl : xs.toList.Perm (vs.zip vs) := by rw [← pairsOf_toList]; exact Array.perm_iff_toList_perm.mp hp
  have hmem : ∀ p, p ∈ xs.toList → p.1 = p.2 ∧ p.1 ∈ vs := fun p hp' => mem_zip_self (hl.mem_iff.mp hp')
  refine ⟨xs.toList.map (fun p => bytesOf p.1), ?_, ?_, ?_⟩
  · have e : (xs.map (·.2)).toList = xs.toList.map (·.1) := by
      rw [Array.toList_map]; exact List.map_congr_left fun p hp' => (hmem p hp').1.symm
    rw [e]
    have h1 := bytesAre_map (xs.toList.map (·.1)) (by
      intro v hv
      obtain ⟨p, hp', rfl⟩ := List.mem_map.mp hv
      exact hS.all _ (hmem p hp').2)
    rwa [List.map_map] at h1
  · have h1 := hl.map (fun p => bytesOf p.1)
    have e2 : (vs.zip vs).map (fun p => bytesOf p.1) = bs := by
      have : (vs.zip vs).map (fun p => bytesOf p.1) = ((vs.zip vs).map Prod.fst).map bytesOf := by rw [List.map_map]; rfl
      rw [this, List.map_fst_zip (Nat.le_refl _), hS.bytes]
    rwa [e2] at h1
  · rw [List.pairwise_iff_getElem]
    intro i j hi hj hij
    have hi' : i < xs.size := by simpa using hi
    have hj' : j < xs.size := by simpa using hj
    have h1 := hs i j (Nat.le_of_lt hij) (by rw [← hp.size_eq]; exact hj')
    obtain ⟨x, t, ex⟩ := hS.all _ (hmem xs[i] (by simp)).2
    obtain ⟨y, u, ey⟩ := hS.all _ (hmem xs[j] (by simp)).2
    rw [KK_bytes hi' (x := x) (t := t) (q := xs[i].2) (Prod.ext ex rfl), KK_bytes hj' (x := y) (t := u) (q := xs[j].2) (Prod.ext ey rfl)] at h1
    change decide (bkey y < bkey x) = false at h1
    simp only [List.getElem_map, Array.getElem_toList]
    rw [show bytesOf xs[i].1 = x by rw [ex]; rfl, show bytesOf xs[j].1 = y by rw [ey]; rfl]
    exact of_decide_eq_false h1
section
variable {prog : Program} {w : World} {A : Around} {E : Value → Shared → Prop} {s : Shared}
theorem sorted_bytes_N {h₀ : Heap} {L : Addr} {m : Str → Option Value} {news : List (Addr × Obj)} {l : Addr} {vs : List Value} {bs : List (Array UInt8)} {Q : Value → Shared → Prop}
    (F : Fr h₀ L s.heap m) (N : News h₀ L s.heap news) (hl : s.heap.IsList l vs.toArray) (hS : BytesAre vs bs) (h64 : vs.length < 64)
    (h : ∀ (D : Addr) (h' : Heap) (vs' : List Value) (bs' : List (Array UInt8)) (e : Nat), Fr h₀ L h' m → News h₀ L h' ((D, PySem.W.listOf vs'.toArray e) :: news) → (∀ q ∈ news, q.1 < D) →
      BytesAre vs' bs' → bs'.Perm bs → bs'.Pairwise (fun a b => ¬ bkey b < bkey a) → Q (.ref D) { s with heap := h' }) :
    wpAny (model prog w) A (call (.builtin "sorted") [.ref l]) Q E s := by
  refine sortedK bytesKind_oneLt hl hS.keysOf (fun v₁ v₂ rest e => keyKind_bytes (by rw [← e]; exact hS)) h64 fun st' hp hs => ?_
  obtain ⟨bs', a1, a2, a3⟩ := sorted_out_bytes hS hp hs
  obtain ⟨e, he⟩ := sortedAll_at s.heap vs ((arrOf st').map (·.2))
  exact h _ _ ((arrOf st').map (·.2)).toList bs' e (F.kept fun _ _ => sortedAll_old) (N.kept_cons F (fun _ _ => sortedAll_old) (Nat.le_succ _) he) (fun p hp => Nat.lt_succ_of_lt (Heap.lt_size (N p hp).1)) a1 a2 a3
end
end Mine
end SortbPart
section EqbPart
open PySem PySem.W PyProof.Rows PySem.Spec PySem.SeqAt
set_option maxRecDepth 100000
namespace Mine
section
variable {A : Around} {s : Shared}
theorem rc_bytes (b c : Array UInt8) (t u : Tok) : RcAt A s (.bytes b t) (.bytes c u) (b.toList == c.toList) := fun prog w E Q h =>
  richCompare_gives (typeIs_bytes s b t) (typeIs_bytes s c u) FB.slot_bytes_eq FB.entry_bytes_eq (FB.args_bytes_eq_2 _ _) (gives_bytes_eq b c t u) (by simp [Made.takes]) h
theorem eq_bytes_at (b : Array UInt8) (t u : Tok) : EqAt A s (.bytes b t) (.bytes b u) true := fun prog w E Q h => by
  unfold eqBool
  refine wpAny_holding ?_
  refine wpAny_ite_split (fun _ => wpAny_bind (wpAny_rule (wpAny_pure h))) (fun _ => ?_)
  exact wpAny_bind (rc_bytes b b t u prog w E _ (wpAny_truthy_bool (by simpa using h)))
end
section
variable {prog : Program} {w : World} {A : Around} {E : Value → Shared → Prop} {s : Shared}
theorem eq_bytes_lists {l k : Addr} {xs ys : List Value} {bs : List (Array UInt8)} {Q : Value → Shared → Prop} (hl : s.heap.IsList l xs.toArray) (hk : s.heap.IsList k ys.toArray) (hx : BytesAre xs bs) (hy : BytesAre ys bs) (hu : A.units < cLine)
    (h : Q (.bool true) s) : wpAny (model prog w) A (compareOp .Eq (.ref l) (.ref k)) Q E s := by
  have e1 := hx.length
  have e2 := hy.length
  refine eq_listAt (e := fun _ => true) hl hk (by simp [e1, e2]) hu (fun j h1 h2 => ?_) (by
    have : ((List.range xs.toArray.size).all fun _ => true) = true := by simp only [List.all_eq_true]; intros; trivial
    rw [this]; exact h)
  have h1' : j < xs.length := by simpa using h1
  have h2' : j < ys.length := by simpa using h2
  have hj : bs[j]? = some (bs[j]'(by omega)) := by simp [show j < bs.length by omega]
  obtain ⟨t, et⟩ := hx.get hj
  obtain ⟨u, eu⟩ := hy.get hj
  have a1 : xs.toArray[j] = .bytes (bs[j]'(by omega)) t := by
    have : xs[j]? = some xs[j] := by simp [h1']
    rw [this] at et
    simpa using et
  have a2 : ys.toArray[j] = .bytes (bs[j]'(by omega)) u := by
    have : ys[j]? = some ys[j] := by simp [h2']
    rw [this] at eu
    simpa using eu
  rw [a1, a2]
  exact eq_bytes_at _ _ _
end
section join
open Builtin
theorem slot_bytes_join : Slot "bytes" "join" "bytes.join" :=
  .of (owner := "bytes") (n := "join") (by rw [typeLookup_type, builtinLookup_eq_fast]; kernel_rfl) (by decide +kernel) (by decide +kernel) (by decide +kernel)
    (by first | exact .inl (by decide +kernel) | exact .inr (by decide +kernel)) (by rw [isSubtype_type]; kernel_rfl)
theorem type_bytes_join : typeOf (.builtin "bytes.join") = pure (.type "method_descriptor") := by show builtinType _ = _; rw [builtinType_eq_fast]; kernel_rfl
theorem entry_bytes_join : entryFor table "bytes.join" = some Builtin.«bytes.join» := entryFor_of_tree (by kernel_rfl)
theorem args_bytes_join (a b : Value) : argsOk "bytes.join" ⟨[a, b], []⟩ := by
  unfold argsOk; kernel_rfl
theorem takeBuffer_eq {b : Array UInt8} {t : Tok} {id : String} : Bytes.takeBuffer? id (.bytes b t) 0 = pure (some (b, none)) := by
  unfold Bytes.takeBuffer?
  rw [KBy.special_eq KBy.look_buffer, KBy.own_buffer]
  have e : Bytes.buffer? id (.bytes b t) (full := (0 : Int) == Bytes.fullReadOnly) = pure (some b) := by
    unfold Bytes.buffer?
    rw [KBy.special_eq KBy.look_buffer, KBy.own_buffer, KBy.own_release]
    kernel_rfl
  simp only [pure_bind]
  rw [e]
  rfl
theorem takeQuiet_eq {b : Array UInt8} {t : Tok} {id : String} : Bytes.takeBufferQuiet? id (.bytes b t) 0 = pure (some (b, none)) := by
  unfold Bytes.takeBufferQuiet?
  rw [takeBuffer_eq]
  rfl

theorem joinLetGo_any {M : Model} {A : Around} {E : Value → Shared → Prop} {s : Shared} {keep : List Value} {Q : Unit → Shared → Prop} : ∀ (l : List (Value × Option Value)), (∀ p ∈ l, p.2 = none) → Q () s → wpAny M A (Bytes.joinLetGo l keep) Q E s
  | [], _, h => by unfold Bytes.joinLetGo; exact wpAny_pure h
  | (x, none) :: r, hl, h => by
    unfold Bytes.joinLetGo
    dsimp only
    exact wpAny_bind (wpAny_letGo (joinLetGo_any r (fun p hp => hl p (.tail _ hp)) h))
  | (x, some w) :: r, hl, _ => by have := hl _ (.head _); cases this

theorem seqItems_at {M : Model} {A : Around} {E : Value → Shared → Prop} {s : Shared} {a : Addr} {its : Array Value} {Q : Option (Array Value) → Shared → Prop} (hl : s.heap.IsList a its) (h : Q (some its) s) : wpAny M A (seqItems? (.ref a)) Q E s := by
  obtain ⟨o, ho, hc, n, hd⟩ := hl
  exact wpAny_seqItems ho hd h
theorem joined_nil : ∀ (bs : List (Array UInt8)) (k : Nat) (acc : Array UInt8), (bs.zipIdx k).foldl (fun out (p : Array UInt8 × Nat) => (if p.2 > 0 then out ++ #[] else out) ++ p.1) acc = acc ++ (bs.flatMap Array.toList).toArray
  | [], _, acc => by simp
  | b :: bs, k, acc => by
    rw [List.zipIdx_cons, List.foldl_cons, joined_nil bs (k + 1)]
    apply Array.toList_inj.mp
    by_cases hk : k > 0 <;> simp [hk]
theorem foldl_size : ∀ (bs : List (Array UInt8)) (n : Nat), bs.foldl (fun (a : Nat) (b : Array UInt8) => a + b.size) n = n + (bs.flatMap Array.toList).length
  | [], n => by simp
  | b :: bs, n => by
    rw [List.foldl_cons, foldl_size bs]
    simp
    omega
section
variable {prog : Program} {w : World} {A : Around} {E : Value → Shared → Prop} {s : Shared}
theorem join_bytes {l : Addr} {vs : List Value} {bs : List (Array UInt8)} {t : Tok} {Q : Value → Shared → Prop} (hl : s.heap.IsList l vs.toArray) (hb : BytesAre vs bs) (hz : (bs.flatMap Array.toList).length ≤ 16777216)
    (h : ∀ t' k, Q (.bytes (bs.flatMap Array.toList).toArray t') { s with toks := k }) : wpAny (model prog w) A (call (.builtin "bytes.join") [.bytes #[] t, .ref l]) Q E s := by
  refine wpAny_call_entry slot_bytes_join (typeIs_bytes s _ t) entry_bytes_join ?_ (args_bytes_join _ _)
  have hT : s.TypeIs (.ref l) "list" := hl.typeIs
  unfold «bytes.join» Bytes.joinM
  refine wpAny_bind (wpAny_pure ?_)
  dsimp only
  rw [if_pos (by rfl)]
  refine wpAny_bind ?_
  unfold Bytes.joinItems
  refine wpAny_bind (wpAny_typeOf hT ?_)
  rw [if_pos (by rfl)]
  refine wpAny_pure ?_
  refine wpAny_bind (seqItems_at hl ?_)
  dsimp only
  rw [if_pos (by rfl)]
  rcases vs with _ | ⟨v₀, _ | ⟨v₁, r₁⟩⟩
  rotate_left
  · cases hb with
    | cons b u hb =>
      cases hb
      refine wpAny_bind (wpAny_typeOf (typeIs_bytes s _ u) ?_)
      rw [if_pos (by rfl)]
      refine wpAny_bind (wpAny_rule (wpAny_pure ⟨_, rfl, ?_⟩))
      have := h u s.toks
      have e : ([b].flatMap Array.toList).toArray = b := by simp
      rw [e] at this
      exact this
  all_goals
    change wpAny _ _ (bind _ _) _ E s
    (first | (generalize hvs : v₀ :: v₁ :: r₁ = vs at *) | (generalize hvs : ([] : List Value) = vs at *))
    clear hvs
    have hn := hb.length
    refine wpAny_bind ?_
    rw [Std.Legacy.Range.forIn_eq_forIn_range']
    refine wpAny_forIn_list _ (fun rest (st : Array (Array UInt8) × List (Value × Option Value)) s' => s' = s ∧ ∃ i, i ≤ vs.length ∧ rest = List.range' i (vs.length - i) ∧ st.1 = (bs.take i).toArray ∧ (∀ p ∈ st.2, p.2 = none ∧ p.1.onHeap = false)) _ ?_ ?_ _ _ ?_
    · rintro x rest ⟨parts, taken⟩ s' ⟨rfl, i, hi, hr, hp, ht⟩
      dsimp only at hp ht ⊢
      have hlt : i < vs.length := by
        rcases Nat.lt_or_ge i vs.length with q | q
        · exact q
        · rw [show vs.length - i = 0 by omega] at hr; simp at hr
      have hr' : x = i ∧ rest = List.range' (i + 1) (vs.length - (i + 1)) := by
        rw [show vs.length - i = (vs.length - (i + 1)) + 1 by omega, List.range'_succ] at hr
        simpa using hr
      obtain ⟨rfl, rfl⟩ := hr'
      have hbi : bs[x]? = some (bs[x]'(by omega)) := by simp [show x < bs.length by omega]
      obtain ⟨u, hu⟩ := hb.get hbi
      refine wpAny_bind (seqItems_at hl ?_)
      dsimp only
      have hnh : (Bytes.Kind.bytes == Bytes.Kind.bytearray || taken.any fun x => x.fst.onHeap) = false := by
        have : (taken.any fun x => x.fst.onHeap) = false := by
          simp only [List.any_eq_false]
          intro p hp'
          rw [(ht p hp').2]
          simp
        rw [this]; rfl
      rw [hnh]
      rw [if_neg (by simp)]
      have hx : vs.toArray.getD x Value.none = .bytes (bs[x]'(by omega)) u := by
        have : vs[x]? = some vs[x] := by simp [hlt]
        rw [this] at hu
        have h2 : vs[x] = Value.bytes (bs[x]'(by omega)) u := by simpa using hu
        simp [Array.getD, hlt, h2]
      rw [hx]
      refine wpAny_bind (wpAny_holding (wpAny_of_eq takeQuiet_eq ?_))
      dsimp only
      refine wpAny_bind (seqItems_at hl ?_)
      dsimp only
      rw [if_neg (by simp)]
      refine wpAny_pure ⟨rfl, x + 1, hlt, rfl, ?_, ?_⟩
      · apply Array.toList_inj.mp
        rw [hp, List.take_add_one, hbi]
        simp
      · intro p hp'
        rcases List.mem_append.mp hp' with q | q
        · exact ht p q
        · rw [List.mem_singleton.mp q]; exact ⟨rfl, rfl⟩
    · rintro ⟨parts, taken⟩ s' ⟨rfl, i, hi, hr, hp, ht⟩
      have hie : i = vs.length := by
        rcases Nat.lt_or_ge i vs.length with q | q
        · rw [show vs.length - i = (vs.length - (i + 1)) + 1 by omega, List.range'_succ] at hr; cases hr
        · omega
      subst hie
      rw [hn, List.take_length] at hp
      dsimp only at hp ht ⊢
      refine wpAny_bind (wpAny_pure ?_)
      subst hp
      have hsz : Bytes.tooLong (Array.foldl (fun (x1 : Nat) (x2 : Array UInt8) => x1 + x2.size) ((#[] : Array UInt8).size * (bs.toArray.size - 1)) bs.toArray) = false := by
        rw [KBy.tooLong_not]
        rw [List.foldl_toArray, foldl_size]
        simpa using hz
      rw [hsz, if_neg (by simp)]
      refine wpAny_bind ?_
      have ej : Bytes.joined #[] bs.toArray.toList = (bs.flatMap Array.toList).toArray := by
        unfold Bytes.joined
        rw [joined_nil]
        simp
      rw [ej]
      refine wpAny_mkBytes ?_ (by rw [sizeLine_eq]; simpa using hz)
      refine wpAny_bind (wpAny_holding (wpAny_point ?_))
      refine wpAny_bind (joinLetGo_any _ (fun p hp => (ht p hp).1) ?_)
      exact wpAny_pure ⟨_, rfl, h _ _⟩
    · exact ⟨rfl, 0, Nat.zero_le _, by simp [Std.Legacy.Range.size], by simp, fun p hp => nomatch hp⟩
end
theorem join_method {M : Model} {A : Around} {E : Value → Shared → Prop} {s : Shared} {b : Array UInt8} {t : Tok} {pl : Sem Bool} {Q : Value × List Value → Shared → Prop} (h : Q (.builtin "bytes.join", [.bytes b t]) s) : wpAny M A (getMethod (.bytes b t) "join" pl) Q E s := by
  with_reducible exact KBd.method_of (.bytes b t) (typeIs_bytes _ _ _) slot_bytes_join type_bytes_join KBd.noRef h
end join
end Mine
end EqbPart
section Law1Part
open PySem
namespace Mine
def encN (n : Int) : List Nat := (encL n).map Int.toNat
theorem encL_bytes {n : Int} (h0 : 0 ≤ n) (h1 : n < 2147483648) : ∀ k ∈ encL n, 0 ≤ k ∧ k < 256 := by
  intro k hk
  unfold encL at hk
  (repeat' split at hk) <;> simp only [List.mem_cons, List.not_mem_nil, or_false] at hk <;> omega
theorem bkey_enc {n : Int} (h0 : 0 ≤ n) (h1 : n < 2147483648) : bkey (enc n) = encN n := by
  unfold bkey enc encN
  rw [List.map_map]
  refine List.map_congr_left fun k hk => ?_
  have := encL_bytes h0 h1 k hk
  show (k.toNat.toUInt8).toNat = k.toNat
  show k.toNat % 256 = k.toNat
  omega
theorem encN_mono {x y : Int} (hx : 0 ≤ x) (hxy : x ≤ y) (hy : y < 2147483648) : ¬ encN y < encN x := by
  unfold encN encL
  (repeat' split) <;> simp only [List.map_cons, List.map_nil, List.cons_lt_cons_iff, List.not_lt_nil, List.lt_irrefl, and_false, or_false, false_or] <;> omega
theorem bkey_inj {a b : Array UInt8} (h : bkey a = bkey b) : a = b := by
  apply Array.toList_inj.mp
  have key : ∀ (l k : List UInt8), l.map UInt8.toNat = k.map UInt8.toNat → l = k := by
    intro l
    induction l with
    | nil => intro k hk; cases k with
      | nil => rfl
      | cons _ _ => simp at hk
    | cons x l ih => intro k hk; cases k with
      | nil => simp at hk
      | cons y k =>
        simp only [List.map_cons, List.cons.injEq] at hk
        rw [UInt8.toNat_inj.mp hk.1, ih k hk.2]
  exact key _ _ h
theorem uniq_bytes : ∀ {a b : List (Array UInt8)}, a.Perm b → a.Pairwise (fun x y => ¬ bkey y < bkey x) → b.Pairwise (fun x y => ¬ bkey y < bkey x) → a = b
  | [], _, p, _, _ => p.nil_eq
  | x :: r, b, p, ha, hb => by
    cases b with
    | nil => exact absurd p.length_eq (by simp)
    | cons y t =>
      have hx : x ∈ y :: t := p.mem_iff.mp (.head _)
      have hy : y ∈ x :: r := p.mem_iff.mpr (.head _)
      have e : x = y := by
        rcases List.mem_cons.mp hx with h | h
        · exact h
        · rcases List.mem_cons.mp hy with h' | h'
          · exact h'.symm
          · have a1 := (List.pairwise_cons.mp ha).1 y h'
            have a2 := (List.pairwise_cons.mp hb).1 x h
            exact bkey_inj (List.le_antisymm (List.not_lt.mp a1) (List.not_lt.mp a2))
      subst e
      rw [uniq_bytes (List.Perm.cons_inv p) (List.pairwise_cons.mp ha).2 (List.pairwise_cons.mp hb).2]
theorem sort_enc {ns ms : List Int} {bs : List (Array UInt8)} (hp : bs.Perm (ns.map enc)) (hs : bs.Pairwise (fun a b => ¬ bkey b < bkey a)) (hm : ms.Perm ns) (ho : ms.Pairwise (· ≤ ·))
    (hr : ∀ x : Int, x ∈ ns → 0 ≤ x ∧ x < 2147483648) : bs = ms.map enc := by
  refine uniq_bytes (hp.trans (hm.map enc).symm) hs ?_
  rw [List.pairwise_map]
  refine ho.imp_of_mem fun {a b} ha hb hab => ?_
  have h1 := hr a (hm.mem_iff.mp ha)
  have h2 := hr b (hm.mem_iff.mp hb)
  rw [bkey_enc h1.1 h1.2, bkey_enc h2.1 h2.2]
  exact encN_mono h1.1 hab h2.2
theorem enc_size (n : Int) : (enc n).size ≤ 6 := by
  unfold enc encL
  (repeat' split) <;> simp
theorem flat_len : ∀ ns : List Int, ((ns.map enc).flatMap Array.toList).length ≤ 6 * ns.length
  | [] => by simp
  | n :: r => by
    have h1 := flat_len r
    have h2 := enc_size n
    simp only [List.map_cons, List.flatMap_cons, List.length_append, List.length_cons, Array.length_toList] at *
    omega
theorem flat_le {ns : List Int} (h : ns.length ≤ 63) : ((ns.map enc).flatMap Array.toList).length ≤ 16777216 := by
  have := flat_len ns
  omega
end Mine
end Law1Part
section BitsPart
open PySem PySem.W PyProof.Rows PySem.Calls
namespace Mine
theorem bInts_enc {n : Int} (h0 : 0 ≤ n) (h1 : n < 2147483648) : KBw.bInts (enc n) = encL n := by
  have e : ∀ b : Array UInt8, KBw.bInts b = (bkey b).map fun k : Nat => (k : Int) := by
    intro b; unfold KBw.bInts bkey; rw [List.map_map]; rfl
  rw [e, bkey_enc h0 h1]
  unfold encN
  rw [List.map_map]
  have : (encL n).map ((fun k : Nat => (k : Int)) ∘ Int.toNat) = (encL n).map id := by
    refine List.map_congr_left fun k hk => ?_
    have := encL_bytes h0 h1 k hk
    show ((k.toNat : Nat) : Int) = k
    omega
  rw [this, List.map_id]
section
variable {prog : Program} {w : World} {A : Around} {E : Value → Shared → Prop} {s : Shared} {value slice : PySem.Expr} {b : Array UInt8} {t u : Tok} {h₀ : Heap} {L : Addr} {m : PySem.Str → Option Value} {news : List (Addr × Obj)} {Q : Value → Shared → Prop}
theorem len_at {k : Int} (e : (b.size : Int) = k) (hz : k ≤ 1099511627776) (h : Q (.int k (s.toks + 1)) { s with toks := s.toks + 1 + 1 }) : wpAny (model prog w) A (call (.builtin "len") [.bytes b t]) Q E s := by
  subst e
  exact len_bytes (by omega) h
theorem item0 {k0 : Int} {kr : List Int} (hk : KBw.bInts b = k0 :: kr) (hz : kr.length ≤ 1000000) (h : ∀ t' k, Q (.int k0 t') { s with toks := k })
    (hs : subscripted slice false (.bytes b t) (.int 0 u) = operate [.bytes b t, .int 0 u] (getItem (.bytes b t) (.int 0 u)) := by with_unfolding_all rfl)
    (ht : ∀ r, letTemporaryGo value (.bytes b t) r = pure () := by intro _; with_unfolding_all rfl) : wpAny (model prog w) A (subscriptTail value slice (.bytes b t) (.int 0 u)) Q E s := by
  have hl : b.size = kr.length + 1 := by rw [← KBw.ints_length, hk, List.length_cons]
  refine KBw.item_K hk (by rw [List.length_cons]; omega) (by decide) (by rw [List.length_cons]; omega) (fun t' k _ _ => ?_) hs ht
  exact h t' k
theorem slice_tail {k0 : Int} {kr : List Int} {ti : Tok} (F : Fr h₀ L s.heap m) (N : News h₀ L s.heap news) (hk : KBw.bInts b = k0 :: kr) (hz : kr.length ≤ 1000)
    (h : ∀ h' b' t' k, Fr h₀ L h' m → News h₀ L h' news → KBw.bInts b' = kr → Q (.bytes b' t') { s with heap := h', toks := k })
    (hs : subscripted slice false (.bytes b t) (.ref s.heap.objs.size) = operate [.ref s.heap.objs.size, .bytes b t] (getItem (.bytes b t) (.ref s.heap.objs.size)) := by with_unfolding_all rfl)
    (ht : ∀ r, letTemporaryGo value (.bytes b t) r = pure () := by intro _; with_unfolding_all rfl) :
    wpAny (model prog w) A (subscriptTail value slice (.bytes b t) (.ref s.heap.objs.size)) Q E { s with heap := s.heap.push { cls := .type "slice", data := .fields #[.int 1 ti, .none, .none] } } := by
  refine KBc.slice_K F N hk (.int 1 ti) .none (by rw [List.length_cons]; omega) (fun h' t' k F' N' e => h h' _ t' k F' N' ?_) hs ht
  rw [e]
  have e1 : (some (1 : Int)).elim 0 (clipAt (k0 :: kr).length) = 1 := by
    show clipAt (k0 :: kr).length 1 = 1
    have e9 := clipAt_nat (k0 :: kr).length 1
    rw [List.length_cons] at e9 ⊢
    have e8 : clipAt (kr.length + 1) 1 = min 1 (kr.length + 1) := e9
    omega
  rw [e1]
  simp
end
end Mine
end BitsPart
section ValPart
open PySem PySem.W PyProof.Rows
namespace Mine
local macro_rules | `(tactic| walk_at "binaryOp Mod int int") => `(tactic| k_dflt (refine Mine.mod_by (by omega) ?_))
local macro_rules | `(tactic| walk_at "binaryOp Pow int int") => `(tactic| k_dflt (first | refine Mine.pow2_at (r := 32) 5 (by omega) (by decide) (by decide) ?_ | refine Mine.pow2_at (r := 16) 4 (by omega) (by decide) (by decide) ?_ | refine Mine.pow2_at (r := 8) 3 (by omega) (by decide) (by decide) ?_ | refine Mine.pow2_at (r := 4) 2 (by omega) (by decide) (by decide) ?_ | refine Mine.pow2_at (r := 2) 1 (by omega) (by decide) (by decide) ?_))
local macro_rules | `(tactic| walk_at "call builtin:len cons nil") => `(tactic| k_dflt (refine Mine.len_at (by with_reducible assumption) (by decide) ?_))
local macro_rules | `(tactic| walk_at "subscriptTail Name Constant bytes int") => `(tactic| (k_dflt (refine Mine.item0 (by with_reducible assumption) (by simp) ?_); intro _ _))
local macro_rules | `(tactic| walk_at "subscriptTail Name Slice bytes ref") => `(tactic| ((with_reducible rename Fr _ _ _ _ => F'); (with_reducible rename News _ _ _ _ => N'); k_dflt (refine Mine.slice_tail (s := ⟨_, _, _, _, _⟩) F' N' (by with_reducible assumption) (by simp) ?_); intro _ _ _ _ _ _ _))
local macro_rules | `(tactic| k_steps) => `(tactic| repeat' (first | (fail_if_success (with_reducible show wpAny _ _ (pyIter _) _ _ _)); (first | (k_unfold; (try dsimp only)) | (k_end; wrow_close) | walk1 | (dsimp only; walk1) | (leave1; (try dsimp only)) | fail "no step")))
theorem fold_snoc {pre : List Int} {x n v : Int} (h : x = pre.foldl (fun a o => a * 64 + o % 64) v) : x * 64 + n % 64 = (pre ++ [n]).foldl (fun a o => a * 64 + o % 64) v := by
  rw [List.foldl_append, ← h]
  rfl
local macro_rules | `(tactic| walk_at "InvEndN") => `(tactic| ((rename News _ _ _ _ => nE'); k_dflt (refine kst_end ⟨_, _⟩ (by assumption) nE' (by first | kst_in | kst_inAny) (by first | (intro p hp; kst_mem) | kst_anyIn) (by rfl) (by kst_facts) (by kst_all) (by kst_same) (by exact Mine.fold_snoc (by assumption)))))
theorem val_end {h₀ h' : Heap} {L : Addr} {m : Str → Option Value} {news news' : List (Addr × Obj)} {s : Shared} {Q : Value → Shared → Prop} {t : Tok} {tk' : Nat} {x y : Int}
    (hret : ∀ (t : Tok) (h' : Heap) (tk' : Nat), Fr h₀ L h' m → News h₀ L h' news → Q (.int x t) { s with heap := h', toks := tk' }) (F : Fr h₀ L h' m) (N : News h₀ L h' news') (hs : ∀ p ∈ news, p ∈ news') (e : y = x) :
    Q (.int y t) { s with heap := h', toks := tk' } := by
  subst e
  exact hret t h' tk' F (fun p hp => N p (hs p hp))
set_option maxRecDepth 100000 in
set_option maxHeartbeats 8000000 in
theorem val_ok (w : World) (mean : ExcName → Option Value) (mg mb : Str → Option Value) (n : Int) (tn : Tok) (news : List (Addr × Obj)) :
   CbClaim PySem.Challenge.rw_fz0004_01.row.prog w (hd.heap_39 w.params) hd.view_39 (looseW hd.view_39 []) mean mg mb 42 news [] (0 ≤ n ∧ n < 2147483648) [.bytes (enc n) tn] (fun t => .int n t) := by
  k_fill
  k_with "pyIter ref" => fail
  dsimp only [CbClaim, CbLists, CbRet]
  intro dp un gd cn cs a ccd cl outer A₀ base h₀ L m s Q E B F X N T hk hn hdp hun hret
  obtain ⟨h0, h1⟩ := hn
  have hi := bInts_enc h0 h1
  have hsz : ((enc n).size : Int) = ((encL n).length : Int) := by rw [← hi, KBw.ints_length]
  have hcases : n < 128 ∨ (128 ≤ n ∧ n < 2048) ∨ (2048 ≤ n ∧ n < 65536) ∨ (65536 ≤ n ∧ n < 2097152) ∨ (2097152 ≤ n ∧ n < 67108864) ∨ 67108864 ≤ n := by omega
  rcases hcases with q | q | q | q | q | q
  · have e : encL n = [n] := by simp [encL, q]
    rw [e] at hi hsz
    replace hsz : ((enc n).size : Int) = 1 := hsz
    refine wpAny_call ?_
    k_dflt cell_enter
    k_steps
    all_goals (first | exact hret _ _ _ (by assumption) (by assumption) | (exfalso; omega))
  · have a0 : ¬ n < 128 := by omega
    have e : encL n = [192 + n / 64, 128 + n % 64] := by simp [encL, a0, q]
    rw [e] at hi hsz
    replace hsz : ((enc n).size : Int) = 2 := hsz
    refine wpAny_call ?_
    k_dflt cell_enter
    k_steps
    k_state (fun pre number => number = pre.foldl (fun a o => a * 64 + o % 64) ((192 + n / 64) % 32)) "number"
    · k_steps
    · k_steps
      refine val_end hret (by assumption) (by assumption) (by simp) ?_
      rename _ = List.foldl _ _ _ => kI
      rw [kI]
      simp only [List.foldl_cons, List.foldl_nil]
      omega
  · have a0 : ¬ n < 128 := by omega
    have a1 : ¬ n < 2048 := by omega
    have e : encL n = [224 + n / 4096, 128 + n / 64 % 64, 128 + n % 64] := by simp [encL, a0, a1, q]
    rw [e] at hi hsz
    replace hsz : ((enc n).size : Int) = 3 := hsz
    refine wpAny_call ?_
    k_dflt cell_enter
    k_steps
    k_state (fun pre number => number = pre.foldl (fun a o => a * 64 + o % 64) ((224 + n / 4096) % 16)) "number"
    · k_steps
    · k_steps
      refine val_end hret (by assumption) (by assumption) (by simp) ?_
      rename _ = List.foldl _ _ _ => kI
      rw [kI]
      simp only [List.foldl_cons, List.foldl_nil]
      omega
  · have a0 : ¬ n < 128 := by omega
    have a1 : ¬ n < 2048 := by omega
    have a2 : ¬ n < 65536 := by omega
    have e : encL n = [240 + n / 262144, 128 + n / 4096 % 64, 128 + n / 64 % 64, 128 + n % 64] := by simp [encL, a0, a1, a2, q]
    rw [e] at hi hsz
    replace hsz : ((enc n).size : Int) = 4 := hsz
    refine wpAny_call ?_
    k_dflt cell_enter
    k_steps
    k_state (fun pre number => number = pre.foldl (fun a o => a * 64 + o % 64) ((240 + n / 262144) % 8)) "number"
    · k_steps
    · k_steps
      refine val_end hret (by assumption) (by assumption) (by simp) ?_
      rename _ = List.foldl _ _ _ => kI
      rw [kI]
      simp only [List.foldl_cons, List.foldl_nil]
      omega
  · have a0 : ¬ n < 128 := by omega
    have a1 : ¬ n < 2048 := by omega
    have a2 : ¬ n < 65536 := by omega
    have a3 : ¬ n < 2097152 := by omega
    have e : encL n = [248 + n / 16777216, 128 + n / 262144 % 64, 128 + n / 4096 % 64, 128 + n / 64 % 64, 128 + n % 64] := by simp [encL, a0, a1, a2, a3, q]
    rw [e] at hi hsz
    replace hsz : ((enc n).size : Int) = 5 := hsz
    refine wpAny_call ?_
    k_dflt cell_enter
    k_steps
    k_state (fun pre number => number = pre.foldl (fun a o => a * 64 + o % 64) ((248 + n / 16777216) % 4)) "number"
    · k_steps
    · k_steps
      refine val_end hret (by assumption) (by assumption) (by simp) ?_
      rename _ = List.foldl _ _ _ => kI
      rw [kI]
      simp only [List.foldl_cons, List.foldl_nil]
      omega
  · have a0 : ¬ n < 128 := by omega
    have a1 : ¬ n < 2048 := by omega
    have a2 : ¬ n < 65536 := by omega
    have a3 : ¬ n < 2097152 := by omega
    have a4 : ¬ n < 67108864 := by omega
    have e : encL n = [252 + n / 1073741824, 128 + n / 16777216 % 64, 128 + n / 262144 % 64, 128 + n / 4096 % 64, 128 + n / 64 % 64, 128 + n % 64] := by simp [encL, a0, a1, a2, a3, a4]
    rw [e] at hi hsz
    replace hsz : ((enc n).size : Int) = 6 := hsz
    refine wpAny_call ?_
    k_dflt cell_enter
    k_steps
    k_state (fun pre number => number = pre.foldl (fun a o => a * 64 + o % 64) ((252 + n / 1073741824) % 2)) "number"
    · k_steps
    · k_steps
      refine val_end hret (by assumption) (by assumption) (by simp) ?_
      rename _ = List.foldl _ _ _ => kI
      rw [kI]
      simp only [List.foldl_cons, List.foldl_nil]
      omega
theorem val_use {w : World} {mean : ExcName → Option Value} {mg mb : Str → Option Value} {n : Int} {tn : Tok} {news : List (Addr × Obj)} {dp un : Nat} {gd : Option (List Code)} {cn : Str} {cs : Scope} {a : Addr} {ccd : Value} {cl : List (Str × Addr)} {outer : List Env} {A₀ : Around} {base h₀ : Heap} {L : Addr} {m : Str → Option Value} {s : Shared} {Q E : Value → Shared → Prop}
    (F : Fr h₀ L s.heap m) (B : Below A₀ base outer h₀) (X : (hd.heap_39 w.params).In h₀) (N : News h₀ L s.heap news) (T : Top hd.view_39 (looseW hd.view_39 []) mean mg mb h₀) (hk : cs.kind = .function) (hn : 0 ≤ n ∧ n < 2147483648) (hd : dp + 1 < recursionLimit) (hu : un + 8 < cLine)
    (ret : ∀ (t : Tok) (h' : Heap) (tk' : Nat), Fr h₀ L h' m → News h₀ L h' news → Q (.int n t) { s with heap := h', toks := tk' }) :
    wpAny (model PySem.Challenge.rw_fz0004_01.row.prog w) (ktrTop dp un gd cn cs L a ccd cl outer) (call (.ref 42) [.bytes (enc n) tn]) Q E s :=
  val_ok w mean mg mb n tn news dp un gd cn cs a ccd cl outer A₀ base h₀ L m s Q E B F X N T hk hn hd hu ret
end Mine
end ValPart
section SizePart
open PySem PySem.W PyProof.Rows
namespace Mine
local macro_rules | `(tactic| walk_at "callWith ref nil nil") => `(tactic| (k_dflt (refine callWith_K (by k_asm) (by k_is) ?_)))
local macro_rules | `(tactic| k_room) => `(tactic| ktr_room)
local macro_rules | `(tactic| walk_at "exec While Compare cons nil") => `(tactic| (k_dflt (refine whl_start 100 ?_)))
local macro_rules | `(tactic| walk_at "WhlIf") => `(tactic| (k_dflt (first | (refine WhlIf.yes (decide_eq_true (by omega)) ?_) | (refine WhlIf.no (decide_eq_false (by omega)) ?_))))
local macro_rules | `(tactic| walk_at "call ref nil") => `(tactic| ((with_reducible show wpAny _ _ (call (Value.ref 28) _) _ _ _); k_dflt ((refine Mine.ends_use (by k_asm) (by k_asm) (by k_asm) (by k_asm) (by k_asm) (by first | exact rfl | assumption) (by ktr_room) (by ktr_units) ?_)); intro l9 vs9 h9 tk9 F9 N9 hi9 l1; (try k_lt l1); (try dsimp only); (try k_fold)))
local macro_rules | `(tactic| walk_at "subscriptTail Call Name nil nil Name ref int") => `(tactic| (k_dflt (refine Mine.ends_item (by k_asm) (by k_mem) (by with_reducible assumption) (by omega) (by rfl) ?_); intro _))
set_option maxRecDepth 100000 in
set_option maxHeartbeats 8000000 in
theorem size_ok (w : World) (mean : ExcName → Option Value) (mg mb : Str → Option Value) (n : Int) (tn : Tok) (news : List (Addr × Obj)) :
   CbClaim PySem.Challenge.rw_fz0004_01.row.prog w (hd.heap_39 w.params) hd.view_39 (looseW hd.view_39 []) mean mg mb 35 news [] (0 ≤ n ∧ n < 2147483648) [.int n tn] (fun t => .int ((encL n).length : Int) t) := by
  k_fill
  k_with_none
  dsimp only [CbClaim, CbLists, CbRet]
  intro dp un gd cn cs a ccd cl outer A₀ base h₀ L m s Q E B F X N T hk hn hdp hun hret
  obtain ⟨h0, h1⟩ := hn
  have hcases : n < 128 ∨ (128 ≤ n ∧ n < 2048) ∨ (2048 ≤ n ∧ n < 65536) ∨ (65536 ≤ n ∧ n < 2097152) ∨ (2097152 ≤ n ∧ n < 67108864) ∨ 67108864 ≤ n := by omega
  rcases hcases with q | q | q | q | q | q
  · have e : ((encL n).length : Int) = 1 := by simp [encL, q]
    rw [e] at hret
    refine wpAny_call ?_
    k_dflt cell_enter
    k_steps
    all_goals (exact val_end hret (by assumption) (by assumption) (by simp +contextual) (by omega))
  · have a0 : ¬ n < 128 := by omega
    have e : ((encL n).length : Int) = 2 := by simp [encL, a0, q.2]
    rw [e] at hret
    refine wpAny_call ?_
    k_dflt cell_enter
    k_steps
    all_goals (exact val_end hret (by assumption) (by assumption) (by simp +contextual) (by omega))
  · have a0 : ¬ n < 128 := by omega
    have a1 : ¬ n < 2048 := by omega
    have e : ((encL n).length : Int) = 3 := by simp [encL, a0, a1, q.2]
    rw [e] at hret
    refine wpAny_call ?_
    k_dflt cell_enter
    k_steps
    all_goals (exact val_end hret (by assumption) (by assumption) (by simp +contextual) (by omega))
  · have a0 : ¬ n < 128 := by omega
    have a1 : ¬ n < 2048 := by omega
    have a2 : ¬ n < 65536 := by omega
    have e : ((encL n).length : Int) = 4 := by simp [encL, a0, a1, a2, q.2]
    rw [e] at hret
    refine wpAny_call ?_
    k_dflt cell_enter
    k_steps
    all_goals (exact val_end hret (by assumption) (by assumption) (by simp +contextual) (by omega))
  · have a0 : ¬ n < 128 := by omega
    have a1 : ¬ n < 2048 := by omega
    have a2 : ¬ n < 65536 := by omega
    have a3 : ¬ n < 2097152 := by omega
    have e : ((encL n).length : Int) = 5 := by simp [encL, a0, a1, a2, a3, q.2]
    rw [e] at hret
    refine wpAny_call ?_
    k_dflt cell_enter
    k_steps
    all_goals (exact val_end hret (by assumption) (by assumption) (by simp +contextual) (by omega))
  · have a0 : ¬ n < 128 := by omega
    have a1 : ¬ n < 2048 := by omega
    have a2 : ¬ n < 65536 := by omega
    have a3 : ¬ n < 2097152 := by omega
    have a4 : ¬ n < 67108864 := by omega
    have e : ((encL n).length : Int) = 6 := by simp [encL, a0, a1, a2, a3, a4]
    rw [e] at hret
    refine wpAny_call ?_
    k_dflt cell_enter
    k_steps
    all_goals (exact val_end hret (by assumption) (by assumption) (by simp +contextual) (by omega))
theorem size_use {w : World} {mean : ExcName → Option Value} {mg mb : Str → Option Value} {n : Int} {tn : Tok} {news : List (Addr × Obj)} {dp un : Nat} {gd : Option (List Code)} {cn : Str} {cs : Scope} {a : Addr} {ccd : Value} {cl : List (Str × Addr)} {outer : List Env} {A₀ : Around} {base h₀ : Heap} {L : Addr} {m : Str → Option Value} {s : Shared} {Q E : Value → Shared → Prop}
    (F : Fr h₀ L s.heap m) (B : Below A₀ base outer h₀) (X : (hd.heap_39 w.params).In h₀) (N : News h₀ L s.heap news) (T : Top hd.view_39 (looseW hd.view_39 []) mean mg mb h₀) (hk : cs.kind = .function) (hn : 0 ≤ n ∧ n < 2147483648) (hd : dp + 1 < recursionLimit) (hu : un + 8 < cLine)
    (ret : ∀ (t : Tok) (h' : Heap) (tk' : Nat), Fr h₀ L h' m → News h₀ L h' news → Q (.int ((encL n).length : Int) t) { s with heap := h', toks := tk' }) :
    wpAny (model PySem.Challenge.rw_fz0004_01.row.prog w) (ktrTop dp un gd cn cs L a ccd cl outer) (call (.ref 35) [.int n tn]) Q E s :=
  size_ok w mean mg mb n tn news dp un gd cn cs a ccd cl outer A₀ base h₀ L m s Q E B F X N T hk hn hd hu ret
end Mine
end SizePart
section LinePart
open PySem PySem.W PyProof.Rows PySem.Calls
namespace Mine
abbrev lineL (ns : List Int) : List UInt8 := List.flatMap Array.toList (List.map enc ns)
def offs (ns : List Int) (j : Nat) : Int := ((lineL (ns.take j)).length : Int)
theorem enc_len {n : Int} : (enc n).toList.length = (encL n).length := by simp [enc]
theorem encL_pos (n : Int) : 1 ≤ (encL n).length := by
  unfold encL
  (repeat' split) <;> simp
theorem lineL_app (a b : List Int) : lineL (a ++ b) = lineL a ++ lineL b := by simp [lineL]
theorem take_succ {ns : List Int} {j : Nat} {n : Int} (h : ns[j]? = some n) : ns.take (j + 1) = ns.take j ++ [n] := by
  rw [List.take_add_one, h]; rfl
theorem ns_split {ns : List Int} {j : Nat} {n : Int} (h : ns[j]? = some n) : ns = ns.take j ++ n :: ns.drop (j + 1) := by
  have ht := List.take_append_drop (j + 1) ns
  rw [take_succ h, List.append_assoc] at ht
  exact ht.symm
theorem line_split {ns : List Int} {j : Nat} {n : Int} (h : ns[j]? = some n) : lineL ns = lineL (ns.take j) ++ ((enc n).toList ++ lineL (ns.drop (j + 1))) := by
  have e : lineL ns = lineL (ns.take j ++ n :: ns.drop (j + 1)) := congrArg lineL (ns_split h)
  rw [e, lineL_app]
  simp [lineL]
theorem offs_zero (ns : List Int) : offs ns 0 = 0 := by simp [offs]
theorem offs_nonneg (ns : List Int) (j : Nat) : 0 ≤ offs ns j := by unfold offs; omega
theorem offs_succ {ns : List Int} {j : Nat} {n : Int} (h : ns[j]? = some n) : offs ns (j + 1) = offs ns j + ((encL n).length : Int) := by
  unfold offs
  rw [take_succ h, lineL_app, List.length_append]
  have : (lineL [n]).length = (encL n).length := by simp [lineL, enc]
  omega
theorem offs_end (ns : List Int) : offs ns ns.length = ((lineL ns).length : Int) := by unfold offs; rw [List.take_length]
theorem offs_lt {ns : List Int} {j : Nat} {n : Int} (h : ns[j]? = some n) : offs ns j + ((encL n).length : Int) ≤ ((lineL ns).length : Int) := by
  rw [line_split h]
  simp only [List.length_append, enc_len]
  unfold offs
  omega
theorem bInts_app (a b : List UInt8) : KBw.bInts (a ++ b).toArray = KBw.bInts a.toArray ++ KBw.bInts b.toArray := by simp [KBw.bInts]
theorem line_ints {ns : List Int} {j : Nat} {n : Int} (h : ns[j]? = some n) (hr : 0 ≤ n ∧ n < 2147483648) :
    KBw.bInts (lineL ns).toArray = KBw.bInts (lineL (ns.take j)).toArray ++ (encL n ++ KBw.bInts (lineL (ns.drop (j + 1))).toArray) := by
  rw [line_split h, bInts_app, bInts_app, Array.toArray_toList, bInts_enc hr.1 hr.2]
section
variable {prog : Program} {w : World} {A : Around} {E : Value → Shared → Prop} {s : Shared} {value slice : PySem.Expr} {t u : Tok} {h₀ : Heap} {L : Addr} {m : PySem.Str → Option Value} {news : List (Addr × Obj)} {Q : Value → Shared → Prop} {ns : List Int} {j : Nat} {n : Int}
theorem line_item {v : Int} (h : ns[j]? = some n) (hr : 0 ≤ n ∧ n < 2147483648) (hv : (encL n)[0]? = some v) (hz : (lineL ns).length ≤ 1000000) (hq : ∀ t' k, Q (.int v t') { s with toks := k })
    (hs : subscripted slice false (.bytes (lineL ns).toArray t) (.int (offs ns j) u) = operate [.bytes (lineL ns).toArray t, .int (offs ns j) u] (getItem (.bytes (lineL ns).toArray t) (.int (offs ns j) u)) := by with_unfolding_all rfl)
    (ht : ∀ r, letTemporaryGo value (.bytes (lineL ns).toArray t) r = pure () := by intro _; with_unfolding_all rfl) : wpAny (model prog w) A (subscriptTail value slice (.bytes (lineL ns).toArray t) (.int (offs ns j) u)) Q E s := by
  have h1 := offs_lt h
  have h2 := offs_nonneg ns j
  have h3 := encL_pos n
  have h4 : (KBw.bInts (lineL ns).toArray).length = (lineL ns).length := by rw [KBw.ints_length, List.size_toArray]
  have e : (KBw.bInts (lineL ns).toArray).getD (offs ns j).toNat 0 = v := by
    rw [line_ints h hr, List.getD_eq_getElem?_getD]
    have hl : (KBw.bInts (lineL (ns.take j)).toArray).length = (offs ns j).toNat := by rw [KBw.ints_length, List.size_toArray]; unfold offs; simp
    rw [List.getElem?_append_right (by omega), hl, Nat.sub_self, List.getElem?_append_left (by omega), hv]
    rfl
  refine KBw.item_K rfl (by omega) h2 (by omega) (fun t' k _ _ => ?_) hs ht
  rw [e]
  exact hq t' k
theorem line_cut {hi : Int} {ta tb : Tok} (F : Fr h₀ L s.heap m) (N : News h₀ L s.heap news) (h : ns[j]? = some n) (hh : hi = offs ns j + ((encL n).length : Int)) (hz : (lineL ns).length ≤ 1000000)
    (hq : ∀ h' t' k, Fr h₀ L h' m → News h₀ L h' news → Q (.bytes (enc n) t') { s with heap := h', toks := k })
    (hs : subscripted slice false (.bytes (lineL ns).toArray t) (.ref s.heap.objs.size) = operate [.ref s.heap.objs.size, .bytes (lineL ns).toArray t] (getItem (.bytes (lineL ns).toArray t) (.ref s.heap.objs.size)) := by with_unfolding_all rfl)
    (ht : ∀ r, letTemporaryGo value (.bytes (lineL ns).toArray t) r = pure () := by intro _; with_unfolding_all rfl) :
    wpAny (model prog w) A (subscriptTail value slice (.bytes (lineL ns).toArray t) (.ref s.heap.objs.size)) Q E { s with heap := s.heap.push { cls := .type "slice", data := .fields #[.int (offs ns j) ta, .int hi tb, .none] } } := by
  have h1 := offs_lt h
  have h2 := offs_nonneg ns j
  have h4 : (KBw.bInts (lineL ns).toArray).length = (lineL ns).length := by rw [KBw.ints_length, List.size_toArray]
  refine KBc.slice_K F N rfl (.int _ ta) (.int _ tb) (by omega) (fun h' t' k F' N' _ => ?_) hs ht
  have e : KBy.picked (lineL ns).toArray (some (offs ns j)) (some hi) = enc n := by
    rw [KBc.picked_eq]
    have hsz : (lineL ns).toArray.size = (lineL ns).length := List.size_toArray
    have c1 : clipAt (lineL ns).length (offs ns j) = (lineL (ns.take j)).length := by
      have := clipAt_nat (lineL ns).length (lineL (ns.take j)).length
      unfold offs at h1 ⊢
      rw [this]
      omega
    have c2 : clipAt (lineL ns).length hi = (lineL (ns.take j)).length + (encL n).length := by
      have e1 : hi = (((lineL (ns.take j)).length + (encL n).length : Nat) : Int) := by rw [hh]; unfold offs; push_cast; rfl
      have := clipAt_nat (lineL ns).length ((lineL (ns.take j)).length + (encL n).length)
      rw [e1, this]
      unfold offs at h1
      omega
    show (((lineL ns).drop (clipAt (lineL ns).toArray.size (offs ns j))).take (clipAt (lineL ns).toArray.size hi - clipAt (lineL ns).toArray.size (offs ns j))).toArray = enc n
    rw [hsz, c1, c2, line_split h]
    apply Array.toList_inj.mp
    rw [List.drop_append_of_le_length (Nat.le_refl _), List.drop_length, List.nil_append, Nat.add_sub_cancel_left, ← enc_len, List.take_append_of_le_length (Nat.le_refl _), List.take_length]
  rw [e]
  exact hq h' t' k F' N'
end
theorem ints_take {vs : List Value} {ns : List Int} {j : Nat} {n : Int} {t : Tok} (h : IntsAre vs (ns.take j)) (hn : ns[j]? = some n) : IntsAre (vs ++ [.int n t]) (ns.take (j + 1)) := by
  rw [take_succ hn]
  exact ints_snoc h
end Mine
end LinePart
section StartsPart
open PySem PySem.W PyProof.Rows PySem.Calls
namespace Mine
/-- the places (from b on) that are no following octets -/
def fpos : List Int → Int → List Int
  | [], _ => []
  | v :: r, b => (if v / 64 ≠ 2 then [b] else []) ++ fpos r (b + 1)
theorem fpos_app : ∀ (l k : List Int) (b : Int), fpos (l ++ k) b = fpos l b ++ fpos k (b + (l.length : Int))
  | [], k, b => by simp [fpos]
  | v :: r, k, b => by
    simp only [List.cons_append, fpos, fpos_app r k (b + 1), List.append_assoc, List.length_cons]
    have : b + 1 + (r.length : Int) = b + ((r.length + 1 : Nat) : Int) := by omega
    rw [this]
theorem fpos_enc {n : Int} (h0 : 0 ≤ n) (h1 : n < 2147483648) (b : Int) : fpos (encL n) b = [b] := by
  unfold encL
  have c : ∀ x : Int, 0 ≤ x → x < 64 → (128 + x) / 64 = 2 := by intro x _ _; omega
  have d : ∀ x y : Int, (128 + x / y % 64) / 64 = 2 := by intro x y; omega
  have e : (128 + n % 64) / 64 = 2 := by omega
  (repeat' split) <;> simp [fpos, d, e] <;> omega
theorem line_step (n : Int) (r : List Int) : lineL (n :: r) = (enc n).toList ++ lineL r := by simp [lineL]
theorem fpos_line : ∀ (ns : List Int) (b : Int), (∀ x : Int, x ∈ ns → 0 ≤ x ∧ x < 2147483648) → fpos (KBw.bInts (lineL ns).toArray) b = (List.range ns.length).map fun j => b + offs ns j
  | [], b, _ => by simp [lineL, KBw.bInts, fpos]
  | n :: r, b, h => by
    have hn := h n (.head _)
    have ih := fpos_line r (b + ((encL n).length : Int)) fun x hx => h x (.tail _ hx)
    rw [line_step, bInts_app, Array.toArray_toList, bInts_enc hn.1 hn.2, fpos_app, fpos_enc hn.1 hn.2, ih, List.length_cons, List.range_succ_eq_map, List.map_cons, List.map_map]
    have e0 : b + offs (n :: r) 0 = b := by rw [offs_zero]; omega
    rw [e0]
    show b :: _ = b :: _
    congr 1
    refine List.map_congr_left fun j _ => ?_
    show b + ((encL n).length : Int) + offs r j = b + offs (n :: r) (j + 1)
    unfold offs
    rw [List.take_succ_cons, line_step, List.length_append, enc_len]
    push_cast
    omega
theorem filter_fpos : ∀ (ks : List Int) (b : Int), ((List.range ks.length).map fun (i : Nat) => b + (i : Int)).filter (fun k => decide (ks.getD (k - b).toNat 0 / 64 ≠ 2)) = fpos ks b
  | [], b => by simp [fpos]
  | v :: r, b => by
    rw [List.length_cons, List.range_succ_eq_map, List.map_cons, List.map_map, List.filter_cons, fpos, ← filter_fpos r (b + 1)]
    have e0 : (v :: r).getD ((b + ((0 : Nat) : Int)) - b).toNat 0 = v := by
      have : ((b + ((0 : Nat) : Int)) - b).toNat = 0 := by omega
      rw [this]; rfl
    have e1 : ((List.range r.length).map ((fun (i : Nat) => b + (i : Int)) ∘ Nat.succ)) = (List.range r.length).map fun (i : Nat) => b + 1 + (i : Int) := by
      refine List.map_congr_left fun i _ => ?_
      show b + ((i + 1 : Nat) : Int) = b + 1 + (i : Int)
      push_cast; omega
    have e2 : ((List.range r.length).map fun (i : Nat) => b + 1 + (i : Int)).filter (fun k => decide ((v :: r).getD (k - b).toNat 0 / 64 ≠ 2)) = ((List.range r.length).map fun (i : Nat) => b + 1 + (i : Int)).filter (fun k => decide (r.getD (k - (b + 1)).toNat 0 / 64 ≠ 2)) := by
      refine List.filter_congr fun k hk => ?_
      obtain ⟨i, _, rfl⟩ := List.mem_map.mp hk
      have a1 : (b + 1 + (i : Int) - b).toNat = i + 1 := by omega
      have a2 : (b + 1 + (i : Int) - (b + 1)).toNat = i := by omega
      rw [a1, a2]; rfl
    rw [e0, e1, e2]
    by_cases hv : v / 64 ≠ 2
    · simp [hv]
    · simp [hv]
/-- the octet at a place -/
def lineAt (ns : List Int) (k : Int) : Int := (KBw.bInts (lineL ns).toArray).getD k.toNat 0
def isStart (ns : List Int) (k : Int) : Bool := decide (lineAt ns k / 64 ≠ 2)
abbrev startsL (ns : List Int) : List Int := (List.range ns.length).map fun j => offs ns j
theorem starts_eq {ns : List Int} (h : ∀ x : Int, x ∈ ns → 0 ≤ x ∧ x < 2147483648) {n : Nat} (hn : n = (lineL ns).length) : (rangeKs 0 n).filter (isStart ns) = startsL ns := by
  have h1 := filter_fpos (KBw.bInts (lineL ns).toArray) 0
  rw [KBw.ints_length, List.size_toArray, fpos_line ns 0 h] at h1
  subst hn
  unfold rangeKs
  have e : (fun k => decide ((KBw.bInts (lineL ns).toArray).getD (k - 0).toNat 0 / 64 ≠ 2)) = isStart ns := by
    funext k
    unfold isStart lineAt
    rw [Int.sub_zero]
  rw [e] at h1
  rw [h1]
  refine List.map_congr_left fun j _ => by omega
section
variable {prog : Program} {w : World} {A : Around} {E : Value → Shared → Prop} {s : Shared} {value slice : PySem.Expr} {t u : Tok} {Q : Value → Shared → Prop} {ns : List Int}
theorem line_any {k : Int} (h0 : 0 ≤ k) (h1 : k < ((List.flatMap Array.toList (List.map enc ns)).length : Int)) (hz : (List.flatMap Array.toList (List.map enc ns)).length ≤ 1000000) (hq : ∀ t' q, Q (.int (lineAt ns k) t') { s with toks := q })
    (hs : subscripted slice false (.bytes (lineL ns).toArray t) (.int k u) = operate [.bytes (lineL ns).toArray t, .int k u] (getItem (.bytes (lineL ns).toArray t) (.int k u)) := by with_unfolding_all rfl)
    (ht : ∀ r, letTemporaryGo value (.bytes (lineL ns).toArray t) r = pure () := by intro _; with_unfolding_all rfl) : wpAny (model prog w) A (subscriptTail value slice (.bytes (lineL ns).toArray t) (.int k u)) Q E s := by
  have h4 : (KBw.bInts (lineL ns).toArray).length = (lineL ns).length := by rw [KBw.ints_length, List.size_toArray]
  have h1' : k < ((lineL ns).length : Int) := h1
  have hz' : (lineL ns).length ≤ 1000000 := hz
  exact KBw.item_K rfl (by omega) h0 (by omega) (fun t' q _ _ => hq t' q) hs ht
end
section
variable {prog : Program} {w : World} {A : Around} {h₀ : Heap} {L : Addr} {m : Str → Option Value} {env : Env} {ct elt : Expr} {x : Str} {scope : Scope} {cl : List (Str × Addr)} {s : Shared} {S : List (Addr × Obj) → Prop} {Fin : List Value → List (Addr × Obj) → Prop} {news : List (Addr × Obj)}
theorem comp_filter {n : Nat} {a : Int} (p : Int → Bool)
    (turn : ∀ k t I oI C oC D m₂ ys h tk (E' : Value → Shared → Prop), a ≤ k → k < a + (n : Int) → LCg.NsObj oC m₂ → m₂ x = some (.int k t) → Fr h₀ L h m → News h₀ L h ((I, oI) :: (C, oC) :: (D, LCg.lst ys) :: news) → LCg.Off3 I C D news → ((@Ne Nat I C) ∧ (@Ne Nat I D) ∧ (@Ne Nat C D)) →
      wpAny (model prog w) A (isTrue ct (compEnvC scope cl C env) (eval ct (compEnvC scope cl C env))) (fun ok s' => if ok = true then
        wpAny (model prog w) A (eval elt (compEnvC scope cl C env)) (LCg.CompEnd h₀ L m { s with heap := h, toks := tk } I oI C oC D (LCg.lst ys) S (fun y news' => p k = true ∧ news' = news ∧ ∃ t, y = .int k t)) E' s'
        else LCg.CompEnd h₀ L m { s with heap := h, toks := tk } I oI C oC D (LCg.lst ys) S (fun _ news' => p k = false ∧ news' = news) Value.none s') E' { s with heap := h, toks := tk })
    (fin : ∀ ys, IntsAre ys ((rangeKs a n).filter p) → Fin ys news) :
    LCt.CompRestT prog w A h₀ L m env ct elt x scope cl s S (fun i v => ∃ t, v = .int (a + (i : Int)) t) Fin n 0 [] news := by
  have key : ∀ (j i : Nat) (ys : List Value), i + j = n → IntsAre ys ((rangeKs a i).filter p) → LCt.CompRestT prog w A h₀ L m env ct elt x scope cl s S (fun i v => ∃ t, v = .int (a + (i : Int)) t) Fin j i ys news := by
    intro j
    induction j with
    | zero =>
      intro i ys hi hy
      have e : i = n := by omega
      subst e
      exact LCt.CompRestT.zero (fin ys hy)
    | succ j ih =>
      intro i ys hi hy
      have hsucc : (rangeKs a (i + 1)).filter p = (rangeKs a i).filter p ++ (if p (a + (i : Int)) = true then [a + (i : Int)] else []) := by
        unfold rangeKs
        rw [List.range_succ, List.map_append, List.filter_append]
        congr 1
        by_cases hp : p (a + (i : Int)) = true <;> simp [hp]
      refine LCt.CompRestT.succ ?_
      intro v I oI C oC D m₂ h tk E' hv hC hx F N off ne
      obtain ⟨t, hv'⟩ := hv
      rw [hv'] at hx
      refine wpAny_mono (turn (a + (i : Int)) t I oI C oC D m₂ ys h tk E' (by omega) (by omega) hC hx F N off ne) (fun ok s₂ hq => ?_) fun _ _ e => e
      cases ok with
      | true =>
        simp only [if_true] at hq ⊢
        refine wpAny_mono hq (fun y s₃ hq => ?_) fun _ _ e => e
        obtain ⟨h', tk', nw, e, F', N', off', hS, hp, hn, t', hy'⟩ := hq
        rw [hn] at N' off' hS
        refine ⟨h', tk', news, e, F', N', off', hS, ?_⟩
        rw [hy']
        refine ih (i + 1) _ (by omega) ?_
        rw [hsucc, if_pos hp]
        exact ints_snoc hy
      | false =>
        simp only [Bool.false_eq_true, if_false] at hq ⊢
        obtain ⟨h', tk', nw, e, F', N', off', hS, hp, hn⟩ := hq
        rw [hn] at N' off' hS
        refine ⟨h', tk', news, e, F', N', off', hS, ?_⟩
        refine ih (i + 1) _ (by omega) ?_
        rw [hsucc, if_neg (by rw [hp]; simp), List.append_nil]
        exact hy
  exact key n 0 [] (by omega) (by simp only [rangeKs, List.range_zero, List.map_nil, List.filter_nil]; exact .nil)
end
end Mine
end StartsPart
section ZipCPart
open PySem PySem.W PyProof.Rows PySem.Calls PySem.Spec
set_option maxHeartbeats 2000000
namespace Mine
/-- how a zip of two lists stands before turn i -/
def ZSt (z TI TO i1 i2 l1 l2 : Addr) (xs ys : Array Value) (i : Nat) (h : Heap) : Prop :=
  IsZip h z TI TO .none ∧ IsPair h TI (.ref i1) (.ref i2) ∧ (∃ a b, IsPair h TO a b) ∧ h.IsListIter i1 l1 i ∧ h.IsListIter i2 l2 i ∧ h.IsList l1 xs ∧ h.IsList l2 ys
theorem frBut {h₀ h h' : Heap} {L : Addr} {wr : List Addr} {m : Str → Option Value} (F : Fr h₀ L h m) (hk : ∀ b o, b ∉ wr → h.get? b = some o → h'.get? b = some o) (hL : L ∉ wr) (hw : ∀ b ∈ wr, h₀.get? b = none) : Fr h₀ L h' m :=
  ⟨F.ns.at' fun o e => hk L o hL e, fun b o e => hk b o (fun hm => by rw [hw b hm] at e; cases e) (F.keep b o e), F.above⟩
theorem newsBut {h₀ h h' : Heap} {L : Addr} {wr : List Addr} {news : List (Addr × Obj)} (N : News h₀ L h news) (hk : ∀ b o, b ∉ wr → h.get? b = some o → h'.get? b = some o) (off : ∀ p ∈ news, p.1 ∉ wr) : News h₀ L h' news :=
  fun p hp => ⟨hk _ _ (off p hp) (N p hp).1, (N p hp).2⟩
theorem off1_of {D : Addr} : ∀ {l : List (Addr × Obj)}, (∀ p ∈ l, p.1 ≠ D) → LCg.Off1 D l
  | [], _ => trivial
  | p :: r, h => ⟨h p List.mem_cons_self, off1_of fun q hq => h q (List.mem_cons_of_mem _ hq)⟩
def ZTurn (prog : Program) (w : World) (A : Around) (h₀ : Heap) (L : Addr) (m : Str → Option Value) (env : Env) (elt : Expr) (x x₂ : Str) (scope : Scope) (cl : List (Str × Addr)) (s₂ : Shared) (z TI TO i1 i2 : Addr) (xs ys : Array Value) (news : List (Addr × Obj)) (g : Nat → Int) : Prop :=
  ∀ i v₁ v₂ oz oI oO o1 o2 C oC D ks m₂ h tk (E' : Value → Shared → Prop), xs[i]? = some v₁ → ys[i]? = some v₂ → i < xs.size → LCg.NsObj oC m₂ → m₂ x = some v₁ → m₂ x₂ = some v₂ → Fr h₀ L h m →
      News h₀ L h ((z, oz) :: (TI, oI) :: (TO, oO) :: (i1, o1) :: (i2, o2) :: (C, oC) :: (D, LCg.lst ks) :: news) →
      wpAny (model prog w) A (eval elt (compEnvC scope cl C env)) (fun y s' => ∃ h' tk' t, s' = { s₂ with heap := h', toks := tk' } ∧ Fr h₀ L h' m ∧
        News h₀ L h' ((z, oz) :: (TI, oI) :: (TO, oO) :: (i1, o1) :: (i2, o2) :: (C, oC) :: (D, LCg.lst ks) :: news) ∧ y = .int (g i) t) E' { s₂ with heap := h, toks := tk }
section
variable {prog : Program} {w : World} {A : Around} {E : Value → Shared → Prop} {s : Shared} {h₀ : Heap} {L : Addr} {m : Str → Option Value} {env : Env}
theorem zip_block {elt iter : Expr} {x x₂ : Str} {px px₂ tp : Pos} {tk} {scope : Scope} {cl : List (Str × Addr)} {pos : Pos} {s₂ : Shared} {z TI TO i1 i2 l1 l2 : Addr} {xs ys : Array Value} {news : List (Addr × Obj)} {g : Nat → Int}
    {RR : Value → Addr → Result → Shared → Prop} (hh : A.handled = none) (AP : ZipApart z TI TO i1 i2 l1 l2) (hn : xs.size ≤ ys.size) (hsz : xs.size ≤ sizeLine)
    (hcell : ∀ y ∈ scope.names, y.2 ≠ .cell) (hkind : scope.kind = .function) (hx : scope.names.lookup x = some .local) (hx₂ : scope.names.lookup x₂ = some .local) (hxx : x ≠ x₂)
    (hst : ZSt z TI TO i1 i2 l1 l2 xs ys 0 s₂.heap) (hfp : ∀ b ∈ [z, TI, TO, i1, i2, l1, l2], b < s₂.heap.objs.size)
    (F : Fr h₀ L s₂.heap m) (N : News h₀ L s₂.heap news) (hL : L ∉ [z, TI, TO, i1, i2]) (hnew : ∀ b ∈ [z, TI, TO, i1, i2], h₀.get? b = none) (off : ∀ p ∈ news, p.1 ∉ [z, TI, TO, i1, i2])
    (m1 : ∃ o, (l1, o) ∈ news ∧ o.cls = .type "list" ∧ ∃ n, o.data = .seq xs n) (m2 : ∃ o, (l2, o) ∈ news ∧ o.cls = .type "list" ∧ ∃ n, o.data = .seq ys n)
    (turn : ZTurn prog w A h₀ L m env elt x x₂ scope cl s₂ z TI TO i1 i2 xs ys news g)
    (hRR : ∀ D C h tk m' ks, Fr h₀ L h m → News h₀ L h ((D, LCg.lst ks) :: news) → (∀ p ∈ news, p.1 ≠ D) → h.Ns C m' → h₀.get? C = none → h₀.get? D = none → C ≠ L → D ≠ L → C ≠ D → (∀ p ∈ news, p.1 ≠ C) → IntsAre ks ((List.range xs.size).map g) → RR (.ref D) C (.ok .next) { s₂ with heap := h, toks := tk }) :
    wpAny (model prog w) A (newList []) (fun acc s₃ => wpAny (model prog w) A (newFunctionEnv scope env.globals cl [] env.qual none .none (some env)) (fun cenv s₄ =>
      codeAny (model prog w) A (.compStart (.ListComp elt [⟨.Tuple [.Name x px, .Name x₂ px₂] tk tp, iter, [], 0⟩] scope pos) 0 (.ref z) acc { cenv with scope := relabel scope env }) (RR acc cenv.locals) s₄) E s₃) E s₂ := by
  have W := WalksT.zip2 (prog := prog) (w := w) hh z TI TO i1 i2 l1 l2 AP xs ys
  have hmin : min xs.size ys.size = xs.size := by omega
  rw [hmin] at W
  refine wpAny_newObj_type (wpAny_newFunctionEnv hcell (by intro y hy; simp at hy) (fun h₁ hns₁ hsb₁ => ?_) hkind)
  dsimp only at hns₁ hsb₁ ⊢
  generalize hH2 : s₂.heap.push { cls := .type "list", dict := none, data := .seq ([] : List Value).toArray } = H2 at hns₁ hsb₁ ⊢
  generalize hD : s₂.heap.objs.size = D at *
  have hCs : H2.objs.size = D + 1 := by rw [← hH2, Heap.size_push, hD]
  generalize hC : H2.objs.size = C at *
  have hDC : D ≠ C := by omega
  have below : ∀ b, b < D → b ≠ C ∧ b ≠ D := fun b hb => ⟨by omega, by omega⟩
  have old : ∀ b o, s₂.heap.get? b = some o → h₁.get? b = some o := fun b o e => hsb₁.extBut b o (below b (hD ▸ Heap.lt_size e)).1 (Heap.get?_push_of_some _ (hH2 ▸ Heap.get?_push_of_some _ e))
  have hacc : h₁.get? D = some (LCg.lst []) := hsb₁.extBut _ _ hDC (Heap.get?_push_of_some _ (by rw [← hH2, ← hD]; exact Heap.get?_push_size _ rfl))
  have fpC : ∀ b ∈ [z, TI, TO, i1, i2, l1, l2], b ≠ C ∧ b ≠ D := fun b hb => below b (hfp b hb)
  have sub5 : ∀ b ∈ [z, TI, TO, i1, i2], b ∈ [z, TI, TO, i1, i2, l1, l2] := by
    intro b hb
    simp only [List.mem_cons, List.not_mem_nil, or_false] at hb ⊢
    rcases hb with rfl | rfl | rfl | rfl | rfl <;> simp
  have wr5 : ∀ b ∈ [z, TO, i1, i2], b ∈ [z, TI, TO, i1, i2] := by
    intro b hb
    simp only [List.mem_cons, List.not_mem_nil, or_false] at hb ⊢
    rcases hb with rfl | rfl | rfl | rfl <;> simp
  have fresh₀ : ∀ a, D ≤ a → h₀.get? a = none := fun a ha => by
    cases e : h₀.get? a with
    | none => rfl
    | some o' => exact absurd (Heap.lt_size (F.keep a o' e)) (Nat.not_lt.mpr (hD ▸ ha))
  have hD₀ := fresh₀ D (Nat.le_refl _)
  have hC₀ := fresh₀ C (by omega)
  have hLlt : L < D := hD ▸ F.ns.lt
  have hDL : D ≠ L := Nat.ne_of_gt hLlt
  have hCL : C ≠ L := Nat.ne_of_gt (Nat.lt_trans hLlt (hCs ▸ Nat.lt_succ_self _))
  have offD : ∀ p ∈ news, p.1 ≠ D ∧ p.1 ≠ C := fun p hp => ⟨(below _ (hD ▸ Heap.lt_size (N p hp).1)).2, (below _ (hD ▸ Heap.lt_size (N p hp).1)).1⟩
  have hst₁ : ZSt z TI TO i1 i2 l1 l2 xs ys 0 h₁ := W.frame 0 _ _ hst fun b _ o e => old b o e
  have loop : ∀ s₃ : Shared, s₃ = { s₂ with heap := h₁, toks := s₂.toks + ([] : List (Str × Value)).length } →
      codeAny (model prog w) A (.compLoop (.ListComp elt [⟨.Tuple [.Name x px, .Name x₂ px₂] tk tp, iter, [], 0⟩] scope pos) 0 (.ref z) (.ref D) (compEnvC scope cl C env)) (RR (.ref D) C) s₃ := by
    rintro s₃ rfl
    refine LCp.codeAny_compLoop_pair
      (fun k s' => ∃ h' tk i ks m', s' = { s₂ with heap := h', toks := tk } ∧ i ≤ xs.size ∧ k = xs.size + 1 - i ∧ ks.length = i ∧ ZSt z TI TO i1 i2 l1 l2 xs ys i h' ∧ Fr h₀ L h' m ∧ h'.Ns C m' ∧ News h₀ L h' ((D, LCg.lst ks) :: news) ∧ IntsAre ks ((List.range i).map g)) ?_ (xs.size + 1)
      ⟨h₁, _, 0, [], _, rfl, Nat.zero_le _, rfl, rfl, hst₁, F.keeps old, hns₁, fun p hp => ?_, .nil⟩
    · rintro k s' ⟨h', tk', i, ks, m', rfl, hi, rfl, hkl, hst', F', hn', N', hks⟩
      have offW : ∀ p ∈ (D, LCg.lst ks) :: news, p.1 ∉ [z, TO, i1, i2] := by
        intro p hp hm
        rcases List.mem_cons.mp hp with rfl | hp
        · exact (fpC _ (sub5 _ (wr5 _ hm))).2 rfl
        · exact off p hp (wr5 _ hm)
      have hCW : C ∉ [z, TO, i1, i2] := fun hm => (fpC _ (sub5 _ (wr5 _ hm))).1 rfl
      have hLW : L ∉ [z, TO, i1, i2] := fun hm => hL (wr5 _ hm)
      have hnW : ∀ b ∈ [z, TO, i1, i2], h₀.get? b = none := fun b hb => hnew b (wr5 _ hb)
      by_cases hlt : i < xs.size
      · refine W.item i _ _ _ hlt hst' fun T vals h₂ tk₂ hPv hTge hT hMid hk₂ => ?_
        obtain ⟨v₁, v₂, hv₁, hv₂, rfl⟩ := hPv
        refine W.go _ _ _ i T _ _ _ hMid fun h₄ hst₄ hk₄ => ?_
        have hTw : T ∉ [z, TO, i1, i2] := W.apart i T h₂ hMid
        have hT₄ : IsTup h₄ T #[v₁, v₂] := by
          obtain ⟨oT, eT, cT, nT, dT⟩ := hT
          exact ⟨oT, hk₄ T oT hTw eT, cT, nT, dT⟩
        have k24 : ∀ b o, b ∉ [z, TO, i1, i2] → h'.get? b = some o → h₄.get? b = some o := fun b o hb e => hk₄ b o hb (hk₂ b o hb e)
        refine assign_Tuple_tuple hh hT₄ rfl rfl fun h₅ he => ?_
        have he' : ∀ b o, h₄.get? b = some o → h₅.get? b = some o := fun b o e => he b o (Nat.ne_of_lt (Heap.lt_size e)) e
        have hn5 : h₅.Ns C m' := (hn'.at' fun o e => k24 _ o hCW e).at' fun o e => he' _ o e
        refine assignInOrder_cons (wpAny_assign_Name (wpAny_storeName_local (lookup_relabel_local hx) hn5 (fun h₆ hn₆ hs₆ => ?_) (by simp [compEnvC, relabel, hkind])))
        refine assignInOrder_cons (wpAny_assign_Name (wpAny_storeName_local (lookup_relabel_local hx₂) hn₆ (fun h₃ hn₃ hs₃ => ?_) (by simp [compEnvC, relabel, hkind])))
        refine assignInOrder_nil ?_
        have old3 : ∀ b o, b ≠ C → h₄.get? b = some o → h₃.get? b = some o := fun b o hb e => hs₃.extBut b o hb (hs₆.extBut b o hb (he' b o e))
        have hst₃ : ZSt z TI TO i1 i2 l1 l2 xs ys (i + 1) h₃ := W.frame _ _ _ hst₄ fun b hb o e => old3 b o (fpC b hb).1 e
        obtain ⟨hz3, hTI3, ⟨a3, b3, hTO3⟩, hi13, hi23, hl13, hl23⟩ := hst₃
        obtain ⟨o1, e1, d1, f1⟩ := id hi13
        obtain ⟨o2, e2, d2, f2⟩ := id hi23
        obtain ⟨oC, heC, hoC⟩ := LCg.ns_obj hn₃
        have F₃ : Fr h₀ L h₃ m := (((frBut F' k24 hLW hnW).keeps he').change hs₆ hCL hC₀).change hs₃ hCL hC₀
        have N₄ : News h₀ L h₄ ((D, LCg.lst ks) :: news) := newsBut N' k24 offW
        have nw : ∀ b ∈ [z, TI, TO, i1, i2], b ≠ L ∧ h₀.get? b = none := fun b hb => ⟨fun e => hL (e ▸ hb), hnew b hb⟩
        have N₃ : News h₀ L h₃ ((z, _) :: (TI, _) :: (TO, _) :: (i1, o1) :: (i2, o2) :: (C, oC) :: (D, LCg.lst ks) :: news) := fun p hp => by
          simp only [List.mem_cons] at hp
          rcases hp with rfl | rfl | rfl | rfl | rfl | rfl | rfl | hp
          · exact ⟨hz3, nw _ (by simp)⟩
          · exact ⟨hTI3, nw _ (by simp)⟩
          · exact ⟨hTO3, nw _ (by simp)⟩
          · exact ⟨e1, nw _ (by simp)⟩
          · exact ⟨e2, nw _ (by simp)⟩
          · exact ⟨heC, hCL, hC₀⟩
          · exact ⟨old3 _ _ hDC (N₄ _ List.mem_cons_self).1, hDL, hD₀⟩
          · have q := N₄ p (List.mem_cons_of_mem _ hp)
            exact ⟨old3 _ _ (offD p hp).2 q.1, q.2⟩
        refine wpAny_mono (turn i v₁ v₂ _ _ _ o1 o2 C oC D ks _ h₃ _ _ hv₁ hv₂ hlt hoC (by simp [hxx]) (by simp) F₃ N₃) (fun y s₄ h₄' => ?_) fun _ _ e => e
        obtain ⟨h₆', tk₆, t, rfl, F₆, N₆, rfl⟩ := h₄'
        have g6 : ∀ p ∈ (z, _) :: (TI, _) :: (TO, _) :: (i1, o1) :: (i2, o2) :: (C, oC) :: (D, LCg.lst ks) :: news, h₆'.get? p.1 = some p.2 := fun p hp => (N₆ p hp).1
        have N₆n : News h₀ L h₆' ((D, LCg.lst ks) :: news) := fun p hp => N₆ p (by
          iterate 6 refine List.mem_cons_of_mem _ ?_
          exact hp)
        have zD := (N₆n _ List.mem_cons_self).1
        have zC : h₆'.get? C = some oC := g6 (C, oC) (by simp)
        have hst₆ : ZSt z TI TO i1 i2 l1 l2 xs ys (i + 1) h₆' := by
          refine ⟨g6 (z, _) (by simp), g6 (TI, _) (by simp), ⟨a3, b3, g6 (TO, _) (by simp)⟩, ⟨o1, g6 (i1, o1) (by simp), d1, f1⟩, ⟨o2, g6 (i2, o2) (by simp), d2, f2⟩, ?_, ?_⟩
          · obtain ⟨o, hm, c, n, d⟩ := m1
            exact ⟨o, (N₆n _ (List.mem_cons_of_mem _ hm)).1, c, n, d⟩
          · obtain ⟨o, hm, c, n, d⟩ := m2
            exact ⟨o, (N₆n _ (List.mem_cons_of_mem _ hm)).1, c, n, d⟩
        refine append_at (hsz := by show ks.toArray.size ≤ sizeLine; rw [List.size_toArray, hkl]; exact Nat.le_trans hi hsz) zD fun h₇ hs₇ hD₇ => ?_
        refine ⟨xs.size + 1 - (i + 1), by omega, h₇, tk₆, i + 1, ks ++ [.int (g i) t], _, rfl, hlt, rfl, by rw [List.length_append, List.length_singleton, hkl], W.frame _ _ _ hst₆ fun b hb o e => hs₇.extBut b o (fpC b hb).2 e, F₆.change hs₇ hDL hD₀,
          (hoC.ns zC).sameBut hs₇ (Ne.symm hDC), fun p hp => ?_, ?_⟩
        · rcases List.mem_cons.mp hp with rfl | hp
          · exact ⟨hD₇.trans (congrArg some (LCg.lst_snoc ks _)), hDL, hD₀⟩
          · exact ⟨hs₇.extBut _ _ (offD p hp).1 (N₆n p (List.mem_cons_of_mem _ hp)).1, (N₆n p (List.mem_cons_of_mem _ hp)).2⟩
        · rw [List.range_succ, List.map_append]
          exact ints_snoc hks
      · obtain rfl : i = xs.size := Nat.le_antisymm hi (Nat.not_lt.mp hlt)
        refine W.done _ _ _ hst' fun h₂ tk₂ hk₂ => ?_
        exact hRR _ _ h₂ tk₂ _ ks (frBut F' hk₂ hLW hnW) (newsBut N' hk₂ offW) (fun p hp => (offD p hp).1) (hn'.at' fun o e => hk₂ _ o hCW e) hC₀ hD₀ hCL hDL (Ne.symm hDC) (fun p hp => (offD p hp).2) hks
    · rcases List.mem_cons.mp hp with rfl | hp
      · exact ⟨hacc, hDL, hD₀⟩
      · exact ⟨old _ _ (N p hp).1, (N p hp).2⟩
  exact codeAny_compStart_list (loop _ rfl) (W.self 0 _ _ _ hst₁ (loop _ rfl))
end
def SrcZ (prog : Program) (w : World) (A : Around) (h₀ : Heap) (L : Addr) (m : Str → Option Value) (env : Env) (elt : Expr) (x x₂ : Str) (scope : Scope) (cl : List (Str × Addr)) (y : Str) (Q : Flow → Shared → Prop) (xv : Value) (s₂ : Shared) : Prop :=
  ∃ (z TI TO i1 i2 l1 l2 : Addr) (xs ys : Array Value) (news : List (Addr × Obj)) (g : Nat → Int), xv = .ref z ∧ A.handled = none ∧ ZipApart z TI TO i1 i2 l1 l2 ∧ xs.size ≤ ys.size ∧ xs.size ≤ sizeLine ∧
    ZSt z TI TO i1 i2 l1 l2 xs ys 0 s₂.heap ∧ (∀ b ∈ [z, TI, TO, i1, i2, l1, l2], b < s₂.heap.objs.size) ∧ Fr h₀ L s₂.heap m ∧ News h₀ L s₂.heap news ∧ L ∉ [z, TI, TO, i1, i2] ∧ (∀ b ∈ [z, TI, TO, i1, i2], h₀.get? b = none) ∧ (∀ p ∈ news, p.1 ∉ [z, TI, TO, i1, i2]) ∧
    (∃ o, (l1, o) ∈ news ∧ o.cls = .type "list" ∧ ∃ n, o.data = .seq xs n) ∧ (∃ o, (l2, o) ∈ news ∧ o.cls = .type "list" ∧ ∃ n, o.data = .seq ys n) ∧
    ZTurn prog w A h₀ L m env elt x x₂ scope cl s₂ z TI TO i1 i2 xs ys news g ∧ ∀ ks, IntsAre ks ((List.range xs.size).map g) → LCg.FinA h₀ L m s₂ y Q ks news
section
variable {prog : Program} {w : World} {A : Around} {E : Value → Shared → Prop} {s : Shared} {h₀ : Heap} {L : Addr} {m : Str → Option Value} {env : Env}
theorem Assign_zip {elt iter : Expr} {x x₂ y : Str} {px px₂ tp py : Pos} {tk} {scope : Scope} {cl : List (Str × Addr)} {pos spos : Pos} {Q : Flow → Shared → Prop} (F₀ : Fr h₀ L s.heap m) (hLe : env.locals = L)
    (hsw : swapsWith (.ListComp elt [⟨.Tuple [.Name x px, .Name x₂ px₂] tk tp, iter, [], 0⟩] scope pos) (some (.Name y py)) spos.line env = pure true)
    (hclos : closureFor scope env = pure cl) (hcell : ∀ z ∈ scope.names, z.2 ≠ .cell) (hkind : scope.kind = .function)
    (hnames : ∀ z ∈ scope.names, z.2 = .local → scope.names.lookup z.1 = some .local) (hx : scope.names.lookup x = some .local) (hx₂ : scope.names.lookup x₂ = some .local) (hxx : x ≠ x₂)
    (hy : env.kindOf y = some .local) (hp : (env.scope.kind == .class || (env.scope.kind == .module && env.locals != env.globals)) = false)
    (h : wpAny (model prog w) A (eval iter env) (SrcZ prog w A h₀ L m env elt x x₂ scope cl y Q) E s)
    (hs : ∀ x, foldedSetIterable iter env x = pure x := by intro _; rfl) :
    wpAny (model prog w) A (exec (.Assign [.Name y py] (.ListComp elt [⟨.Tuple [.Name x px, .Name x₂ px₂] tk tp, iter, [], 0⟩] scope pos) spos) env) Q E s := by
  subst hLe
  rw [exec_Assign_Name_used _ _ _ _ hsw]
  refine wpAny_bind (wpAny_standAt (wpAny_bind ?_))
  show wpAny _ A (do let _ ← comprehension (.ListComp elt [⟨.Tuple [.Name x px, .Name x₂ px₂] tk tp, iter, [], 0⟩] scope pos) scope env _ (newList []) false (eval iter env) (some (assign (.Name y py) env))) _ _ s
  refine wpAny_bind (wpAny_mono (wpAny_comprehension_free (use := some (assign (.Name y py) env)) (Q := fun _ s' => Q .next s') rfl hs hclos hkind hnames
    (wpAny_mono h (fun xv s₁ h₁ => ?_) fun _ _ e => e)) (fun _ s' hq => wpAny_pure (wpAny_pure hq)) fun _ _ e => e)
  obtain ⟨z, TI, TO, i1, i2, l1, l2, xs, ys, news, g, rfl, hh, AP, hn, hsz, hst, hfp, F, N, hL, hnew, off, m1, m2, turn, fin⟩ := h₁
  refine wpAny_pyIter_zip hst.1 ?_
  refine zip_block hh AP hn hsz hcell hkind hx hx₂ hxx hst hfp F N hL hnew off m1 m2 turn ?_
  intro D C h' tk' m' ks F' N' offD hnC hC₀ hD₀ hCL hDL hCD offC hks
  show wpAny _ A (assign (.Name y py) env (.ref D)) _ _ _
  refine wpAny_assign_Name (wpAny_storeName_local hy F'.ns (fun h₂ hn₂ hs₂ => ?_) hp)
  have hL₀ : h₀.get? env.locals = none := Heap.get?_none_of_le F'.above
  have F₂ : Fr h₀ env.locals h₂ (fun z => if z = y then some (.ref D) else m z) := ⟨hn₂, fun b o e => hs₂.extBut b o (fun q => by rw [q, hL₀] at e; cases e) (F'.keep b o e), F'.above⟩
  have N₂ : News h₀ env.locals h₂ ((D, LCg.lst ks) :: news) := fun p hp => ⟨hs₂.extBut _ _ (N' p hp).2.1 (N' p hp).1, (N' p hp).2⟩
  refine ⟨m', hnC.sameBut hs₂ hCL, fun h'' hs'' => fin ks hks D h'' _ (F₂.change hs'' hCL hC₀) (fun p hp => ?_) (off1_of offD)⟩
  refine ⟨hs''.extBut _ _ ?_ (N₂ p hp).1, (N₂ p hp).2⟩
  rcases List.mem_cons.mp hp with rfl | hp
  · exact Ne.symm hCD
  · exact offC p hp
theorem zip_src {elt : Expr} {x x₂ y : Str} {scope : Scope} {cl : List (Str × Addr)} {Q : Flow → Shared → Prop} {l1 l2 : Addr} {o1 o2 : Obj} {xs ys : Array Value} {n1 n2 : Nat} {news : List (Addr × Obj)} (g : Nat → Int)
    (hh : A.handled = none) (F : Fr h₀ L s.heap m) (N : News h₀ L s.heap news) (m1 : (l1, o1) ∈ news) (m2 : (l2, o2) ∈ news) (c1 : o1.cls = .type "list") (c2 : o2.cls = .type "list") (d1 : o1.data = .seq xs n1) (d2 : o2.data = .seq ys n2) (hn : xs.size ≤ ys.size) (hsz : xs.size ≤ sizeLine)
    (turn : ∀ z TI TO i1 i2 h', ZTurn prog w A h₀ L m env elt x x₂ scope cl { s with heap := h' } z TI TO i1 i2 xs ys news g)
    (fin : ∀ ks h', IntsAre ks ((List.range xs.size).map g) → LCg.FinA h₀ L m { s with heap := h' } y Q ks news) :
    wpAny (model prog w) A (call (.type "zip") [.ref l1, .ref l2]) (SrcZ prog w A h₀ L m env elt x x₂ scope cl y Q) E s := by
  have e1 := (N _ m1).1
  have e2 := (N _ m2).1
  have b1 : @LT.lt Nat _ l1 s.heap.objs.size := Heap.lt_size e1
  have b2 : @LT.lt Nat _ l2 s.heap.objs.size := Heap.lt_size e2
  have hL1 : @LT.lt Nat _ L s.heap.objs.size := F.ns.lt
  refine call_zip_2 (xs := xs) (ys := ys) ⟨o1, e1, c1, n1, d1⟩ ⟨o2, e2, c2, n2, d2⟩ fun h' hz hTI hTO hi1 hi2 hs hk => ?_
  have big : ∀ b ∈ [s.heap.objs.size + 4, s.heap.objs.size + 2, s.heap.objs.size + 3, s.heap.objs.size, s.heap.objs.size + 1], s.heap.objs.size ≤ b ∧ b < s.heap.objs.size + 5 := by
    intro b hb
    simp only [List.mem_cons, List.not_mem_nil, or_false] at hb
    rcases hb with rfl | rfl | rfl | rfl | rfl <;> omega
  refine ⟨_, _, _, _, _, l1, l2, xs, ys, news, g, rfl, hh, ?_, hn, hsz, ⟨hz, hTI, ⟨_, _, hTO⟩, hi1, hi2, ⟨o1, hk _ _ e1, c1, n1, d1⟩, ⟨o2, hk _ _ e2, c2, n2, d2⟩⟩, ?_, F.keeps hk, N.grown hk, ?_, ?_, ?_, ⟨o1, m1, c1, n1, d1⟩, ⟨o2, m2, c2, n2, d2⟩, turn _ _ _ _ _ h', fun ks hks => fin ks h' hks⟩
  · constructor <;> exact fun (e : @Eq Nat _ _) => by omega
  · intro b hb
    show b < h'.objs.size
    rw [hs]
    simp only [List.mem_cons, List.not_mem_nil, or_false] at hb
    rcases hb with rfl | rfl | rfl | rfl | rfl | rfl | rfl
    · exact Nat.lt_succ_self _
    · exact (big _ (by simp)).2
    · exact (big _ (by simp)).2
    · exact (big _ (by simp)).2
    · exact (big _ (by simp)).2
    · exact Nat.lt_of_lt_of_le b1 (Nat.le_add_right _ _)
    · exact Nat.lt_of_lt_of_le b2 (Nat.le_add_right _ _)
  · exact fun hm => absurd (big _ hm).1 (Nat.not_le.mpr hL1)
  · intro b hb
    cases e : h₀.get? b with
    | none => rfl
    | some o' => exact absurd (Heap.lt_size (F.keep b o' e)) (Nat.not_lt.mpr (big _ hb).1)
  · exact fun p hp hm => absurd (big _ hm).1 (Nat.not_le.mpr (Heap.lt_size (N p hp).1))
end
end Mine
end ZipCPart
section ZlawPart
open PySem PySem.W PyProof.Rows PySem.Calls
namespace Mine
theorem starts_at {ns : List Int} {i : Nat} {k : Int} (h : (startsL ns)[i]? = some k) : i < ns.length ∧ k = offs ns i := by
  rw [List.getElem?_map] at h
  by_cases hi : i < ns.length
  · rw [List.getElem?_range hi] at h
    exact ⟨hi, (Option.some.inj h).symm⟩
  · rw [List.getElem?_eq_none (by rw [List.length_range]; omega)] at h
    cases h
theorem starts_get {ns : List Int} {ys : List Value} {i : Nat} {v : Value} (hy : IntsAre ys (startsL ns)) (h : ys.toArray[i]? = some v) : ∃ t, v = .int (offs ns i) t := by
  obtain ⟨k, t, e, hk⟩ := IntsAre.at hy i v (by simpa using h)
  exact ⟨t, by rw [e, (starts_at hk).2]⟩
theorem ends_get {ns : List Int} {ws : List Value} {i : Nat} {v : Value} {e : Int} (he : e = ((lineL ns).length : Int)) (hw : IntsAre ws ((startsL ns).drop (Int.toNat 1) ++ [e])) (h : ws.toArray[i]? = some v) (hi : i < ns.length) : ∃ t, v = .int (offs ns (i + 1)) t := by
  obtain ⟨k, t, ev, hk⟩ := IntsAre.at hw i v (by simpa using h)
  refine ⟨t, ?_⟩
  rw [ev]
  have hl : ((startsL ns).drop (Int.toNat 1)).length = ns.length - 1 := by simp
  have q : k = offs ns (i + 1) := by
    by_cases h1 : i < ns.length - 1
    · rw [List.getElem?_append_left (by omega), List.getElem?_drop] at hk
      have := (starts_at hk).2
      rw [this]
      congr 1
      show 1 + i = i + 1
      omega
    · have e1 : i = ns.length - 1 := by omega
      rw [List.getElem?_append_right (by omega), hl, e1, Nat.sub_self] at hk
      have e2 : e = k := Option.some.inj hk
      rw [← e2, he, ← offs_end ns]
      congr 1
      omega
  rw [q]
theorem zip_sizes {ns : List Int} {ys ws : List Value} {e : Int} (hy : IntsAre ys (startsL ns)) (hw : IntsAre ws ((startsL ns).drop (Int.toNat 1) ++ [e])) : ys.toArray.size ≤ ws.toArray.size := by
  rw [List.size_toArray, List.size_toArray, hy.length, hw.length]
  simp
  omega
theorem zip_room {ns : List Int} {ys : List Value} (hy : IntsAre ys (startsL ns)) (h : ns.length ≤ 20) : ys.toArray.size ≤ sizeLine := by
  rw [List.size_toArray, hy.length, List.length_map, List.length_range, sizeLine_eq]
  omega
theorem range_getD : ∀ (ns : List Int), (List.range ns.length).map (fun i => ns.getD i 0) = ns
  | [] => rfl
  | n :: r => by
    rw [List.length_cons, List.range_succ_eq_map, List.map_cons, List.map_map]
    show n :: _ = n :: r
    congr 1
    exact range_getD r
theorem again_is {ns : List Int} {ys ks : List Value} (hy : IntsAre ys (startsL ns)) (hk : IntsAre ks ((List.range ys.toArray.size).map fun i => ns.getD i 0)) : IntsAre ks ns := by
  rw [List.size_toArray, hy.length, List.length_map, List.length_range, range_getD] at hk
  exact hk
theorem at_getD {ns : List Int} {i : Nat} (h : i < ns.length) : ns[i]? = some (ns.getD i 0) := by
  rw [List.getD_eq_getElem?_getD, List.getElem?_eq_getElem h]
  rfl
theorem cut_turn {ns : List Int} {ys ws : List Value} {i : Nat} {v₁ v₂ : Value} {e : Int} (hb : ∀ x : Int, x ∈ ns → 0 ≤ x ∧ x < 2147483648) (he : e = ((lineL ns).length : Int)) (hy : IntsAre ys (startsL ns)) (hw : IntsAre ws ((startsL ns).drop (Int.toNat 1) ++ [e])) (h1 : ys.toArray[i]? = some v₁) (h2 : ws.toArray[i]? = some v₂) (hi : i < ys.toArray.size) :
    ∃ n t₁ t₂ hv, v₁ = .int (offs ns i) t₁ ∧ v₂ = .int hv t₂ ∧ hv = offs ns i + ((encL n).length : Int) ∧ ns[i]? = some n ∧ ns.getD i 0 = n ∧ 0 ≤ n ∧ n < 2147483648 := by
  rw [List.size_toArray, hy.length, List.length_map, List.length_range] at hi
  obtain ⟨t₁, e1⟩ := starts_get hy h1
  obtain ⟨t₂, e2⟩ := ends_get he hw h2 hi
  have hn := at_getD hi
  have hr := hb _ (List.mem_of_getElem? hn)
  exact ⟨_, t₁, t₂, _, e1, e2, offs_succ hn, hn, rfl, hr.1, hr.2⟩
end Mine
end ZlawPart
section EncodePart
open PySem PySem.W PyProof.Rows PySem.Calls PySem.Builtin
namespace Mine
theorem utf8_enc {n : Int} (h0 : 0 ≤ n) (h1 : n < 1114112) : (Str.utf8Of n.toNat).toArray = enc n := by
  unfold Str.utf8Of enc encL
  have e : ∀ {a b : Nat}, a = b → a.toUInt8 = b.toUInt8 := fun h => by rw [h]
  by_cases a0 : n < 128
  · have b0 : n.toNat < 128 := by omega
    simp only [a0, b0, if_true, List.map_cons, List.map_nil]
  have b0 : ¬ n.toNat < 128 := by omega
  by_cases a1 : n < 2048
  · have b1 : n.toNat < 2048 := by omega
    simp only [a0, a1, b0, b1, if_true, if_false, List.map_cons, List.map_nil]
    rw [e (show 192 + n.toNat / 64 = (192 + n / 64).toNat by omega), e (show 128 + n.toNat % 64 = (128 + n % 64).toNat by omega)]
  have b1 : ¬ n.toNat < 2048 := by omega
  by_cases a2 : n < 65536
  · have b2 : n.toNat < 65536 := by omega
    simp only [a0, a1, a2, b0, b1, b2, if_true, if_false, List.map_cons, List.map_nil]
    rw [e (show 224 + n.toNat / 4096 = (224 + n / 4096).toNat by omega), e (show 128 + n.toNat / 64 % 64 = (128 + n / 64 % 64).toNat by omega), e (show 128 + n.toNat % 64 = (128 + n % 64).toNat by omega)]
  have b2 : ¬ n.toNat < 65536 := by omega
  have a3 : n < 2097152 := by omega
  simp only [a0, a1, a2, a3, b0, b1, b2, if_true, if_false, List.map_cons, List.map_nil]
  rw [e (show 240 + n.toNat / 262144 = (240 + n / 262144).toNat by omega), e (show 128 + n.toNat / 4096 % 64 = (128 + n / 4096 % 64).toNat by omega), e (show 128 + n.toNat / 64 % 64 = (128 + n / 64 % 64).toNat by omega), e (show 128 + n.toNat % 64 = (128 + n % 64).toNat by omega)]
open Builtin._codecs in
theorem narrow_one {id : String} {self : Value} {c : Nat} (h : Str.isSurrogate c = false) : encodeNarrow id utf8Codec none self ⟨#[c]⟩ = pure (Str.utf8Of c).toArray := by
  unfold encodeNarrow
  have hl : Str.length ⟨#[c]⟩ = 1 := rfl
  rw [hl]
  simp [utf8Codec, h, Std.Legacy.Range.forIn_eq_forIn_range', Std.Legacy.Range.size, List.range'_succ]
theorem codec_utf8 {u : Tok} : Builtin.Str.codecArg "str.encode" "encode" "'encoding'" (some (.str (Str.ofString "utf-8") u)) = pure (some (Str.ofString "utf-8")) := by
  first | rfl | kernel_rfl
theorem encode_one {c : Nat} {t u : Tok} : «str.encode» ⟨[.str ⟨#[c]⟩ t, .str (Str.ofString "utf-8") u], []⟩ = (do ret (← _codecs.encodeRoad "str.encode" (.str ⟨#[c]⟩ t) ⟨#[c]⟩ (Str.ofString "utf-8") none)) := by
  first | kernel_rfl | (show (Builtin.Str.codecArg "str.encode" "encode" "'encoding'" (some (.str (Str.ofString "utf-8") u)) >>= fun r => _) = _; rw [codec_utf8]; rfl)
section
variable {prog : Program} {w : World} {A : Around} {E : Value → Shared → Prop} {s : Shared}
theorem gives_encode {c : Nat} {t u : Tok} (h : Str.isSurrogate c = false) : Gives («str.encode» ⟨[.str ⟨#[c]⟩ t, .str (Str.ofString "utf-8") u], []⟩) (.bytes (Str.utf8Of c).toArray) := by
  rw [encode_one, encodeRoad_utf8, narrow_one h]
  exact .of_eq rfl
theorem encode_use {n : Int} {t u : Tok} {Q : Value → Shared → Prop} (h0 : 0 ≤ n) (h1 : n < 1114112) (hs : n < 55296 ∨ n > 57343) (h : ∀ t' k, Q (.bytes (enc n) t') { s with toks := k }) :
    wpAny (model prog w) A (call (.builtin "str.encode") [.str ⟨#[n.toNat]⟩ t, .str (Str.ofString "utf-8") u]) Q E s := by
  have hsur : Str.isSurrogate n.toNat = false := by
    unfold Str.isSurrogate
    rcases hs with hs | hs
    · rw [decide_eq_false (show ¬ 55296 ≤ n.toNat by omega)]; rfl
    · rw [decide_eq_false (show ¬ n.toNat ≤ 57343 by omega), Bool.and_false]
  refine wpAny_call_entry F.slot_str_encode (typeIs_str s _ t) F.entry_str_encode ?_ (F.args_str_encode_2 _ _)
  rw [encode_one, encodeRoad_utf8, narrow_one hsur, utf8_enc h0 h1]
  have hz : (enc n).size ≤ sizeLine := by
    rw [← KBw.ints_length, bInts_enc h0 (by omega), sizeLine_eq]
    unfold encL
    (repeat' split) <;> simp
  refine wpAny_bind ?_
  show wpAny _ _ (mkBytes (enc n)) _ _ _
  exact wpAny_mkBytes (wpAny_pure ⟨_, rfl, h _ _⟩) hz
theorem method_str {M : Model} {pl : Sem Bool} {Q : Value × List Value → Shared → Prop} {name : PySem.Str} {id : String} (v : Value) (hT : s.TypeIs v "str") (slot : Slot "str" name id) (ty : typeOf (.builtin id) = pure (.type "method_descriptor"))
    (hd : ∀ a, v = .ref a → ∃ o, s.heap.get? a = some o ∧ o.dict = none) (h : Q (.builtin id, [v]) s) : wpAny M A (getMethod v name pl) Q E s :=
  getMethod_builtin hT F.plainAttrs_str slot ty hd h
theorem encode_method {M : Model} {x : Str} {t : Tok} {pl : Sem Bool} {Q : Value × List Value → Shared → Prop} (h : Q (.builtin "str.encode", [.str x t]) s) : wpAny M A (getMethod (.str x t) "encode" pl) Q E s := by
  with_reducible exact method_str (.str x t) (typeIs_str _ _ _) F.slot_str_encode F.type_str_encode (fun _ e => nomatch e) h
theorem row_item {value slice : PySem.Expr} {l : Addr} {vs : List Value} {u : Tok} {Q : Value → Shared → Prop} {bs : List (Array UInt8)} {b : Array UInt8} {k : Int} (hl : s.heap.IsList l vs.toArray) (hi : BytesAre vs bs) (h0 : 0 ≤ k ∧ k < 1000) (hk : bs[k.toNat]? = some b) (h : ∀ t, Q (.bytes b t) s)
    (hs : subscripted slice false (.ref l) (.int k u) = operate [.ref l, .int k u] (getItem (.ref l) (.int k u)) := by with_unfolding_all rfl) :
    wpAny (model prog w) A (subscriptTail value slice (.ref l) (.int k u)) Q E s := by
  obtain ⟨t, ht⟩ := hi.get hk
  exact tail_any hl.typeIs slot_list_getitem.lookup (wpAny_getItem_list hl h0.1 (by omega) (by simpa using ht) (h t)) hs
end
theorem turn_facts {ns : List Int} {kN : Int} {pre : List Int} (hb : ∀ x : Int, x ∈ ns → 0 ≤ x ∧ x < 2147483648) (hl : ns.length ≤ 20) (kEq : kN = 0 + (pre.length : Int)) (kLt : pre.length < ((ns.length : Int) - 0).toNat) :
    ∃ n, ns[kN.toNat]? = some n ∧ (ns.map enc)[kN.toNat]? = some (enc n) ∧ (0 ≤ n ∧ n < 2147483648) ∧ 0 ≤ kN ∧ kN < 20 := by
  have hlt : kN.toNat < ns.length := by omega
  have hn := at_getD hlt
  refine ⟨_, hn, ?_, hb _ (List.mem_of_getElem? hn), by omega, by omega⟩
  rw [List.getElem?_map, hn]
  rfl
theorem head_facts {n : Int} (h : 0 ≤ n ∧ n < 2147483648) {v k : Int} (hl : ((encL n).length : Int) = k) (h0 : (encL n)[0]? = some v) : ∃ r, KBw.bInts (enc n) = v :: r ∧ ((enc n).size : Int) = k ∧ r.length ≤ 6 := by
  have e := bInts_enc h.1 h.2
  have hz : (enc n).size = (encL n).length := by rw [← KBw.ints_length, e]
  have h6 : (encL n).length ≤ 6 := by
    unfold encL
    (repeat' split) <;> simp
  cases q : encL n with
  | nil => rw [q] at h0; cases h0
  | cons a r =>
    rw [q] at h0 h6 hl
    have : a = v := Option.some.inj h0
    refine ⟨r, by rw [e, q, this], by rw [hz, q]; exact hl, ?_⟩
    rw [List.length_cons] at h6
    omega
end Mine
end EncodePart
namespace Mine
section S1Part
set_option maxRecDepth 100000
set_option maxHeartbeats 8000000
noncomputable def S1 : (G : Prop) ×' (Hid G → PySem.Challenge.rw_fz0004_01.Holds) := by
  apply PSigma.mk
  · intro hGoal0
    refine hd ?_
    k_with "pyIter ref" => fail
    k_go0
    (all_goals try k_fold)
    repeat' (first | (fail_if_success (with_reducible show wpAny _ _ (pyIter _) _ _ _)); (first | (k_unfold; (try dsimp only)) | (k_end; wrow_close) | walk1 | (dsimp only; walk1) | (leave1; (try dsimp only)) | fail "no step"))
    rename_i q0 q1 q2 q3 q4 q5 q6 q7 q8 q9 q10 q11 q12 q13 q14 q15 q16 q17 q18 q19 q20 q21 q22 q23 q24 q25 q26 q27 q28 q29 q30 q31 q32 q33 q34 q35 q36 q37 q38 q39 q40 q41 q42 q43 q44 q45 q46 q47 q48 q49 q50 q51 q52 q53 q54 q55 q56 q57 q58 q59 q60 q61 q62 q63 q64 q65
    revert q0 q1 q2 q3 q4 q5 q6 q7 q8 q9 q10 q11 q12 q13 q14 q15 q16 q17 q18 q19 q20 q21 q22 q23 q24 q25 q26 q27 q28 q29 q30 q31 q32 q33 q34 q35 q36 q37 q38 q39 q40 q41 q42 q43 q44 q45 q46 q47 q48 q49 q50 q51 q52 q53 q54 q55 q56 q57 q58 q59 q60 q61 q62 q63 q64 q65 qk ek tk
    exact hGoal0.out
end S1Part
section S2Part
set_option maxRecDepth 100000
set_option maxHeartbeats 8000000
noncomputable def S2 : (G : Prop) ×' (G' : Prop) ×' (Hid G → Hid G' → PySem.Challenge.rw_fz0004_01.Holds) := by
  apply PSigma.mk
  · apply PSigma.mk
    · intro hGoal0 hGoal1
      refine S1.2 ⟨?_⟩
      intro w0
      revert w0
      k_fill
      intros
      k_state (fun pre numbers => numbers.length ≤ pre.length ∧ ∀ x ∈ numbers, 0 ≤ x ∧ x < 2147483648) "numbers"
      rename_i q0 q1 q2 q3 q4 q5 q6 q7 q8 q9 q10 q11 q12 q13 q14 q15 q16 q17 q18 q19 q20 q21 q22 q23 q24 q25 q26 q27 q28 q29 q30 q31 q32 q33 q34 q35 q36 q37 q38 q39 q40 q41 q42 q43 q44 q45 q46 q47 q48 q49 q50 q51 q52 q53 q54 q55 q56 q57 q58 q59 q60 q61 q62 q63 q64 q65 q66 q67 q68 q69 q70 q71 q72 q73 q74 q75
      revert q0 q1 q2 q3 q4 q5 q6 q7 q8 q9 q10 q11 q12 q13 q14 q15 q16 q17 q18 q19 q20 q21 q22 q23 q24 q25 q26 q27 q28 q29 q30 q31 q32 q33 q34 q35 q36 q37 q38 q39 q40 q41 q42 q43 q44 q45 q46 q47 q48 q49 q50 q51 q52 q53 q54 q55 q56 q57 q58 q59 q60 q61 q62 q63 q64 q65 q66 q67 q68 q69 q70 q71 q72 q73 q74 q75 kPre kPost kN kT kU kH kTk kOwn kEq kMem kFacts kFr kNews kMark kOff kLen
      exact hGoal0.out
      rename_i q0 q1 q2 q3 q4 q5 q6 q7 q8 q9 q10 q11 q12 q13 q14 q15 q16 q17 q18 q19 q20 q21 q22 q23 q24 q25 q26 q27 q28 q29 q30 q31 q32 q33 q34 q35 q36 q37 q38 q39 q40 q41 q42 q43 q44 q45 q46 q47 q48 q49 q50 q51 q52 q53 q54 q55 q56 q57 q58 q59 q60 q61 q62 q63 q64 q65 q66 q67 q68 q69 q70 q71 q72 q73 q74
      revert q0 q1 q2 q3 q4 q5 q6 q7 q8 q9 q10 q11 q12 q13 q14 q15 q16 q17 q18 q19 q20 q21 q22 q23 q24 q25 q26 q27 q28 q29 q30 q31 q32 q33 q34 q35 q36 q37 q38 q39 q40 q41 q42 q43 q44 q45 q46 q47 q48 q49 q50 q51 q52 q53 q54 q55 q56 q57 q58 q59 q60 q61 q62 q63 q64 q65 q66 q67 q68 q69 q70 q71 q72 q73 q74 kU kH kTk kFacts kFr kNews kMark kLen
      exact hGoal1.out
end S2Part
section S3Part
set_option maxRecDepth 100000
set_option maxHeartbeats 8000000
local macro_rules | `(tactic| walk_at "binaryOp Mod int int") => `(tactic| k_dflt (first | refine Mine.mod_lit (by with_reducible assumption) (by decide) ?_ | refine Mine.mod_by (by omega) ?_))
local macro_rules | `(tactic| walk_at "binaryOp FloorDiv int int") => `(tactic| k_dflt (refine Mine.div_by (by omega) ?_))
local macro_rules | `(tactic| walk_at "binaryOp Pow int int") => `(tactic| k_dflt (refine Mine.pow2_at (r := 1099511627776) 40 (by rfl) (by decide) (by decide) ?_))
local macro_rules | `(tactic| walk_at "call ref cons nil") => `(tactic| ((with_reducible show wpAny _ _ (call (Value.ref 21) _) _ _ _); k_dflt ((refine Mine.ucs_none_use (by k_asm) (by k_asm) (by k_asm) (by k_asm) (by k_asm) (by exact rfl) (by omega) (by ktr_room) (by ktr_units) ?_)); intro t9 h9 tk9 F9 N9; (try dsimp only); (try k_fold)))
local macro_rules | `(tactic| walk_at "callWith ref nil nil") => `(tactic| (k_dflt (refine callWith_K (by k_asm) (by k_is) ?_)))
local macro_rules | `(tactic| walk_at "call ref nil") => `(tactic| ((with_reducible show wpAny _ _ (call (Value.ref 28) _) _ _ _); k_dflt (refine Mine.ends_use (by k_asm) (by k_asm) (by k_asm) (by k_asm) (by k_asm) (by first | exact rfl | assumption) (by ktr_room) (by ktr_units) ?_); intro l9 vs9 h9 tk9 F9 N9 hi9 l1; (try k_lt l1); (try dsimp only); (try k_fold)))
local macro_rules | `(tactic| walk_at "subscriptTail Call Name nil nil Name ref int") => `(tactic| (k_dflt (refine Mine.ends_item (by k_asm) (by k_mem) (by with_reducible assumption) (by omega) (by rfl) ?_); intro _))
local macro_rules | `(tactic| walk_at "subscriptTail Call Name nil nil BinOp ref int") => `(tactic| (k_dflt (refine Mine.ends_item (by k_asm) (by k_mem) (by with_reducible assumption) (by omega) (by rfl) ?_); intro _))
local macro_rules | `(tactic| walk_at "InvEndN") => `(tactic| ((rename News _ _ _ _ => nE'); (try simp only [List.push_toArray] at nE'); k_dflt (refine kst_end ⟨_, _, _⟩ (by assumption) nE' (by first | kst_in | kst_inAny) (by first | (intro p hp; kst_mem) | kst_anyIn) (by rfl) (by kst_facts) (by kst_all) (by kst_same) (by kst_p))))
theorem my_state {pre ns : List Int} {n x : Int} (h1 : ns.length ≤ pre.length) (h2 : ∀ x, x ∈ ns → 0 ≤ x ∧ x < 2147483648) (h3 : 0 ≤ x ∧ x < 2147483648) :
    (ns ++ [x]).length ≤ (pre ++ [n]).length ∧ ∀ y, y ∈ ns ++ [x] → 0 ≤ y ∧ y < 2147483648 := by
  refine ⟨by simp only [List.length_append, List.length_cons]; omega, fun y hy => ?_⟩
  rcases List.mem_append.mp hy with hy | hy
  · exact h2 y hy
  · rw [List.mem_singleton.mp hy]; exact h3
theorem my_state0 {pre ns : List Int} {n : Int} (h1 : ns.length ≤ pre.length) (h2 : ∀ x, x ∈ ns → 0 ≤ x ∧ x < 2147483648) :
    ns.length ≤ (pre ++ [n]).length ∧ ∀ y, y ∈ ns → 0 ≤ y ∧ y < 2147483648 := ⟨by simp only [List.length_append, List.length_cons]; omega, h2⟩
theorem S3 : S2.1 := by
  intro w0
  revert w0
  k_fill
  k_with "state" => first | exact my_state0 (by assumption) (by assumption) | exact my_state (by assumption) (by assumption) (by omega)
  intros
  rename_i kN _ _ _ _ _ _ _ _ _ _ _ _ _ _ _ _ _ _ _
  have h7 : kN % 7 = 0 ∨ kN % 7 = 1 ∨ kN % 7 = 2 ∨ kN % 7 = 3 ∨ kN % 7 = 4 ∨ kN % 7 = 5 ∨ kN % 7 = 6 := by omega
  rcases h7 with h7 | h7 | h7 | h7 | h7 | h7 | h7
  all_goals (repeat' (first | (k_unfold; (try dsimp only)) | (k_end; wrow_close) | walk1 | (dsimp only; walk1) | (leave1; (try dsimp only)) | fail "no step"))
end S3Part
section S4Part
set_option maxRecDepth 100000
set_option maxHeartbeats 8000000
local macro_rules | `(tactic| walk_at "call ref cons nil") => `(tactic| ((with_reducible show wpAny _ _ (call (Value.ref 21) _) _ _ _); k_dflt ((refine Mine.ucs_use (by k_asm) (by k_asm) (by k_asm) (by k_asm) (by k_asm) (by exact rfl) (by with_reducible assumption) (by ktr_room) (by ktr_units) ?_)); intro t9 h9 tk9 F9 N9; (try dsimp only); (try k_fold)))
noncomputable def S4 : (G : Prop) ×' (Hid G → PySem.Challenge.rw_fz0004_01.Holds) := by
  apply PSigma.mk
  · intro hGoal0
    refine S2.2.2 ⟨S3⟩ ⟨?_⟩
    intro w0
    revert w0
    k_fill
    intros
    repeat' (first | (fail_if_success (show wpAny _ _ (exec (Stmt.Assign _ (PySem.Expr.ListComp _ _ _ _) _) _) _ _ _)); (first | (k_unfold; (try dsimp only)) | (k_end; wrow_close) | walk1 | (dsimp only; walk1) | (leave1; (try dsimp only)) | fail "no step"))
    k_dflt (refine LCg.Assign_ListComp_U (F₀ := by k_asm) (by rfl) (by with_unfolding_all rfl) (by with_unfolding_all rfl) (by decide) (by rfl) (by decide) (by rfl) (by rfl) (by rfl) ?_)
    repeat' (first | (fail_if_success (show LCg.CompSrc _ _ _ _ _ _ _ _ _ _ _ _ _ _)); (first | (k_unfold; (try dsimp only)) | (k_end; wrow_close) | walk1 | (dsimp only; walk1) | (leave1; (try dsimp only)) | fail "no step"))
    k_dflt (refine LCg.CompSrc.ledger (by rfl) (by k_asm) (by k_asm) (by k_mem) (by size_fits) ?_)
    intro g'
    (refine' Mine.comp_bytes Mine.enc (by assumption) (fun k' t' I' oI' C' oC' D' m' ys' h' tk' E' hk' hC' hx' F' N' off' ne' => ?_) ?_)
    (all_goals (try (simp only [LCg.Off3, and_true] at off')))
    case refine'_1 =>
      have hkb : 0 ≤ k' ∧ k' < 2147483648 := by (rename ∀ x : Int, x ∈ _ → 0 ≤ x ∧ x < 2147483648 => hb); exact hb _ hk'
      k_steps
    intro ys hys
    unfold LCg.FinA
    intro D h tk F N off
    dsimp only
    (try simp only [LCg.Off1, and_true] at off)
    (try k_fold)
    rename_i q0 q1 q2 q3 q4 q5 q6 q7 q8 q9 q10 q11 q12 q13 q14 q15 q16 q17 q18 q19 q20 q21 q22 q23 q24 q25 q26 q27 q28 q29 q30 q31 q32 q33 q34 q35 q36 q37 q38 q39 q40 q41 q42 q43 q44 q45 q46 q47 q48 q49 q50 q51 q52 q53 q54 q55 q56 q57 q58 q59 q60 q61 q62 q63 q64 q65 q66 q67 q68 q69 q70 q71 q72 q73 q74 q75 q76 q77 q78 q79 q80 q81 q82
    revert q0 q1 q2 q3 q4 q5 q6 q7 q8 q9 q10 q11 q12 q13 q14 q15 q16 q17 q18 q19 q20 q21 q22 q23 q24 q25 q26 q27 q28 q29 q30 q31 q32 q33 q34 q35 q36 q37 q38 q39 q40 q41 q42 q43 q44 q45 q46 q47 q48 q49 q50 q51 q52 q53 q54 q55 q56 q57 q58 q59 q60 q61 q62 q63 q64 q65 q66 q67 q68 q69 q70 q71 q72 q73 q74 q75 q76 q77 q78 q79 q80 q81 q82 g' ys hys D h tk F N off
    exact hGoal0.out
end S4Part
section S5Part
set_option maxRecDepth 100000
set_option maxHeartbeats 8000000
local macro_rules | `(tactic| walk_at "call builtin:sorted cons nil") => `(tactic| (k_dflt ((refine' Mine.sorted_bytes_N ?k1 ?k2 ?k3 ?k4 ?k5 ?_); (case k1 => k_asm); (case k2 => k_asm); (case k3 => exact News.isList (by k_asm) (by k_mem)); (case k4 => with_reducible assumption); (case k5 => (have hbl9 := Mine.BytesAre.length (by assumption)); (simp only [List.length_map] at *); omega)); intro D' h' vs' bs' e' F' N' l1 a1 a2 a3; (try k_lt l1)))
local macro_rules | `(tactic| walk_at "call ref cons nil") => `(tactic| ((with_reducible show wpAny _ _ (call (Value.ref 21) _) _ _ _); k_dflt ((refine Mine.ucs_use (by k_asm) (by k_asm) (by k_asm) (by k_asm) (by k_asm) (by exact rfl) (by with_reducible assumption) (by ktr_room) (by ktr_units) ?_)); intro t9 h9 tk9 F9 N9; (try dsimp only); (try k_fold)))
local macro_rules | `(tactic| walk_at "call builtin:bytes.join") => `(tactic| (k_dflt ((refine' Mine.join_bytes ?k3 ?k4 ?k5 ?_); (case k3 => exact News.isList (by k_asm) (by k_mem)); (case k4 => with_reducible assumption); (case k5 => exact Mine.flat_le (by omega))); intro t' k'))
local macro_rules | `(tactic| walk_at "compareOp Eq ref ref") => `(tactic| (k_dflt ((refine' Mine.eq_bytes_lists ?k1 ?k2 ?k3 ?k4 ?k5 ?_); (case k1 => exact News.isList (by k_asm) (by k_mem)); (case k2 => exact News.isList (by k_asm) (by k_mem)); (case k3 => with_reducible assumption); (case k4 => with_reducible assumption); (case k5 => units_room))))
local macro_rules | `(tactic| walk_at "getMethod bytes") => `(tactic| (k_dflt (refine Mine.join_method ?_)))
noncomputable def S5 : (G : Prop) ×' (Hid G → PySem.Challenge.rw_fz0004_01.Holds) := by
  apply PSigma.mk
  · intro hGoal0
    refine S4.2 ⟨?_⟩
    intro w0
    revert w0
    k_fill
    intros
    repeat' (first | (fail_if_success (show wpAny _ _ (eval (PySem.Expr.ListComp _ _ _ _) _) _ _ _)); (first | (k_unfold; (try dsimp only)) | (k_end; wrow_close) | walk1 | (dsimp only; walk1) | (leave1; (try dsimp only)) | fail "no step"))
    k_dflt (refine LCg.ListComp_U (F₀ := by k_asm) (by with_unfolding_all rfl) (by decide) (by rfl) (by decide) (by rfl) ?_)
    repeat' (first | (fail_if_success (show LCg.CompSrc _ _ _ _ _ _ _ _ _ _ _ _ _ _)); (first | (k_unfold; (try dsimp only)) | (k_end; wrow_close) | walk1 | (dsimp only; walk1) | (leave1; (try dsimp only)) | fail "no step"))
    (rename ∀ x : Int, x ∈ _ → 0 ≤ x ∧ x < 2147483648 => hb)
    (rename List.Perm (α := Int) _ _ => hperm)
    k_dflt (refine LCg.CompSrc.ledger (by rfl) (by k_asm) (by k_asm) (by k_mem) (by size_fits) ?_)
    intro g'
    (refine' Mine.comp_bytes Mine.enc (by assumption) (fun k' t' I' oI' C' oC' D' m' ys' h' tk' E' hk' hC' hx' F' N' off' ne' => ?_) ?_)
    (all_goals (try (simp only [LCg.Off3, and_true] at off')))
    case refine'_1 =>
      have hkb : 0 ≤ k' ∧ k' < 2147483648 := hb _ (hperm.mem_iff.mp hk')
      k_steps
    intro ys hys
    rename Mine.BytesAre _ (List.map Mine.enc _) => hys'
    rename List.Perm (α := Array UInt8) _ _ => hpb
    rename List.Pairwise (α := Array UInt8) _ _ => hsb
    rename List.Pairwise (α := Int) _ _ => hord
    have hlaw := Mine.sort_enc hpb hsb hperm hord hb
    subst hlaw
    unfold LCg.FinE
    intro D h tk F N off
    dsimp only
    (try simp only [LCg.Off1, and_true] at off)
    (try k_fold)
    repeat' (first | (fail_if_success (show wpAny _ _ (exec (Stmt.While _ _ _ _) _) _ _ _)); (first | (k_unfold; (try dsimp only)) | (k_end; wrow_close) | walk1 | (dsimp only; walk1) | (leave1; (try dsimp only)) | fail "no step"))
    rename_i q0 q1 q2 q3 q4 q5 q6 q7 q8 q9 q10 q11 q12 q13 q14 q15 q16 q17 q18 q19 q20 q21 q22 q23 q24 q25 q26 q27 q28 q29 q30 q31 q32 q33 q34 q35 q36 q37 q38 q39 q40 q41 q42 q43 q44 q45 q46 q47 q48 q49 q50 q51 q52 q53 q54 q55 q56 q57 q58 q59 q60 q61 q62 q63 q64 q65 q66 q67 q68 q69 q70 q71 q72 q73 q74 q75 q76 q77 q78 q79 q80 q81 q82 q83 q84 q85 q86 q87 q88 q89 q90 q91 q92 q93 q94 q95 q96 q97 q98 q99 q100 q101 q102 q103 q104 q105 q106 q107 q108 q109 q110 q111 q112 q113 q114 q115 q116 q117 q118 q119 q120
    revert q0 q1 q2 q3 q4 q5 q6 q7 q8 q9 q10 q11 q12 q13 q14 q15 q16 q17 q18 q19 q20 q21 q22 q23 q24 q25 q26 q27 q28 q29 q30 q31 q32 q33 q34 q35 q36 q37 q38 q39 q40 q41 q42 q43 q44 q45 q46 q47 q48 q49 q50 q51 q52 q53 q54 q55 q56 q57 q58 q59 q60 q61 q62 q63 q64 q65 q66 q67 q68 q69 q70 q71 q72 q73 q74 q75 q76 q77 q78 q79 q80 q81 q82 q83 q84 q85 q86 q87 q88 q89 q90 q91 q92 q93 q94 q95 q96 q97 q98 q99 q100 q101 q102 q103 q104 q105 q106 q107 q108 q109 q110 q111 q112 q113 q114 q115 q116 q117 q118 q119 q120 hb hord hperm g' ys hys' hpb hsb D h F N off qk ek tk
    exact hGoal0.out
end S5Part
section S6Part
set_option maxRecDepth 100000
set_option maxHeartbeats 8000000
noncomputable def S6 : (G : Prop) ×' (Hid G → PySem.Challenge.rw_fz0004_01.Holds) := by
  apply PSigma.mk
  · intro hGoal0
    refine S5.2 ⟨?_⟩
    intro w0
    revert w0
    k_fill
    intros
    rename_i lNum h9 l14 h8 tk5 DScr ws h7 hIscr hCscr hLscr l13 vNum ns cNum kU kH kTk hNum kMark kB hLen hb kLen2 kLen1 kLen0 g1 vRows hRows dRows hh1 tk4 off1 dS1 h6 vs1 e1 l12 dS2 v2 n2 c2 h5 F1 N1 i2 e2 p2 hord b2 hperm l11 g0 ys0 hys0 a1 hpb hsb D0 h0 tk3 F0 N0 off0 qk2 ek2 h4 tk2 tLine k4 h3 oC dC tk1 dTold h2 l1 h1 tk0 hh F N
    rename Shared => s1
    have N2 : News s1.heap s1.heap.objs.size hh [(dTold, PySem.W.listOf #[] 0), (dRows, LCg.lst vRows), (lNum, PySem.W.listOf vNum.toArray cNum), (s1.heap.objs.size + 1, oC)] := by
      intro p hp
      refine N p ?_
      simp only [List.mem_cons, List.not_mem_nil, or_false] at hp ⊢
      rcases hp with rfl | rfl | rfl | rfl <;> simp
    have hl20 : ns.length ≤ 20 := by omega
    have ha : lNum < dTold ∧ dRows < dTold ∧ s1.heap.objs.size + 1 < dTold ∧ lNum ≠ dRows ∧ s1.heap.objs.size + 1 ≠ dRows ∧ s1.heap.objs.size + 1 < lNum := ⟨l1.2.2.2.2.2.1, l1.2.2.2.1, l1.2.2.2.2.2.2, off1.2.1, off1.2.2, l14⟩
    clear N N1 F1 N0 F0 l1 off0 off1 l11 l12 l13 l14 hsb hpb a1 hys0 hperm b2 hord p2 e2 i2 kLen1 kLen2 hLen kB kMark hIscr hCscr hLscr
    with_unfolding_all refine' ksw_while (σ := Nat × List Value × Nat × Tok) (fun c => [(dTold, PySem.W.listOf c.2.1.toArray c.2.2.1), (dRows, LCg.lst vRows), (lNum, PySem.W.listOf vNum.toArray cNum), (s1.heap.objs.size + 1, oC)]) (fun c => [(Str.ofString "at", Value.int (Mine.offs ns c.1) c.2.2.2)]) (fun c => IntsAre c.2.1 (ns.take c.1) ∧ c.1 ≤ ns.length) [Str.ofString "size"] (fun _ => True) (fun c => ns.length - c.1) (0, [], 0, _) F ?kn ?kf ?kk ?kp ?turn ?hE
    case kn => exact N2
    case kf => exact ⟨by simpa using IntsAre.nil, Nat.zero_le _⟩
    case kk =>
      intro p hp
      rw [List.mem_singleton.mp hp]
      exact congrArg (fun z => some (Value.int z _)) (Mine.offs_zero ns).symm
    case kp => trivial
    case hE => first | passes_own | with_unfolding_all passes_own
    rintro ⟨j, vs, nn, tk⟩ u h tk' ⟨hI, hj⟩ - Fj Nj
    clear N2 F
    dsimp only at hI hj Nj Fj ⊢
    (try k_fold)
    rename_i q0 q1 q2 q3 q4 q5 q6 q7 q8 q9 q10 q11 q12 q13 q14 q15 q16 q17 q18 q19 q20 q21 q22 q23 q24 q25 q26 q27 q28 q29 q30 q31 q32 q33 q34 q35 q36 q37 q38 q39 q40 q41 q42 q43 q44 q45 q46 q47 q48 q49 q50 q51 q52 q53
    revert q0 q1 q2 q3 q4 q5 q6 q7 q8 q9 q10 q11 q12 q13 q14 q15 q16 q17 q18 q19 q20 q21 q22 q23 q24 q25 q26 q27 q28 q29 q30 q31 q32 q33 q34 q35 q36 q37 q38 q39 q40 q41 q42 q43 q44 q45 q46 q47 q48 q49 q50 q51 q52 q53 s1 lNum h9 h8 tk5 DScr ws h7 vNum ns cNum kU kH kTk hNum hb kLen0 g1 vRows hRows dRows hh1 tk4 dS1 h6 vs1 e1 dS2 v2 n2 c2 h5 g0 ys0 D0 h0 tk3 qk2 ek2 h4 tk2 tLine k4 h3 oC dC tk1 dTold h2 h1 tk0 hh hl20 ha j vs nn tk u h tk' hI hj Fj Nj qk ek
    exact hGoal0.out
end S6Part
section S7Part
set_option maxRecDepth 100000
set_option maxHeartbeats 8000000
theorem enc_cases {n : Int} (h0 : 0 ≤ n ∧ n < 2147483648) :
    ((n < 128) ∧ ((Mine.encL n).length : Int) = 1 ∧ (Mine.encL n)[0]? = some (n)) ∨
    ((128 ≤ n ∧ n < 2048) ∧ ((Mine.encL n).length : Int) = 2 ∧ (Mine.encL n)[0]? = some (192 + n / 64)) ∨
    ((2048 ≤ n ∧ n < 65536) ∧ ((Mine.encL n).length : Int) = 3 ∧ (Mine.encL n)[0]? = some (224 + n / 4096)) ∨
    ((65536 ≤ n ∧ n < 2097152) ∧ ((Mine.encL n).length : Int) = 4 ∧ (Mine.encL n)[0]? = some (240 + n / 262144)) ∨
    ((2097152 ≤ n ∧ n < 67108864) ∧ ((Mine.encL n).length : Int) = 5 ∧ (Mine.encL n)[0]? = some (248 + n / 16777216)) ∨
    ((67108864 ≤ n) ∧ ((Mine.encL n).length : Int) = 6 ∧ (Mine.encL n)[0]? = some (252 + n / 1073741824)) := by
  by_cases a0 : n < 128
  · exact .inl ⟨a0, by simp [Mine.encL, a0], by simp [Mine.encL, a0]⟩
  by_cases a1 : n < 2048
  · exact .inr (.inl ⟨⟨by omega, a1⟩, by simp [Mine.encL, a0, a1], by simp [Mine.encL, a0, a1]⟩)
  by_cases a2 : n < 65536
  · exact .inr (.inr (.inl ⟨⟨by omega, a2⟩, by simp [Mine.encL, a0, a1, a2], by simp [Mine.encL, a0, a1, a2]⟩))
  by_cases a3 : n < 2097152
  · exact .inr (.inr (.inr (.inl ⟨⟨by omega, a3⟩, by simp [Mine.encL, a0, a1, a2, a3], by simp [Mine.encL, a0, a1, a2, a3]⟩)))
  by_cases a4 : n < 67108864
  · exact .inr (.inr (.inr (.inr (.inl ⟨⟨by omega, a4⟩, by simp [Mine.encL, a0, a1, a2, a3, a4], by simp [Mine.encL, a0, a1, a2, a3, a4]⟩))))
  · exact .inr (.inr (.inr (.inr (.inr ⟨by omega, by simp [Mine.encL, a0, a1, a2, a3, a4], by simp [Mine.encL, a0, a1, a2, a3, a4]⟩))))

local macro_rules | `(tactic| walk_at "callWith ref nil nil") => `(tactic| (k_dflt (refine callWith_K (by k_asm) (by k_is) ?_)))
local macro_rules | `(tactic| walk_at "call builtin:len cons nil") => `(tactic| k_dflt (refine Mine.len_at (by with_reducible assumption) (by omega) ?_))
local macro_rules | `(tactic| walk_at "subscriptTail Name Name bytes int") => `(tactic| (k_dflt (refine Mine.line_item (by with_reducible assumption) (by with_reducible assumption) (by with_reducible assumption) (by omega) ?_); intro _ _))
local macro_rules | `(tactic| walk_at "subscriptTail Name Slice bytes ref") => `(tactic| ((with_reducible rename Fr _ _ _ _ => F'); (with_reducible rename News _ _ _ _ => N'); k_dflt (refine Mine.line_cut (s := ⟨_, _, _, _, _⟩) F' N' (by with_reducible assumption) (by omega) (by omega) ?_); intro _ _ _ _ _))
local macro_rules | `(tactic| walk_at "binaryOp Mod int int") => `(tactic| k_dflt (refine Mine.mod_by (by omega) ?_))
local macro_rules | `(tactic| walk_at "binaryOp FloorDiv int int") => `(tactic| k_dflt (refine Mine.div_by (by omega) ?_))
local macro_rules | `(tactic| walk_at "binaryOp Pow int int") => `(tactic| k_dflt (first | refine Mine.pow2_at (r := 64) 6 (by omega) (by decide) (by decide) ?_ | refine Mine.pow2_at (r := 32) 5 (by omega) (by decide) (by decide) ?_ | refine Mine.pow2_at (r := 16) 4 (by omega) (by decide) (by decide) ?_ | refine Mine.pow2_at (r := 8) 3 (by omega) (by decide) (by decide) ?_ | refine Mine.pow2_at (r := 4) 2 (by omega) (by decide) (by decide) ?_ | refine Mine.pow2_at (r := 2) 1 (by omega) (by decide) (by decide) ?_))
local macro_rules | `(tactic| walk_at "exec While BoolOp cons nil") => `(tactic| (k_dflt (refine whl_start 100 ?_)))
local macro_rules | `(tactic| walk_at "WhlIf") => `(tactic| (k_dflt (first | (refine WhlIf.yes (decide_eq_true (by omega)) ?_) | (refine WhlIf.no (decide_eq_false (by omega)) ?_))))
local macro_rules | `(tactic| walk_at "call ref cons nil") => `(tactic| ((with_reducible show wpAny _ _ (call (Value.ref 42) _) _ _ _); k_dflt ((refine Mine.val_use (by k_asm) (by k_asm) (by k_asm) (by k_asm) (by k_asm) (by exact rfl) (by with_reducible assumption) (by ktr_room) (by ktr_units) ?_)); intro t9 h9 tk9 F9 N9; (try dsimp only); (try k_fold)))
local macro_rules | `(tactic| walk_at "execs cons Assign nil") => `(tactic| ((with_reducible refine wpAny_execs_cons ?_); (try dsimp only)))
local macro_rules | `(tactic| walk_at "execs cons Assign cons") => `(tactic| ((with_reducible refine wpAny_execs_cons ?_); (try dsimp only)))
local macro_rules | `(tactic| walk_at "execs nil") => `(tactic| (k_dflt (refine wpAny_execs_nil ?_)))
theorem ite_yes {c : Prop} [Decidable c] {X Y : Prop} (hc : c) (h : X) : if decide c = true then X else Y := by rw [if_pos (decide_eq_true hc)]; exact h
theorem ite_no {c : Prop} [Decidable c] {X Y : Prop} (hc : ¬ c) (h : Y) : if decide c = true then X else Y := by rw [if_neg (by simpa using hc)]; exact h
local macro_rules | `(tactic| walk_at "ite") => `(tactic| (k_dflt (first | (refine Mine.ite_yes (by omega) ?_) | (refine Mine.ite_no (by omega) ?_))))
local macro_rules | `(tactic| walk_at "call builtin:list.append cons nil") => `(tactic| (k_dflt (refine append_K (by k_asm) (by k_asm) (Upd.head (by assumption)) ?_ (by rw [List.size_toArray, PySem.sizeLine_eq]; omega)); intro h' F' N'; (try k_sweep)))
theorem told_end {h₀ : Heap} {L : Addr} {s : Shared} {ns : List Int} {dTold : Addr} {rest : List (Addr × Obj)} {m₀ m' : Str → Option Value} {j nn : Nat} {vs : List Value} {tk ta t : Tok} {h' : Heap} {tk' : Nat} {n v : Int}
    (F : Fr h₀ L h' m') (N : News h₀ L h' ((dTold, PySem.W.listOf (vs ++ [Value.int n t]).toArray (nn + 1)) :: rest)) (hI : IntsAre vs (ns.take j)) (hn : ns[j]? = some n) (hlt : j < ns.length)
    (hm : m' (Str.ofString "at") = some (.int v ta)) (hv : v = Mine.offs ns (j + 1)) (hr : ∀ z, (∀ p ∈ [(Str.ofString "at", Value.int (Mine.offs ns (j + 1)) ta)], z ≠ p.1) → [Str.ofString "size"].contains z = false → m' z = m₀ z) :
    KswEnd h₀ L s (fun c : Nat × List Value × Nat × Tok => (dTold, PySem.W.listOf c.2.1.toArray c.2.2.1) :: rest) (fun c => [(Str.ofString "at", Value.int (Mine.offs ns c.1) c.2.2.2)]) (fun c => IntsAre c.2.1 (ns.take c.1) ∧ c.1 ≤ ns.length) [Str.ofString "size"] m₀ (fun _ => True) (fun c => ns.length - c.1) (j, vs, nn, tk) { s with heap := h', toks := tk' } := by
  subst hv
  refine ksw_end (j + 1, vs ++ [Value.int n t], nn + 1, ta) F N (fun _ h => h) ⟨Mine.ints_take hI hn, hlt⟩ (fun p hp => ?_) hr trivial ?_
  · rw [List.mem_singleton.mp hp]; exact hm
  · show ns.length - (j + 1) < ns.length - j
    omega
theorem sub_of_eq {a b : List (Addr × Obj)} (e : a = b) : ∀ p ∈ a, p ∈ b := by rw [e]; exact fun _ h => h
noncomputable def S7 : (G : Prop) ×' (Hid G → PySem.Challenge.rw_fz0004_01.Holds) := by
  apply PSigma.mk
  · intro hGoal0
    refine S6.2 ⟨?_⟩
    intro w0
    revert w0
    k_fill
    k_with_none
    intros
    rename_i lNum h9 h8 tk5 DScr ws h7 vNum ns cNum kU kH kTk hNum hb kLen0 g1 vRows hRows dRows hh1 tk4 dS1 h6 vs1 e1 dS2 v2 n2 c2 h5 g0 ys0 D0 h0 tk3 qk2 ek2 h4 tk2 tLine k4 h3 oC dC tk1 dTold h2 h1 tk0 hh hl20 ha j vs nn tk u h tk' hI hj Fj Nj qk ek
    rename Shared => s1
    have hT : (((List.flatMap Array.toList (List.map Mine.enc ns)).toArray.size : Nat) : Int) = Mine.offs ns ns.length := by rw [Mine.offs_end, List.size_toArray]
    have hTz : (Mine.lineL ns).length ≤ 200 := by
      have := Mine.flat_len ns
      show (List.flatMap Array.toList (List.map Mine.enc ns)).length ≤ 200
      omega
    have hTz' : Mine.offs ns ns.length ≤ 200 := by rw [Mine.offs_end]; omega
    have hvl : vs.length ≤ 20 := by rw [hI.length, List.length_take]; omega
    have hU : ∀ p ∈ [(dRows, LCg.lst vRows), (lNum, PySem.W.listOf vNum.toArray cNum), (s1.heap.objs.size + 1, oC)], p.1 ≠ dTold := by
      intro p hp
      simp only [List.mem_cons, List.not_mem_nil, or_false] at hp
      rcases hp with rfl | rfl | rfl
      · exact Nat.ne_of_lt ha.2.1
      · exact Nat.ne_of_lt ha.1
      · exact Nat.ne_of_lt ha.2.2.1
    have kMk := kstMark
    refine Or.elim (Nat.lt_or_ge j ns.length) (fun hlt => ?A) (fun hge => ?B)
    case A =>
      obtain ⟨n, hn⟩ : ∃ n, ns[j]? = some n := ⟨_, List.getElem?_eq_getElem hlt⟩
      have hr : 0 ≤ n ∧ n < 2147483648 := hb n (List.mem_of_getElem? hn)
      have hp1 := Mine.offs_lt hn
      rw [← Mine.offs_end] at hp1
      have hp2 := Mine.offs_nonneg ns j
      have hp3 := Mine.offs_succ hn
      rcases Mine.enc_cases hr with ⟨q, he, hv⟩ | ⟨q, he, hv⟩ | ⟨q, he, hv⟩ | ⟨q, he, hv⟩ | ⟨q, he, hv⟩ | ⟨q, he, hv⟩
      all_goals
        k_steps
        (rename News _ _ _ _ => nE'); (try simp only [List.push_toArray] at nE')
        refine Mine.told_end (by assumption) nE' hI hn hlt (by with_unfolding_all rfl) (by omega) (by intro z h2 h3; have h2' := h2 _ (.head _); have h3' : z ≠ Str.ofString "size" := (fun e => by rw [e] at h3; exact absurd h3 (by decide)); simp only [kstB, if_neg h2', if_neg h3', h3, Bool.false_eq_true, if_false])
    have hje : j = ns.length := by omega
    subst hje
    repeat' (first | (fail_if_success (show wpAny _ _ (exec (Stmt.Assign _ (PySem.Expr.ListComp _ _ _ _) _) _) _ _ _)); (first | (k_unfold; (try dsimp only)) | (k_end; wrow_close) | walk1 | (dsimp only; walk1) | (leave1; (try dsimp only)) | fail "no step"))
    rename_i q0 q1 q2 q3 q4 q5 q6 q7 q8 q9 q10 q11 q12 q13 q14 q15 q16 q17 q18 q19 q20 q21 q22 q23 q24 q25 q26 q27 q28 q29 q30 q31 q32 q33 q34 q35 q36 q37 q38 q39 q40 q41 q42 q43 q44 q45 q46 q47 q48 q49 q50 q51 q52 q53
    revert q0 q1 q2 q3 q4 q5 q6 q7 q8 q9 q10 q11 q12 q13 q14 q15 q16 q17 q18 q19 q20 q21 q22 q23 q24 q25 q26 q27 q28 q29 q30 q31 q32 q33 q34 q35 q36 q37 q38 q39 q40 q41 q42 q43 q44 q45 q46 q47 q48 q49 q50 q51 q52 q53 s1 lNum h9 h8 tk5 DScr ws h7 vNum ns cNum kU kH kTk hNum hb kLen0 g1 vRows hRows dRows hh1 tk4 dS1 h6 vs1 e1 dS2 v2 n2 c2 h5 g0 ys0 D0 h0 tk3 qk2 ek2 h4 tk2 tLine k4 h3 oC dC tk1 dTold h2 h1 tk0 hh hl20 ha vs nn tk u h tk' Nj ek hT hTz hTz' hvl hU kMk hI hj Fj qk hge
    exact hGoal0.out
end S7Part
section S8Part
set_option maxRecDepth 100000
set_option maxHeartbeats 8000000
local macro_rules | `(tactic| walk_at "subscriptTail Name Name bytes int") => `(tactic| (k_dflt (refine Mine.line_any (by omega) (by omega) (by omega) ?_); intro _ _))
local macro_rules | `(tactic| walk_at "binaryOp FloorDiv int int") => `(tactic| k_dflt (refine Mine.div_by (by omega) ?_))
noncomputable def S8 : (G : Prop) ×' (Hid G → PySem.Challenge.rw_fz0004_01.Holds) := by
  apply PSigma.mk
  · intro hGoal0
    refine S7.2 ⟨?_⟩
    intro w0
    revert w0
    k_fill
    k_with_none
    intros
    rename_i lNum h9 h8 tk5 DScr ws h7 vNum ns cNum kU kH kTk hNum hb kLen0 g1 vRows hRows dRows hh1 tk4 dS1 h6 vs1 e1 dS2 v2 n2 c2 h5 g0 ys0 D0 h0 tk3 qk2 ek2 h4 tk2 tLine k4 h3 oC dC tk1 dTold h2 h1 tk0 hh hl20 ha vs nn tk u h tk' Nj ek hT hTz hTz' hvl hU kMk hI hj Fj qk hge
    rw [List.take_length] at hI
    k_dflt (refine LCt.Assign_ListComp_T (F₀ := by k_asm) (by rfl) (by with_unfolding_all rfl) (by with_unfolding_all rfl) (by decide) (by rfl) (by decide) (by rfl) (by rfl) (by rfl) ?_)
    repeat' (first | (fail_if_success (show LCt.CompSrcT _ _ _ _ _ _ _ _ _ _ _ _ _ _ _)); (first | (k_unfold; (try dsimp only)) | (k_end; wrow_close) | walk1 | (dsimp only; walk1) | (leave1; (try dsimp only)) | fail "no step"))
    rename IsRange _ _ _ _ _ _ _ _ => hrg
    have hTl : (List.flatMap Array.toList (List.map Mine.enc ns)).length ≤ 200 := hTz
    k_dflt (refine LCt.CompSrcT.range (n := (List.flatMap Array.toList (List.map Mine.enc ns)).length) (by rfl) (by k_asm) (by k_asm) (by assumption) (by exact small_one (by omega) (by omega) (by omega) (by omega)) (by rw [rangeSize_nat]; omega) (by rw [PySem.sizeLine_eq]; omega) ?_)
    intro g'
    (refine' Mine.comp_filter (Mine.isStart ns) (fun k' t' I' oI' C' oC' D' m' ys' h' tk' E' hlo' hhi' hC' hx' F' N' off' ne' => ?_) ?_)
    (all_goals (try (simp only [LCg.Off3, and_true] at off')))
    case refine'_1 =>
      k_steps
      all_goals (simp only [Mine.isStart, decide_eq_true_eq, decide_eq_false_iff_not]; omega)
    intro ys hys
    rw [Mine.starts_eq hb rfl] at hys
    unfold LCg.FinA
    intro D hD tkD FD ND offD
    dsimp only
    (try simp only [LCg.Off1, and_true] at offD)
    (try clear Fj)
    (try clear Nj)
    (try k_fold)
    rename_i q0 q1 q2 q3 q4 q5 q6 q7 q8 q9 q10 q11 q12 q13 q14 q15 q16 q17 q18 q19 q20 q21 q22 q23 q24 q25 q26 q27 q28 q29 q30 q31 q32 q33 q34 q35 q36 q37 q38 q39 q40 q41 q42 q43 q44 q45 q46 q47 q48 q49 q50 q51 q52 q53 q54 q55 q56 q57 q58 q59 q60 q61 q62 q63 q64 q65 q66 q67
    revert q0 q1 q2 q3 q4 q5 q6 q7 q8 q9 q10 q11 q12 q13 q14 q15 q16 q17 q18 q19 q20 q21 q22 q23 q24 q25 q26 q27 q28 q29 q30 q31 q32 q33 q34 q35 q36 q37 q38 q39 q40 q41 q42 q43 q44 q45 q46 q47 q48 q49 q50 q51 q52 q53 q54 q55 q56 q57 q58 q59 q60 q61 q62 q63 q64 q65 q66 q67 lNum h9 h8 tk5 DScr ws h7 vNum ns cNum kU kH kTk hNum hb kLen0 g1 vRows hRows dRows hh1 tk4 dS1 h6 vs1 e1 dS2 v2 n2 c2 h5 g0 ys0 D0 h0 tk3 qk2 ek2 h4 tk2 tLine k4 h3 oC dC tk1 dTold h2 h1 tk0 hh hl20 ha vs nn tk u h tk' ek hT hTz hTz' hvl hU kMk hj qk hge hrg hTl g' ys hys D hD tkD FD ND offD
    exact hGoal0.out
end S8Part
section S9Part
set_option maxRecDepth 100000
set_option maxHeartbeats 8000000
local macro_rules | `(tactic| walk_at "subscriptTail Name Slice ref ref") => `(tactic| ((k_dflt (refine kmk_slice_ints (by k_asm) (by k_asm) (News.isList (by k_asm) (by k_mem)) (IsPart.int _ _) IsPart.none (by assumption) (kmk_from (by assumption) (by decide)) rfl ?_ (by with_unfolding_all rfl) (by intro _; with_unfolding_all rfl) (by (refine kmk_sz (by assumption) ?_; rw [List.length_map, List.length_range, sizeLine_eq]; omega)))); intro D2 h2' ws2 F2 N2 l2 hI2 hC2 hL2))
local macro_rules | `(tactic| walk_at "binaryOp Add ref ref") => `(tactic| ((k_dflt (refine kmk_add_ints (by k_asm) (by k_asm) (News.isList (by k_asm) (by k_mem)) (News.isList (by k_asm) (by k_mem)) (by assumption) (by l_ints) ?_ (by (simp only [List.length_drop, List.length_map, List.length_range, List.length_cons, List.length_nil, sizeLine_eq]; omega)))); intro D3 ws3 h3' F3 N3 l3 hI3))
local macro_rules | `(tactic| walk_at "subscriptTail Name Slice bytes ref") => `(tactic| ((with_reducible rename Fr _ _ _ _ => F'); (with_reducible rename News _ _ _ _ => N'); k_dflt (refine Mine.line_cut (s := ⟨_, _, _, _, _⟩) F' N' (by with_reducible assumption) (by omega) (by omega) ?_); intro _ _ _ _ _))
local macro_rules | `(tactic| walk_at "callWith ref nil nil") => `(tactic| (k_dflt (refine callWith_K (by k_asm) (by k_is) ?_)))
local macro_rules | `(tactic| walk_at "call ref cons nil") => `(tactic| ((with_reducible show wpAny _ _ (call (Value.ref 42) _) _ _ _); k_dflt ((refine Mine.val_use (by k_asm) (by k_asm) (by k_asm) (by k_asm) (by k_asm) (by exact rfl) (by with_reducible assumption) (by ktr_room) (by ktr_units) ?_)); intro t9 h9 tk9 F9 N9; (try dsimp only)))
noncomputable def S9 : (G : Prop) ×' (Hid G → PySem.Challenge.rw_fz0004_01.Holds) := by
  apply PSigma.mk
  · intro hGoal0
    refine S8.2 ⟨?_⟩
    intro w0
    revert w0
    k_fill
    k_with_none
    intros
    rename_i lNum h9 h8 tk5 DScr ws h7 vNum ns cNum kU kH kTk hNum hb kLen0 g1 vRows hRows dRows hh1 tk4 dS1 h6 vs1 e1 dS2 v2 n2 c2 h5 g0 ys0 D0 h0 tk3 qk2 ek2 h4 tk2 tLine k4 h3 oC dC tk1 dTold h2 h1 tk0 hh hl20 ha vs nn tk u h tk' N' ek hT hTz hTz' hvl hU kMk hi' hj F' qk hge e' hb' h' tk t₁ u₁ v₁ hrg a a a hTl g' ys hys D hD tkD FD ND offD
    repeat' (first | (fail_if_success (show wpAny _ _ (exec (Stmt.Assign _ (PySem.Expr.ListComp _ _ _ _) _) _) _ _ _)); (first | (k_unfold; (try dsimp only)) | (k_end; wrow_close) | walk1 | (dsimp only; walk1) | (leave1; (try dsimp only)) | fail "no step"))
    k_dflt (refine Mine.Assign_zip (F₀ := by k_asm) (by rfl) (by with_unfolding_all rfl) (by with_unfolding_all rfl) (by decide) (by rfl) (by decide) (by rfl) (by rfl) (by decide) (by rfl) (by rfl) ?_)
    repeat' (first | (fail_if_success (show wpAny _ _ (call (Value.type "zip") _) _ _ _)); (first | (k_unfold; (try dsimp only)) | (k_end; wrow_close) | walk1 | (dsimp only; walk1) | (leave1; (try dsimp only)) | fail "no step"))
    rename_i D2 ws2 h2' F2 N2 l2 hI2 hC2 hL2 gS D3 ws3 h3' F3 N3 l3 hI3
    have hEnd : (((List.flatMap Array.toList (List.map Mine.enc ns)).toArray.size : Nat) : Int) = ((Mine.lineL ns).length : Int) := by rw [List.size_toArray]
    k_dflt (refine Mine.zip_src (fun i => ns.getD i 0) (by rfl) (by with_reducible assumption) (by with_reducible assumption) (by k_mem) (by k_mem) (by rfl) (by rfl) (by rfl) (by rfl) (Mine.zip_sizes hys hI3) (Mine.zip_room hys hl20) ?zturn ?zfin)
    case zturn =>
      intro z TI TO i1 i2 hz'
      unfold Mine.ZTurn
      intro i v₁' v₂' oz oI oO o1 o2 C oC' D' ks m₂ hx' tkx Ex hx hy hix hC' mx my Fx Nx
      obtain ⟨n', t₁', t₂', hv', rfl, rfl, hhv, hj', hgd, hrn⟩ := Mine.cut_turn hb hEnd hys hI3 hx hy hix
      dsimp only
      rw [hgd]
      (try clear F3 N3)
      (try clear F2 N2)
      (try clear FD)
      (try clear ND)
      have hTl' : (Mine.lineL ns).length ≤ 200 := hTl
      repeat' (first | (fail_if_success (show Exists _)); (first | (k_unfold; (try dsimp only)) | walk1 | (dsimp only; walk1) | (leave1; (try dsimp only)) | fail "no step"))
      rename_i t9 h9 tk9 F9 N9
      exact ⟨h9, tk9, t9, rfl, F9, N9, rfl⟩
    intro ks hz' hks
    replace hks := Mine.again_is hys hks
    unfold LCg.FinA
    intro D4 h4' tk4' F4 N4 off4
    dsimp only
    have N5 : News _ _ _ [(D4, LCg.lst ks), (dTold, _), (dRows, _), (lNum, _)] := fun p hp => N4 p (by
      simp only [List.mem_cons, List.not_mem_nil, or_false] at hp
      rcases hp with rfl | rfl | rfl | rfl
      · exact List.mem_cons_self
      all_goals k_mem)
    clear N4 off4
    (try clear F3 N3)
    (try clear F2 N2)
    (try clear FD)
    (try clear ND)
    (try k_fold)
    rename_i q0 q1 q2 q3 q4 q5 q6 q7 q8 q9 q10 q11 q12 q13 q14 q15 q16 q17 q18 q19 q20 q21 q22 q23 q24 q25 q26 q27 q28 q29 q30 q31 q32 q33 q34 q35 q36 q37 q38 q39 q40 q41 q42 q43 q44 q45 q46 q47 q48 q49 q50 q51 q52 q53 q54 q55 q56 q57
    revert q0 q1 q2 q3 q4 q5 q6 q7 q8 q9 q10 q11 q12 q13 q14 q15 q16 q17 q18 q19 q20 q21 q22 q23 q24 q25 q26 q27 q28 q29 q30 q31 q32 q33 q34 q35 q36 q37 q38 q39 q40 q41 q42 q43 q44 q45 q46 q47 q48 q49 q50 q51 q52 q53 q54 q55 q56 q57 lNum h9 h8 tk5 DScr ws h7 vNum ns cNum kU kH kTk hNum hb kLen0 g1 vRows hRows dRows hh1 tk4 dS1 h6 vs1 e1 dS2 v2 n2 c2 h5 g0 ys0 D0 h0 tk3 qk2 ek2 h4 tk2 tLine k4 h3 oC dC tk1 dTold h2 h1 tk0 hh hl20 ha vs nn u h tk' ek hT hTz hTz' hvl hU kMk hi' hj qk hge e' hb' h' tk t₁ u₁ v₁ hrg a hTl g' ys hys D hD tkD offD D2 ws2 h2' l2 hI2 hC2 hL2 gS D3 ws3 h3' l3 hI3 hEnd ks hz' hks D4 h4' tk4' F4 N5
    exact hGoal0.out
end S9Part
section SAPart
set_option maxRecDepth 100000
set_option maxHeartbeats 8000000
noncomputable def SA : (G : Prop) ×' (G' : Prop) ×' (Hid G → Hid G' → PySem.Challenge.rw_fz0004_01.Holds) := by
  apply PSigma.mk
  · apply PSigma.mk
    · intro hGoal0 hGoal1
      refine S9.2 ⟨?_⟩
      intro w0
      revert w0
      k_fill
      k_with_none
      k_with "pyIter ref" => fail
      intros
      repeat' (first | (fail_if_success (show wpAny _ _ (pyIter _) _ _ _)); (first | (k_unfold; (try dsimp only)) | (k_end; wrow_close) | walk1 | (dsimp only; walk1) | (leave1; (try dsimp only)) | fail "no step"))
      k_state (fun pre good => good = true) "good"
      rename_i q0 q1 q2 q3 q4 q5 q6 q7 q8 q9 q10 q11 q12 q13 q14 q15 q16 q17 q18 q19 q20 q21 q22 q23 q24 q25 q26 q27 q28 q29 q30 q31 q32 q33 q34 q35 q36 q37 q38 q39 q40 q41 q42 q43 q44 q45 q46 q47 q48 q49 q50 q51 q52 q53 q54 q55 q56 q57 q58 q59 q60 q61 q62 q63 q64 q65 q66 q67 q68 q69 q70 q71 q72 q73 q74 q75 q76 q77 q78 q79 q80 q81 q82 q83 q84 q85 q86 q87 q88 q89 q90 q91 q92 q93 q94 q95 q96 q97 q98 q99 q100 q101 q102 q103 q104 q105 q106 q107 q108 q109 q110 q111 q112 q113 q114 q115 q116 q117 q118 q119 q120 q121 q122 q123 q124 q125 q126 q127 q128 q129 q130 q131 q132 q133 q134 q135 q136 q137 q138 q139 q140 q141 q142 q143 q144 q145 q146 q147 q148 q149 q150 q151 q152 q153 q154 q155 q156 q157 q158 q159 q160 q161 q162 q163 q164 q165 q166 q167 q168 q169 q170 q171 q172 q173 q174 q175 q176 q177 q178
      revert q0 q1 q2 q3 q4 q5 q6 q7 q8 q9 q10 q11 q12 q13 q14 q15 q16 q17 q18 q19 q20 q21 q22 q23 q24 q25 q26 q27 q28 q29 q30 q31 q32 q33 q34 q35 q36 q37 q38 q39 q40 q41 q42 q43 q44 q45 q46 q47 q48 q49 q50 q51 q52 q53 q54 q55 q56 q57 q58 q59 q60 q61 q62 q63 q64 q65 q66 q67 q68 q69 q70 q71 q72 q73 q74 q75 q76 q77 q78 q79 q80 q81 q82 q83 q84 q85 q86 q87 q88 q89 q90 q91 q92 q93 q94 q95 q96 q97 q98 q99 q100 q101 q102 q103 q104 q105 q106 q107 q108 q109 q110 q111 q112 q113 q114 q115 q116 q117 q118 q119 q120 q121 q122 q123 q124 q125 q126 q127 q128 q129 q130 q131 q132 q133 q134 q135 q136 q137 q138 q139 q140 q141 q142 q143 q144 q145 q146 q147 q148 q149 q150 q151 q152 q153 q154 q155 q156 q157 q158 q159 q160 q161 q162 q163 q164 q165 q166 q167 q168 q169 q170 q171 q172 q173 q174 q175 q176 q177 q178 tk kC kPre kN kT kU kH kTk kOwn kEq kLt kFacts kInv kFr kNews kMark kOff kLen
      exact hGoal0.out
      rename_i q0 q1 q2 q3 q4 q5 q6 q7 q8 q9 q10 q11 q12 q13 q14 q15 q16 q17 q18 q19 q20 q21 q22 q23 q24 q25 q26 q27 q28 q29 q30 q31 q32 q33 q34 q35 q36 q37 q38 q39 q40 q41 q42 q43 q44 q45 q46 q47 q48 q49 q50 q51 q52 q53 q54 q55 q56 q57 q58 q59 q60 q61 q62 q63 q64 q65 q66 q67 q68 q69 q70 q71 q72 q73 q74 q75 q76 q77 q78 q79 q80 q81 q82 q83 q84 q85 q86 q87 q88 q89 q90 q91 q92 q93 q94 q95 q96 q97 q98 q99 q100 q101 q102 q103 q104 q105 q106 q107 q108 q109 q110 q111 q112 q113 q114 q115 q116 q117 q118 q119 q120 q121 q122 q123 q124 q125 q126 q127 q128 q129 q130 q131 q132 q133 q134 q135 q136 q137 q138 q139 q140 q141 q142 q143 q144 q145 q146 q147 q148 q149 q150 q151 q152 q153 q154 q155 q156 q157 q158 q159 q160 q161 q162 q163 q164 q165 q166 q167 q168 q169 q170 q171 q172 q173 q174 q175 q176 q177 q178
      revert q0 q1 q2 q3 q4 q5 q6 q7 q8 q9 q10 q11 q12 q13 q14 q15 q16 q17 q18 q19 q20 q21 q22 q23 q24 q25 q26 q27 q28 q29 q30 q31 q32 q33 q34 q35 q36 q37 q38 q39 q40 q41 q42 q43 q44 q45 q46 q47 q48 q49 q50 q51 q52 q53 q54 q55 q56 q57 q58 q59 q60 q61 q62 q63 q64 q65 q66 q67 q68 q69 q70 q71 q72 q73 q74 q75 q76 q77 q78 q79 q80 q81 q82 q83 q84 q85 q86 q87 q88 q89 q90 q91 q92 q93 q94 q95 q96 q97 q98 q99 q100 q101 q102 q103 q104 q105 q106 q107 q108 q109 q110 q111 q112 q113 q114 q115 q116 q117 q118 q119 q120 q121 q122 q123 q124 q125 q126 q127 q128 q129 q130 q131 q132 q133 q134 q135 q136 q137 q138 q139 q140 q141 q142 q143 q144 q145 q146 q147 q148 q149 q150 q151 q152 q153 q154 q155 q156 q157 q158 q159 q160 q161 q162 q163 q164 q165 q166 q167 q168 q169 q170 q171 q172 q173 q174 q175 q176 q177 q178 tk kC kU kH kTk kFacts kInv kFr kNews kMark kLen
      exact hGoal1.out
end SAPart
section SBPart
set_option maxRecDepth 100000
set_option maxHeartbeats 8000000
local macro_rules | `(tactic| walk_at "callWith ref nil nil") => `(tactic| (k_dflt (refine callWith_K (by k_asm) (by k_is) ?_)))
local macro_rules | `(tactic| walk_at "call builtin:len cons nil") => `(tactic| k_dflt (refine Mine.len_at (by with_reducible assumption) (by omega) ?_))
local macro_rules | `(tactic| walk_at "subscriptTail Name Name ref int") => `(tactic| ((k_dflt (first
  | refine Mine.ends_item (by k_asm) (by k_mem) (by with_reducible assumption) (by omega) (by with_reducible assumption) ?_
  | refine Mine.row_item (News.isList (by k_asm) (by k_mem)) (by with_reducible assumption) (by omega) (by with_reducible assumption) ?_)); intro _))
local macro_rules | `(tactic| walk_at "subscriptTail Name Constant bytes int") => `(tactic| (k_dflt (refine Mine.item0 (by with_reducible assumption) (by omega) ?_); intro _ _))
local macro_rules | `(tactic| walk_at "binaryOp FloorDiv int int") => `(tactic| k_dflt (refine Mine.div_by (by omega) ?_))
local macro_rules | `(tactic| walk_at "binaryOp Pow int int") => `(tactic| k_dflt (first | refine Mine.pow2_at (r := 128) 7 (by omega) (by decide) (by decide) ?_ | refine Mine.pow2_at (r := 64) 6 (by omega) (by decide) (by decide) ?_ | refine Mine.pow2_at (r := 32) 5 (by omega) (by decide) (by decide) ?_ | refine Mine.pow2_at (r := 16) 4 (by omega) (by decide) (by decide) ?_ | refine Mine.pow2_at (r := 8) 3 (by omega) (by decide) (by decide) ?_ | refine Mine.pow2_at (r := 4) 2 (by omega) (by decide) (by decide) ?_ | refine Mine.pow2_at (r := 2) 1 (by omega) (by decide) (by decide) ?_))
local macro_rules | `(tactic| walk_at "call ref cons nil") => `(tactic| ((with_reducible show wpAny _ _ (call (Value.ref 35) _) _ _ _); k_dflt ((refine Mine.size_use (by k_asm) (by k_asm) (by k_asm) (by k_asm) (by k_asm) (by exact rfl) (by with_reducible assumption) (by ktr_room) (by ktr_units) ?_)); intro t9 h9 tk9 F9 N9; (try dsimp only); (try k_fold)))
local macro_rules | `(tactic| walk_at "ite") => `(tactic| (k_dflt (first | (refine Mine.ite_yes (by omega) ?_) | (refine Mine.ite_no (by omega) ?_))))
local macro_rules | `(tactic| walk_at "call builtin:chr") => `(tactic| k_dflt (refine chr_of_range (by omega) (by omega) ?_))
local macro_rules | `(tactic| walk_at "call builtin:chr cons nil") => `(tactic| k_dflt (refine chr_of_range (by omega) (by omega) ?_))
local macro_rules | `(tactic| walk_at "getMethod str") => `(tactic| k_dflt (refine Mine.encode_method ?_))
local macro_rules | `(tactic| walk_at "call builtin:str.encode cons nil") => `(tactic| (k_dflt (refine Mine.encode_use (by omega) (by omega) (by omega) ?_); intro _ _))
local macro_rules | `(tactic| walk_at "compareOp Eq bytes bytes") => `(tactic| (k_dflt (refine eq_bytes ?_); (simp only [beq_self_eq_true])))
local macro_rules | `(tactic| walk_at "InvEndN") => `(tactic| ((rename News _ _ _ _ => nE'); k_dflt (refine kst_end _ (by assumption) nE' (by first | kst_in | kst_inAny) (by first | (intro p hp; kst_mem) | kst_anyIn) (by rfl) (by kst_facts) (by kst_all) (by (intro z h1 h2 h3; have h2' : z ≠ Str.ofString "good" := h2 _ (.head _); have e1 : z ≠ Str.ofString "number" := (fun e => by rw [e] at h3; exact absurd h3 (by decide)); have e2 : z ≠ Str.ofString "octets" := (fun e => by rw [e] at h3; exact absurd h3 (by decide)); have e3 : z ≠ Str.ofString "size" := (fun e => by rw [e] at h3; exact absurd h3 (by decide)); simp only [kstB, if_neg h1, if_neg h2', if_neg e1, if_neg e2, if_neg e3, h3, Bool.false_eq_true, if_false])) (by first | rfl | exact beq_iff_eq.mpr (by omega) | exact decide_eq_true (by omega)))))
theorem SB : SA.1 := by
  intro w0
  revert w0
  k_fill
  k_with_none
  intros
  rename_i kC kPre kN kT kU' kH kTk kOwn kEq kLt kFacts kInv kFr kNews kMark kOff kB kL6 kL5 kL4 kL3 kL2 kL1 kL0
  rename (∀ x : Int, _ → 0 ≤ x ∧ x < 2147483648) => hb
  obtain ⟨n, hn, hn', hr, hk0, hk1⟩ := Mine.turn_facts hb (by assumption) kEq kLt
  clear kL6 kL5 kL4 kL3 kL2 kL1 kL0
  subst kInv
  rcases Mine.enc_cases hr with ⟨q, he, hv⟩ | ⟨q, he, hv⟩ | ⟨q, he, hv⟩ | ⟨q, he, hv⟩ | ⟨q, he, hv⟩ | ⟨q, he, hv⟩
  rotate_left 2
  rcases (by omega : n < 55296 ∨ (55296 ≤ n ∧ n ≤ 57343) ∨ 57343 < n) with hu | hu | hu
  rotate_left 3
  rcases (by omega : n < 1114112 ∨ 1114112 ≤ n) with hu | hu
  rotate_left 2
  all_goals (obtain ⟨kr, hB, hS, hkr⟩ := Mine.head_facts hr he hv)
  all_goals k_steps
end SBPart
section SCPart
set_option maxRecDepth 100000
set_option maxHeartbeats 8000000
theorem SC : SA.2.1 := by
  intro w0
  revert w0
  k_fill
  k_with_none
  intros
  dsimp only
  repeat' (first | (k_unfold; (try dsimp only)) | (k_end; wrow_close) | walk1 | (dsimp only; walk1) | (leave1; (try dsimp only)) | fail "no step")
end SCPart
end Mine
theorem PySem.Challenge.cw_fz0004_01_holds : PySem.Challenge.rw_fz0004_01.Holds := by
  exact Mine.SA.2.2 ⟨Mine.SB⟩ ⟨Mine.SC⟩
