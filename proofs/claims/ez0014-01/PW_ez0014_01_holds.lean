import PyProof.Rows.All
import Wide.All
import OpenK.AllK
import Wide.FinOn
import Lean
import PySem.Challenge.RW_ez0014_01
open PySem PySem.W PyProof.Rows
set_option Elab.async false
namespace Mine
set_option maxRecDepth 100000 in
set_option maxHeartbeats 8000000 in
open_top hd for PySem.Challenge.rw_ez0014_01
end Mine
open PySem PySem.W PySem.Calls PyProof.Rows
namespace Mine
set_option maxRecDepth 100000
set_option linter.unusedVariables false
section
/-- a byte of bytes, as an int -/
def at_ (b : Array UInt8) (i : Nat) : Int := (KBw.bInts b).getD i 0
theorem at_range (b : Array UInt8) (i : Nat) : 0 ≤ at_ b i ∧ at_ b i < 256 := KBw.getD_in fun _ hk => KBw.ints_in hk

theorem look_bytes : typeLookup (.type "bytes") "__bytes__" = pure (some (.builtin "bytes.__bytes__")) := by rw [typeLookup_type, builtinLookup_eq_fast]; kernel_rfl
theorem meets_bb (b : Array UInt8) (t : Tok) : Meets (Builtin.«bytes.__new__» ⟨[.type "bytes", .bytes b t], []⟩) (fun _ R s => R (.ok (.ret (.bytes b t))) s) := .of_wp fun prog w A R s h => by
  unfold Builtin.«bytes.__new__»
  refine wpAny_bind (wpAny_of_eq (a := true) rfl ?_)
  refine bm_if_false rfl ?_
  refine wpAny_bind (wpAny_of_eq F.bm_sub ?_)
  refine bm_if_false rfl ?_
  refine wpAny_bind (wpAny_of_eq (F.bm_bind _) ?_)
  refine wpAny_bind (wpAny_of_eq (a := ()) rfl ?_)
  refine wpAny_bind (wpAny_of_eq (a := ()) rfl ?_)
  refine bm_if_false rfl ?_
  refine wpAny_bind (wpAny_of_eq (KBy.special_eq look_bytes) ?_)
  refine wpAny_bind (wpAny_rule ?_)
  refine wpAny_bind (wpAny_typeOf (T := "bytes") (typeIs_bytes _ _ _) ?_)
  refine bm_if_true (by decide) ?_
  exact wpAny_pure ⟨_, rfl, h⟩
section
variable {prog : Program} {w : World} {A : Around} {E : Value → Shared → Prop} {s : Shared} {value slice : PySem.Expr} {b : Array UInt8} {t : Tok}
theorem call_bb {Q : Value → Shared → Prop} (h : Q (.bytes b t) s) : wpAny (model prog w) A (call (.type "bytes") [.bytes b t]) Q E s :=
  callType_new F.bm_called (by decide) (F.bm_typeCall _) (F.bm_newCall _) (fun obj => F.args_object_init_2 obj _) F.bm_entry (meets_bb b t) ⟨typeIs_bytes _ _ _, h⟩
theorem item_b {n : Nat} {i : Int} {ui : Tok} {Q : Value → Shared → Prop} (hn : b.size = n) (hn2 : n ≤ 1000) (h0 : 0 ≤ i) (h1 : i < (n : Int))
    (h : ∀ t' k, 0 ≤ at_ b i.toNat → at_ b i.toNat < 256 → Q (.int (at_ b i.toNat) t') { s with toks := k })
    (hs : subscripted slice false (.bytes b t) (.int i ui) = operate [.bytes b t, .int i ui] (getItem (.bytes b t) (.int i ui)) := by with_unfolding_all rfl)
    (ht : ∀ r, letTemporaryGo value (.bytes b t) r = pure () := by intro _; with_unfolding_all rfl) :
    wpAny (model prog w) A (subscriptTail value slice (.bytes b t) (.int i ui)) Q E s :=
  KBw.item_K (ks := KBw.bInts b) rfl (by rw [KBw.ints_length, hn]; omega) h0 (by rw [KBw.ints_length, hn]; exact h1) (fun t' k a c => h t' k a c) hs ht
theorem len_b {Q : Value → Shared → Prop} (hn : b.size ≤ 16777216) (h : Q (.int (b.size : Nat) (s.toks + 1)) { s with toks := s.toks + 1 + 1 }) :
    wpAny (model prog w) A (call (.builtin "len") [.bytes b t]) Q E s := len_bytes (by omega) h
end
abbrev LawClaim (prog : Program) (w : World) (K : Frag) (p : Program) (loose : List Str) (mean : ExcName → Option Value) (mg mb : Str → Option Value) (f : Addr) (news : List (Addr × Obj)) (pre : Prop) (vs : List Value) (R : Tok → Value) : Prop :=
  ∀ (dp un : Nat) (gd : Option (List Code)) (cn : Str) (cs : Scope) (a : Addr) (ccd : Value) (A₀ : Around) (h₀ : Heap) (L : Addr) (m : Str → Option Value) (s : Shared) (Q E : Value → Shared → Prop),
    Below A₀ h₀ [] h₀ → Fr h₀ L s.heap m → K.In h₀ → News h₀ L s.heap news → Top p loose mean mg mb h₀ → cs.kind = .function →
    pre → dp + 20 < recursionLimit → un + 100 < cLine → CbRet h₀ L m news s Q R →
      wpAny (model prog w) (ktrTop dp un gd cn cs L a ccd [] []) (call (.ref f) vs) Q E s
abbrev EzClaim (n : Nat) (prog : Program) (w : World) (K : Frag) (p : Program) (loose : List Str) (mean : ExcName → Option Value) (mg mb : Str → Option Value) (f : Addr) (news : List (Addr × Obj)) (pre : Prop) (vs : List Value) (R : Tok → Value) : Prop :=
  ∀ (dp un : Nat) (gd : Option (List Code)) (cn : Str) (cs : Scope) (a : Addr) (ccd : Value) (outer : List Env) (A₀ : Around) (base h₀ : Heap) (L : Addr) (m : Str → Option Value) (s : Shared) (Q E : Value → Shared → Prop),
    Below A₀ base outer h₀ → Fr h₀ L s.heap m → K.In h₀ → News h₀ L s.heap news → Top p loose mean mg mb h₀ → cs.kind = .function →
    pre → dp + n < recursionLimit → un + 10 * n < cLine → CbRet h₀ L m news s Q R →
      wpAny (model prog w) (ktrTop dp un gd cn cs L a ccd [] outer) (call (.ref f) vs) Q E s
section
variable {prog : Program} {w : World} {A : Around} {E : Value → Shared → Prop} {s : Shared} {h₀ : Heap} {L : Addr} {news : List (Addr × Obj)}
theorem in_one {t : Addr} {c x : Int} {tk u : Tok} (r : Bool) {Q : Value → Shared → Prop} (N : News h₀ L s.heap news) (hm : (t, ({ cls := .type "tuple", data := .seq #[.int c tk] } : Obj)) ∈ news) (hr : decide (c = x) = r)
    (h : Q (.bool r) s) : wpAny (model prog w) A (compareOp .In (.int x u) (.ref t)) Q E s := by
  refine in_tuple_ints (items := #[.int c tk]) (ns := [c]) (News.isTup N hm) (.cons _ _ .nil) ?_
  have e : ([c].any fun n => n == x) = r := by rw [← hr]; simp only [List.any_cons, List.any_nil, Bool.or_false]; rfl
  rw [e]
  exact h
end
section
variable {h₀ h' : Heap} {L : Addr} {m : Str → Option Value} {news : List (Addr × Obj)} {s : Shared} {Q : Value → Shared → Prop} {tk' : Nat}
theorem ret_V {x y : Value} (hret : ∀ (t : Tok) (h' : Heap) (tk' : Nat), Fr h₀ L h' m → News h₀ L h' news → Q x { s with heap := h', toks := tk' }) (e : y = x) (F : Fr h₀ L h' m) (N : News h₀ L h' news) : Q y { s with heap := h', toks := tk' } := by
  subst e
  exact hret 0 h' tk' F N
theorem ret_By {x y : Array UInt8} {t : Tok} (hret : ∀ (t : Tok) (h' : Heap) (tk' : Nat), Fr h₀ L h' m → News h₀ L h' news → Q (.bytes x t) { s with heap := h', toks := tk' }) (e : y = x) (F : Fr h₀ L h' m) (N : News h₀ L h' news) : Q (.bytes y t) { s with heap := h', toks := tk' } := by
  subst e
  exact hret t h' tk' F N
end
abbrev EzRaise (n : Nat) (C : Addr) (prog : Program) (w : World) (K : Frag) (p : Program) (loose : List Str) (mean : ExcName → Option Value) (mg mb : Str → Option Value) (f : Addr) (news : List (Addr × Obj)) (pre : Prop) (vs : List Value) : Prop :=
  ∀ (dp un : Nat) (gd : Option (List Code)) (cn : Str) (cs : Scope) (a : Addr) (ccd : Value) (outer : List Env) (A₀ : Around) (base h₀ : Heap) (L : Addr) (m : Str → Option Value) (s : Shared) (Q E : Value → Shared → Prop),
    K.In base → Top p loose mean mg mb base → Below A₀ base outer h₀ → Fr h₀ L s.heap m → K.In h₀ → News h₀ L s.heap news → Top p loose mean mg mb h₀ → KtsDicts (outer.filterMap (·.frame)) h₀ → cs.kind = .function →
    pre → dp + n < recursionLimit → un + 10 * n < cLine →
    (∀ (g h' : Heap) (e t : Addr) (ws : List Value) (tk' : Nat), Fr h₀ L g m → RaisedS base g (envOf cn cs L a ccd :: outer) e (.ref C) t ws news h' → RaisedK base (envOf cn cs L a ccd :: outer) e (.ref C) t ws news h' → g.UpToSlots h' → E (.ref e) { s with heap := h', toks := tk' }) →
      wpAny (model prog w) (ktrTop dp un gd cn cs L a ccd [] outer) (call (.ref f) vs) Q E s
theorem raisedS_drop {base G h : Heap} {l : List Env} {e t : Addr} {cls : Value} {vs : List Value} {news news' : List (Addr × Obj)} (hs : ∀ p ∈ news, p ∈ news') (R : RaisedS base G l e cls t vs news' h) : RaisedS base G l e cls t vs news h := by
  obtain ⟨⟨B, hB, hBG, hl, hfl, hnew⟩, htup⟩ := R
  exact ⟨⟨B, hB, hBG, fun q hq => hl q (hs q hq), hfl, hnew⟩, htup⟩
theorem lit_len (s : String) (h : s.length ≤ 100) : (PySem.Str.ofString s).length ≤ 100 := by rw [PySem.ofString_length]; exact h
theorem num_len {n : Int} (h0 : 0 ≤ n) (h1 : n < 10000000000) : (PySem.Str.ofString (toString n)).length ≤ 100 := Nat.le_trans (KT.len_num h0 h1) (by decide)
theorem emp_len : PySem.Str.empty.length ≤ 100 := by decide +kernel
theorem fit_len {x : PySem.Str} {n : Nat} (h : x.length ≤ n) (hn : n ≤ 16777216) : x.length ≤ sizeLine := by rw [sizeLine_eq]; exact Nat.le_trans h hn
theorem and_keep {p q : Prop} (hp : p) (h : p → q) : p ∧ q := ⟨hp, h hp⟩
theorem emp_ok {n : Nat} : PySem.Str.empty.length ≤ n := by rw [show PySem.Str.empty.length = 0 by decide +kernel]; exact Nat.zero_le _
theorem app_ok {a b : PySem.Str} {k : Nat} (ha : a.length ≤ 100 * k) (hb : b.length ≤ 100) : (a ++ b).length ≤ 100 * (k + 1) := by rw [PySem.Str.length_append]; omega
theorem fit_ok {x : PySem.Str} (h : x.length ≤ 100 * 20) : x.length ≤ sizeLine := by rw [sizeLine_eq]; omega
end
section
/-- the frame's map behind some turns: the named names are not known, the others stand -/
def ovr : List Str → (Str → Option Value) → (Str → Option Value) → Str → Option Value
  | [], _, m, y => m y
  | n :: r, u, m, y => if y = n then u y else ovr r u m y
theorem ovr_self : ∀ (ns : List Str) (u m : Str → Option Value), (∀ z, z ∉ ns → u z = m z) → (fun y => ovr ns u m y) = u
  | [], u, m, h => by funext y; exact (h y (by simp)).symm
  | n :: r, u, m, h => by
    funext y
    show (if y = n then u y else ovr r u m y) = u y
    by_cases e : y = n
    · rw [if_pos e]
    · rw [if_neg e]
      by_cases e2 : y ∈ r
      · have key : ∀ (r : List Str), y ∈ r → ovr r u m y = u y := by
          intro r
          induction r with
          | nil => intro q; cases q
          | cons a b ih =>
            intro q
            show (if y = a then u y else ovr b u m y) = u y
            by_cases e3 : y = a
            · rw [if_pos e3]
            · rw [if_neg e3]
              rcases List.mem_cons.mp q with q | q
              · exact absurd q e3
              · exact ih q
        exact key r e2
      · have key : ∀ (r : List Str), y ∉ r → ovr r u m y = m y := by
          intro r
          induction r with
          | nil => intro _; rfl
          | cons a b ih =>
            intro q
            show (if y = a then u y else ovr b u m y) = m y
            rw [if_neg (fun (e3 : y = a) => q (by rw [e3]; exact List.mem_cons_self ..))]
            exact ih fun q' => q (List.mem_cons_of_mem _ q')
        rw [key r e2]
        exact (h y (fun q => (List.mem_cons.mp q).elim e e2)).symm
section
variable {prog : Program} {w : World} {A : Around} {E : Value → Shared → Prop} {s : Shared} {env : Env} {h₀ : Heap} {x : Str} {body : List Stmt} {Q : Flow → Shared → Prop}
theorem iter_seqW {l : Addr} {lo : Obj} {vs : List Value} {m₀ : Str → Option Value} {news : List (Addr × Obj)} {St : Nat → Heap → Prop} (names : List Str)
    (W : Walks prog w A s.heap.objs.size [s.heap.objs.size, l] [s.heap.objs.size] vs.length (fun i v => vs[i]? = some v) St) (F : Fr h₀ env.locals s.heap m₀) (N : News h₀ env.locals s.heap news) (hm : (l, lo) ∈ news)
    {io : Obj} (hst : St 0 (s.heap.push io))
    (turn : ∀ (i : Nat) (v : Value) (u : Str → Option Value) (h : Heap) (tk : Nat) (own : List (Addr × Obj)), vs[i]? = some v → Fr h₀ env.locals h (fun y => if y = x then some v else ovr names u m₀ y) → News h₀ env.locals h (own ++ news) →
      wpAny (model prog w) A (execs body env) (InvPost h₀ env.locals (fun m' => ∀ z, z ∉ x :: names → m' z = m₀ z) (own ++ news) { s with heap := h, toks := tk } Q) E { s with heap := h, toks := tk })
    (done : ∀ u h tk, Fr h₀ env.locals h (fun y => ovr (x :: names) u m₀ y) → News h₀ env.locals h news → Q .next { s with heap := h, toks := tk }) :
    LoopAtV prog w A h₀ env x body Q E (.ref s.heap.objs.size) { s with heap := s.heap.push io } := by
  have hax := N _ hm
  have hnew := next_is_new F
  let J : Nat → (Str → Option Value) → List (Addr × Obj) → Prop := fun _ m₁ news₁ => news₁ = news ∧ ∀ z, z ∉ x :: names → m₁ z = m₀ z
  refine ⟨_, _, _, vs.length, _, _, m₀, news, J, rfl, W, ?_, ?_, ?_, hst, F.push _, (fun p hp => ⟨Heap.get?_push_of_some _ (N p hp).1, (N p hp).2⟩), ⟨rfl, fun _ _ => rfl⟩, ?_, ?_⟩
  · intro hmm
    rcases List.mem_cons.mp hmm with e | hmm
    · exact absurd F.ns.lt (e ▸ Nat.lt_irrefl _)
    · exact hax.2.1 (List.mem_singleton.mp hmm).symm
  · intro b hb
    rw [List.mem_singleton.mp hb]
    exact hnew
  · intro p hp hI
    exact absurd (Heap.lt_size (N p hp).1) ((List.mem_singleton.mp hI) ▸ Nat.lt_irrefl _)
  · rintro i v m₁ news₁ s₁ own ⟨hh', tk', rfl⟩ hin hP ⟨rfl, hJ⟩ hoff _ _ _ _ F₁ N₁
    have e : (fun y => if y = x then some v else m₁ y) = fun y => if y = x then some v else ovr names m₁ m₀ y := by
      funext y
      by_cases e : y = x
      · rw [if_pos e, if_pos e]
      · rw [if_neg e, if_neg e]
        have h2 : (if y = x then m₁ y else ovr names m₁ m₀ y) = m₁ y := congrFun (ovr_self (x :: names) m₁ m₀ hJ) y
        rw [if_neg e] at h2
        exact h2.symm
    rw [e] at F₁
    refine wpAny_mono (turn i v m₁ hh' tk' own hP F₁ N₁) (fun f s₂ p => ?_) fun _ _ e => e
    have fin : InvEnd h₀ env.locals (fun m' => ∀ z, z ∉ x :: names → m' z = m₀ z) (own ++ news₁) { s with heap := hh', toks := tk' } s₂ → LoopStepU h₀ env.locals [s.heap.objs.size] own (J (i + 1)) { s with heap := hh', toks := tk' } .next s₂ := by
      rintro ⟨h', tk, m', news', e, F', N', hn, hm⟩
      exact ⟨rfl, h', tk, m', news₁, e, F', fun p hp => N' p (hn p hp), hoff, rfl, hm⟩
    cases f with
    | ret v => exact .ret p
    | brk => exact .brk p
    | next => exact .next (fin p)
    | cont => exact .cont (fin p)
  · rintro h' tk m' news' F' N' _ ⟨rfl, hJ⟩
    refine done m' h' tk ?_ N'
    rw [ovr_self (x :: names) m' m₀ hJ]
    exact F'
theorem iter_seqL {l : Addr} {lo : Obj} {vs : List Value} {n : Nat} {m₀ : Str → Option Value} {news : List (Addr × Obj)} (names : List Str)
    (hh : A.handled = none) (F : Fr h₀ env.locals s.heap m₀) (N : News h₀ env.locals s.heap news) (hm : (l, lo) ∈ news) (hc : lo.cls = .type "list") (hd : lo.data = .seq vs.toArray n)
    (turn : ∀ (i : Nat) (v : Value) (u : Str → Option Value) (h : Heap) (tk : Nat) (own : List (Addr × Obj)), vs[i]? = some v → Fr h₀ env.locals h (fun y => if y = x then some v else ovr names u m₀ y) → News h₀ env.locals h (own ++ news) →
      wpAny (model prog w) A (execs body env) (InvPost h₀ env.locals (fun m' => ∀ z, z ∉ x :: names → m' z = m₀ z) (own ++ news) { s with heap := h, toks := tk } Q) E { s with heap := h, toks := tk })
    (done : ∀ u h tk, Fr h₀ env.locals h (fun y => ovr (x :: names) u m₀ y) → News h₀ env.locals h news → Q .next { s with heap := h, toks := tk }) :
    wpAny (model prog w) A (pyIter (.ref l)) (fun it s₂ => LoopAtV prog w A h₀ env x body Q E it s₂) E s := by
  have hax := N _ hm
  have hl : s.heap.IsList l vs.toArray := ⟨lo, hax.1, hc, n, hd⟩
  have hne : l ≠ s.heap.objs.size := Nat.ne_of_lt (Heap.lt_size hax.1)
  refine wpAny_pyIter_list hl ?_
  have W := Walks.list (prog := prog) (w := w) hh s.heap.objs.size l hne vs.toArray
  have hlen : vs.toArray.size = vs.length := by simp
  rw [hlen] at W
  have eP : (fun (i : Nat) (v : Value) => vs.toArray[i]? = some v) = fun i v => vs[i]? = some v := by funext i v; simp
  rw [eP] at W
  exact iter_seqW names W F N hm ⟨⟨_, Heap.get?_push_size _ rfl, rfl, rfl⟩, hl.at fun o e => Heap.get?_push_of_some _ e⟩ turn done
theorem iter_seqT {l : Addr} {lo : Obj} {vs : List Value} {n : Nat} {m₀ : Str → Option Value} {news : List (Addr × Obj)} (names : List Str)
    (hh : A.handled = none) (F : Fr h₀ env.locals s.heap m₀) (N : News h₀ env.locals s.heap news) (hm : (l, lo) ∈ news) (hc : lo.cls = .type "tuple") (hd : lo.data = .seq vs.toArray n)
    (turn : ∀ (i : Nat) (v : Value) (u : Str → Option Value) (h : Heap) (tk : Nat) (own : List (Addr × Obj)), vs[i]? = some v → Fr h₀ env.locals h (fun y => if y = x then some v else ovr names u m₀ y) → News h₀ env.locals h (own ++ news) →
      wpAny (model prog w) A (execs body env) (InvPost h₀ env.locals (fun m' => ∀ z, z ∉ x :: names → m' z = m₀ z) (own ++ news) { s with heap := h, toks := tk } Q) E { s with heap := h, toks := tk })
    (done : ∀ u h tk, Fr h₀ env.locals h (fun y => ovr (x :: names) u m₀ y) → News h₀ env.locals h news → Q .next { s with heap := h, toks := tk }) :
    wpAny (model prog w) A (pyIter (.ref l)) (fun it s₂ => LoopAtV prog w A h₀ env x body Q E it s₂) E s := by
  have hax := N _ hm
  have hl : s.heap.IsTuple l vs.toArray := ⟨lo, hax.1, hc, n, hd⟩
  have hne : l ≠ s.heap.objs.size := Nat.ne_of_lt (Heap.lt_size hax.1)
  refine wpAny_pyIter_tuple hl ?_
  have W := Walks.tuple (prog := prog) (w := w) hh s.heap.objs.size l hne vs.toArray
  have hlen : vs.toArray.size = vs.length := by simp
  rw [hlen] at W
  have eP : (fun (i : Nat) (v : Value) => vs.toArray[i]? = some v) = fun i v => vs[i]? = some v := by funext i v; simp
  rw [eP] at W
  exact iter_seqW names W F N hm ⟨⟨_, Heap.get?_push_size _ rfl, rfl, rfl⟩, hl.at fun o e => Heap.get?_push_of_some _ e⟩ turn done
end
theorem one_of {a v : Value} {i : Nat} (h : [a][i]? = some v) : v = a := by
  cases i with
  | zero => exact (Option.some.inj h).symm
  | succ n => simp at h
theorem sub_refl {l : List (Addr × Obj)} : ∀ p ∈ l, p ∈ l := fun _ h => h
theorem sub_tail {q : Addr × Obj} {l l' : List (Addr × Obj)} (h : ∀ p ∈ l, p ∈ l') : ∀ p ∈ l, p ∈ q :: l' := fun p hp => List.mem_cons_of_mem _ (h p hp)
theorem if_no {n y : Str} {ns : List Str} {a b c : Option Value} (hy : y ∉ ns) (hn : ns.contains n = true) (h : b = c) : (if y = n then a else b) = c := by
  rw [if_neg (fun e => hy (by rw [e]; exact List.contains_iff_mem.mp hn))]
  exact h
end
section
/-- the number that bytes spell, the first the greatest -/
def natOf (b : Array UInt8) : Nat := b.toList.foldl (fun (acc : Nat) (c : UInt8) => acc * 256 + c.toNat) 0
def intOf (b : Array UInt8) : Int := (natOf b : Int)
theorem natOf_lt (b : Array UInt8) : natOf b < 256 ^ b.size := by
  have h := KFB.fold_lt b.toList 0
  rw [Nat.zero_add, Nat.one_mul, Array.length_toList] at h
  exact h
theorem grown_le {M : Model} {A : Around} {E : Value → Shared → Prop} {s : Shared} {n : Nat} {Q : Value → Shared → Prop} (hn : n < 256 ^ 1000) (h : Q (.int (n : Int) s.toks) { s with toks := s.toks + 1 }) : wpAny M A (mkIntGrown (n : Int)) Q E s := by
  unfold mkIntGrown
  have hl : ¬ ((n : Int).natAbs.log2 ≥ bitsLine) := by
    rw [Int.natAbs_natCast]
    have hb : bitsLine = 134217728 := by first | rfl | decide
    by_cases hz : n = 0
    · subst hz
      rw [hb]
      decide
    · have e : (256 : Nat) ^ 1000 = 2 ^ 8000 := by rw [show (256 : Nat) = 2 ^ 8 by decide, ← Nat.pow_mul]
      rw [e] at hn
      have h1 := (Nat.log2_lt hz).mpr hn
      omega
  rw [if_neg hl]
  exact wpAny_mkInt h
section
variable {prog : Program} {w : World} {M : Model} {A : Around} {E : Value → Shared → Prop} {s : Shared} {K : Frag} {h₀ : Heap} {L : Addr} {m : PySem.Str → Option Value} {news : List (Addr × Obj)}
abbrev kwBig (u : Tok) : List (PySem.Str × Value) := [(PySem.Str.ofString "byteorder", .str (PySem.Str.ofString "big") u), (PySem.Str.ofString "signed", .bool false)]
abbrev kwUns : List (PySem.Str × Value) := [(PySem.Str.ofString "signed", .bool false)]
theorem fb_tail {b : Array UInt8} {P : Fin → Shared → Prop} (hl : b.size ≤ 1000) (h : P (.done (.ret (.int (intOf b) s.toks))) { s with toks := s.toks + 1 }) :
    wpAny M A (mkIntGrown (b.toList.foldl (fun (acc : Int) (b : UInt8) => acc * 256 + (b.toNat : Int)) ((0 : Nat) : Int))) (fun v s' => P (.done (.ret v)) s') E s := by
  rw [KFB.foldI_eq]
  exact grown_le (Nat.lt_of_lt_of_le (natOf_lt b) (Nat.pow_le_pow_right (by decide) hl)) h
theorem fb_tree1 {b : Array UInt8} {t u : Tok} {P : Fin → Shared → Prop} (hl : b.size ≤ 1000) (h : P (.done (.ret (.int (intOf b) s.toks))) { s with toks := s.toks + 1 }) :
    wpAny M A (Builtin.«int.from_bytes» ⟨[.type "int", .bytes b t], kwBig u⟩) P E s := by
  unfold Builtin.«int.from_bytes»
  refine wpAny_bind (wpAny_of_eq (a := true) KFB.type_int ?_)
  refine KFB.if_not rfl ?_
  refine wpAny_bind (wpAny_of_eq (a := true) F.conv_sub_int ?_)
  refine KFB.if_not rfl ?_
  refine wpAny_bind (wpAny_of_eq (a := [some (.bytes b t), some (.str (PySem.Str.ofString "big") u), some (.bool false)]) (by kernel_rfl) ?_)
  refine wpAny_bind (wpAny_of_eq (a := PySem.Str.ofString "big") (by kernel_rfl) ?_)
  refine wpAny_bind (wpAny_of_eq (a := false) rfl ?_)
  refine wpAny_bind (wpAny_of_eq (a := false) (by kernel_rfl) ?_)
  refine wpAny_bind (wpAny_of_eq (a := b) rfl ?_)
  refine wpAny_bind (wpAny_mono (fb_tail (E := E) hl h) (fun v s' hv => ?_) fun _ _ e => e)
  refine KFB.if_so (by decide +kernel) ?_
  exact wpAny_bind (wpAny_pure (wpAny_pure hv))
theorem fb_tree2 {b : Array UInt8} {t u : Tok} {P : Fin → Shared → Prop} (hl : b.size ≤ 1000) (h : P (.done (.ret (.int (intOf b) s.toks))) { s with toks := s.toks + 1 }) :
    wpAny M A (Builtin.«int.from_bytes» ⟨[.type "int", .bytes b t, .str (PySem.Str.ofString "big") u], kwUns⟩) P E s := by
  unfold Builtin.«int.from_bytes»
  refine wpAny_bind (wpAny_of_eq (a := true) KFB.type_int ?_)
  refine KFB.if_not rfl ?_
  refine wpAny_bind (wpAny_of_eq (a := true) F.conv_sub_int ?_)
  refine KFB.if_not rfl ?_
  refine wpAny_bind (wpAny_of_eq (a := [some (.bytes b t), some (.str (PySem.Str.ofString "big") u), some (.bool false)]) (by kernel_rfl) ?_)
  refine wpAny_bind (wpAny_of_eq (a := PySem.Str.ofString "big") (by kernel_rfl) ?_)
  refine wpAny_bind (wpAny_of_eq (a := false) rfl ?_)
  refine wpAny_bind (wpAny_of_eq (a := false) (by kernel_rfl) ?_)
  refine wpAny_bind (wpAny_of_eq (a := b) rfl ?_)
  refine wpAny_bind (wpAny_mono (fb_tail (E := E) hl h) (fun v s' hv => ?_) fun _ _ e => e)
  refine KFB.if_so (by decide +kernel) ?_
  exact wpAny_bind (wpAny_pure (wpAny_pure hv))
theorem fb_check1 {b : Array UInt8} {t u : Tok} : checkBoundCall "int.from_bytes" ⟨[.type "int", .bytes b t], kwBig u⟩ = pure () := by kernel_rfl
theorem fb_check2 {b : Array UInt8} {t u : Tok} : checkBoundCall "int.from_bytes" ⟨[.type "int", .bytes b t, .str (PySem.Str.ofString "big") u], kwUns⟩ = pure () := by kernel_rfl
theorem fb_call {x : Addr} {pos : List Value} {kw : List (PySem.Str × Value)} {z : Int} {Q : Value → Shared → Prop} (ho : KFB.StandsAt x s.heap)
    (hc : checkBoundCall "int.from_bytes" ⟨.type "int" :: pos, kw⟩ = pure ())
    (tree : ∀ {P : Fin → Shared → Prop} {E' : Value → Shared → Prop} {A' : Around}, P (.done (.ret (.int z s.toks))) { s with toks := s.toks + 1 } → wpAny (model prog w) A' (Builtin.«int.from_bytes» ⟨.type "int" :: pos, kw⟩) P E' s)
    (h : Q (.int z s.toks) { s with toks := s.toks + 1 }) : wpAny (model prog w) A (call (.ref x) pos kw) Q E s := by
  refine wpAny_call (codeAny_of_tree ?_)
  show wpAny _ A.in1 (callAny (.ref x) ⟨pos, kw⟩) _ _ s
  simp only [callAny]
  refine wpAny_bind (wpAny_load ho ?_)
  simp only [KFB.bound, show (Value.type "builtin_function_or_method" == Value.type "method" || Value.type "builtin_function_or_method" == Value.type "builtin_function_or_method" || Value.type "builtin_function_or_method" == Value.type "method-wrapper") = true by decide, if_true]
  refine KFB.if_so (by decide) ?_
  refine wpAny_bind (wpAny_of_eq (a := ()) hc ?_)
  refine wpAny_bind (wpAny_pure (wpAny_pure ?_))
  exact ⟨KFB.quiet_fb, codeAny_builtin KFB.entry_fb (tree h)⟩
theorem fb_1 {x : Addr} {b : Array UInt8} {t u : Tok} {Q : Value → Shared → Prop} (N : News h₀ L s.heap news) (hm : (x, KFB.bound) ∈ news) (hl : b.size ≤ 1000)
    (h : ∀ t' k, Q (.int (intOf b) t') { s with toks := k }) : wpAny (model prog w) A (call (.ref x) [.bytes b t] (kwBig u)) Q E s :=
  fb_call (KFB.at_of N hm) fb_check1 (fun z => fb_tree1 hl z) (h _ _)
theorem fb_2 {x : Addr} {b : Array UInt8} {t u : Tok} {Q : Value → Shared → Prop} (N : News h₀ L s.heap news) (hm : (x, KFB.bound) ∈ news) (hl : b.size ≤ 1000)
    (h : ∀ t' k, Q (.int (intOf b) t') { s with toks := k }) : wpAny (model prog w) A (call (.ref x) [.bytes b t, .str (PySem.Str.ofString "big") u] kwUns) Q E s :=
  fb_call (KFB.at_of N hm) fb_check2 (fun z => fb_tree2 hl z) (h _ _)
theorem keeps_bound {u : Addr} (h : Heap) (X : KFB.StandsAt u h) : ∃ k, (k = Keeper.frame ∨ k = Keeper.machine ∨ k = Keeper.boundFrame) ∧ Looks M h (keeperOf (.ref u)) k :=
  ⟨.machine, .inr (.inl rfl), (Looks.ld (part := none) X).andThen .now⟩
theorem callWith_boundKW {pos : Pos} {u : Addr} {first : List Value} {env : Env} {e : Expr} {rest : List Expr} {kws : List Keyword} {Q : Value → Shared → Prop} (_N : News h₀ L s.heap news) (_hm : (u, KFB.bound) ∈ news)
    (hall : (backToKw pos (keywordEach kws env)).all (·.1.isSome) = true)
    (h : wpAny M A (spliced (backTo pos (starEach (e :: rest) env))) (fun vs s₁ => wpAny M A (evalAll ((backToKw pos (keywordEach kws env)).map (·.2)))
      (fun ks s₂ => KFB.StandsAt u s₂.heap ∧ wpAny M A (call (.ref u) (first ++ vs) (((backToKw pos (keywordEach kws env)).filterMap (·.1)).zip ks)) Q E s₂) E s₁) E s)
    (hplain : ((backTo pos (starEach (e :: rest) env)).any (·.1) || (backToKw pos (keywordEach kws env)).any (·.1.isNone)) = false := by rfl) (he : starEach (e :: rest) env = (false, eval e env) :: starEach rest env := by rfl) :
    wpAny M A (callWith pos (.ref u) first (backTo pos (starEach (e :: rest) env)) (backToKw pos (keywordEach kws env))) Q E s :=
  callWith_of hplain keeps_bound (evalArgs_kw2 hall h he)
end
end
section
theorem arr4 {b : Array UInt8} (h : b.size = 4) : ∃ c0 c1 c2 c3, b = #[c0, c1, c2, c3] := by
  obtain ⟨l⟩ := b
  match l, h with
  | [c0, c1, c2, c3], _ => exact ⟨c0, c1, c2, c3, rfl⟩
theorem arr5 {b : Array UInt8} (h : b.size = 5) : ∃ c0 c1 c2 c3 c4, b = #[c0, c1, c2, c3, c4] := by
  obtain ⟨l⟩ := b
  match l, h with
  | [c0, c1, c2, c3, c4], _ => exact ⟨c0, c1, c2, c3, c4, rfl⟩
/-- all but the first of four bytes -/
def tl3 (b : Array UInt8) : Array UInt8 := KBy.picked b (some 1) none
theorem tl3_eq (c0 c1 c2 c3 : UInt8) : tl3 #[c0, c1, c2, c3] = #[c1, c2, c3] := by
  show Builtin.Bytes.sliced #[c0, c1, c2, c3] (sliceBounds (some 1) none none 4).1 (sliceBounds (some 1) none none 4).2.1 (sliceBounds (some 1) none none 4).2.2 = _
  rw [show sliceBounds (some 1) none none 4 = (1, 4, 1) by decide +kernel]
  dsimp only [Builtin.Bytes.sliced]
  rw [show sliceRange 1 4 1 = [1, 2, 3] by decide +kernel]
  rfl
theorem hd2_eq (c0 c1 c2 c3 c4 : UInt8) : KBy.picked #[c0, c1, c2, c3, c4] none (some 2) = #[c0, c1] := by
  show Builtin.Bytes.sliced #[c0, c1, c2, c3, c4] (sliceBounds none (some 2) none 5).1 (sliceBounds none (some 2) none 5).2.1 (sliceBounds none (some 2) none 5).2.2 = _
  rw [show sliceBounds none (some 2) none 5 = (0, 2, 1) by decide +kernel]
  dsimp only [Builtin.Bytes.sliced]
  rw [show sliceRange 0 2 1 = [0, 1] by decide +kernel]
  rfl
theorem hd3_eq (c0 c1 c2 c3 c4 : UInt8) : KBy.picked #[c0, c1, c2, c3, c4] none (some 3) = #[c0, c1, c2] := by
  show Builtin.Bytes.sliced #[c0, c1, c2, c3, c4] (sliceBounds none (some 3) none 5).1 (sliceBounds none (some 3) none 5).2.1 (sliceBounds none (some 3) none 5).2.2 = _
  rw [show sliceBounds none (some 3) none 5 = (0, 3, 1) by decide +kernel]
  dsimp only [Builtin.Bytes.sliced]
  rw [show sliceRange 0 3 1 = [0, 1, 2] by decide +kernel]
  rfl
theorem whole2 (c0 c1 c2 c3 c4 : UInt8) : KBy.whole #[c0, c1, c2, c3, c4] none (some 2) = false := by
  show ((sliceBounds none (some 2) none 5).1 == 0 && (sliceBounds none (some 2) none 5).2.2 == 1 && (sliceBounds none (some 2) none 5).2.1 == 5 && !(#[c0, c1, c2, c3, c4] : Array UInt8).isEmpty) = false
  rw [show sliceBounds none (some 2) none 5 = (0, 2, 1) by decide +kernel]
  rfl
theorem whole3 (c0 c1 c2 c3 c4 : UInt8) : KBy.whole #[c0, c1, c2, c3, c4] none (some 3) = false := by
  show ((sliceBounds none (some 3) none 5).1 == 0 && (sliceBounds none (some 3) none 5).2.2 == 1 && (sliceBounds none (some 3) none 5).2.1 == 5 && !(#[c0, c1, c2, c3, c4] : Array UInt8).isEmpty) = false
  rw [show sliceBounds none (some 3) none 5 = (0, 3, 1) by decide +kernel]
  rfl
theorem whole1 (c0 c1 c2 c3 : UInt8) : KBy.whole #[c0, c1, c2, c3] (some 1) none = false := by
  show ((sliceBounds (some 1) none none 4).1 == 0 && (sliceBounds (some 1) none none 4).2.2 == 1 && (sliceBounds (some 1) none none 4).2.1 == 4 && !(#[c0, c1, c2, c3] : Array UInt8).isEmpty) = false
  rw [show sliceBounds (some 1) none none 4 = (1, 4, 1) by decide +kernel]
  rfl
theorem tl3_size {b : Array UInt8} (h : b.size = 4) : (tl3 b).size = 3 := by
  obtain ⟨c0, c1, c2, c3, rfl⟩ := arr4 h
  rw [tl3_eq]
  rfl
theorem tl3_val {b : Array UInt8} (h : b.size = 4) : intOf (tl3 b) = at_ b 1 * 65536 + at_ b 2 * 256 + at_ b 3 := by
  obtain ⟨c0, c1, c2, c3, rfl⟩ := arr4 h
  rw [tl3_eq]
  show (((((0 * 256 + c1.toNat) * 256 + c2.toNat) * 256 + c3.toNat : Nat)) : Int) = (c1.toNat : Int) * 65536 + (c2.toNat : Int) * 256 + (c3.toNat : Int)
  omega
theorem hd_size {b : Array UInt8} {k : Nat} (h : b.size = 5) (hk : k = 2 ∨ k = 3) : (KBy.picked b none (some (k : Int))).size = k := by
  obtain ⟨c0, c1, c2, c3, c4, rfl⟩ := arr5 h
  rcases hk with rfl | rfl
  · rw [show ((2 : Nat) : Int) = 2 from rfl, hd2_eq]; rfl
  · rw [show ((3 : Nat) : Int) = 3 from rfl, hd3_eq]; rfl
def worth (b : Array UInt8) : Int :=
  if at_ b 0 < 3 then (at_ b 1 % 128 * 65536 + at_ b 2 * 256 + at_ b 3) / 256 ^ (3 - at_ b 0).toNat else (at_ b 1 % 128 * 65536 + at_ b 2 * 256 + at_ b 3) * 256 ^ (at_ b 0 - 3).toNat
section
variable {prog : Program} {w : World} {A : Around} {E : Value → Shared → Prop} {s : Shared} {value slice : PySem.Expr} {b : Array UInt8} {t u : Tok} {h₀ : Heap} {L : Addr} {m : PySem.Str → Option Value} {news : List (Addr × Obj)}
theorem slice_tl3 {lo : Tok} {Q : Value → Shared → Prop} (hb : b.size = 4) (hF : Fr h₀ L s.heap m) (hN : News h₀ L s.heap news)
    (h : ∀ h' t' k, Fr h₀ L h' m → News h₀ L h' news → Q (.bytes (tl3 b) t') { s with heap := h', toks := k })
    (hs : subscripted slice false (.bytes b t) (.ref s.heap.objs.size) = operate [.ref s.heap.objs.size, .bytes b t] (getItem (.bytes b t) (.ref s.heap.objs.size)) := by with_unfolding_all rfl)
    (ht : ∀ r, letTemporaryGo value (.bytes b t) r = pure () := by intro _; with_unfolding_all rfl) :
    wpAny (model prog w) A (subscriptTail value slice (.bytes b t) (.ref s.heap.objs.size)) Q E { s with heap := s.heap.push { cls := .type "slice", data := .fields #[.int 1 lo, .none, .none] } } :=
  KBy.slice_N (lo := some 1) (hi := none) hF hN (.int 1 lo) .none (by obtain ⟨c0, c1, c2, c3, rfl⟩ := arr4 hb; exact whole1 ..) (by rw [show (KBy.picked b (some 1) none).size = 3 from tl3_size hb]; decide) h hs ht
theorem slice_hd {k : Nat} {hi : Tok} {Q : Value → Shared → Prop} (hb : b.size = 5) (hk : k = 2 ∨ k = 3) (hF : Fr h₀ L s.heap m) (hN : News h₀ L s.heap news)
    (h : ∀ d h' t' k', d.size = k → Fr h₀ L h' m → News h₀ L h' news → Q (.bytes d t') { s with heap := h', toks := k' })
    (hs : subscripted slice false (.bytes b t) (.ref s.heap.objs.size) = operate [.ref s.heap.objs.size, .bytes b t] (getItem (.bytes b t) (.ref s.heap.objs.size)) := by with_unfolding_all rfl)
    (ht : ∀ r, letTemporaryGo value (.bytes b t) r = pure () := by intro _; with_unfolding_all rfl) :
    wpAny (model prog w) A (subscriptTail value slice (.bytes b t) (.ref s.heap.objs.size)) Q E { s with heap := s.heap.push { cls := .type "slice", data := .fields #[.none, .int (k : Int) hi, .none] } } :=
  KBy.slice_N (lo := none) (hi := some (k : Int)) hF hN .none (.int (k : Int) hi) (by obtain ⟨c0, c1, c2, c3, c4, rfl⟩ := arr5 hb; rcases hk with rfl | rfl; exact whole2 ..; exact whole3 ..) (by rw [hd_size hb hk]; omega) (fun h' t' k' F N => h _ h' t' k' (hd_size hb hk) F N) hs ht
theorem and_mask {x : Int} {Q : Value → Shared → Prop} (h : ∀ t' k, 0 ≤ x % 8388608 → x % 8388608 < 8388608 → Q (.int (x % 8388608) t') { s with toks := k }) : wpAny (model prog w) A (binaryOp .BitAnd (.int x t) (.int 8388607 u)) Q E s := by
  refine and_int ?_
  rw [show (8388607 : Int) = 2 ^ 23 - 1 by decide, kbt_mask x 23, show (2 : Int) ^ 23 = 8388608 by decide]
  exact h _ _ (by omega) (by omega)
theorem shr {x n : Int} {Q : Value → Shared → Prop} (h0 : 0 ≤ n) (h : ∀ t' k, Q (.int (x / 2 ^ n.toNat) t') { s with toks := k }) : wpAny (model prog w) A (binaryOp .RShift (.int x t) (.int n u)) Q E s := by
  refine rshift_int h0 ?_
  rw [Int.fdiv_eq_ediv_of_nonneg _ (Int.le_of_lt (kbt_pos _))]
  exact h _ _
theorem shl {x n : Int} {Q : Value → Shared → Prop} (h0 : 0 ≤ n) (h1 : n ≤ 100000) (hx0 : 0 ≤ x) (hx : x < 4294967296) (h : ∀ t' k, Q (.int (x * 2 ^ n.toNat) t') { s with toks := k }) : wpAny (model prog w) A (binaryOp .LShift (.int x t) (.int n u)) Q E s :=
  lshift_int_small h0 (by omega) (by omega) (h _ _)
end
theorem pow8 (k : Nat) : (2 : Int) ^ (8 * k) = 256 ^ k := by
  rw [Int.pow_mul]
  rfl
theorem toNat8 {n : Int} (h : 0 ≤ n) : (8 * n).toNat = 8 * n.toNat := by omega
theorem val_lo {b : Array UInt8} (hb : b.size = 4) (h : at_ b 0 < 3) : intOf (tl3 b) % 8388608 / 2 ^ (8 * (3 - at_ b 0)).toNat = worth b := by
  have r1 := at_range b 1
  have r2 := at_range b 2
  have r3 := at_range b 3
  unfold worth
  rw [if_pos h, tl3_val hb, toNat8 (by omega), pow8]
  congr 1
  omega
theorem val_hi {b : Array UInt8} (hb : b.size = 4) (h : ¬ at_ b 0 < 3) : intOf (tl3 b) % 8388608 * 2 ^ (8 * (at_ b 0 - 3)).toNat = worth b := by
  have r1 := at_range b 1
  have r2 := at_range b 2
  have r3 := at_range b 3
  unfold worth
  rw [if_neg h, tl3_val hb, toNat8 (by omega), pow8]
  congr 1
  omega
end
section
/-- k bytes that spell x, the first the greatest -/
def be (k : Nat) (x : Int) : Array UInt8 := (KTBy.low x k).reverse.toArray
theorem be_size (k : Nat) (x : Int) : (be k x).size = k := by
  show (KTBy.low x k).reverse.length = k
  rw [List.length_reverse, KTBy.low_length]
theorem be_ints {k : Nat} {x : Int} (h0 : 0 ≤ x) (h1 : x < 256 ^ k) : KBw.bInts (be k x) = (KTBy.little k x).reverse := by
  show (List.map (fun c : UInt8 => ((c.toNat : Nat) : Int)) (List.reverse (KTBy.low x k))) = (KTBy.little k x).reverse
  rw [List.map_reverse, KTBy.low_ints h0 h1, ← KTBy.little_eq]
theorem natOf_ints (b : Array UInt8) : intOf b = (KBw.bInts b).foldl (fun a k => a * 256 + k) 0 := KFB.fold_cast b.toList 0
theorem fold_little : ∀ (k : Nat) (x : Int), 0 ≤ x → x < 256 ^ k → (KTBy.little k x).reverse.foldl (fun a c => a * 256 + c) 0 = x
  | 0, x, h0, h1 => by
    rw [Int.pow_zero] at h1
    show (0 : Int) = x
    omega
  | k + 1, x, h0, h1 => by
    show (x % 256 :: KTBy.little k (x / 256)).reverse.foldl (fun a c => a * 256 + c) 0 = x
    rw [List.reverse_cons, List.foldl_append, fold_little k (x / 256) (by omega) (by rw [Int.pow_succ] at h1; omega)]
    show x / 256 * 256 + x % 256 = x
    omega
theorem be_val {k : Nat} {x : Int} (h0 : 0 ≤ x) (h1 : x < 256 ^ k) : intOf (be k x) = x := by
  rw [natOf_ints, be_ints h0 h1, fold_little k x h0 h1]
section
variable {prog : Program} {w : World} {M : Model} {A : Around} {E : Value → Shared → Prop} {s : Shared} {x : Int} {k : Nat} {t u v : Tok}
open PySem.Builtin.Int (intBits)
theorem args_to : argsOk "int.to_bytes" ⟨[.int x t, .int (k : Int) u, .str (PySem.Str.ofString "big") v], kwUns⟩ := by unfold argsOk; kernel_rfl
theorem to_be {Q : Value → Shared → Prop} (hk : k ≤ 1000) (h0 : 0 ≤ x) (h1 : x < 256 ^ k) (h : ∀ t' k', Q (.bytes (be k x) t') { s with toks := k' }) :
    wpAny (model prog w) A (call (.builtin "int.to_bytes") [.int x t, .int (k : Int) u, .str (PySem.Str.ofString "big") v] kwUns) Q E s := by
  refine wpAny_call_entry_kw KTBy.slot (typeIs_int s x t) KTBy.entry ?_ args_to
  have hb := KTBy.bits_le rfl h0 h1
  show wpAny _ _ (Builtin.Int.intOfSelf (.int x t) >>= fun y => _) _ _ s
  refine wpAny_bind (wpAny_of_eq (a := x) rfl ?_)
  show wpAny _ _ (Builtin.Int.intBindNamed "to_bytes" ["length", "byteorder", "signed"] 0 2 [.int (k : Int) u, .str (PySem.Str.ofString "big") v] kwUns >>= fun l => _) _ _ s
  refine wpAny_bind (wpAny_of_eq (a := [some (.int (k : Int) u), some (.str (PySem.Str.ofString "big") v), some (.bool false)]) (by kernel_rfl) ?_)
  show wpAny _ _ (Builtin.Int.intIndex "int.to_bytes" (.int (k : Int) u) >>= fun n => _) _ _ s
  refine wpAny_bind (wpAny_of_eq (a := (k : Int)) rfl ?_)
  refine KTBy.if_not (by show (decide ((k : Int) < -(2 ^ 63 : Int)) || decide ((k : Int) ≥ 2 ^ 63)) = false; rw [decide_eq_false (show ¬ ((k : Int) < -(2 ^ 63 : Int)) by omega), decide_eq_false (show ¬ ((k : Int) ≥ 2 ^ 63) by omega)]; rfl) ?_
  refine wpAny_bind (wpAny_of_eq (a := PySem.Str.ofString "big") (by kernel_rfl) ?_)
  refine wpAny_bind (wpAny_of_eq (a := false) rfl ?_)
  refine wpAny_bind (wpAny_of_eq (a := false) (by kernel_rfl) ?_)
  refine wpAny_ite_false (decide_eq_false (show ¬ ((k : Int) < 0) by omega)) ?_
  refine wpAny_ite_false (decide_eq_false (show ¬ ((k : Int) > 2 ^ 63 - 1 - 33) by omega)) ?_
  refine wpAny_ite_false (decide_eq_false (show ¬ ((k : Int) > (sizeLine : Int)) by rw [sizeLine_eq]; omega)) ?_
  refine KTBy.if_not (by show (decide (x < 0) && !false) = false; rw [decide_eq_false (show ¬ x < 0 by omega)]; rfl) ?_
  refine KTBy.if_not (by show (_ && decide ((intBits x : Int) > 8 * (k : Int))) = false; rw [decide_eq_false (show ¬ ((intBits x : Int) > 8 * (k : Int)) by omega), Bool.and_false]) ?_
  refine wpAny_bind (wpAny_mkBytes (wpAny_pure ⟨_, rfl, ?_⟩) (by show (List.reverse (KTBy.low x (Int.toNat (k : Int)))).length ≤ sizeLine; rw [List.length_reverse, KTBy.low_length, Int.toNat_natCast, sizeLine_eq]; omega))
  exact h _ _
theorem callWith_bKW {env : Env} {pos : Pos} {id : String} {first : List Value} {e : Expr} {rest : List Expr} {kws : List Keyword} {Q : Value → Shared → Prop}
    (h : wpAny M A (spliced (backTo pos (starEach (e :: rest) env))) (fun vs s₁ => wpAny M A (evalAll ((backToKw pos (keywordEach kws env)).map (·.2)))
      (fun kvs s₂ => wpAny M A (call (.builtin id) (first ++ vs) (((backToKw pos (keywordEach kws env)).filterMap (·.1)).zip kvs)) Q E s₂) E s₁) E s)
    (he : backTo pos (starEach (e :: rest) env) = (false, eval e env) :: backTo pos (starEach rest env) := by rfl)
    (hplain : (backTo pos (starEach (e :: rest) env)).any (·.1) = false := by rfl)
    (hall : (backToKw pos (keywordEach kws env)).all (·.1.isSome) = true := by rfl)
    (hkw : (backToKw pos (keywordEach kws env)).any (·.1.isNone) = false := by rfl) :
    wpAny M A (callWith pos (.builtin id) first (backTo pos (starEach (e :: rest) env)) (backToKw pos (keywordEach kws env))) Q E s := by
  refine callWith_builtin_kwB hplain hkw ?_
  rw [he] at h ⊢
  exact evalArgs_kwB hall h
end

abbrev big : Int := 115792089237316195423570985008687907853269984665640564039457584007913129639936
section
variable {prog : Program} {w : World} {M : Model} {A : Around} {E : Value → Shared → Prop} {s : Shared} {x : Int} {t u v : Tok}
theorem pow_256_32 {Q : Value → Shared → Prop} (h : ∀ t' k, Q (.int 115792089237316195423570985008687907853269984665640564039457584007913129639936 t') { s with toks := k }) : wpAny (model prog w) A (binaryOp .Pow (.int 256 t) (.int 32 u)) Q E s :=
  pow_int_small (by decide) (by decide) (by decide) (by rw [show (256 : Int) ^ (32 : Int).toNat = 115792089237316195423570985008687907853269984665640564039457584007913129639936 by decide +kernel]; exact h _ _)
theorem pow_2_256 {Q : Value → Shared → Prop} (h : ∀ t' k, Q (.int 115792089237316195423570985008687907853269984665640564039457584007913129639936 t') { s with toks := k }) : wpAny (model prog w) A (binaryOp .Pow (.int 2 t) (.int 256 u)) Q E s :=
  pow_int_small (by decide) (by decide) (by decide) (by rw [show (2 : Int) ^ (256 : Int).toNat = 115792089237316195423570985008687907853269984665640564039457584007913129639936 by decide +kernel]; exact h _ _)
theorem pow_256_27 {Q : Value → Shared → Prop} (h : ∀ t' k, Q (.int 105312291668557186697918027683670432318895095400549111254310977536 t') { s with toks := k }) : wpAny (model prog w) A (binaryOp .Pow (.int 256 t) (.int 27 u)) Q E s :=
  pow_int_small (by decide) (by decide) (by decide) (by rw [show (256 : Int) ^ (27 : Int).toNat = 105312291668557186697918027683670432318895095400549111254310977536 by decide +kernel]; exact h _ _)
theorem pow_256 {n : Int} {Q : Value → Shared → Prop} (h0 : 0 ≤ n) (h1 : n ≤ 1000) (h : ∀ t' k, Q (.int (256 ^ n.toNat) t') { s with toks := k }) : wpAny (model prog w) A (binaryOp .Pow (.int 256 t) (.int n u)) Q E s :=
  pow_int_small h0 (by omega) (by decide) (h _ _)
theorem e32 : (256 : Int) ^ 32 = 115792089237316195423570985008687907853269984665640564039457584007913129639936 := by decide +kernel
theorem e3 : (256 : Int) ^ 3 = 16777216 := by decide +kernel
theorem to_be32 {Q : Value → Shared → Prop} (h0 : 0 ≤ x) (h1 : x < 115792089237316195423570985008687907853269984665640564039457584007913129639936) (h : ∀ t' k', Q (.bytes (be 32 x) t') { s with toks := k' }) :
    wpAny (model prog w) A (call (.builtin "int.to_bytes") [.int x t, .int 32 u, .str (PySem.Str.ofString "big") v] kwUns) Q E s :=
  to_be (k := 32) (by decide) h0 (by rw [e32]; exact h1) h
theorem to_be3 {Q : Value → Shared → Prop} (h0 : 0 ≤ x) (h1 : x < 16777216) (h : ∀ t' k', Q (.bytes (be 3 x) t') { s with toks := k' }) :
    wpAny (model prog w) A (call (.builtin "int.to_bytes") [.int x t, .int 3 u, .str (PySem.Str.ofString "big") v] kwUns) Q E s :=
  to_be (k := 3) (by decide) h0 (by rw [e3]; exact h1) h
end
theorem fact_pow (n : Nat) : (0 : Int) < 256 ^ n := pow_pos_of (by decide) n
theorem worth_nonneg (b : Array UInt8) : 0 ≤ worth b := by
  have r1 := at_range b 1
  have r2 := at_range b 2
  have r3 := at_range b 3
  unfold worth
  split
  · exact Int.ediv_nonneg (by omega) (Int.le_of_lt (fact_pow _))
  · exact Int.mul_nonneg (by omega) (Int.le_of_lt (fact_pow _))

theorem be32_ok (x : Int) : (be 32 x).size ≤ 1000 := by rw [be_size]; decide
section
variable {prog : Program} {w : World} {A : Around} {E : Value → Shared → Prop} {s : Shared} {h₀ : Heap} {L : Addr} {news : List (Addr × Obj)} {x : Int} {t u : Tok}
theorem fb_2be {a : Addr} {Q : Value → Shared → Prop} (N : News h₀ L s.heap news) (hm : (a, KFB.bound) ∈ news) (h0 : 0 ≤ x) (h1 : x < 115792089237316195423570985008687907853269984665640564039457584007913129639936)
    (h : ∀ t' k, Q (.int x t') { s with toks := k }) : wpAny (model prog w) A (call (.ref a) [.bytes (be 32 x) t, .str (PySem.Str.ofString "big") u] kwUns) Q E s :=
  fb_2 N hm (be32_ok x) (by rw [be_val h0 (by rw [e32]; exact h1)]; exact h)
end
end
section
open PySem.Builtin.Int (intBits)
/-- the significand that goes with p octets -/
def pw (x : Int) (p : Nat) : Int := if p < 3 then x * 256 ^ (3 - p) else x / 256 ^ (p - 3)
theorem p256 (n : Nat) : (0 : Int) < 256 ^ n := fact_pow n
theorem pw_lt (x M : Int) (p : Nat) : pw x p < M ↔ x * 16777216 < M * 256 ^ p := by
  have e3 : (256 : Int) ^ 3 = 16777216 := by decide
  unfold pw
  split
  · rename_i h
    have e : (256 : Int) ^ (3 - p) * 256 ^ p = 16777216 := by
      rw [← Int.pow_add, show 3 - p + p = 3 by omega, e3]
    have e' : x * 16777216 = x * 256 ^ (3 - p) * 256 ^ p := by rw [Int.mul_assoc, e]
    rw [e']
    constructor
    · intro h1
      exact Int.mul_lt_mul_of_pos_right h1 (p256 p)
    · intro h1
      exact Int.lt_of_mul_lt_mul_right h1 (Int.le_of_lt (p256 p))
  · rename_i h
    have e : (256 : Int) ^ p = 256 ^ (p - 3) * 16777216 := by
      rw [← e3, ← Int.pow_add, show p - 3 + 3 = p by omega]
    rw [e, ← Int.mul_assoc, Int.ediv_lt_iff_lt_mul (p256 _)]
    omega
theorem pw_nonneg {x : Int} (h : 0 ≤ x) (p : Nat) : 0 ≤ pw x p := by
  unfold pw
  split
  · exact Int.mul_nonneg h (Int.le_of_lt (p256 _))
  · exact Int.ediv_nonneg h (Int.le_of_lt (p256 _))
theorem pow_mono {q p : Nat} (h : q ≤ p) : (256 : Int) ^ q ≤ 256 ^ p := by
  have e : (256 : Int) ^ p = 256 ^ q * 256 ^ (p - q) := by rw [← Int.pow_add, show q + (p - q) = p by omega]
  rw [e]
  have h1 := p256 q
  have h2 : (1 : Int) ≤ 256 ^ (p - q) := p256 (p - q)
  have h3 := Int.mul_le_mul_of_nonneg_left h2 (Int.le_of_lt h1)
  rw [Int.mul_one] at h3
  exact h3
theorem pw_not {x : Int} {q p : Nat} (h : q ≤ p) (hn : ¬ pw x p < 8388608) : ¬ pw x q < 8388608 := by
  rw [pw_lt] at hn ⊢
  have h1 := pow_mono h
  intro h2
  apply hn
  exact Int.lt_of_lt_of_le h2 (Int.mul_le_mul_of_nonneg_left h1 (by decide))
/-- the octets of a number's form -/
def fp (x : Int) : Nat := ((List.range 34).find? fun p => decide (pw x p < 8388608)).getD 0
theorem fp_of {x : Int} {p : Nat} (hp : p < 34) (h : pw x p < 8388608) (hn : ∀ q, q < p → ¬ pw x q < 8388608) : fp x = p := by
  have e : (List.range 34).find? (fun p => decide (pw x p < 8388608)) = some p := by
    rw [List.find?_range_eq_some]
    exact ⟨decide_eq_true h, List.mem_range.mpr hp, fun j hj => by rw [decide_eq_false (hn j hj)]; rfl⟩
  unfold fp
  rw [e]
  rfl
def mk (p : Nat) (v : Int) : Array UInt8 := byteArr [(p : Int), v / 65536, v / 256 % 256, v % 256]
/-- the compact form of a number -/
def lform (x : Int) : Array UInt8 := mk (fp x) (pw x (fp x))
theorem lform_of {x : Int} {p : Nat} (hp : p < 34) (h : pw x p < 8388608) (hn : ∀ q, q < p → ¬ pw x q < 8388608) : lform x = mk p (pw x p) := by
  unfold lform
  rw [fp_of hp h hn]
theorem lform_size (x : Int) : (lform x).size = 4 := byteArr_size _
theorem fp_spec {x : Int} (h1 : x * 16777216 < 8388608 * 256 ^ 33) : fp x < 34 ∧ pw x (fp x) < 8388608 ∧ ∀ q, q < fp x → ¬ pw x q < 8388608 := by
  have hx : ∃ p, (List.range 34).find? (fun p => decide (pw x p < 8388608)) = some p := by
    have h2 : pw x 33 < 8388608 := (pw_lt _ _ _).mpr h1
    cases h : (List.range 34).find? (fun p => decide (pw x p < 8388608)) with
    | some p => exact ⟨p, rfl⟩
    | none =>
      rw [List.find?_eq_none] at h
      exact absurd (decide_eq_true h2) (h 33 (List.mem_range.mpr (by decide)))
  obtain ⟨p, hp⟩ := hx
  have e : fp x = p := by unfold fp; rw [hp]; rfl
  rw [List.find?_range_eq_some] at hp
  rw [e]
  refine ⟨List.mem_range.mp hp.2.1, of_decide_eq_true hp.1, fun q hq => ?_⟩
  have h3 := hp.2.2 q hq
  intro h4
  rw [decide_eq_true h4] at h3
  cases h3
theorem ints_mk {p : Nat} {v : Int} (hp : p < 256) (h0 : 0 ≤ v) (h1 : v < 16777216) : KBw.bInts (mk p v) = [(p : Int), v / 65536, v / 256 % 256, v % 256] := by
  refine KBa.ints_make ?_
  intro n hn
  rcases List.mem_cons.mp hn with rfl | hn
  · omega
  rcases List.mem_cons.mp hn with rfl | hn
  · omega
  rcases List.mem_cons.mp hn with rfl | hn
  · omega
  rcases List.mem_cons.mp hn with rfl | hn
  · omega
  cases hn
theorem worth_mk {p : Nat} {v : Int} (hp : p < 256) (h0 : 0 ≤ v) (h1 : v < 8388608) : worth (mk p v) = if p < 3 then v / 256 ^ (3 - p) else v * 256 ^ (p - 3) := by
  have e := ints_mk hp h0 (by omega)
  have a0 : at_ (mk p v) 0 = (p : Int) := by unfold at_; rw [e]; rfl
  have a1 : at_ (mk p v) 1 = v / 65536 := by unfold at_; rw [e]; rfl
  have a2 : at_ (mk p v) 2 = v / 256 % 256 := by unfold at_; rw [e]; rfl
  have a3 : at_ (mk p v) 3 = v % 256 := by unfold at_; rw [e]; rfl
  have n : v / 65536 % 128 * 65536 + v / 256 % 256 * 256 + v % 256 = v := by omega
  unfold worth
  rw [a0, a1, a2, a3, n]
  by_cases h : p < 3
  · rw [if_pos h, if_pos (by omega), show (3 - (p : Int)).toNat = 3 - p by omega]
  · rw [if_neg h, if_neg (by omega), show ((p : Int) - 3).toNat = p - 3 by omega]
/-- a form is worth at most the number it was made of -/
theorem worth_lform {x : Int} (h0 : 0 ≤ x) (h1 : x * 16777216 < 8388608 * 256 ^ 33) : worth (lform x) ≤ x := by
  obtain ⟨hp, hv, _⟩ := fp_spec h1
  unfold lform
  rw [worth_mk (by omega) (pw_nonneg h0 _) hv]
  by_cases h : fp x < 3
  · rw [if_pos h]
    unfold pw
    rw [if_pos h, Int.mul_ediv_cancel _ (Int.ne_of_gt (p256 _))]
    exact Int.le_refl _
  · rw [if_neg h]
    unfold pw
    rw [if_neg h]
    exact Int.ediv_mul_le _ (Int.ne_of_gt (p256 _))
theorem small33 {x : Int} (h : x < 115792089237316195423570985008687907853269984665640564039457584007913129639936) : x * 16777216 < 8388608 * 256 ^ 33 := by
  rw [show (256 : Int) ^ 33 = 29642774844752946028434172162224104410437116074403984394101141506025761187823616 by decide +kernel]
  omega
end
section
open PySem.Builtin.Int (intBits)
theorem cast256 (n : Nat) : ((256 ^ n : Nat) : Int) = 256 ^ n := by rw [Int.natCast_pow]; rfl
theorem two256 (n : Nat) : (2 : Nat) ^ (8 * n) = 256 ^ n := by rw [Nat.pow_mul]
theorem bit_e {x : Int} (h0 : 0 ≤ x) (h1 : x < 115792089237316195423570985008687907853269984665640564039457584007913129639936) :
    ∃ n : Nat, ((intBits x : Int) + 7) / 8 = (n : Int) ∧ n ≤ 32 ∧ x < 256 ^ n ∧ (0 < n → 256 ^ (n - 1) ≤ x) := by
  refine ⟨(intBits x + 7) / 8, by omega, ?_, ?_, ?_⟩
  · have h : intBits x ≤ 256 := intBits_le_iff.mpr (by
      rw [show (2 : Nat) ^ 256 = 115792089237316195423570985008687907853269984665640564039457584007913129639936 by decide +kernel]
      omega)
    omega
  · have h : intBits x ≤ 8 * ((intBits x + 7) / 8) := by omega
    have h2 := intBits_le_iff.mp h
    rw [two256] at h2
    rw [← cast256]
    omega
  · intro hp
    have h : ¬ intBits x ≤ 8 * ((intBits x + 7) / 8 - 1) := by omega
    rw [intBits_le_iff, two256] at h
    rw [← cast256]
    omega
theorem bytes_ext {b c : Array UInt8} (h : KBw.bInts b = KBw.bInts c) : b = c := by
  have hl : b.size = c.size := by rw [← KBw.ints_length, ← KBw.ints_length, h]
  refine Array.ext hl fun i h1 h2 => ?_
  have e : (KBw.bInts b)[i]? = (KBw.bInts c)[i]? := by rw [h]
  have hb : (KBw.bInts b)[i]? = some ((b[i]).toNat : Int) := KBw.ints_get (by simp [h1])
  have hc : (KBw.bInts c)[i]? = some ((c[i]).toNat : Int) := KBw.ints_get (by simp [h2])
  rw [hb, hc] at e
  have e2 := Option.some.inj e
  have e3 : (b[i]).toNat = (c[i]).toNat := by omega
  exact UInt8.toNat_inj.mp e3
theorem cat_mk {p : Nat} {v : Int} (hp : p < 256) (h0 : 0 ≤ v) (h1 : v < 16777216) : byteArr [(p : Int)] ++ be 3 v = mk p v := by
  refine bytes_ext ?_
  rw [KBw.ints_app (KBa.ints_make (ns := [(p : Int)]) (by intro n hn; rw [List.mem_singleton.mp hn]; omega)) (be_ints h0 (by rw [e3]; exact h1)), ints_mk hp h0 h1]
  show [(p : Int)] ++ [v / 256 / 256 % 256, v / 256 % 256, v % 256] = _
  rw [show v / 256 / 256 % 256 = v / 65536 by omega]
  rfl
theorem sg_lo {x : Int} {n : Nat} (h : n ≤ 3) : x * 2 ^ (8 * (3 - (n : Int))).toNat = pw x n := by
  rw [toNat8 (by omega), pow8, show (3 - (n : Int)).toNat = 3 - n by omega]
  unfold pw
  split
  · rfl
  · have e : n = 3 := by omega
    subst e
    show x * 256 ^ 0 = x / 256 ^ 0
    simp
theorem sg_hi {x : Int} {n : Nat} (h : ¬ n ≤ 3) : x / 2 ^ (8 * ((n : Int) - 3)).toNat = pw x n := by
  rw [toNat8 (by omega), pow8, show ((n : Int) - 3).toNat = n - 3 by omega]
  unfold pw
  rw [if_neg (by omega)]
theorem pw_next (x : Int) (p : Nat) : pw x (p + 1) = pw x p / 256 := by
  unfold pw
  by_cases h : p + 1 < 3
  · rw [if_pos h, if_pos (by omega), show 3 - p = (3 - (p + 1)) + 1 by omega, Int.pow_succ, ← Int.mul_assoc, Int.mul_ediv_cancel _ (by decide)]
  · rw [if_neg h]
    by_cases h2 : p < 3
    · have e : p = 2 := by omega
      subst e
      show x / 256 ^ 0 = x * 256 ^ 1 / 256
      rw [Int.pow_zero, Int.ediv_one, Int.pow_one, Int.mul_ediv_cancel _ (by decide)]
    · rw [if_neg h2, show p + 1 - 3 = (p - 3) + 1 by omega, Int.pow_succ, Int.ediv_ediv_of_nonneg (Int.le_of_lt (p256 _))]
theorem pw_top {x : Int} {n : Nat} (h : x < 256 ^ n) : pw x n < 16777216 := by
  rw [pw_lt]
  rw [Int.mul_comm 16777216]
  exact Int.mul_lt_mul_of_pos_right h (by decide)
theorem pw_low {x : Int} {n : Nat} (h : 256 ^ n ≤ x) (h0 : 0 ≤ x) : ¬ pw x n < 8388608 := by
  rw [pw_lt]
  have h1 := p256 n
  omega
theorem bft_lo {x : Int} {n : Nat} (hn : n ≤ 32) (h0 : 0 ≤ x) (h1 : x < 256 ^ n) (h2 : 0 < n → 256 ^ (n - 1) ≤ x) (hs : pw x n / 8388608 % 2 * 8388608 = 0) : byteArr [(n : Int)] ++ be 3 (pw x n) = lform x := by
  have h3 := pw_top h1
  have h4 := pw_nonneg h0 n
  rw [cat_mk (by omega) h4 h3]
  refine (lform_of (by omega) (by omega) fun q hq => ?_).symm
  exact pw_not (p := n - 1) (by omega) (pw_low (h2 (by omega)) h0)
theorem bft_hi {x : Int} {n : Nat} (hn : n ≤ 32) (h0 : 0 ≤ x) (h1 : x < 256 ^ n) (hs : ¬ pw x n / 8388608 % 2 * 8388608 = 0) : byteArr [(n : Int) + 1] ++ be 3 (pw x n / 256) = lform x := by
  have h3 := pw_top h1
  have h4 := pw_nonneg h0 n
  rw [show (n : Int) + 1 = ((n + 1 : Nat) : Int) by omega, cat_mk (by omega) (by omega) (by omega), ← pw_next]
  refine (lform_of (by omega) (by rw [pw_next]; omega) fun q hq => ?_).symm
  exact pw_not (p := n) (by omega) (by omega)
end
section
section
variable {prog : Program} {w : World} {A : Around} {E : Value → Shared → Prop} {s : Shared} {b d : Array UInt8} {t u : Tok} {h₀ : Heap} {L D : Addr} {m : PySem.Str → Option Value} {news : List (Addr × Obj)} {x c n : Int}
theorem fdiv_c {Q : Value → Shared → Prop} (hc : 0 < c) (hc2 : c < 1073741824) (h : ∀ t' k, Q (.int (x / c) t') { s with toks := k }) : wpAny (model prog w) A (binaryOp .FloorDiv (.int x t) (.int c u)) Q E s :=
  floordiv_int (by omega) (by rw [Int.fdiv_eq_ediv_of_nonneg _ (by omega)]; exact h _ _) (Or.inl (PyProof.noPylong_small (by omega)))
theorem ifdiv_c {Q : Value → Shared → Prop} (hc : 0 < c) (hc2 : c < 1073741824) (h : ∀ t' k, Q (.int (x / c) t') { s with toks := k }) : wpAny (model prog w) A (inplaceOp .FloorDiv (.int x t) (.int c u)) Q E s :=
  ifloordiv_int (by omega) (by rw [Int.fdiv_eq_ediv_of_nonneg _ (by omega)]; exact h _ _) (Or.inl (PyProof.noPylong_small (by omega)))
theorem log256 (k : Nat) (hk : k ≤ 1000) : ((256 : Int) ^ k).natAbs.log2 < 9000 := by
  have e : ((256 : Int) ^ k).natAbs = 256 ^ k := by rw [← cast256]; exact Int.natAbs_natCast _
  rw [e]
  refine (Nat.log2_lt (Nat.ne_of_gt (Nat.pow_pos (by decide)))).mpr ?_
  rw [← two256]
  exact Nat.pow_lt_pow_right (by decide) (by omega)
theorem fdiv_256 {k : Nat} {Q : Value → Shared → Prop} (hk : k ≤ 1000) (h : ∀ t' k', Q (.int (x / 256 ^ k) t') { s with toks := k' }) : wpAny (model prog w) A (binaryOp .FloorDiv (.int x t) (.int (256 ^ k) u)) Q E s :=
  floordiv_int (Int.ne_of_gt (p256 k)) (by rw [Int.fdiv_eq_ediv_of_nonneg _ (Int.le_of_lt (p256 k))]; exact h _ _) (Or.inl (PyProof.noPylong_of_log2 (log256 k hk)))
theorem mod_c {Q : Value → Shared → Prop} (hc : 0 < c) (h : ∀ t' k, 0 ≤ x % c → x % c < c → Q (.int (x % c) t') { s with toks := k }) : wpAny (model prog w) A (binaryOp .Mod (.int x t) (.int c u)) Q E s :=
  mod_int' (by omega) (by rw [Int.fmod_eq_emod_of_nonneg _ (by omega)]; exact h _ _ (Int.emod_nonneg _ (by omega)) (Int.emod_lt_of_pos _ hc))
theorem and_sign {Q : Value → Shared → Prop} (h : ∀ t' k, Q (.int (x / 8388608 % 2 * 8388608) t') { s with toks := k }) : wpAny (model prog w) A (binaryOp .BitAnd (.int x t) (.int 8388608 u)) Q E s := by
  refine and_int ?_
  rw [show (8388608 : Int) = 2 ^ 23 by decide, kbt_bit x 23, show (2 : Int) ^ 23 = 8388608 by decide]
  exact h _ _
theorem ishr8 {Q : Value → Shared → Prop} (h : ∀ t' k, Q (.int (x / 256) t') { s with toks := k }) : wpAny (model prog w) A (inplaceOp .RShift (.int x t) (.int 8 u)) Q E s := by
  refine irshift_int (by decide) ?_
  rw [Int.fdiv_eq_ediv_of_nonneg _ (Int.le_of_lt (kbt_pos _)), show (2 : Int) ^ (8 : Int).toNat = 256 by decide]
  exact h _ _
theorem bit_len {Q : Value → Shared → Prop} (h : ∀ t' k, Q (.int (Builtin.Int.intBits x) t') { s with toks := k }) : wpAny (model prog w) A (call (.builtin "int.bit_length") [.int x t]) Q E s := call_int_bit_length (h _ _)
theorem in_nil : KBa.In [] := fun _ h => nomatch h
theorem in_cons {a : Int} {l : List Int} (h0 : 0 ≤ a) (h1 : a < 256) (h : KBa.In l) : KBa.In (a :: l) := by
  intro n hn
  rcases List.mem_cons.mp hn with rfl | hn
  · exact ⟨h0, h1⟩
  · exact h n hn
theorem make_b {vs : List Value} {ns : List Int} {o : Obj} {Q : Value → Shared → Prop} (F : Fr h₀ L s.heap m) (N : News h₀ L s.heap news) (hh : A.handled = none) (hm : (D, ({ cls := .type "list", data := .seq vs.toArray } : Obj)) ∈ news) (hi : IntsAre vs ns) (hr : KBa.In ns) (hn : ns.length ≤ 1000)
    (h : ∀ h' t' k, Fr h₀ L h' m → News h₀ L h' news → Q (.bytes (byteArr ns) t') { s with heap := h', toks := k }) : wpAny (model prog w) A (call (.type "bytes") [.ref D]) Q E s :=
  KBa.make_K F N hh (News.isList N hm) hi hr (by omega) fun h' t' k F' N' _ => h h' t' k F' N'
theorem add_b {Q : Value → Shared → Prop} (hsz : b.size + d.size ≤ 16777216) (h : ∀ t' k, Q (.bytes (b ++ d) t') { s with toks := k }) : wpAny (model prog w) A (binaryOp .Add (.bytes b t) (.bytes d u)) Q E s := KBy.add_bytes hsz h
end
end
section
section
variable {prog : Program} {w : World} {A : Around} {E : Value → Shared → Prop} {s : Shared} {h₀ : Heap} {L : Addr} {m : Str → Option Value} {news : List (Addr × Obj)} {x c : Int} {t u v : Tok}
theorem fb_1be {a : Addr} {Q : Value → Shared → Prop} (N : News h₀ L s.heap news) (hm : (a, KFB.bound) ∈ news) (h0 : 0 ≤ x) (h1 : x < 115792089237316195423570985008687907853269984665640564039457584007913129639936)
    (h : ∀ t' k, Q (.int x t') { s with toks := k }) : wpAny (model prog w) A (call (.ref a) [.bytes (be 32 x) t] (kwBig u)) Q E s :=
  fb_1 N hm (be32_ok x) (by rw [be_val h0 (by rw [e32]; exact h1)]; exact h)
theorem fdiv_e {a e : Int} {Q : Value → Shared → Prop} (he : a / c = e) (hc : 0 < c) (hc2 : c < 1073741824) (h : ∀ t' k, Q (.int e t') { s with toks := k }) : wpAny (model prog w) A (binaryOp .FloorDiv (.int a t) (.int c u)) Q E s :=
  fdiv_c hc hc2 (by rw [he]; exact h)
theorem two_pos (n : Nat) : (0 : Int) < 2 ^ n := Int.pow_pos (by decide)
theorem shl_pw {n : Nat} {Q : Value → Shared → Prop} (hn : n ≤ 3) (h0 : 0 ≤ x) (hx : x < 4294967296) (h : ∀ t' k, Q (.int (pw x n) t') { s with toks := k }) : wpAny (model prog w) A (binaryOp .LShift (.int x t) (.int (8 * (3 - (n : Int))) u)) Q E s :=
  shl (by omega) (by omega) h0 hx (by rw [sg_lo hn]; exact h)
theorem shr_pw {n : Nat} {Q : Value → Shared → Prop} (hn : ¬ (n : Int) ≤ 3) (h : ∀ t' k, Q (.int (pw x n) t') { s with toks := k }) : wpAny (model prog w) A (binaryOp .RShift (.int x t) (.int (8 * ((n : Int) - 3)) u)) Q E s :=
  shr (by omega) (by rw [sg_hi (by omega)]; exact h)
theorem bits_lt {n : Nat} (h0 : 0 ≤ x) (h : x < 2 ^ n) : PySem.Builtin.Int.intBits x ≤ n := intBits_le_iff.mpr (by
  have e : ((2 ^ n : Nat) : Int) = 2 ^ n := by rw [Int.natCast_pow]; rfl
  omega)
theorem bits_256 (k : Nat) : PySem.Builtin.Int.intBits ((256 : Int) ^ k) ≤ 8 * k + 1 := bits_lt (Int.le_of_lt (p256 k)) (by
  rw [Int.pow_succ, ← pow8]
  have := two_pos (8 * k)
  rw [pow8] at *
  omega)
theorem mul_big {a b e : Int} {Q : Value → Shared → Prop} (he : a * b = e) (ha : PySem.Builtin.Int.intBits a ≤ 10000) (hb : PySem.Builtin.Int.intBits b ≤ 10000) (h : ∀ t' k, Q (.int e t') { s with toks := k }) :
    wpAny (model prog w) A (binaryOp .Mult (.int a t) (.int b u)) Q E s :=
  mul_int (by rw [he]; exact h _ _) (IntMulOk.of_bits (Nat.le_trans ha (by decide)) (Nat.le_trans hb (by decide)))
theorem lit256 : (115792089237316195423570985008687907853269984665640564039457584007913129639936 : Int) = 2 ^ 256 := by decide +kernel
theorem bits_big (h0 : 0 ≤ x) (h : x < 115792089237316195423570985008687907853269984665640564039457584007913129639936) : PySem.Builtin.Int.intBits x ≤ 10000 :=
  Nat.le_trans (bits_lt (n := 256) h0 (by rw [← lit256]; exact h)) (by decide)
theorem mul_pw {p : Nat} {Q : Value → Shared → Prop} (hp : (p : Int) < 3) (h0 : 0 ≤ x) (h1 : x < 115792089237316195423570985008687907853269984665640564039457584007913129639936) (h : ∀ t' k, Q (.int (pw x p) t') { s with toks := k }) :
    wpAny (model prog w) A (binaryOp .Mult (.int x t) (.int (256 ^ (3 - (p : Int)).toNat) u)) Q E s :=
  mul_big (by rw [show (3 - (p : Int)).toNat = 3 - p by omega]; unfold pw; rw [if_pos (by omega)]) (bits_big h0 h1) (Nat.le_trans (bits_256 _) (by omega)) h
theorem fdiv_pw {p : Nat} {Q : Value → Shared → Prop} (hp : ¬ (p : Int) < 3) (hp2 : p < 34) (h : ∀ t' k, Q (.int (pw x p) t') { s with toks := k }) :
    wpAny (model prog w) A (binaryOp .FloorDiv (.int x t) (.int (256 ^ ((p : Int) - 3).toNat) u)) Q E s :=
  fdiv_256 (by omega) (by rw [show ((p : Int) - 3).toNat = p - 3 by omega]; intro t' k; have := h t' k; unfold pw at this; rw [if_neg (by omega)] at this; exact this)
theorem min_K {a b : Int} {Q : Value → Shared → Prop} (hh : A.handled = none) (F : Fr h₀ L s.heap m) (N : News h₀ L s.heap news)
    (h : ∀ t' h' tk, Fr h₀ L h' m → News h₀ L h' news → Q (.int (min a b) t') { s with heap := h', toks := tk }) :
    wpAny (model prog w) A (call (.builtin "min") [.int a t, .int b u]) Q E s := by
  refine min_two_ints hh fun h' tk hk => ?_
  have F' : Fr h₀ L h' m := F.keptAll hk
  have N' : News h₀ L h' news := fun p hp => ⟨hk _ _ (N p hp).1, (N p hp).2⟩
  by_cases hc : b < a
  · rw [if_pos hc]; have := h u h' tk F' N'; rwa [Int.min_eq_right (Int.le_of_lt hc)] at this
  · rw [if_neg hc]; have := h t h' tk F' N'; rwa [Int.min_eq_left (Int.not_lt.mp hc)] at this
end
section
variable {prog : Program} {w : World} {A : Around} {E : Value → Shared → Prop} {s : Shared} {env : Env} {h₀ : Heap} {x : Str} {body : List Stmt} {Q : Flow → Shared → Prop}
theorem iter_rangeP {r : Addr} {b₀ : Int} {t₀ u₀ v₀ : Tok} {n : Nat} {m₀ : Str → Option Value} {news : List (Addr × Obj)} (names : List Str) (P : Nat → Prop)
    (hh : A.handled = none) (hr : IsRange s.heap r 0 b₀ 1 t₀ u₀ v₀) (hsmall : Builtin.Range.small 0 b₀ 1 = true) (hn : Builtin.Range.rangeSize 0 b₀ 1 = (n : Int)) (F : Fr h₀ env.locals s.heap m₀) (N : News h₀ env.locals s.heap news) (h0 : P 0)
    (turn : ∀ (i : Nat) (t : Tok) (u : Str → Option Value) (h : Heap) (tk : Nat) (own : List (Addr × Obj)), i < n → P i → Fr h₀ env.locals h (fun y => if y = x then some (.int (i : Int) t) else ovr names u m₀ y) → News h₀ env.locals h (own ++ news) →
      wpAny (model prog w) A (execs body env) (InvPost h₀ env.locals (fun m' => (∀ z, z ∉ x :: names → m' z = m₀ z) ∧ P (i + 1)) (own ++ news) { s with heap := h, toks := tk } Q) E { s with heap := h, toks := tk })
    (done : ∀ u h tk, P n → Fr h₀ env.locals h (fun y => ovr (x :: names) u m₀ y) → News h₀ env.locals h news → Q .next { s with heap := h, toks := tk }) :
    wpAny (model prog w) A (pyIter (.ref r)) (fun it s₂ => LoopAtV prog w A h₀ env x body Q E it s₂) E s := by
  refine wpAny_pyIter_range hr hsmall ?_
  have W : Walks prog w A s.heap.objs.size [s.heap.objs.size] [s.heap.objs.size] n (fun i v => i < n ∧ ∃ t, v = .int (0 + i * 1) t)
      (fun i h => IsRangeIter h s.heap.objs.size (0 + (i : Nat) * 1) ((n : Int) - (i : Nat)) 1) := (Walks.range hh _ 0 1 n).bound
  have hnew := next_is_new F
  let J : Nat → (Str → Option Value) → List (Addr × Obj) → Prop := fun i m₁ news₁ => news₁ = news ∧ (∀ z, z ∉ x :: names → m₁ z = m₀ z) ∧ P i
  refine ⟨_, _, _, n, _, _, m₀, news, J, rfl, W, ?_, ?_, ?_, (by show IsRangeIter _ _ _ _ _; rw [hn]; simpa using Heap.get?_push_size _ rfl), F.push _, (fun p hp => ⟨Heap.get?_push_of_some _ (N p hp).1, (N p hp).2⟩), ⟨rfl, fun _ _ => rfl, h0⟩, ?_, ?_⟩
  · intro hm
    exact absurd F.ns.lt ((List.mem_singleton.mp hm) ▸ Nat.lt_irrefl _)
  · intro b hb
    rw [List.mem_singleton.mp hb]
    exact hnew
  · intro p hp hI
    exact absurd (Heap.lt_size (N p hp).1) ((List.mem_singleton.mp hI) ▸ Nat.lt_irrefl _)
  · rintro i v m₁ news₁ s₁ own ⟨hh', tk', rfl⟩ hin ⟨_, t, rfl⟩ ⟨rfl, hJ, hP⟩ hoff _ _ _ _ F₁ N₁
    have e : (fun y => if y = x then some (Value.int (0 + (i : Int) * 1) t) else m₁ y) = fun y => if y = x then some (.int (i : Int) t) else ovr names m₁ m₀ y := by
      funext y
      by_cases e : y = x
      · rw [if_pos e, if_pos e, Int.mul_one, Int.zero_add]
      · rw [if_neg e, if_neg e]
        have h2 : (if y = x then m₁ y else ovr names m₁ m₀ y) = m₁ y := congrFun (ovr_self (x :: names) m₁ m₀ hJ) y
        rw [if_neg e] at h2
        exact h2.symm
    rw [e] at F₁
    refine wpAny_mono (turn i t m₁ hh' tk' own hin hP F₁ N₁) (fun f s₂ p => ?_) fun _ _ e => e
    have fin : InvEnd h₀ env.locals (fun m' => (∀ z, z ∉ x :: names → m' z = m₀ z) ∧ P (i + 1)) (own ++ news₁) { s with heap := hh', toks := tk' } s₂ → LoopStepU h₀ env.locals [s.heap.objs.size] own (J (i + 1)) { s with heap := hh', toks := tk' } .next s₂ := by
      rintro ⟨h', tk, m', news', e, F', N', hn, hm⟩
      exact ⟨rfl, h', tk, m', news₁, e, F', fun p hp => N' p (hn p hp), hoff, rfl, hm⟩
    cases f with
    | ret v => exact .ret p
    | brk => exact .brk p
    | next => exact .next (fin p)
    | cont => exact .cont (fin p)
  · rintro h' tk m' news' F' N' _ ⟨rfl, hJ, hP⟩
    refine done m' h' tk hP ?_ N'
    rw [ovr_self (x :: names) m' m₀ hJ]
    exact F'
end
theorem shl_room {x : Int} {n : Nat} (h : x < 256 ^ n) (hn : n ≤ 3) : x < 4294967296 := by
  have := pow_mono hn
  rw [e3] at this
  omega
theorem sub_app {a b own : List (Addr × Obj)} (h : ∀ p ∈ a, p ∈ b) : ∀ p ∈ a, p ∈ own ++ b := fun p hp => List.mem_append_right _ (h p hp)
end
section
theorem look_int_bytes : typeLookup (.type "int") "__bytes__" = pure none := by rw [typeLookup_type, builtinLookup_eq_fast]; kernel_rfl
theorem meets_bn (n : Int) (t : Tok) (h0 : 0 ≤ n) (hn : n ≤ 1000) : Meets (Builtin.«bytes.__new__» ⟨[.type "bytes", .int n t], []⟩) (fun _ R s => ∀ t' k, R (.ok (.ret (.bytes (Array.replicate n.toNat 0) t'))) { s with toks := k }) := .of_wp fun prog w A R s h => by
  unfold Builtin.«bytes.__new__»
  refine wpAny_bind (wpAny_of_eq (a := true) rfl ?_)
  refine bm_if_false rfl ?_
  refine wpAny_bind (wpAny_of_eq F.bm_sub ?_)
  refine bm_if_false rfl ?_
  refine wpAny_bind (wpAny_of_eq (F.bm_bind _) ?_)
  refine wpAny_bind (wpAny_of_eq (a := ()) rfl ?_)
  refine wpAny_bind (wpAny_of_eq (a := ()) rfl ?_)
  refine bm_if_false rfl ?_
  refine wpAny_bind (wpAny_specialOf (typeIs_int s n t) look_int_bytes ?_)
  refine wpAny_bind (wpAny_of_eq (a := false) rfl ?_)
  refine bm_if_false rfl ?_
  refine wpAny_bind (wpAny_specialOf (typeIs_int s n t) F.slot_int_index.lookup ?_)
  refine bm_if_false rfl ?_
  refine wpAny_bind ?_
  refine wpAny_bind (wpAny_attempt (wpAny_of_eq (a := n) rfl ?_))
  refine wpAny_pure ?_
  dsimp only
  refine bm_if_false (by simp only [Builtin.Bytes.fitsIndex, Bool.not_eq_false', Bool.and_eq_true, decide_eq_true_eq]; omega) ?_
  rw [if_neg (by omega), if_neg (by omega)]
  refine bm_if_false (by simp only [Builtin.Bytes.tooLong, decide_eq_false_iff_not]; have : sizeLine ≥ 1000 := by decide
                         omega) ?_
  refine wpAny_bind (wpAny_rule ?_)
  refine wpAny_bind ?_
  refine wpAny_mkBytes ?_ (by rw [Array.size_replicate]; have : sizeLine ≥ 1000 := by decide
                              omega)
  exact wpAny_pure ⟨_, rfl, h _ _⟩
theorem call_bn {prog : Program} {w : World} {A : Around} {E : Value → Shared → Prop} {s : Shared} {n : Int} {t : Tok} {Q : Value → Shared → Prop} (h0 : 0 ≤ n) (hn : n ≤ 1000) (h : ∀ t' k, Q (.bytes (Array.replicate n.toNat 0) t') { s with toks := k }) : wpAny (model prog w) A (call (.type "bytes") [.int n t]) Q E s :=
  callType_new F.bm_called (by decide) (F.bm_typeCall _) (F.bm_newCall _) (fun obj => F.args_object_init_2 obj _) F.bm_entry (meets_bn n t h0 hn) fun t' k => ⟨typeIs_bytes _ _ _, h t' k⟩
def bnd (a ts tot lim : Int) : Int := worth (lform (min (a * ts % 115792089237316195423570985008687907853269984665640564039457584007913129639936 / tot) lim))
theorem worth_lt {x : Int} (h0 : 0 ≤ x) (h1 : x < 115792089237316195423570985008687907853269984665640564039457584007913129639936) : worth (lform x) < 115792089237316195423570985008687907853269984665640564039457584007913129639936 := by
  have := worth_lform h0 (small33 h1)
  omega
end
section
section
variable {prog : Program} {w : World} {A : Around} {E : Value → Shared → Prop} {s : Shared} {a b n : Int} {t u : Tok} {Q : Value → Shared → Prop}
theorem pow_2n (h0 : 0 ≤ n) (h1 : n < 200) (h : ∀ p t' k, 1 ≤ p → p ≤ 803469022129495137770981046170581301261101496891396417650688 → Q (.int p t') { s with toks := k }) : wpAny (model prog w) A (binaryOp .Pow (.int 2 t) (.int n u)) Q E s :=
  pow_int_small h0 (by omega) (by decide) (h _ _ _ (Int.add_one_le_of_lt (two_pos _)) (by
    have h2 : (2 : Nat) ^ n.toNat ≤ 2 ^ 199 := Nat.pow_le_pow_right (by decide) (by omega)
    have h3 : ((2 ^ n.toNat : Nat) : Int) = 2 ^ n.toNat := by rw [Int.natCast_pow]; rfl
    have h4 : (2 : Nat) ^ 199 = 803469022129495137770981046170581301261101496891396417650688 := by decide +kernel
    omega))
theorem mul_opq (ha0 : 0 ≤ a) (ha : a < 1645504557321206042154969182557350504982735865633579863348609024) (hb0 : 0 ≤ b) (hb : b < 1000)
    (h : ∀ c t' k, 0 ≤ c → c ≤ 1000 * a → Q (.int c t') { s with toks := k }) : wpAny (model prog w) A (binaryOp .Mult (.int a t) (.int b u)) Q E s :=
  mul_big rfl (bits_big ha0 (by omega)) (bits_big hb0 (by omega)) fun t' k => h _ t' k (Int.mul_nonneg ha0 hb0) (by
    have h1 : a * b ≤ a * 1000 := Int.mul_le_mul_of_nonneg_left (by omega) ha0
    omega)
end
theorem worth_below {x B : Int} (h0 : 0 ≤ x) (h : x < B) (hB : B < 115792089237316195423570985008687907853269984665640564039457584007913129639936) : worth (lform x) < B := by
  have := worth_lform h0 (small33 (by omega))
  omega
end
section
section
variable {prog : Program} {w : World} {A : Around} {E : Value → Shared → Prop} {s : Shared} {n : Int} {t u : Tok} {Q : Value → Shared → Prop}
theorem call_bz (h0 : 0 ≤ n) (hn : n ≤ 1000) (h : ∀ (z : Array UInt8) t' k, z.size = n.toNat → Q (.bytes z t') { s with toks := k }) : wpAny (model prog w) A (call (.type "bytes") [.int n t]) Q E s :=
  call_bn h0 hn fun t' k => h _ t' k (by rw [Array.size_replicate])
theorem mul_z (h0 : 0 ≤ n) (hn : n ≤ 1000) (h : ∀ (z : Array UInt8) t' k, z.size = n.toNat → Q (.bytes z t') { s with toks := k }) : wpAny (model prog w) A (binaryOp .Mult (.bytes #[0] t) (.int n u)) Q E s :=
  bytes_mul_any (b := [0]) (by decide) (by omega) (by omega) (by decide) fun t' k => h _ t' k (by simp)
end
end
section
section
variable {prog : Program} {w : World} {A : Around} {E : Value → Shared → Prop} {s : Shared} {env : Env} {st : Stmt} {rest : List Stmt} {Q : Flow → Shared → Prop}
def StopAt (prog : Program) (w : World) (A : Around) (env : Env) (rest : List Stmt) (Q : Flow → Shared → Prop) (E : Value → Shared → Prop) (f : Flow) (s' : Shared) : Prop :=
  match f with | .next => wpAny (model prog w) A (execs rest env) Q E s' | f => Q f s'
theorem StopAt.go {s' : Shared} (h : wpAny (model prog w) A (execs rest env) Q E s') : StopAt prog w A env rest Q E .next s' := h
theorem cutS (h : wpAny (model prog w) A (exec st env) (StopAt prog w A env rest Q E) E s) : wpAny (model prog w) A (execs (st :: rest) env) Q E s := wpAny_execs_cons h
end
theorem bnd_nonneg (a ts tot lim : Int) : 0 ≤ bnd a ts tot lim := worth_nonneg _
theorem bnd_le {a ts tot lim : Int} (htot0 : 0 < tot) (hl0 : 0 ≤ lim) (hl : lim < 115792089237316195423570985008687907853269984665640564039457584007913129639936) : bnd a ts tot lim ≤ lim := by
  have hm0 := Int.emod_nonneg (a * ts) (show (115792089237316195423570985008687907853269984665640564039457584007913129639936 : Int) ≠ 0 by decide)
  have h1 : 0 ≤ a * ts % 115792089237316195423570985008687907853269984665640564039457584007913129639936 / tot := Int.ediv_nonneg hm0 (Int.le_of_lt htot0)
  have hmin0 : 0 ≤ min (a * ts % 115792089237316195423570985008687907853269984665640564039457584007913129639936 / tot) lim := by omega
  have h2 := worth_lform hmin0 (small33 (by omega))
  unfold bnd
  omega
theorem whole_le {a b : Int} (ha0 : 0 < a) (ha : a ≤ 1200) (hb0 : 0 < b) (hb : b ≤ 2016) : 0 < a * b ∧ a * b < 100000000 ∧ a * b / a = b :=
  ⟨Int.mul_pos ha0 hb0, by
    have : a * b ≤ 1200 * 2016 := Int.mul_le_mul ha hb (by omega) (by omega)
    omega, Int.mul_ediv_cancel_left _ (by omega)⟩
end
section
section
variable {prog : Program} {w : World} {A : Around} {E : Value → Shared → Prop} {s : Shared} {env : Env} {st : Stmt} {rest : List Stmt} {Q : Flow → Shared → Prop} {h₀ : Heap} {L : Addr} {m : Str → Option Value} {news : List (Addr × Obj)}
def CutF (h₀ : Heap) (L : Addr) (m : Str → Option Value) (news : List (Addr × Obj)) (s : Shared) (x : Str) (Pv : Value → Prop) (f : Flow) (s' : Shared) : Prop :=
  f = .next ∧ ∃ (v : Value) (h : Heap) (tk : Nat), Pv v ∧ Fr h₀ L h (fun y => if y = x then some v else m y) ∧ News h₀ L h news ∧ s' = { s with heap := h, toks := tk }
theorem CutF.mk {x : Str} {Pv : Value → Prop} {v : Value} {h : Heap} {tk : Nat} (p : Pv v) (F : Fr h₀ L h (fun y => if y = x then some v else m y)) (N : News h₀ L h news) : CutF h₀ L m news s x Pv .next { s with heap := h, toks := tk } :=
  ⟨rfl, v, h, tk, p, F, N, rfl⟩
theorem cutF (x : Str) (Pv : Value → Prop) (_F : Fr h₀ L s.heap m) (_N : News h₀ L s.heap news)
    (h1 : wpAny (model prog w) A (exec st env) (CutF h₀ L m news s x Pv) E s)
    (h2 : ∀ v h tk, Pv v → Fr h₀ L h (fun y => if y = x then some v else m y) → News h₀ L h news → wpAny (model prog w) A (execs rest env) Q E { s with heap := h, toks := tk }) :
    wpAny (model prog w) A (execs (st :: rest) env) Q E s := wpAny_execs_cons (wpAny_mono h1 (fun f s' h => by
      obtain ⟨rfl, v, h, tk, a, b, c, rfl⟩ := h
      exact h2 v h tk a b c) fun _ _ e => e)
/-- a cut behind a loop: the loop's names are not known -/
def CutL (h₀ : Heap) (L : Addr) (m : Str → Option Value) (news : List (Addr × Obj)) (s : Shared) (xs : List Str) (f : Flow) (s' : Shared) : Prop :=
  f = .next ∧ ∃ (u : Str → Option Value) (h : Heap) (tk : Nat), Fr h₀ L h (fun y => ovr xs u m y) ∧ News h₀ L h news ∧ s' = { s with heap := h, toks := tk }
theorem CutL.mk {xs : List Str} {u : Str → Option Value} {h : Heap} {tk : Nat} (F : Fr h₀ L h (fun y => ovr xs u m y)) (N : News h₀ L h news) : CutL h₀ L m news s xs .next { s with heap := h, toks := tk } :=
  ⟨rfl, u, h, tk, F, N, rfl⟩
theorem CutL.none {h : Heap} {tk : Nat} (F : Fr h₀ L h m) (N : News h₀ L h news) : CutL h₀ L m news s [] .next { s with heap := h, toks := tk } :=
  ⟨rfl, m, h, tk, F, N, rfl⟩
theorem cutL (xs : List Str) (_F : Fr h₀ L s.heap m) (_N : News h₀ L s.heap news)
    (h1 : wpAny (model prog w) A (exec st env) (CutL h₀ L m news s xs) E s)
    (h2 : ∀ (u : Str → Option Value) h tk, Fr h₀ L h (fun y => ovr xs u m y) → News h₀ L h news → wpAny (model prog w) A (execs rest env) Q E { s with heap := h, toks := tk }) :
    wpAny (model prog w) A (execs (st :: rest) env) Q E s := wpAny_execs_cons (wpAny_mono h1 (fun f s' h => by
      obtain ⟨rfl, v, h, tk, b, c, rfl⟩ := h
      exact h2 v h tk b c) fun _ _ e => e)
end
def IsInt (v : Value) : Prop := ∃ n t, v = .int n t
theorem IsInt.mk {n : Int} {t : Tok} : IsInt (.int n t) := ⟨n, t, rfl⟩
def IsI (P : Int → Prop) (v : Value) : Prop := ∃ n t, v = .int n t ∧ P n
theorem IsI.mk {P : Int → Prop} {n : Int} {t : Tok} (h : P n) : IsI P (.int n t) := ⟨n, t, rfl, h⟩
def IsB (P : Array UInt8 → Prop) (v : Value) : Prop := ∃ b t, v = .bytes b t ∧ P b
theorem IsB.mk {P : Array UInt8 → Prop} {b : Array UInt8} {t : Tok} (h : P b) : IsB P (.bytes b t) := ⟨b, t, rfl, h⟩
def All (P : Value → Prop) : List Value → Prop
  | [] => True
  | v :: r => P v ∧ All P r
theorem All.nil {P : Value → Prop} : All P [] := trivial
theorem All.cons {P : Value → Prop} {v : Value} {r : List Value} (h : P v) (t : All P r) : All P (v :: r) := ⟨h, t⟩
theorem All.get {P : Value → Prop} : ∀ {l : List Value} {i : Nat} {v : Value}, All P l → l[i]? = some v → P v
  | [], _, _, _, e => by simp at e
  | a :: r, 0, v, h, e => by
    simp only [List.length_cons, Nat.zero_lt_succ, getElem?_pos, List.getElem_cons_zero, Option.some.injEq] at e
    exact e ▸ h.1
  | a :: r, i + 1, v, h, e => by
    rw [List.getElem?_cons_succ] at e
    exact All.get h.2 e
section
variable {prog : Program} {w : World} {A : Around} {E : Value → Shared → Prop} {s : Shared} {env : Env} {h₀ : Heap} {x : Str} {body : List Stmt} {Q : Flow → Shared → Prop}
theorem iter_allL {l : Addr} {lo : Obj} {vs : List Value} {n : Nat} {m₀ : Str → Option Value} {news : List (Addr × Obj)} (names : List Str) (P : Value → Prop)
    (hh : A.handled = none) (F : Fr h₀ env.locals s.heap m₀) (N : News h₀ env.locals s.heap news) (hm : (l, lo) ∈ news) (hc : lo.cls = .type "list") (hd : lo.data = .seq vs.toArray n) (ha : All P vs)
    (turn : ∀ (v : Value) (u : Str → Option Value) (h : Heap) (tk : Nat) (own : List (Addr × Obj)), P v → Fr h₀ env.locals h (fun y => if y = x then some v else ovr names u m₀ y) → News h₀ env.locals h (own ++ news) →
      wpAny (model prog w) A (execs body env) (InvPost h₀ env.locals (fun m' => ∀ z, z ∉ x :: names → m' z = m₀ z) (own ++ news) { s with heap := h, toks := tk } Q) E { s with heap := h, toks := tk })
    (done : ∀ u h tk, Fr h₀ env.locals h (fun y => ovr (x :: names) u m₀ y) → News h₀ env.locals h news → Q .next { s with heap := h, toks := tk }) :
    wpAny (model prog w) A (pyIter (.ref l)) (fun it s₂ => LoopAtV prog w A h₀ env x body Q E it s₂) E s :=
  iter_seqL names hh F N hm hc hd (fun i v u h tk own e => turn v u h tk own (ha.get e)) done
end
end
section
section
variable {prog : Program} {w : World} {A : Around} {E : Value → Shared → Prop} {s : Shared} {b : Array UInt8} {t : Tok}
theorem getM_hex {pl : Sem Bool} {Q : Value × List Value → Shared → Prop} (h : Q (.builtin "bytes.hex", [.bytes b t]) s) : wpAny (model prog w) A (getMethod (.bytes b t) (PySem.Str.ofString "hex") pl) Q E s := by
  obtain ⟨⟨g, h1, h2⟩, h3⟩ := PySem.W.FB.plainAttrs_bytes
  exact getMethod_value (T := "bytes") (name := PySem.Str.ofString "hex") (ga := g) (id := "bytes.hex") (typeIs_bytes s b t) (by intro _ x; cases x) h1 h2 h3 PySem.W.FB.slot_bytes_hex.lookup PySem.W.FB.type_bytes_hex h
theorem hex_bind : Builtin.Bytes.bindOptional "bytes.hex" "hex" ["sep", "bytes_per_sep"] [] [] = pure [none, none] := by kernel_rfl
theorem hex_fold (l : List (UInt8 × Nat)) : ∀ (a : Array Nat), (l.foldl (fun (out : Array Nat) (x : UInt8 × Nat) => (out.push (Builtin.Bytes.hexDigit (x.1.toNat / 16))).push (Builtin.Bytes.hexDigit (x.1.toNat % 16))) a).size = a.size + 2 * l.length := by
  induction l with
  | nil => intro a; rfl
  | cons x r ih =>
    intro a
    rw [List.foldl_cons, ih]
    simp only [Array.size_push, List.length_cons]
    omega
theorem call_hex {Q : Value → Shared → Prop} (hb : b.size ≤ 40) (h : ∀ (x : PySem.Str) t' k, x.length ≤ 100 → Q (.str x t') { s with toks := k }) : wpAny (model prog w) A (call (.builtin "bytes.hex") [.bytes b t]) Q E s := by
  refine wpAny_call_entry PySem.W.FB.slot_bytes_hex (typeIs_bytes _ _ _) PySem.W.FB.entry_bytes_hex ?_ (PySem.W.FB.args_bytes_hex_1 _)
  unfold Builtin.«bytes.hex» Builtin.Bytes.hexM Builtin.Bytes.hexOf
  refine wpAny_bind (wpAny_of_eq hex_bind ?_)
  refine wpAny_bind (wpAny_of_eq (a := 1) rfl ?_)
  refine wpAny_bind (wpAny_of_eq (a := ()) rfl ?_)
  refine wpAny_bind (wpAny_of_eq (a := none) rfl ?_)
  refine wpAny_bind (wpAny_of_eq (a := b) rfl ?_)
  dsimp only
  have e : ∀ z : Array Nat, z.size ≤ 100 → wpAny (model prog w) A.in1 (retStr ⟨z⟩) (fun fin s' => ∃ v, fin = .done (.ret v) ∧ Q v s') E s := fun z hz => by
    unfold retStr mkStr
    have hl : (⟨z⟩ : PySem.Str).length ≤ 100 := hz
    rw [if_neg (by rw [sizeLine_eq]; omega)]
    refine wpAny_bind (wpAny_bind (wpAny_fresh ?_))
    refine wpAny_pure ?_
    exact wpAny_pure ⟨_, rfl, h _ _ _ hl⟩
  refine e _ ?_
  rw [hex_fold]
  simp only [List.length_zipIdx, Array.length_toList, List.size_toArray, List.length_nil]
  omega
end
end
section
section
variable {M : Model} {A : Around} {E : Value → Shared → Prop} {s : Shared} {value slice : PySem.Expr} {l : Addr} {t : Tok} {x : Int} {Q : Value → Shared → Prop}
theorem sub_mod3 (h0 : x % 3 = 0 → wpAny M A (subscriptTail value slice (.ref l) (.int 0 t)) Q E s) (h1 : x % 3 = 1 → wpAny M A (subscriptTail value slice (.ref l) (.int 1 t)) Q E s)
    (h2 : x % 3 = 2 → wpAny M A (subscriptTail value slice (.ref l) (.int 2 t)) Q E s) : wpAny M A (subscriptTail value slice (.ref l) (.int (x % 3) t)) Q E s := by
  have h : x % 3 = 0 ∨ x % 3 = 1 ∨ x % 3 = 2 := by omega
  rcases h with h | h | h
  · have := h0 h; rwa [h]
  · have := h1 h; rwa [h]
  · have := h2 h; rwa [h]
theorem sub_mod4 (h0 : x % 4 = 0 → wpAny M A (subscriptTail value slice (.ref l) (.int 0 t)) Q E s) (h1 : x % 4 = 1 → wpAny M A (subscriptTail value slice (.ref l) (.int 1 t)) Q E s)
    (h2 : x % 4 = 2 → wpAny M A (subscriptTail value slice (.ref l) (.int 2 t)) Q E s) (h3 : x % 4 = 3 → wpAny M A (subscriptTail value slice (.ref l) (.int 3 t)) Q E s) : wpAny M A (subscriptTail value slice (.ref l) (.int (x % 4) t)) Q E s := by
  have h : x % 4 = 0 ∨ x % 4 = 1 ∨ x % 4 = 2 ∨ x % 4 = 3 := by omega
  rcases h with h | h | h | h
  · have := h0 h; rwa [h]
  · have := h1 h; rwa [h]
  · have := h2 h; rwa [h]
  · have := h3 h; rwa [h]
end
end
section
def lawOf {q : Program} {loose : List Str} {XP : (Str → Option Value) → Heap → Prop} {YP : World → Heap → Prop} {r : RowW} {d : DefRec} {kwd : List (Str × PySem.Expr)} {run : Value → List Value → Sem Value} {H : Prop} (_ : WalkO q loose XP YP r d kwd run → H) : DefRec := d
def lawD : DefRec := lawOf hd
def nth : Nat → List Stmt → Stmt
  | _, [] => default
  | 0, a :: _ => a
  | n + 1, _ :: l => nth n l
def lawSt (k : Nat) : Stmt := nth k lawD.body
def lawEnv (L a : Addr) (cd : Value) : Env := envOf lawD.name lawD.scope L a cd
def lawE (w : World) (L a : Addr) (cd : Value) (R : Result → Shared → Prop) (e : Value) (s' : Shared) : Prop :=
  wpAny (model Challenge.rw_ez0014_01.row.prog w) (callerA.deeper (lawEnv L a cd)) (leaving (lawEnv L a cd) e) (fun _ s'' => R (.error e) s'') (fun e' s'' => R (.error e') s'') s'
def forBody : Stmt → List Stmt
  | .For _ _ b _ _ => b
  | _ => []
def lawIn : List Stmt := forBody (nth 0 (forBody (lawSt 17)))
def lawNB : List Stmt := forBody (lawSt 6)
end
section
/-- a program that is none: it imports sys, and no more is known of it -/
def p₀ : Program := { (default : Program) with main := { (default : Module) with body := [.Import [{ name := "sys", asname := none, pos := default }] default] } }
def tabO (ps : Array Value) : Obj := { cls := .none, data := .fields ps }
abbrev hole (h : Heap) (P : Addr) : Heap := hideAll h [P]
def looser (p : Program) (loose : List Str) : List Str := loose ++ (recsOf p).map (·.name) ++ (litsOf p).map (·.1) ++ (clssOf p loose).map (·.name)
section
variable {h h₀ : Heap} {P L a : Addr} {ps : Array Value} {m mg mb : Str → Option Value} {news : List (Addr × Obj)} {K : Frag} {p : Program} {loose : List Str} {mean : ExcName → Option Value}
theorem hole_get {b : Addr} {o : Obj} (e : h.get? b = some o) (n : b ≠ P) : (hole h P).get? b = some o := hideAll_get _ e (by simpa using n)
theorem hole_none : (hole h P).get? P = none := hideAll_none _ (by simp)
theorem hole_of {b : Addr} {o : Obj} (e : (hole h P).get? b = some o) : h.get? b = some o := of_hideAll _ e
theorem hole_size : (hole h P).objs.size = h.objs.size := hideAll_size _ _
theorem ne_ns (hP : h.get? P = some (tabO ps)) (n : h.Ns a m) : a ≠ P := fun e => by
  obtain ⟨o, es, ep, ho, hd, _⟩ := n
  rw [e, hP] at ho; cases ho; cases hd
theorem hole_ns (hP : h.get? P = some (tabO ps)) (n : h.Ns a m) : (hole h P).Ns a m := by
  have hne := ne_ns hP n
  obtain ⟨o, es, ep, ho, r⟩ := n
  exact ⟨o, es, ep, hole_get ho hne, r⟩
theorem hole_fr (F : Fr h₀ L h m) : Fr (hole h₀ P) L h m := ⟨F.ns, fun b o e => F.keep b o (hole_of e), by rw [hole_size]; exact F.above⟩
theorem hole_news (hP : h₀.get? P = some (tabO ps)) (F : Fr h₀ L h m) (N : News h₀ L h news) : News (hole h₀ P) L h ((P, tabO ps) :: news) := by
  intro q hq
  rcases List.mem_cons.mp hq with rfl | hq
  · exact ⟨F.keep _ _ hP, Nat.ne_of_lt (Nat.lt_of_lt_of_le (Heap.lt_size hP) F.above), hole_none⟩
  · refine ⟨(N q hq).1, (N q hq).2.1, ?_⟩
    cases e : (hole h₀ P).get? q.1 with
    | none => rfl
    | some o => have := hole_of e; rw [(N q hq).2.2] at this; cases this
theorem hole_in (hP : h.get? P = some (tabO ps)) (X : K.In h) (G : h.Ns mainGlobals mg) {mc : Str → Option Value} (C : h.Ns cStatics mc) (hK : kb_classed K = true) : K.In (hole h P) := by
  intro a o e
  have ha := X a o e
  have q := List.all_eq_true.mp hK (a, o) (kb_mem e)
  refine hole_get ha ?_
  simp only [Bool.or_eq_true, decide_eq_true_eq, beq_iff_eq] at q
  rcases q with (q | q) | q
  · intro z; rw [z, hP] at ha; cases ha; exact q rfl
  · rw [q]; exact ne_ns hP C
  · rw [q]; exact ne_ns hP G
theorem hole_top (hP : h.get? P = some (tabO ps)) (T : Top p loose mean mg mb h) : Top p₀ (looser p loose) mean mg mb (hole h P) where
  g := hole_ns hP T.g
  b := hole_ns hP T.b
  nolimit := let ⟨mc, h1, h2⟩ := T.nolimit; ⟨mc, hole_ns hP h1, h2⟩
  nodigits := let ⟨mc, h1, h2⟩ := T.nodigits; ⟨mc, hole_ns hP h1, h2⟩
  fn := fun d hd => by cases hd
  own := fun o ho => by cases ho
  const := fun x d e => by cases e
  free := fun x h1 h2 _ _ _ => by
    unfold looser at h2
    simp only [List.mem_append, not_or] at h2
    exact T.free x h1 h2.1.1.1 h2.1.1.2 h2.1.2 h2.2
  builtins := T.builtins
  tab := fun d hd => by cases hd
  bmain := let ⟨bm, ob, h1, h2, h3, h4, r⟩ := T.bmain; ⟨bm, ob, h1, h2, hole_get h3 (fun z => by rw [z, hP] at h3; cases h3; cases h4), h4, r⟩
  seer := fun e => by exact absurd e (by decide +kernel)
end
end
section
local macro_rules | `(tactic| k_room) => `(tactic| ktr_room)
local macro_rules | `(tactic| walk_at "subscriptTail") => `(tactic| (k_here; (with_reducible show wpAny _ _ (subscriptTail _ _ (Value.bytes _ _) (Value.int _ _)) _ _ _); (refine item_b (by assumption) (by decide) (by decide) (by decide) ?_); intro _ _ hlo hhi; (simp only [Int.reduceToNat] at hlo hhi ⊢)))
local macro_rules | `(tactic| walk_at "call type:bytes") => `(tactic| (k_here; (with_reducible show wpAny _ _ (call (Value.type "bytes") [Value.bytes _ _]) _ _ _); (refine call_bb ?_)))
local macro_rules | `(tactic| walk_at "call builtin:len") => `(tactic| (k_here; (with_reducible show wpAny _ _ (call (Value.builtin "len") [Value.bytes _ _]) _ _ _); (refine len_b (by omega) ?_)))
local macro_rules | `(tactic| walk_at "pyIter ref") => `(tactic| (k_here; (with_reducible show wpAny _ _ (pyIter (Value.ref _)) (fun it s₂ => LoopAtV _ _ _ _ _ _ _ _ _ it s₂) _ _); (rename Fr _ _ _ _ => lF'); (rename News _ _ _ _ => lN'); (with_unfolding_all refine' iter_seqT [] ?hh lF' lN' ?hm ?hc ?hd ?_ ?_; (case hh => exact rfl); (case hm => k_mem); (case hc => exact rfl); (case hd => exact rfl); (intro i' v' u' h' tk' own' hv' F' N'; (have hv2' := one_of hv'); clear hv'; subst hv2'; (try k_fold)); rotate_left; (intro u' h' tk' F' N'; (try k_fold)); rotate_right); walk_say "LOOP over a tuple of one"))
local macro_rules | `(tactic| walk_at "exec For Name Name cons nil") => `(tactic| (k_here; (rename Fr _ _ _ _ => lF'); (with_unfolding_all refine' For_invVF lF' ?k1 ?k2 ?_; (case k1 => exact rfl); (case k2 => exact rfl); k_whole)))
local macro_rules | `(tactic| walk_at "compareOp In int ref") => `(tactic| (k_here; (rename News _ _ _ _ => lN'); first
  | (refine in_one true lN' (by k_mem) (by simp only [decide_eq_true_eq]; omega) ?_)
  | (refine in_one false lN' (by k_mem) (by simp only [decide_eq_false_iff_not]; omega) ?_)))
local macro_rules | `(tactic| walk_at "InvEnd") => `(tactic| (k_here; refine' InvEnd.intro ?ef ?en ?eh ?ej; (case ef => k_asm); (case en => k_asm); (case eh => repeat (first | exact sub_refl | refine sub_tail ?_ | refine sub_app ?_)); (case ej => (intro z' hz'; (with_unfolding_all repeat (first | exact rfl | refine if_no hz' (by decide +kernel) ?_))))))
local macro_rules | `(tactic| walk_at "joinParts") => `(tactic| (k_here; (first | (with_reducible show wpAny _ _ (joinParts _ []) _ _ _) | ((with_reducible show wpAny _ _ (joinParts _ (evalEach [] _)) _ _ _); with_reducible refine joinParts_nilE ?_)); (with_reducible refine' joinParts_nil ?_ (fit_ok ?ezl));  (case ezl => with_reducible repeat (first | exact emp_ok | exact num_len (by omega) (by omega) | exact lit_len _ (by decide +kernel) | refine app_ok ?_ ?_))))
local macro_rules | `(tactic| walk_at "And") => `(tactic| (k_here; (with_reducible show PySem.Str.length _ ≤ _ ∧ _); k_dflt (refine' And.intro (fit_ok ?ezl) ?_; (case ezl => with_reducible repeat (first | exact emp_ok | exact num_len (by omega) (by omega) | exact lit_len _ (by decide +kernel) | refine app_ok ?_ ?_)))))

local macro_rules | `(tactic| walk_at "exec Raise some none") => `(tactic| (k_here; (with_reducible show wpAny _ _ (exec (Stmt.Raise (some (Expr.Call (Expr.Name _ _) (_ :: _) [] _)) none _) _) _ _ _); k_dflt (first
  | (refine' Raise_own2 ?F ?g ?O PySem.F.excBase_Exception ?n PySem.F.excBase_ValueError ?h ?_ ?a ?b ?c ?d ?e; (case F => k_asm); (case g => exact TopRead.g (by k_asm)); (case O => exact own_of_in (by k_asm) (by k_asm) (by k_is) (by k_exc)); (case n => decide +kernel); (case h => first | rfl | assumption); (case a => rfl); (case b => rfl); (case c => rfl); (case d => rfl); (case e => decide); k_whole)
  | (refine' Raise_own2 ?F ?g ?O PySem.F.excBase_Exception ?n PySem.F.excBase_TypeError ?h ?_ ?a ?b ?c ?d ?e; (case F => k_asm); (case g => exact TopRead.g (by k_asm)); (case O => exact own_of_in (by k_asm) (by k_asm) (by k_is) (by k_exc)); (case n => decide +kernel); (case h => first | rfl | assumption); (case a => rfl); (case b => rfl); (case c => rfl); (case d => rfl); (case e => decide); k_whole))))
local macro_rules | `(tactic| walk_at "callWith ref") => `(tactic| (k_here; (with_reducible show wpAny _ _ (callWith _ (Value.ref _) _ (backTo _ (starEach (_ :: _) _)) (backToKw _ (keywordEach (_ :: _) _))) _ _ _); kfb_any; k_dflt (refine' callWith_boundKW ?kfbN ?kfbM ?kfbA ?_; (case kfbN => k_asm); (case kfbM => k_mem); (case kfbA => exact rfl); k_whole)))
local macro_rules | `(tactic| walk_at "call ref") => `(tactic| (k_here; kfb_any; k_dflt (first
  | (refine' fb_2be ?kfbN ?kfbM ?kfbS ?kfbT ?_; (case kfbN => k_asm); (case kfbM => k_mem); (case kfbS => first | assumption | omega); (case kfbT => first | assumption | omega); k_whole)
  | (refine' fb_1be ?kfbN ?kfbM ?kfbS ?kfbT ?_; (case kfbN => k_asm); (case kfbM => k_mem); (case kfbS => first | assumption | omega); (case kfbT => first | assumption | omega); k_whole)
  | (refine' fb_1 ?kfbN ?kfbM ?kfbS ?_; (case kfbN => k_asm); (case kfbM => k_mem); (case kfbS => first | assumption | omega); k_whole)
  | (refine' fb_2 ?kfbN ?kfbM ?kfbS ?_; (case kfbN => k_asm); (case kfbM => k_mem); (case kfbS => first | assumption | omega); k_whole)); intro _ _; walk_say "FROM BYTES"))
local macro_rules | `(tactic| walk_at "binaryOp BitAnd int int") => `(tactic| (k_here; (with_reducible refine and_mask ?_); intro _ _ hlo hhi))
local macro_rules | `(tactic| walk_at "binaryOp RShift int int") => `(tactic| (k_here; (with_reducible refine' shr ?ezh ?_; (case ezh => omega)); intro _ _))
local macro_rules | `(tactic| walk_at "binaryOp LShift int int") => `(tactic| (k_here; (with_reducible refine' shl ?eza ?ezb ?ezc ?ezd ?_; (case eza => omega); (case ezb => omega); (case ezc => omega); (case ezd => omega)); intro _ _))
local macro_rules | `(tactic| walk_at "subscriptTail") => `(tactic| (k_here; (with_reducible show wpAny _ _ (subscriptTail _ (Expr.Slice _ none none _) (Value.bytes _ _) (Value.ref _)) _ _ _); (with_reducible rename Fr _ _ _ _ => F'); (with_reducible rename News _ _ _ _ => N'); (refine slice_tl3 (s := ⟨_, _, _, _, _⟩) (by assumption) F' N' ?_); intro _ _ _ _ _))
local macro_rules | `(tactic| walk_at "subscriptTail") => `(tactic| (k_here; (with_reducible show wpAny _ _ (subscriptTail _ (Expr.Slice none _ none _) (Value.bytes _ _) (Value.ref _)) _ _ _); (with_reducible rename Fr _ _ _ _ => F'); (with_reducible rename News _ _ _ _ => N'); (first | refine slice_hd (k := 3) (s := ⟨_, _, _, _, _⟩) (by assumption) (by decide) F' N' ?_ | refine slice_hd (k := 2) (s := ⟨_, _, _, _, _⟩) (by assumption) (by decide) F' N' ?_); intro _ _ _ _ hsz _ _))
local macro_rules | `(tactic| walk_at "callWith") => `(tactic| (k_here; (with_reducible show wpAny _ _ (callWith _ (Value.builtin _) _ (backTo _ (starEach (_ :: _) _)) (backToKw _ (keywordEach (_ :: _) _))) _ _ _); k_dflt (refine callWith_bKW ?_)))
local macro_rules | `(tactic| walk_at "call builtin:int.to_bytes") => `(tactic| (k_here; k_dflt (first | (refine' to_be32 ?eza ?ezb ?_; (case eza => omega); (case ezb => omega)) | (refine' to_be3 ?eza ?ezb ?_; (case eza => omega); (case ezb => omega))); intro _ _))
local macro_rules | `(tactic| walk_at "binaryOp Pow int int") => `(tactic| (k_here; (with_reducible first | refine pow_256_32 ?_ | refine pow_2_256 ?_ | refine pow_256_27 ?_ | (refine' pow_256 ?eza ?ezb ?_; (case eza => omega); (case ezb => omega))); intro _ _))
local macro_rules | `(tactic| walk_at "binaryOp FloorDiv int int") => `(tactic| (k_here; (with_reducible first | (refine' fdiv_c ?eza ?ezb ?_; (case eza => omega); (case ezb => omega)) | (refine' fdiv_256 ?eza ?_; (case eza => omega))); intro _ _))
local macro_rules | `(tactic| walk_at "inplaceOp FloorDiv int int") => `(tactic| (k_here; (with_reducible (refine' ifdiv_c ?eza ?ezb ?_; (case eza => omega); (case ezb => omega))); intro _ _))
local macro_rules | `(tactic| walk_at "binaryOp Mod int int") => `(tactic| (k_here; (with_reducible (refine' mod_c ?eza ?_; (case eza => omega))); intro _ _ hlo hhi))
local macro_rules | `(tactic| walk_at "binaryOp BitAnd int int") => `(tactic| (k_here; (with_reducible refine and_sign ?_); intro _ _))
local macro_rules | `(tactic| walk_at "inplaceOp RShift int int") => `(tactic| (k_here; (with_reducible refine ishr8 ?_); intro _ _))
local macro_rules | `(tactic| walk_at "getMethod int") => `(tactic| (k_here; (with_reducible refine getMethod_int_bit_length ?_)))
local macro_rules | `(tactic| walk_at "call builtin:int.bit_length") => `(tactic| (k_here; (with_reducible refine bit_len ?_); intro _ _))
local macro_rules | `(tactic| walk_at "call type:bytes") => `(tactic| (k_here; (with_reducible show wpAny _ _ (call (Value.type "bytes") [Value.ref _]) _ _ _); k_dflt (refine' make_b ?ezF ?ezN ?ezh ?ezm ?ezi ?ezr ?ezn ?_; (case ezF => k_asm); (case ezN => k_asm); (case ezh => exact rfl); (case ezm => k_mem); (case ezi => repeat (first | exact IntsAre.nil | refine IntsAre.cons _ _ ?_)); (case ezr => repeat (first | exact in_nil | refine in_cons (by omega) (by omega) ?_)); (case ezn => exact Nat.le_of_ble_eq_true rfl)); intro _ _ _ F' N'))
local macro_rules | `(tactic| walk_at "binaryOp Add bytes bytes") => `(tactic| (k_here; (with_reducible (refine' add_b ?eza ?_; (case eza => ((try simp only [List.size_toArray, byteArr_size, be_size, Array.size_append, List.length_cons, List.length_nil, Array.size_replicate]) <;> (first | decide | omega))))); intro _ _))
local macro_rules | `(tactic| walk_at "binaryOp Mult int int") => `(tactic| (k_here; (with_reducible (refine' mul_pw ?eza ?ezb ?ezc ?_; (case eza => omega); (case ezb => omega); (case ezc => omega))); intro _ _))
local macro_rules | `(tactic| walk_at "binaryOp FloorDiv int int") => `(tactic| (k_here; (with_reducible first | (refine' fdiv_pw ?eza ?ezb ?_; (case eza => omega); (case ezb => omega)) | (refine' fdiv_e ?eze ?eza ?ezb ?_; (case eze => assumption); (case eza => omega); (case ezb => omega))); intro _ _))
local macro_rules | `(tactic| walk_at "binaryOp LShift int int") => `(tactic| (k_here; (with_reducible (refine' shl_pw ?eza ?ezb ?ezc ?_; (case eza => omega); (case ezb => omega); (case ezc => omega))); intro _ _))
local macro_rules | `(tactic| walk_at "binaryOp RShift int int") => `(tactic| (k_here; (with_reducible (refine' shr_pw ?eza ?_; (case eza => omega))); intro _ _))
local macro_rules | `(tactic| walk_at "call builtin:min") => `(tactic| (k_here; k_dflt (refine' min_K ?ezh ?ezF ?ezN ?_; (case ezh => exact rfl); (case ezF => k_asm); (case ezN => k_asm)); intro _ _ _ F' N'))
section
set_option maxHeartbeats 4000000 in
theorem c_msg {p : Program} (w : World) (mean : ExcName → Option Value) (mg mb : Str → Option Value) (loose : List Str) (t4 : Tok) (news : List (Addr × Obj)) :
  EzClaim 1 Challenge.rw_ez0014_01.row.prog w (hd.heap_39 w.params) p loose mean mg mb 73 news True [.int 4 t4] (fun t => .str (PySem.Str.ofString "4") t) := by
  k_fill
  dsimp only [EzClaim, CbLists, CbRet]
  intros
  rename_i hret
  refine wpAny_call ?_
  k_dflt (refine' code_def ?k1 ?k2 ?k3 ?k4 ?k5 ?kA ?kF ?kK ?k6 ?k7 ?k8 ?k9 ?kB ?_ ?c2 ?c3 ?c4 ?c5; (case kA => exact rfl); (case kF => exact rfl); (case kK => assumption); (case k1 => k_asm); (case k2 => k_asm); (case k3 => k_asm); (case k4 => k_asm); (case k5 => k_asm); (case k6 => k_is); (case k7 => k_is); (case k8 => ktr_room); (case k9 => first | exact BindsTo.of_eq rfl | exact binds_K (by k_in) rfl (by k_is) rfl rfl rfl); (case c5 => decide); (case kB => exact locs rfl); (case c2 => exact rfl); (case c3 => exact rfl); (case c4 => exact rfl); k_whole; intro g' L' h' FG' F' N' B' X' T'; (try dsimp only); (try k_lift B'); (try k_fold))
  k_steps


  all_goals cb_end hret
end
local macro_rules | `(tactic| walk_at "nowhere") => `(tactic| fail "nowhere")
section
set_option maxHeartbeats 4000000 in
theorem c_isint {p : Program} (w : World) (mean : ExcName → Option Value) (mg mb : Str → Option Value) (loose : List Str) (n : Int) (tn : Tok) (news : List (Addr × Obj)) :
  EzClaim 1 Challenge.rw_ez0014_01.row.prog w (hd.heap_39 w.params) p loose mean mg mb 80 news True [.int n tn] (fun _ => .bool true) := by
  k_fill
  dsimp only [EzClaim, CbLists, CbRet]
  intros
  rename_i hret
  refine wpAny_call ?_
  k_dflt (refine' code_def ?k1 ?k2 ?k3 ?k4 ?k5 ?kA ?kF ?kK ?k6 ?k7 ?k8 ?k9 ?kB ?_ ?c2 ?c3 ?c4 ?c5; (case kA => exact rfl); (case kF => exact rfl); (case kK => assumption); (case k1 => k_asm); (case k2 => k_asm); (case k3 => k_asm); (case k4 => k_asm); (case k5 => k_asm); (case k6 => k_is); (case k7 => k_is); (case k8 => ktr_room); (case k9 => first | exact BindsTo.of_eq rfl | exact binds_K (by k_in) rfl (by k_is) rfl rfl rfl); (case c5 => decide); (case kB => exact locs rfl); (case c2 => exact rfl); (case c3 => exact rfl); (case c4 => exact rfl); k_whole; intro g' L' h' FG' F' N' B' X' T'; (try dsimp only); (try k_lift B'); (try k_fold))
  k_steps
  all_goals cb_end hret
end
section
local macro_rules | `(tactic| walk_at "call ref") => `(tactic| (k_here; (first | (with_reducible show wpAny _ _ (call (Value.ref (nat_lit 73)) [Value.int _ _] _) _ _ _) | (with_reducible show wpAny _ _ (call (Value.ref 73) [Value.int _ _] _) _ _ _)); k_dflt (refine' (c_msg _ _ _ _ _ _ _) _ _ _ _ _ _ _ _ _ _ _ _ _ _ _ _ ?k1 ?k2 ?k3 ?k4 ?k5 ?kK ?kp ?kd ?ku ?_; (case k1 => k_asm); (case k2 => k_asm); (case k3 => k_asm); (case k4 => k_asm); (case k5 => k_asm); (case kK => first | exact rfl | assumption); (case kp => exact trivial); (case kd => ktr_room); (case ku => ktr_units)); intro t9 h9 tk9 F9 N9; (try dsimp only); (try k_sweep); (try k_fold); walk_say "BY CONTRACT c_msg"))
local macro_rules | `(tactic| walk_at "call ref") => `(tactic| (k_here; (first | (with_reducible show wpAny _ _ (call (Value.ref (nat_lit 80)) [_] _) _ _ _) | (with_reducible show wpAny _ _ (call (Value.ref 80) [_] _) _ _ _)); k_dflt (refine' (c_isint _ _ _ _ _ _ _ _) _ _ _ _ _ _ _ _ _ _ _ _ _ _ _ _ ?k1 ?k2 ?k3 ?k4 ?k5 ?kK ?kp ?kd ?ku ?_; (case k1 => k_asm); (case k2 => k_asm); (case k3 => k_asm); (case k4 => k_asm); (case k5 => k_asm); (case kK => first | exact rfl | assumption); (case kp => exact trivial); (case kd => ktr_room); (case ku => ktr_units)); intro t9 h9 tk9 F9 N9; (try dsimp only); (try k_sweep); (try k_fold); walk_say "BY CONTRACT c_isint"))
set_option maxHeartbeats 4000000 in
theorem c_bfo4 {p : Program} (w : World) (mean : ExcName → Option Value) (mg mb : Str → Option Value) (loose : List Str) (b : Array UInt8) (tb t4 : Tok) 
  (hb : b.size = 4) (news : List (Addr × Obj)) :
  EzClaim 3 Challenge.rw_ez0014_01.row.prog w (hd.heap_39 w.params) p loose mean mg mb 66 news True [.bytes b tb, .int 4 t4] (fun _ => .bytes b tb) := by
  k_fill
  dsimp only [EzClaim, CbLists, CbRet]
  intros
  rename_i hret
  refine wpAny_call ?_
  k_dflt (refine' code_def ?k1 ?k2 ?k3 ?k4 ?k5 ?kA ?kF ?kK ?k6 ?k7 ?k8 ?k9 ?kB ?_ ?c2 ?c3 ?c4 ?c5; (case kA => exact rfl); (case kF => exact rfl); (case kK => assumption); (case k1 => k_asm); (case k2 => k_asm); (case k3 => k_asm); (case k4 => k_asm); (case k5 => k_asm); (case k6 => k_is); (case k7 => k_is); (case k8 => ktr_room); (case k9 => first | exact BindsTo.of_eq rfl | exact binds_K (by k_in) rfl (by k_is) rfl rfl rfl); (case c5 => decide); (case kB => exact locs rfl); (case c2 => exact rfl); (case c3 => exact rfl); (case c4 => exact rfl); k_whole; intro g' L' h' FG' F' N' B' X' T'; (try dsimp only); (try k_lift B'); (try k_fold))
  replace F' : Fr g' L' h' (fun y => List.lookup y [(PySem.Str.ofString "octets", Value.bytes b tb), (PySem.Str.ofString "out_size", Value.int 4 t4)].reverse) := F'
  clear FG'
  k_steps


  all_goals (refine' ret_V hret rfl ?e2 ?e3; (case e2 => k_asm); (case e3 => first | k_asm | (refine' cb_drop ?cbN ?cbS; (case cbN => assumption); (case cbS => kcj_all))))
end
local macro_rules | `(tactic| walk_at "nowhere") => `(tactic| fail "nowhere")
section
local macro_rules | `(tactic| walk_at "call ref") => `(tactic| (k_here; (first | (with_reducible show wpAny _ _ (call (Value.ref (nat_lit 73)) [Value.int _ _] _) _ _ _) | (with_reducible show wpAny _ _ (call (Value.ref 73) [Value.int _ _] _) _ _ _)); k_dflt (refine' (c_msg _ _ _ _ _ _ _) _ _ _ _ _ _ _ _ _ _ _ _ _ _ _ _ ?k1 ?k2 ?k3 ?k4 ?k5 ?kK ?kp ?kd ?ku ?_; (case k1 => k_asm); (case k2 => k_asm); (case k3 => k_asm); (case k4 => k_asm); (case k5 => k_asm); (case kK => first | exact rfl | assumption); (case kp => exact trivial); (case kd => ktr_room); (case ku => ktr_units)); intro t9 h9 tk9 F9 N9; (try dsimp only); (try k_sweep); (try k_fold); walk_say "BY CONTRACT c_msg"))
local macro_rules | `(tactic| walk_at "call ref") => `(tactic| (k_here; (first | (with_reducible show wpAny _ _ (call (Value.ref (nat_lit 80)) [_] _) _ _ _) | (with_reducible show wpAny _ _ (call (Value.ref 80) [_] _) _ _ _)); k_dflt (refine' (c_isint _ _ _ _ _ _ _ _) _ _ _ _ _ _ _ _ _ _ _ _ _ _ _ _ ?k1 ?k2 ?k3 ?k4 ?k5 ?kK ?kp ?kd ?ku ?_; (case k1 => k_asm); (case k2 => k_asm); (case k3 => k_asm); (case k4 => k_asm); (case k5 => k_asm); (case kK => first | exact rfl | assumption); (case kp => exact trivial); (case kd => ktr_room); (case ku => ktr_units)); intro t9 h9 tk9 F9 N9; (try dsimp only); (try k_sweep); (try k_fold); walk_say "BY CONTRACT c_isint"))
set_option maxHeartbeats 4000000 in
theorem c_bfoR {p : Program} (w : World) (mean : ExcName → Option Value) (mg mb : Str → Option Value) (loose : List Str) (b : Array UInt8) (tb t4 : Tok) 
  (hb : b.size ≠ 4) (hb2 : b.size ≤ 1000) (news : List (Addr × Obj)) :
  EzRaise 3 44 Challenge.rw_ez0014_01.row.prog w (hd.heap_39 w.params) p loose mean mg mb 66 news True [.bytes b tb, .int 4 t4] := by
  k_fill
  dsimp only [EzRaise, CbLists]
  intros
  rename_i hret
  refine wpAny_call ?_
  k_dflt (refine' code_defS ?k1 ?k2 ?k3 ?k4 ?k5 ?XB ?TB ?D ?T0 ?kA ?k6 ?k7 ?k8 ?k9 ?kB ?_ ?cK ?c2 ?c3 ?c4 ?c5; (case kA => exact rfl); (case k2 => k_asm); (case k1 => k_asm); (case XB => assumption); (case TB => assumption); (case D => assumption); (case T0 => exact KtsTurn.refl); (case k3 => k_asm); (case k4 => k_asm); (case k5 => k_asm); (case k6 => k_is); (case k7 => k_is); (case k8 => ktr_room); (case k9 => first | exact BindsTo.of_eq rfl | exact binds_K (by k_in) rfl (by k_is) rfl rfl rfl); (case kB => exact locs rfl); (case cK => assumption); (case c2 => exact rfl); (case c3 => exact rfl); (case c4 => exact rfl); (case c5 => decide); k_whole; intro g' L' h' FG' F' N' B' X' T' D'; (try dsimp only); (try k_lift B'); (try k_fold))
  k_steps
  all_goals (
    (rename RaisedS _ _ _ _ _ _ _ _ _ => S9)
    (rename Heap.UpToSlots _ _ => U9)
    have S8 := raisedS_drop (news := news) (by repeat (first | exact sub_refl | refine sub_tail ?_ | refine sub_app ?_)) S9
    exact hret _ _ _ _ _ _ FG' S8 S8.toK U9)
end
local macro_rules | `(tactic| walk_at "nowhere") => `(tactic| fail "nowhere")
section
local macro_rules | `(tactic| walk_at "call ref") => `(tactic| (k_here; (first | (with_reducible show wpAny _ _ (call (Value.ref (nat_lit 80)) [_] _) _ _ _) | (with_reducible show wpAny _ _ (call (Value.ref 80) [_] _) _ _ _)); k_dflt (refine' (c_isint _ _ _ _ _ _ _ _) _ _ _ _ _ _ _ _ _ _ _ _ _ _ _ _ ?k1 ?k2 ?k3 ?k4 ?k5 ?kK ?kp ?kd ?ku ?_; (case k1 => k_asm); (case k2 => k_asm); (case k3 => k_asm); (case k4 => k_asm); (case k5 => k_asm); (case kK => first | exact rfl | assumption); (case kp => exact trivial); (case kd => ktr_room); (case ku => ktr_units)); intro t9 h9 tk9 F9 N9; (try dsimp only); (try k_sweep); (try k_fold); walk_say "BY CONTRACT c_isint"))
local macro_rules | `(tactic| walk_at "call ref") => `(tactic| (k_here; (first | (with_reducible show wpAny _ _ (call (Value.ref (nat_lit 73)) [Value.int _ _] _) _ _ _) | (with_reducible show wpAny _ _ (call (Value.ref 73) [Value.int _ _] _) _ _ _)); k_dflt (refine' (c_msg _ _ _ _ _ _ _) _ _ _ _ _ _ _ _ _ _ _ _ _ _ _ _ ?k1 ?k2 ?k3 ?k4 ?k5 ?kK ?kp ?kd ?ku ?_; (case k1 => k_asm); (case k2 => k_asm); (case k3 => k_asm); (case k4 => k_asm); (case k5 => k_asm); (case kK => first | exact rfl | assumption); (case kp => exact trivial); (case kd => ktr_room); (case ku => ktr_units)); intro t9 h9 tk9 F9 N9; (try dsimp only); (try k_sweep); (try k_fold); walk_say "BY CONTRACT c_msg"))
set_option maxHeartbeats 4000000 in
theorem c_bfo0 {p : Program} (w : World) (mean : ExcName → Option Value) (mg mb : Str → Option Value) (loose : List Str) (b : Array UInt8) (tb : Tok) (news : List (Addr × Obj)) :
  EzClaim 2 Challenge.rw_ez0014_01.row.prog w (hd.heap_39 w.params) p loose mean mg mb 66 news (True) [.bytes b tb] (fun _ => .bytes b tb) := by
  k_fill
  dsimp only [LawClaim, EzClaim, CbLists, CbRet]
  intros
  rename_i hret
  refine wpAny_call ?_
  k_dflt (refine' code_def ?k1 ?k2 ?k3 ?k4 ?k5 ?kA ?kF ?kK ?k6 ?k7 ?k8 ?k9 ?kB ?_ ?c2 ?c3 ?c4 ?c5; (case kA => exact rfl); (case kF => exact rfl); (case kK => assumption); (case k1 => k_asm); (case k2 => k_asm); (case k3 => k_asm); (case k4 => k_asm); (case k5 => k_asm); (case k6 => k_is); (case k7 => k_is); (case k8 => ktr_room); (case k9 => first | exact BindsTo.of_eq rfl | exact binds_K (by k_in) rfl (by k_is) rfl rfl rfl); (case c5 => decide); (case kB => exact locs rfl); (case c2 => exact rfl); (case c3 => exact rfl); (case c4 => exact rfl); k_whole; intro g' L' h' FG' F' N' B' X' T'; (try dsimp only); (try k_lift B'); (try k_fold))
  k_steps
  all_goals exact ret_V hret rfl (by k_asm) (by first | k_asm | exact cb_drop (by assumption) (by repeat (first | exact sub_refl | refine sub_tail ?_ | refine sub_app ?_)))
end
section
set_option maxHeartbeats 4000000 in
theorem c_vfb {p : Program} (w : World) (mean : ExcName → Option Value) (mg mb : Str → Option Value) (loose : List Str) (b : Array UInt8) (tb : Tok) (hb : b.size = 4) (news : List (Addr × Obj)) :
  EzClaim 1 Challenge.rw_ez0014_01.row.prog w (hd.heap_39 w.params) p loose mean mg mb 94 news True [.bytes b tb] (fun t => .int (worth b) t) := by
  k_fill
  dsimp only [EzClaim, CbLists, CbRet]
  intros
  rename_i hret
  have hb3 : (tl3 b).size ≤ 1000 := by rw [tl3_size hb]; decide
  refine wpAny_call ?_
  k_dflt (refine' code_def ?k1 ?k2 ?k3 ?k4 ?k5 ?kA ?kF ?kK ?k6 ?k7 ?k8 ?k9 ?kB ?_ ?c2 ?c3 ?c4 ?c5; (case kA => exact rfl); (case kF => exact rfl); (case kK => assumption); (case k1 => k_asm); (case k2 => k_asm); (case k3 => k_asm); (case k4 => k_asm); (case k5 => k_asm); (case k6 => k_is); (case k7 => k_is); (case k8 => ktr_room); (case k9 => first | exact BindsTo.of_eq rfl | exact binds_K (by k_in) rfl (by k_is) rfl rfl rfl); (case c5 => decide); (case kB => exact locs rfl); (case c2 => exact rfl); (case c3 => exact rfl); (case c4 => exact rfl); k_whole; intro g' L' h' FG' F' N' B' X' T'; (try dsimp only); (try k_lift B'); (try k_fold))
  k_steps
  all_goals refine cb_retI hret ?_ (by k_asm) (by first | k_asm | exact cb_drop (by assumption) (by repeat (first | exact sub_refl | refine sub_tail ?_ | refine sub_app ?_)))
  · exact val_lo hb (by first | assumption | omega)
  · exact val_hi hb (by first | assumption | omega)
end
section
local macro_rules | `(tactic| walk_at "call ref") => `(tactic| (k_here; (first | (with_reducible show wpAny _ _ (call (Value.ref (nat_lit 66)) [Value.bytes _ _, Value.int _ _] _) _ _ _) | (with_reducible show wpAny _ _ (call (Value.ref 66) [Value.bytes _ _, Value.int _ _] _) _ _ _)); k_dflt (refine' (c_bfo4 _ _ _ _ _ _ _ _ (by assumption) _) _ _ _ _ _ _ _ _ _ _ _ _ _ _ _ _ ?k1 ?k2 ?k3 ?k4 ?k5 ?kK ?kp ?kd ?ku ?_; (case k1 => k_asm); (case k2 => k_asm); (case k3 => k_asm); (case k4 => k_asm); (case k5 => k_asm); (case kK => first | exact rfl | assumption); (case kp => exact trivial); (case kd => ktr_room); (case ku => ktr_units)); intro t9 h9 tk9 F9 N9; (try dsimp only); (try k_sweep); (try k_fold); walk_say "BY CONTRACT c_bfo4"))
local macro_rules | `(tactic| walk_at "call ref") => `(tactic| (k_here; (first | (with_reducible show wpAny _ _ (call (Value.ref (nat_lit 94)) [Value.bytes _ _] _) _ _ _) | (with_reducible show wpAny _ _ (call (Value.ref 94) [Value.bytes _ _] _) _ _ _)); k_dflt (refine' (c_vfb _ _ _ _ _ _ _ (by assumption) _) _ _ _ _ _ _ _ _ _ _ _ _ _ _ _ _ ?k1 ?k2 ?k3 ?k4 ?k5 ?kK ?kp ?kd ?ku ?_; (case k1 => k_asm); (case k2 => k_asm); (case k3 => k_asm); (case k4 => k_asm); (case k5 => k_asm); (case kK => first | exact rfl | assumption); (case kp => exact trivial); (case kd => ktr_room); (case ku => ktr_units)); intro t9 h9 tk9 F9 N9; (try dsimp only); (try k_sweep); (try k_fold); walk_say "BY CONTRACT c_vfb"))
set_option maxHeartbeats 4000000 in
theorem c_tfb {p : Program} (w : World) (mean : ExcName → Option Value) (mg mb : Str → Option Value) (loose : List Str) (b : Array UInt8) (tb : Tok) (hb : b.size = 4) (hw : worth b < 115792089237316195423570985008687907853269984665640564039457584007913129639936) (news : List (Addr × Obj)) :
  EzClaim 5 Challenge.rw_ez0014_01.row.prog w (hd.heap_39 w.params) p loose mean mg mb 101 news True [.bytes b tb] (fun t => .bytes (be 32 (worth b)) t) := by
  k_fill
  dsimp only [EzClaim, CbLists, CbRet]
  intros
  rename_i hret
  have hw0 := worth_nonneg b
  refine wpAny_call ?_
  k_dflt (refine' code_def ?k1 ?k2 ?k3 ?k4 ?k5 ?kA ?kF ?kK ?k6 ?k7 ?k8 ?k9 ?kB ?_ ?c2 ?c3 ?c4 ?c5; (case kA => exact rfl); (case kF => exact rfl); (case kK => assumption); (case k1 => k_asm); (case k2 => k_asm); (case k3 => k_asm); (case k4 => k_asm); (case k5 => k_asm); (case k6 => k_is); (case k7 => k_is); (case k8 => ktr_room); (case k9 => first | exact BindsTo.of_eq rfl | exact binds_K (by k_in) rfl (by k_is) rfl rfl rfl); (case c5 => decide); (case kB => exact locs rfl); (case c2 => exact rfl); (case c3 => exact rfl); (case c4 => exact rfl); k_whole; intro g' L' h' FG' F' N' B' X' T'; (try dsimp only); (try k_lift B'); (try k_fold))
  k_steps
  all_goals exact ret_By hret rfl (by k_asm) (by first | k_asm | exact cb_drop (by assumption) (by repeat (first | exact sub_refl | refine sub_tail ?_ | refine sub_app ?_)))
end
section
theorem bft_lo' {x : Int} {n : Nat} (hn : n ≤ 32) (h0 : 0 ≤ x) (h1 : x < 256 ^ n) (h2 : 0 < n → 256 ^ (n - 1) ≤ x) (hs : pw x n / 8388608 % 2 * 8388608 = 0) : #[(n : Int).toNat.toUInt8] ++ be 3 (pw x n) = lform x := bft_lo hn h0 h1 h2 hs
theorem bft_hi' {x : Int} {n : Nat} (hn : n ≤ 32) (h0 : 0 ≤ x) (h1 : x < 256 ^ n) (hs : pw x n / 8388608 % 2 * 8388608 ≠ 0) : #[((n : Int) + 1).toNat.toUInt8] ++ be 3 (pw x n / 256) = lform x := bft_hi hn h0 h1 hs

local macro_rules | `(tactic| walk_at "call ref") => `(tactic| (k_here; (first | (with_reducible show wpAny _ _ (call (Value.ref (nat_lit 66)) [Value.bytes _ _] _) _ _ _) | (with_reducible show wpAny _ _ (call (Value.ref 66) [Value.bytes _ _] _) _ _ _)); k_dflt (refine' (c_bfo0 _ _ _ _ _ _ _ _) _ _ _ _ _ _ _ _ _ _ _ _ _ _ _ _ ?k1 ?k2 ?k3 ?k4 ?k5 ?kK ?kp ?kd ?ku ?_; (case k1 => k_asm); (case k2 => k_asm); (case k3 => k_asm); (case k4 => k_asm); (case k5 => k_asm); (case kK => first | exact rfl | assumption); (case kp => exact trivial); (case kd => ktr_room); (case ku => ktr_units)); intro t9 h9 tk9 F9 N9; (try dsimp only); (try k_sweep); (try k_fold); walk_say "BY CONTRACT c_bfo0"))
set_option maxHeartbeats 4000000 in
theorem c_bft {p : Program} (w : World) (mean : ExcName → Option Value) (mg mb : Str → Option Value) (loose : List Str) (x : Int) (tb : Tok) (h0 : 0 ≤ x) (h1 : x < 115792089237316195423570985008687907853269984665640564039457584007913129639936) (news : List (Addr × Obj)) :
  EzClaim 3 Challenge.rw_ez0014_01.row.prog w (hd.heap_39 w.params) p loose mean mg mb 115 news (True) [.bytes (be 32 x) tb] (fun t => .bytes (lform x) t) := by
  k_fill
  dsimp only [LawClaim, EzClaim, CbLists, CbRet]
  intros
  rename_i hret
  obtain ⟨n, hn, hn32, hlt, hge⟩ := bit_e h0 h1
  have hz := be_size 32 x
  have hz2 := be32_ok x
  have hp0 := pw_nonneg h0 n
  have hp1 := pw_top hlt
  have hx3 : (n : Int) ≤ 3 → x < 4294967296 := fun h => shl_room hlt (by omega)
  refine wpAny_call ?_
  k_dflt (refine' code_def ?k1 ?k2 ?k3 ?k4 ?k5 ?kA ?kF ?kK ?k6 ?k7 ?k8 ?k9 ?kB ?_ ?c2 ?c3 ?c4 ?c5; (case kA => exact rfl); (case kF => exact rfl); (case kK => assumption); (case k1 => k_asm); (case k2 => k_asm); (case k3 => k_asm); (case k4 => k_asm); (case k5 => k_asm); (case k6 => k_is); (case k7 => k_is); (case k8 => ktr_room); (case k9 => first | exact BindsTo.of_eq rfl | exact binds_K (by k_in) rfl (by k_is) rfl rfl rfl); (case c5 => decide); (case kB => exact locs rfl); (case c2 => exact rfl); (case c3 => exact rfl); (case c4 => exact rfl); k_whole; intro g' L' h' FG' F' N' B' X' T'; (try dsimp only); (try k_lift B'); (try k_fold))
  k_steps
  all_goals refine ret_By hret ?_ (by k_asm) (by first | k_asm | exact cb_drop (by assumption) (by repeat (first | exact sub_refl | refine sub_tail ?_ | refine sub_app ?_)))
  all_goals with_reducible first | exact bft_hi' hn32 h0 hlt (by assumption) | exact bft_lo' hn32 h0 hlt hge (by assumption) | exact bft_lo' hn32 h0 hlt hge (Decidable.not_not.mp (by assumption))
end
local macro_rules | `(tactic| walk_at "nowhere") => `(tactic| fail "nowhere")
section
local macro_rules | `(tactic| walk_at "call ref") => `(tactic| (k_here; (first | (with_reducible show wpAny _ _ (call (Value.ref (nat_lit 66)) [Value.bytes _ _, Value.int _ _] _) _ _ _) | (with_reducible show wpAny _ _ (call (Value.ref 66) [Value.bytes _ _, Value.int _ _] _) _ _ _)); k_dflt (refine' (c_bfoR _ _ _ _ _ _ _ _ (by assumption) (by assumption) _) _ _ _ _ _ _ _ _ _ _ _ _ _ _ _ _ ?kXB ?kTB ?k1 ?k2 ?k3 ?k4 ?k5 ?kD ?kK ?kp ?kd ?ku ?_; (case k1 => k_asm); (case k2 => k_asm); (case k3 => k_asm); (case k4 => k_asm); (case k5 => k_asm); (case kXB => k_asm); (case kTB => k_asm); (case kD => k_asm); (case kK => first | exact rfl | assumption); (case kp => exact trivial); (case kd => ktr_room); (case ku => ktr_units)); intro g9 h9 e9 t9 ws9 tk9 FG9 S9 R9 U9; (try dsimp only at S9 R9 U9 ⊢); walk_say "RAISES BY CONTRACT c_bfoR"))
set_option maxHeartbeats 4000000 in
theorem c_target {p : Program} (w : World) (mean : ExcName → Option Value) (mg mb : Str → Option Value) (loose : List Str) (b : Array UInt8) (tb : Tok) (hb : b.size ≠ 4) (hb2 : b.size ≤ 1000) (news : List (Addr × Obj)) :
  LawClaim Challenge.rw_ez0014_01.row.prog w (hd.heap_39 w.params) p loose mean mg mb 226 news (True) [.bytes b tb] (fun _ => .none) := by
  k_fill
  dsimp only [LawClaim, EzClaim, CbLists, CbRet]
  intros
  rename_i hret
  refine wpAny_call ?_
  k_dflt (refine' code_defS0 ?k1 ?k2 ?k3 ?k4 ?k5 ?kA ?k6 ?k7 ?k8 ?k9 ?kB ?_ ?cK ?c2 ?c3 ?c4 ?c5; (case kA => exact rfl); (case k2 => k_asm); (case k1 => k_asm); (case k3 => k_asm); (case k4 => k_asm); (case k5 => k_asm); (case k6 => k_is); (case k7 => k_is); (case k8 => k_room); (case k9 => exact BindsTo.of_eq rfl); (case kB => exact locs rfl); (case cK => assumption); (case c2 => exact rfl); (case c3 => exact rfl); (case c4 => exact rfl); (case c5 => decide); k_whole; intro g' L' h' FG' F' N' B' X' T' D'; (try dsimp only); (try k_lift B'); (try k_fold))
  k_steps
  all_goals exact ret_V hret rfl (by k_asm) (by first | k_asm | exact cb_drop (by assumption) (by repeat (first | exact sub_refl | refine sub_tail ?_ | refine sub_app ?_)))
set_option maxHeartbeats 4000000 in
theorem c_sign {p : Program} (w : World) (mean : ExcName → Option Value) (mg mb : Str → Option Value) (loose : List Str) (b : Array UInt8) (tb : Tok) (hb : b.size ≠ 4) (hb2 : b.size ≤ 1000) (news : List (Addr × Obj)) :
  LawClaim Challenge.rw_ez0014_01.row.prog w (hd.heap_39 w.params) p loose mean mg mb 233 news (True) [.bytes b tb] (fun _ => .none) := by
  k_fill
  dsimp only [LawClaim, EzClaim, CbLists, CbRet]
  intros
  rename_i hret
  refine wpAny_call ?_
  k_dflt (refine' code_defS0 ?k1 ?k2 ?k3 ?k4 ?k5 ?kA ?k6 ?k7 ?k8 ?k9 ?kB ?_ ?cK ?c2 ?c3 ?c4 ?c5; (case kA => exact rfl); (case k2 => k_asm); (case k1 => k_asm); (case k3 => k_asm); (case k4 => k_asm); (case k5 => k_asm); (case k6 => k_is); (case k7 => k_is); (case k8 => k_room); (case k9 => exact BindsTo.of_eq rfl); (case kB => exact locs rfl); (case cK => assumption); (case c2 => exact rfl); (case c3 => exact rfl); (case c4 => exact rfl); (case c5 => decide); k_whole; intro g' L' h' FG' F' N' B' X' T' D'; (try dsimp only); (try k_lift B'); (try k_fold))
  k_steps
  all_goals exact ret_V hret rfl (by k_asm) (by first | k_asm | exact cb_drop (by assumption) (by repeat (first | exact sub_refl | refine sub_tail ?_ | refine sub_app ?_)))
set_option maxHeartbeats 4000000 in
theorem c_workR {p : Program} (w : World) (mean : ExcName → Option Value) (mg mb : Str → Option Value) (loose : List Str) (b : Array UInt8) (tb : Tok) (hb : b.size ≠ 4) (hb2 : b.size ≤ 1000) (news : List (Addr × Obj)) :
  LawClaim Challenge.rw_ez0014_01.row.prog w (hd.heap_39 w.params) p loose mean mg mb 247 news (True) [.bytes b tb] (fun _ => .none) := by
  k_fill
  dsimp only [LawClaim, EzClaim, CbLists, CbRet]
  intros
  rename_i hret
  refine wpAny_call ?_
  k_dflt (refine' code_defS0 ?k1 ?k2 ?k3 ?k4 ?k5 ?kA ?k6 ?k7 ?k8 ?k9 ?kB ?_ ?cK ?c2 ?c3 ?c4 ?c5; (case kA => exact rfl); (case k2 => k_asm); (case k1 => k_asm); (case k3 => k_asm); (case k4 => k_asm); (case k5 => k_asm); (case k6 => k_is); (case k7 => k_is); (case k8 => k_room); (case k9 => exact BindsTo.of_eq rfl); (case kB => exact locs rfl); (case cK => assumption); (case c2 => exact rfl); (case c3 => exact rfl); (case c4 => exact rfl); (case c5 => decide); k_whole; intro g' L' h' FG' F' N' B' X' T' D'; (try dsimp only); (try k_lift B'); (try k_fold))
  k_steps
  all_goals exact ret_V hret rfl (by k_asm) (by first | k_asm | exact cb_drop (by assumption) (by repeat (first | exact sub_refl | refine sub_tail ?_ | refine sub_app ?_)))
end
section
local macro_rules | `(tactic| walk_at "call ref") => `(tactic| (k_here; (first | (with_reducible show wpAny _ _ (call (Value.ref (nat_lit 115)) [Value.bytes (be 32 _) _] _) _ _ _) | (with_reducible show wpAny _ _ (call (Value.ref 115) [Value.bytes (be 32 _) _] _) _ _ _)); k_dflt (refine' (c_bft _ _ _ _ _ _ _ (by first | assumption | omega) (by first | assumption | omega) _) _ _ _ _ _ _ _ _ _ _ _ _ _ _ _ _ ?k1 ?k2 ?k3 ?k4 ?k5 ?kK ?kp ?kd ?ku ?_; (case k1 => k_asm); (case k2 => k_asm); (case k3 => k_asm); (case k4 => k_asm); (case k5 => k_asm); (case kK => first | exact rfl | assumption); (case kp => exact trivial); (case kd => ktr_room); (case ku => ktr_units)); intro t9 h9 tk9 F9 N9; (try dsimp only); (try k_sweep); (try k_fold); walk_say "BY CONTRACT c_bft"))
local macro_rules | `(tactic| walk_at "call ref") => `(tactic| (k_here; (first | (with_reducible show wpAny _ _ (call (Value.ref (nat_lit 101)) [Value.bytes _ _] _) _ _ _) | (with_reducible show wpAny _ _ (call (Value.ref 101) [Value.bytes _ _] _) _ _ _)); k_dflt (refine' (c_tfb _ _ _ _ _ _ _ (by first | assumption | exact lform_size _) (by assumption) _) _ _ _ _ _ _ _ _ _ _ _ _ _ _ _ _ ?k1 ?k2 ?k3 ?k4 ?k5 ?kK ?kp ?kd ?ku ?_; (case k1 => k_asm); (case k2 => k_asm); (case k3 => k_asm); (case k4 => k_asm); (case k5 => k_asm); (case kK => first | exact rfl | assumption); (case kp => exact trivial); (case kd => ktr_room); (case ku => ktr_units)); intro t9 h9 tk9 F9 N9; (try dsimp only); (try k_sweep); (try k_fold); walk_say "BY CONTRACT c_tfb"))
local macro_rules | `(tactic| walk_at "binaryOp Mult int int") => `(tactic| (k_here; (with_reducible (refine' mul_big rfl ?eza ?ezb ?_; (case eza => exact bits_big (by omega) (by omega)); (case ezb => exact bits_big (by omega) (by omega)))); intro _ _))
set_option maxHeartbeats 4000000 in
theorem c_bound {p : Program} (w : World) (mean : ExcName → Option Value) (mg mb : Str → Option Value) (loose : List Str) (a ts tot lim : Int) (ta tb tc td : Tok) (ha0 : 0 ≤ a) (ha : a < 115792089237316195423570985008687907853269984665640564039457584007913129639936)
  (hts0 : 0 ≤ ts) (hts : ts < 1073741824) (htot0 : 0 < tot) (htot : tot < 1073741824) (hl0 : 0 ≤ lim) (hl : lim < 115792089237316195423570985008687907853269984665640564039457584007913129639936) (news : List (Addr × Obj)) :
  EzClaim 7 Challenge.rw_ez0014_01.row.prog w (hd.heap_39 w.params) p loose mean mg mb 122 news (True) [.int a ta, .int ts tb, .int tot tc, .int lim td] (fun t => .int (bnd a ts tot lim) t) := by
  k_fill
  dsimp only [LawClaim, EzClaim, CbLists, CbRet]
  intros
  rename_i hret
  have hm0 := Int.emod_nonneg (a * ts) (show (115792089237316195423570985008687907853269984665640564039457584007913129639936 : Int) ≠ 0 by decide)
  have hmin0 : 0 ≤ min (a * ts % 115792089237316195423570985008687907853269984665640564039457584007913129639936 / tot) lim := by
    have := Int.ediv_nonneg hm0 (Int.le_of_lt htot0)
    omega
  have hmin1 : min (a * ts % 115792089237316195423570985008687907853269984665640564039457584007913129639936 / tot) lim < 115792089237316195423570985008687907853269984665640564039457584007913129639936 := by omega
  have hsz := lform_size (min (a * ts % 115792089237316195423570985008687907853269984665640564039457584007913129639936 / tot) lim)
  have hwl := worth_lt hmin0 hmin1
  have hw0 := worth_nonneg (lform (min (a * ts % 115792089237316195423570985008687907853269984665640564039457584007913129639936 / tot) lim))
  refine wpAny_call ?_
  k_dflt (refine' code_def ?k1 ?k2 ?k3 ?k4 ?k5 ?kA ?kF ?kK ?k6 ?k7 ?k8 ?k9 ?kB ?_ ?c2 ?c3 ?c4 ?c5; (case kA => exact rfl); (case kF => exact rfl); (case kK => assumption); (case k1 => k_asm); (case k2 => k_asm); (case k3 => k_asm); (case k4 => k_asm); (case k5 => k_asm); (case k6 => k_is); (case k7 => k_is); (case k8 => ktr_room); (case k9 => first | exact BindsTo.of_eq rfl | exact binds_K (by k_in) rfl (by k_is) rfl rfl rfl); (case c5 => decide); (case kB => exact locs rfl); (case c2 => exact rfl); (case c3 => exact rfl); (case c4 => exact rfl); k_whole; intro g' L' h' FG' F' N' B' X' T'; (try dsimp only); (try k_lift B'); (try k_fold))
  k_steps
  all_goals refine cb_retI hret ?_ (by k_asm) (by first | k_asm | exact cb_drop (by assumption) (by repeat (first | exact sub_refl | refine sub_tail ?_ | refine sub_app ?_)))
  all_goals rfl
end
section
def Small (x : Int) : Prop := x * 16777216 < 8388608 * 256 ^ 33
def Before (x : Int) (k : Nat) : Prop := ∀ q : Nat, q < k → ¬ pw x q < 8388608
theorem before_zero {x : Int} : Before x 0 := fun q h => absurd h (Nat.not_lt_zero q)
theorem before_succ {x : Int} {i : Nat} (h : Before x i) (hi : ¬ pw x i < 8388608) : Before x (i + 1) := fun q hq => by
  by_cases e : q = i
  · rw [e]; exact hi
  · exact h q (by omega)
theorem none_left {x : Int} (h1 : Small x) (h : Before x 34) : False := by
  obtain ⟨a, b, _⟩ := fp_spec h1
  exact h _ a b
theorem form_of {x : Int} {p : Nat} (hp : p < 34) (h : pw x p < 8388608) (hn : Before x p) : lform x = mk p (pw x p) := lform_of hp h hn
section
variable {prog : Program} {w : World} {A : Around} {E : Value → Shared → Prop} {s : Shared} {env : Env} {h₀ : Heap} {x : Str} {body : List Stmt} {Q : Flow → Shared → Prop}
theorem iter_form {v : Int} {r : Addr} {t₀ u₀ v₀ : Tok} {m₀ : Str → Option Value} {news : List (Addr × Obj)}
    (hv : Small v) (hh : A.handled = none) (hr : IsRange s.heap r 0 34 1 t₀ u₀ v₀) (F : Fr h₀ env.locals s.heap m₀) (N : News h₀ env.locals s.heap news)
    (turn : ∀ (i : Nat) (t : Tok) (u : Str → Option Value) (h : Heap) (tk : Nat) (own : List (Addr × Obj)), i < 34 → Before v i → 0 ≤ pw v i → Fr h₀ env.locals h (fun y => if y = x then some (.int (i : Int) t) else ovr [PySem.Str.ofString "part"] u m₀ y) → News h₀ env.locals h (own ++ news) →
      wpAny (model prog w) A (execs body env) (InvPost h₀ env.locals (fun m' => (∀ z, z ∉ x :: [PySem.Str.ofString "part"] → m' z = m₀ z) ∧ Before v (i + 1)) (own ++ news) { s with heap := h, toks := tk } Q) E { s with heap := h, toks := tk }) (h0 : 0 ≤ v) :
    wpAny (model prog w) A (pyIter (.ref r)) (fun it s₂ => LoopAtV prog w A h₀ env x body Q E it s₂) E s :=
  iter_rangeP (n := 34) [PySem.Str.ofString "part"] (Before v) hh hr rfl rfl F N before_zero (fun i t u h tk own a b => turn i t u h tk own a b (pw_nonneg h0 i)) fun _ _ _ q _ _ => (none_left hv q).elim
end

local macro_rules | `(tactic| walk_at "pyIter ref") => `(tactic| (k_here; (with_reducible show wpAny _ _ (pyIter (Value.ref _)) (fun it s₂ => LoopAtV _ _ _ _ _ _ _ _ _ it s₂) _ _); (rename Fr _ _ _ _ => lF'); (rename News _ _ _ _ => lN'); (with_unfolding_all refine' iter_form ?hv ?hh ?hr lF' lN' ?_ ?hz; (case hv => with_reducible assumption); (case hz => with_reducible assumption); (case hh => exact rfl); (case hr => with_reducible assumption)); (intro i' v' u' h' tk' own' hi' hP' hq' F' N'; (try k_fold)); walk_say "LOOP over a range"))
local macro_rules | `(tactic| walk_at "InvEnd") => `(tactic| (k_here; refine' InvEnd.intro ?ef ?en ?eh ?ej; (case ef => k_asm); (case en => k_asm); (case eh => repeat (first | exact sub_refl | refine sub_tail ?_ | refine sub_app ?_)); (case ej => (refine And.intro ?_ (before_succ (by with_reducible assumption) (by with_reducible assumption)); intro z' hz'; (with_unfolding_all repeat (first | exact rfl | refine if_no hz' (by decide +kernel) ?_))))))
set_option maxHeartbeats 4000000 in
theorem c_form {p : Program} (w : World) (mean : ExcName → Option Value) (mg mb : Str → Option Value) (loose : List Str) (x : Int) (tb : Tok) (h0 : 0 ≤ x) (h1 : x < 115792089237316195423570985008687907853269984665640564039457584007913129639936) (news : List (Addr × Obj)) :
  EzClaim 2 Challenge.rw_ez0014_01.row.prog w (hd.heap_39 w.params) p loose mean mg mb 219 news (True) [.int x tb] (fun t => .bytes (lform x) t) := by
  k_fill
  dsimp only [LawClaim, EzClaim, CbLists, CbRet]
  intros
  rename_i hret
  have hs : Small x := small33 h1
  refine wpAny_call ?_
  k_dflt (refine' code_def ?k1 ?k2 ?k3 ?k4 ?k5 ?kA ?kF ?kK ?k6 ?k7 ?k8 ?k9 ?kB ?_ ?c2 ?c3 ?c4 ?c5; (case kA => exact rfl); (case kF => exact rfl); (case kK => assumption); (case k1 => k_asm); (case k2 => k_asm); (case k3 => k_asm); (case k4 => k_asm); (case k5 => k_asm); (case k6 => k_is); (case k7 => k_is); (case k8 => ktr_room); (case k9 => first | exact BindsTo.of_eq rfl | exact binds_K (by k_in) rfl (by k_is) rfl rfl rfl); (case c5 => decide); (case kB => exact locs rfl); (case c2 => exact rfl); (case c3 => exact rfl); (case c4 => exact rfl); k_whole; intro g' L' h' FG' F' N' B' X' T'; (try dsimp only); (try k_lift B'); (try k_fold))
  k_steps
  all_goals ((rename (Flow → Shared → Prop) => lq); dsimp only [lq]; clear_value lq)
  k_steps
  all_goals refine ret_By hret ?_ (by k_asm) (by first | k_asm | exact cb_drop (by assumption) (by repeat (first | exact sub_refl | refine sub_tail ?_ | refine sub_app ?_)))
  all_goals exact (form_of (by assumption) (by assumption) (by assumption)).symm
end
section
theorem worth_a {b : Array UInt8} (h : at_ b 0 < 3) : (at_ b 1 % 128 * 65536 + at_ b 2 * 256 + at_ b 3) / 256 ^ (3 - at_ b 0).toNat = worth b := by unfold worth; rw [if_pos h]
theorem worth_b {b : Array UInt8} (h : ¬ at_ b 0 < 3) : (at_ b 1 % 128 * 65536 + at_ b 2 * 256 + at_ b 3) * 256 ^ (at_ b 0 - 3).toNat = worth b := by unfold worth; rw [if_neg h]

set_option maxHeartbeats 4000000 in
theorem c_worth {p : Program} (w : World) (mean : ExcName → Option Value) (mg mb : Str → Option Value) (loose : List Str) (b : Array UInt8) (tb : Tok) (hb : b.size = 4) (news : List (Addr × Obj)) :
  EzClaim 2 Challenge.rw_ez0014_01.row.prog w (hd.heap_39 w.params) p loose mean mg mb 212 news (True) [.bytes b tb] (fun t => .int (worth b) t) := by
  k_fill
  dsimp only [LawClaim, EzClaim, CbLists, CbRet]
  intros
  rename_i hret
  refine wpAny_call ?_
  k_dflt (refine' code_def ?k1 ?k2 ?k3 ?k4 ?k5 ?kA ?kF ?kK ?k6 ?k7 ?k8 ?k9 ?kB ?_ ?c2 ?c3 ?c4 ?c5; (case kA => exact rfl); (case kF => exact rfl); (case kK => assumption); (case k1 => k_asm); (case k2 => k_asm); (case k3 => k_asm); (case k4 => k_asm); (case k5 => k_asm); (case k6 => k_is); (case k7 => k_is); (case k8 => ktr_room); (case k9 => first | exact BindsTo.of_eq rfl | exact binds_K (by k_in) rfl (by k_is) rfl rfl rfl); (case c5 => decide); (case kB => exact locs rfl); (case c2 => exact rfl); (case c3 => exact rfl); (case c4 => exact rfl); k_whole; intro g' L' h' FG' F' N' B' X' T'; (try dsimp only); (try k_lift B'); (try k_fold))
  k_steps
  all_goals refine cb_retI hret ?_ (by k_asm) (by first | k_asm | exact cb_drop (by assumption) (by repeat (first | exact sub_refl | refine sub_tail ?_ | refine sub_app ?_)))
  · exact worth_a (by first | assumption | omega)
  · exact worth_b (by first | assumption | omega)
end
section
local macro_rules | `(tactic| walk_at "call ref") => `(tactic| (k_here; (first | (with_reducible show wpAny _ _ (call (Value.ref (nat_lit 219)) [Value.int _ _] _) _ _ _) | (with_reducible show wpAny _ _ (call (Value.ref 219) [Value.int _ _] _) _ _ _)); k_dflt (refine' (c_form _ _ _ _ _ _ _ (by first | assumption | omega) (by first | assumption | omega) _) _ _ _ _ _ _ _ _ _ _ _ _ _ _ _ _ ?k1 ?k2 ?k3 ?k4 ?k5 ?kK ?kp ?kd ?ku ?_; (case k1 => k_asm); (case k2 => k_asm); (case k3 => k_asm); (case k4 => k_asm); (case k5 => k_asm); (case kK => first | exact rfl | assumption); (case kp => exact trivial); (case kd => ktr_room); (case ku => ktr_units)); intro t9 h9 tk9 F9 N9; (try dsimp only); (try k_sweep); (try k_fold); walk_say "BY CONTRACT c_form"))
local macro_rules | `(tactic| walk_at "call ref") => `(tactic| (k_here; (first | (with_reducible show wpAny _ _ (call (Value.ref (nat_lit 212)) [Value.bytes _ _] _) _ _ _) | (with_reducible show wpAny _ _ (call (Value.ref 212) [Value.bytes _ _] _) _ _ _)); k_dflt (refine' (c_worth _ _ _ _ _ _ _ (by first | assumption | exact lform_size _ | omega) _) _ _ _ _ _ _ _ _ _ _ _ _ _ _ _ _ ?k1 ?k2 ?k3 ?k4 ?k5 ?kK ?kp ?kd ?ku ?_; (case k1 => k_asm); (case k2 => k_asm); (case k3 => k_asm); (case k4 => k_asm); (case k5 => k_asm); (case kK => first | exact rfl | assumption); (case kp => exact trivial); (case kd => ktr_room); (case ku => ktr_units)); intro t9 h9 tk9 F9 N9; (try dsimp only); (try k_sweep); (try k_fold); walk_say "BY CONTRACT c_worth"))
local macro_rules | `(tactic| walk_at "binaryOp Mult int int") => `(tactic| (k_here; (with_reducible (refine' mul_big rfl ?eza ?ezb ?_; (case eza => exact bits_big (by omega) (by omega)); (case ezb => exact bits_big (by omega) (by omega)))); intro _ _))
set_option maxHeartbeats 4000000 in
theorem c_lbound {p : Program} (w : World) (mean : ExcName → Option Value) (mg mb : Str → Option Value) (loose : List Str) (a ts tot lim : Int) (ta tb tc td : Tok) (ha0 : 0 ≤ a) (ha : a < 115792089237316195423570985008687907853269984665640564039457584007913129639936)
  (hts0 : 0 ≤ ts) (hts : ts < 1073741824) (htot0 : 0 < tot) (htot : tot < 1073741824) (hl0 : 0 ≤ lim) (hl : lim < 115792089237316195423570985008687907853269984665640564039457584007913129639936) (news : List (Addr × Obj)) :
  EzClaim 5 Challenge.rw_ez0014_01.row.prog w (hd.heap_39 w.params) p loose mean mg mb 268 news (True) [.int a ta, .int ts tb, .int tot tc, .int lim td] (fun t => .int (bnd a ts tot lim) t) := by
  k_fill
  dsimp only [LawClaim, EzClaim, CbLists, CbRet]
  intros
  rename_i hret
  have hm0 := Int.emod_nonneg (a * ts) (show (115792089237316195423570985008687907853269984665640564039457584007913129639936 : Int) ≠ 0 by decide)
  have hmin0 : 0 ≤ min (a * ts % 115792089237316195423570985008687907853269984665640564039457584007913129639936 / tot) lim := by
    have := Int.ediv_nonneg hm0 (Int.le_of_lt htot0)
    omega
  have hmin1 : min (a * ts % 115792089237316195423570985008687907853269984665640564039457584007913129639936 / tot) lim < 115792089237316195423570985008687907853269984665640564039457584007913129639936 := by omega
  refine wpAny_call ?_
  k_dflt (refine' code_def ?k1 ?k2 ?k3 ?k4 ?k5 ?kA ?kF ?kK ?k6 ?k7 ?k8 ?k9 ?kB ?_ ?c2 ?c3 ?c4 ?c5; (case kA => exact rfl); (case kF => exact rfl); (case kK => assumption); (case k1 => k_asm); (case k2 => k_asm); (case k3 => k_asm); (case k4 => k_asm); (case k5 => k_asm); (case k6 => k_is); (case k7 => k_is); (case k8 => ktr_room); (case k9 => first | exact BindsTo.of_eq rfl | exact binds_K (by k_in) rfl (by k_is) rfl rfl rfl); (case c5 => decide); (case kB => exact locs rfl); (case c2 => exact rfl); (case c3 => exact rfl); (case c4 => exact rfl); k_whole; intro g' L' h' FG' F' N' B' X' T'; (try dsimp only); (try k_lift B'); (try k_fold))
  k_steps
  all_goals refine cb_retI hret ?_ (by k_asm) (by first | k_asm | exact cb_drop (by assumption) (by repeat (first | exact sub_refl | refine sub_tail ?_ | refine sub_app ?_)))
  all_goals rfl
end
section
local macro_rules | `(tactic| walk_at "call ref") => `(tactic| (k_here; (first | (with_reducible show wpAny _ _ (call (Value.ref (nat_lit 66)) [Value.bytes _ _] _) _ _ _) | (with_reducible show wpAny _ _ (call (Value.ref 66) [Value.bytes _ _] _) _ _ _)); k_dflt (refine' (c_bfo0 _ _ _ _ _ _ _ _) _ _ _ _ _ _ _ _ _ _ _ _ _ _ _ _ ?k1 ?k2 ?k3 ?k4 ?k5 ?kK ?kp ?kd ?ku ?_; (case k1 => k_asm); (case k2 => k_asm); (case k3 => k_asm); (case k4 => k_asm); (case k5 => k_asm); (case kK => first | exact rfl | assumption); (case kp => exact trivial); (case kd => ktr_room); (case ku => ktr_units)); intro t9 h9 tk9 F9 N9; (try dsimp only); (try k_sweep); (try k_fold); walk_say "BY CONTRACT c_bfo0"))
set_option maxHeartbeats 4000000 in
theorem c_bftR {p : Program} (w : World) (mean : ExcName → Option Value) (mg mb : Str → Option Value) (loose : List Str) (b : Array UInt8) (tb : Tok)
  (hb : ¬ b.size ≤ 32) (hb2 : b.size ≤ 1000) (news : List (Addr × Obj)) :
  EzRaise 3 44 Challenge.rw_ez0014_01.row.prog w (hd.heap_39 w.params) p loose mean mg mb 115 news True [.bytes b tb] := by
  k_fill
  dsimp only [EzRaise, CbLists]
  intros
  rename_i hret
  refine wpAny_call ?_
  k_dflt (refine' code_defS ?k1 ?k2 ?k3 ?k4 ?k5 ?XB ?TB ?D ?T0 ?kA ?k6 ?k7 ?k8 ?k9 ?kB ?_ ?cK ?c2 ?c3 ?c4 ?c5; (case kA => exact rfl); (case k2 => k_asm); (case k1 => k_asm); (case XB => assumption); (case TB => assumption); (case D => assumption); (case T0 => exact KtsTurn.refl); (case k3 => k_asm); (case k4 => k_asm); (case k5 => k_asm); (case k6 => k_is); (case k7 => k_is); (case k8 => ktr_room); (case k9 => first | exact BindsTo.of_eq rfl | exact binds_K (by k_in) rfl (by k_is) rfl rfl rfl); (case kB => exact locs rfl); (case cK => assumption); (case c2 => exact rfl); (case c3 => exact rfl); (case c4 => exact rfl); (case c5 => decide); k_whole; intro g' L' h' FG' F' N' B' X' T' D'; (try dsimp only); (try k_lift B'); (try k_fold))
  k_steps
  all_goals (
    (rename RaisedS _ _ _ _ _ _ _ _ _ => S9)
    (rename Heap.UpToSlots _ _ => U9)
    have S8 := raisedS_drop (news := news) (by repeat (first | exact sub_refl | refine sub_tail ?_ | refine sub_app ?_)) S9
    exact hret _ _ _ _ _ _ FG' S8 S8.toK U9)
end
section
local macro_rules | `(tactic| walk_at "call ref") => `(tactic| (k_here; (first | (with_reducible show wpAny _ _ (call (Value.ref (nat_lit 101)) [Value.bytes _ _] _) _ _ _) | (with_reducible show wpAny _ _ (call (Value.ref 101) [Value.bytes _ _] _) _ _ _)); k_dflt (refine' (c_tfb _ _ _ _ _ _ _ (by first | assumption | exact lform_size _) (by assumption) _) _ _ _ _ _ _ _ _ _ _ _ _ _ _ _ _ ?k1 ?k2 ?k3 ?k4 ?k5 ?kK ?kp ?kd ?ku ?_; (case k1 => k_asm); (case k2 => k_asm); (case k3 => k_asm); (case k4 => k_asm); (case k5 => k_asm); (case kK => first | exact rfl | assumption); (case kp => exact trivial); (case kd => ktr_room); (case ku => ktr_units)); intro t9 h9 tk9 F9 N9; (try dsimp only); (try k_sweep); (try k_fold); walk_say "BY CONTRACT c_tfb"))
local macro_rules | `(tactic| walk_at "call ref") => `(tactic| (k_here; (first | (with_reducible show wpAny _ _ (call (Value.ref (nat_lit 66)) [Value.bytes _ _] _) _ _ _) | (with_reducible show wpAny _ _ (call (Value.ref 66) [Value.bytes _ _] _) _ _ _)); k_dflt (refine' (c_bfo0 _ _ _ _ _ _ _ _) _ _ _ _ _ _ _ _ _ _ _ _ _ _ _ _ ?k1 ?k2 ?k3 ?k4 ?k5 ?kK ?kp ?kd ?ku ?_; (case k1 => k_asm); (case k2 => k_asm); (case k3 => k_asm); (case k4 => k_asm); (case k5 => k_asm); (case kK => first | exact rfl | assumption); (case kp => exact trivial); (case kd => ktr_room); (case ku => ktr_units)); intro t9 h9 tk9 F9 N9; (try dsimp only); (try k_sweep); (try k_fold); walk_say "BY CONTRACT c_bfo0"))
local macro_rules | `(tactic| walk_at "getMethod bytes") => `(tactic| (k_here; (with_reducible refine getM_hex ?_)))
local macro_rules | `(tactic| walk_at "call builtin:bytes.hex") => `(tactic| (k_here; (with_reducible (refine' call_hex ?eza ?_; (case eza => omega))); intro _ _ _ hx'))
local macro_rules | `(tactic| walk_at "joinParts") => `(tactic| (k_here; (first | (with_reducible show wpAny _ _ (joinParts _ []) _ _ _) | ((with_reducible show wpAny _ _ (joinParts _ (evalEach [] _)) _ _ _); with_reducible refine joinParts_nilE ?_)); (with_reducible refine' joinParts_nil ?_ (fit_ok ?ezl));  (case ezl => with_reducible repeat (first | exact emp_ok | assumption | exact lit_len _ (by decide +kernel) | refine app_ok ?_ ?_))))
local macro_rules | `(tactic| walk_at "And") => `(tactic| (k_here; (with_reducible show PySem.Str.length _ ≤ _ ∧ _); k_dflt (refine' And.intro (fit_ok ?ezl) ?_; (case ezl => with_reducible repeat (first | exact emp_ok | assumption | exact lit_len _ (by decide +kernel) | refine app_ok ?_ ?_)))))
set_option maxHeartbeats 4000000 in
theorem c_workE {p : Program} (w : World) (mean : ExcName → Option Value) (mg mb : Str → Option Value) (loose : List Str) (b : Array UInt8) (tb : Tok)
  (hb : b.size = 4) (hw0 : worth b = 0) (news : List (Addr × Obj)) :
  EzRaise 6 44 Challenge.rw_ez0014_01.row.prog w (hd.heap_39 w.params) p loose mean mg mb 136 news True [.bytes b tb] := by
  k_fill
  dsimp only [EzRaise, CbLists]
  intros
  rename_i hret
  have hw : worth b < 115792089237316195423570985008687907853269984665640564039457584007913129639936 := by rw [hw0]; decide
  have hwn := worth_nonneg b
  have hz := be_size 32 (worth b)
  refine wpAny_call ?_
  k_dflt (refine' code_defS ?k1 ?k2 ?k3 ?k4 ?k5 ?XB ?TB ?D ?T0 ?kA ?k6 ?k7 ?k8 ?k9 ?kB ?_ ?cK ?c2 ?c3 ?c4 ?c5; (case kA => exact rfl); (case k2 => k_asm); (case k1 => k_asm); (case XB => assumption); (case TB => assumption); (case D => assumption); (case T0 => exact KtsTurn.refl); (case k3 => k_asm); (case k4 => k_asm); (case k5 => k_asm); (case k6 => k_is); (case k7 => k_is); (case k8 => ktr_room); (case k9 => first | exact BindsTo.of_eq rfl | exact binds_K (by k_in) rfl (by k_is) rfl rfl rfl); (case kB => exact locs rfl); (case cK => assumption); (case c2 => exact rfl); (case c3 => exact rfl); (case c4 => exact rfl); (case c5 => decide); k_whole; intro g' L' h' FG' F' N' B' X' T' D'; (try dsimp only); (try k_lift B'); (try k_fold))
  k_steps
  · exact absurd hw0 (by assumption)
  all_goals (
    (rename RaisedS _ _ _ _ _ _ _ _ _ => S9)
    (rename Heap.UpToSlots _ _ => U9)
    have S8 := raisedS_drop (news := news) (by repeat (first | exact sub_refl | refine sub_tail ?_ | refine sub_app ?_)) S9
    exact hret _ _ _ _ _ _ FG' S8 S8.toK U9)
end
section
local macro_rules | `(tactic| walk_at "call ref") => `(tactic| (k_here; (first | (with_reducible show wpAny _ _ (call (Value.ref (nat_lit 115)) [Value.bytes _ _] _) _ _ _) | (with_reducible show wpAny _ _ (call (Value.ref 115) [Value.bytes _ _] _) _ _ _)); k_dflt (refine' (c_bftR _ _ _ _ _ _ _ (by first | assumption | omega) (by first | assumption | omega) _) _ _ _ _ _ _ _ _ _ _ _ _ _ _ _ _ ?kXB ?kTB ?k1 ?k2 ?k3 ?k4 ?k5 ?kD ?kK ?kp ?kd ?ku ?_; (case k1 => k_asm); (case k2 => k_asm); (case k3 => k_asm); (case k4 => k_asm); (case k5 => k_asm); (case kXB => k_asm); (case kTB => k_asm); (case kD => k_asm); (case kK => first | exact rfl | assumption); (case kp => exact trivial); (case kd => ktr_room); (case ku => ktr_units)); intro g9 h9 e9 t9 ws9 tk9 FG9 S9 R9 U9; (try dsimp only at S9 R9 U9 ⊢); walk_say "RAISES BY CONTRACT c_bftR"))
local macro_rules | `(tactic| walk_at "call ref") => `(tactic| (k_here; (first | (with_reducible show wpAny _ _ (call (Value.ref (nat_lit 136)) [Value.bytes _ _] _) _ _ _) | (with_reducible show wpAny _ _ (call (Value.ref 136) [Value.bytes _ _] _) _ _ _)); k_dflt (refine' (c_workE _ _ _ _ _ _ _ (by first | assumption | omega) (by first | assumption | omega) _) _ _ _ _ _ _ _ _ _ _ _ _ _ _ _ _ ?kXB ?kTB ?k1 ?k2 ?k3 ?k4 ?k5 ?kD ?kK ?kp ?kd ?ku ?_; (case k1 => k_asm); (case k2 => k_asm); (case k3 => k_asm); (case k4 => k_asm); (case k5 => k_asm); (case kXB => k_asm); (case kTB => k_asm); (case kD => k_asm); (case kK => first | exact rfl | assumption); (case kp => exact trivial); (case kd => ktr_room); (case ku => ktr_units)); intro g9 h9 e9 t9 ws9 tk9 FG9 S9 R9 U9; (try dsimp only at S9 R9 U9 ⊢); walk_say "RAISES BY CONTRACT c_workE"))
set_option maxHeartbeats 4000000 in
theorem c_bits {p : Program} (w : World) (mean : ExcName → Option Value) (mg mb : Str → Option Value) (loose : List Str) (b : Array UInt8) (tb : Tok) (hb : ¬ b.size ≤ 32) (hb2 : b.size ≤ 1000) (news : List (Addr × Obj)) :
  LawClaim Challenge.rw_ez0014_01.row.prog w (hd.heap_39 w.params) p loose mean mg mb 240 news (True) [.bytes b tb] (fun _ => .none) := by
  k_fill
  dsimp only [LawClaim, EzClaim, CbLists, CbRet]
  intros
  rename_i hret
  refine wpAny_call ?_
  k_dflt (refine' code_defS0 ?k1 ?k2 ?k3 ?k4 ?k5 ?kA ?k6 ?k7 ?k8 ?k9 ?kB ?_ ?cK ?c2 ?c3 ?c4 ?c5; (case kA => exact rfl); (case k2 => k_asm); (case k1 => k_asm); (case k3 => k_asm); (case k4 => k_asm); (case k5 => k_asm); (case k6 => k_is); (case k7 => k_is); (case k8 => k_room); (case k9 => exact BindsTo.of_eq rfl); (case kB => exact locs rfl); (case cK => assumption); (case c2 => exact rfl); (case c3 => exact rfl); (case c4 => exact rfl); (case c5 => decide); k_whole; intro g' L' h' FG' F' N' B' X' T' D'; (try dsimp only); (try k_lift B'); (try k_fold))
  k_steps
  all_goals exact ret_V hret rfl (by k_asm) (by first | k_asm | exact cb_drop (by assumption) (by repeat (first | exact sub_refl | refine sub_tail ?_ | refine sub_app ?_)))
set_option maxHeartbeats 4000000 in
theorem c_work0 {p : Program} (w : World) (mean : ExcName → Option Value) (mg mb : Str → Option Value) (loose : List Str) (b : Array UInt8) (tb : Tok) (hb : b.size = 4) (hw0 : worth b = 0) (news : List (Addr × Obj)) :
  LawClaim Challenge.rw_ez0014_01.row.prog w (hd.heap_39 w.params) p loose mean mg mb 247 news (True) [.bytes b tb] (fun _ => .none) := by
  k_fill
  dsimp only [LawClaim, EzClaim, CbLists, CbRet]
  intros
  rename_i hret
  refine wpAny_call ?_
  k_dflt (refine' code_defS0 ?k1 ?k2 ?k3 ?k4 ?k5 ?kA ?k6 ?k7 ?k8 ?k9 ?kB ?_ ?cK ?c2 ?c3 ?c4 ?c5; (case kA => exact rfl); (case k2 => k_asm); (case k1 => k_asm); (case k3 => k_asm); (case k4 => k_asm); (case k5 => k_asm); (case k6 => k_is); (case k7 => k_is); (case k8 => k_room); (case k9 => exact BindsTo.of_eq rfl); (case kB => exact locs rfl); (case cK => assumption); (case c2 => exact rfl); (case c3 => exact rfl); (case c4 => exact rfl); (case c5 => decide); k_whole; intro g' L' h' FG' F' N' B' X' T' D'; (try dsimp only); (try k_lift B'); (try k_fold))
  k_steps
  all_goals exact ret_V hret rfl (by k_asm) (by first | k_asm | exact cb_drop (by assumption) (by repeat (first | exact sub_refl | refine sub_tail ?_ | refine sub_app ?_)))
end
section
local macro_rules | `(tactic| walk_at "call ref") => `(tactic| (k_here; (first | (with_reducible show wpAny _ _ (call (Value.ref (nat_lit 66)) [Value.bytes _ _, Value.int _ _] _) _ _ _) | (with_reducible show wpAny _ _ (call (Value.ref 66) [Value.bytes _ _, Value.int _ _] _) _ _ _)); k_dflt (refine' (c_bfo4 _ _ _ _ _ _ _ _ (by assumption) _) _ _ _ _ _ _ _ _ _ _ _ _ _ _ _ _ ?k1 ?k2 ?k3 ?k4 ?k5 ?kK ?kp ?kd ?ku ?_; (case k1 => k_asm); (case k2 => k_asm); (case k3 => k_asm); (case k4 => k_asm); (case k5 => k_asm); (case kK => first | exact rfl | assumption); (case kp => exact trivial); (case kd => ktr_room); (case ku => ktr_units)); intro t9 h9 tk9 F9 N9; (try dsimp only); (try k_sweep); (try k_fold); walk_say "BY CONTRACT c_bfo4"))
local macro_rules | `(tactic| walk_at "call ref") => `(tactic| (k_here; (first | (with_reducible show wpAny _ _ (call (Value.ref (nat_lit 80)) [_] _) _ _ _) | (with_reducible show wpAny _ _ (call (Value.ref 80) [_] _) _ _ _)); k_dflt (refine' (c_isint _ _ _ _ _ _ _ _) _ _ _ _ _ _ _ _ _ _ _ _ _ _ _ _ ?k1 ?k2 ?k3 ?k4 ?k5 ?kK ?kp ?kd ?ku ?_; (case k1 => k_asm); (case k2 => k_asm); (case k3 => k_asm); (case k4 => k_asm); (case k5 => k_asm); (case kK => first | exact rfl | assumption); (case kp => exact trivial); (case kd => ktr_room); (case ku => ktr_units)); intro t9 h9 tk9 F9 N9; (try dsimp only); (try k_sweep); (try k_fold); walk_say "BY CONTRACT c_isint"))
local macro_rules | `(tactic| walk_at "execs cons") => `(tactic| (k_here; exfalso; with_reducible contradiction))
set_option maxHeartbeats 4000000 in
theorem c_pfree {p : Program} (w : World) (mean : ExcName → Option Value) (mg mb : Str → Option Value) (loose : List Str) (x d : Addr) (k0 k1 k2 k3 k4 k5 k6 k7 k8 k9 k10 k11 k12 k13 k14 k15 k16 : Tok) (v0 v1 v2 v3 v4 v5 v6 v9 v10 v13 v14 v15 v16 : Value) (limit old new : Array UInt8) (tl tsp tw th told tnew : Tok) (spacing whole period height : Int) (dn : Nat) (ho : old.size = 4) (hn : new.size = 4) (news : List (Addr × Obj)) :
  EzClaim 9 Challenge.rw_ez0014_01.row.prog w (hd.heap_39 w.params) p loose mean mg mb 129 ((x, instObj 201 d) :: (d, dictOf [{ hash := PyData.keyHash w.params (PySem.Str.ofString "name"), key := .str (PySem.Str.ofString "name") k0, val := v0 }, { hash := PyData.keyHash w.params (PySem.Str.ofString "subsidy_halving_interval"), key := .str (PySem.Str.ofString "subsidy_halving_interval") k1, val := v1 }, { hash := PyData.keyHash w.params (PySem.Str.ofString "bip34_height"), key := .str (PySem.Str.ofString "bip34_height") k2, val := v2 }, { hash := PyData.keyHash w.params (PySem.Str.ofString "bip66_height"), key := .str (PySem.Str.ofString "bip66_height") k3, val := v3 }, { hash := PyData.keyHash w.params (PySem.Str.ofString "bip65_height"), key := .str (PySem.Str.ofString "bip65_height") k4, val := v4 }, { hash := PyData.keyHash w.params (PySem.Str.ofString "csv_height"), key := .str (PySem.Str.ofString "csv_height") k5, val := v5 }, { hash := PyData.keyHash w.params (PySem.Str.ofString "segwit_height"), key := .str (PySem.Str.ofString "segwit_height") k6, val := v6 }, { hash := PyData.keyHash w.params (PySem.Str.ofString "pow_limit_bits"), key := .str (PySem.Str.ofString "pow_limit_bits") k7, val := .bytes limit tl }, { hash := PyData.keyHash w.params (PySem.Str.ofString "pow_allow_min_difficulty_blocks"), key := .str (PySem.Str.ofString "pow_allow_min_difficulty_blocks") k8, val := .bool true }, { hash := PyData.keyHash w.params (PySem.Str.ofString "enforce_bip94"), key := .str (PySem.Str.ofString "enforce_bip94") k9, val := v9 }, { hash := PyData.keyHash w.params (PySem.Str.ofString "pow_no_retargeting"), key := .str (PySem.Str.ofString "pow_no_retargeting") k10, val := v10 }, { hash := PyData.keyHash w.params (PySem.Str.ofString "pow_target_spacing"), key := .str (PySem.Str.ofString "pow_target_spacing") k11, val := .int spacing tsp }, { hash := PyData.keyHash w.params (PySem.Str.ofString "pow_target_timespan"), key := .str (PySem.Str.ofString "pow_target_timespan") k12, val := .int whole tw }, { hash := PyData.keyHash w.params (PySem.Str.ofString "minimum_chain_work"), key := .str (PySem.Str.ofString "minimum_chain_work") k13, val := v13 }, { hash := PyData.keyHash w.params (PySem.Str.ofString "bip30_exceptions"), key := .str (PySem.Str.ofString "bip30_exceptions") k14, val := v14 }, { hash := PyData.keyHash w.params (PySem.Str.ofString "bip30_unspendable"), key := .str (PySem.Str.ofString "bip30_unspendable") k15, val := v15 }, { hash := PyData.keyHash w.params (PySem.Str.ofString "script_flag_exceptions"), key := .str (PySem.Str.ofString "script_flag_exceptions") k16, val := v16 }] dn) :: news) (True) [.ref x, .int height th, .bytes old told, .bytes new tnew] (fun _ => .bool true) := by
  k_fill
  dsimp only [LawClaim, EzClaim, CbLists, CbRet]
  intros
  rename_i hret
  refine wpAny_call ?_
  k_dflt (refine' code_def ?k1 ?k2 ?k3 ?k4 ?k5 ?kA ?kF ?kK ?k6 ?k7 ?k8 ?k9 ?kB ?_ ?c2 ?c3 ?c4 ?c5; (case kA => exact rfl); (case kF => exact rfl); (case kK => assumption); (case k1 => k_asm); (case k2 => k_asm); (case k3 => k_asm); (case k4 => k_asm); (case k5 => k_asm); (case k6 => k_is); (case k7 => k_is); (case k8 => ktr_room); (case k9 => first | exact BindsTo.of_eq rfl | exact binds_K (by k_in) rfl (by k_is) rfl rfl rfl); (case c5 => decide); (case kB => exact locs rfl); (case c2 => exact rfl); (case c3 => exact rfl); (case c4 => exact rfl); k_whole; intro g' L' h' FG' F' N' B' X' T'; (try dsimp only); (try k_lift B'); (try k_fold))
  k_steps
  all_goals exact ret_V hret rfl (by k_asm) (by first | k_asm | exact cb_drop (by assumption) (by repeat (first | exact sub_refl | refine sub_tail ?_ | refine sub_app ?_)))
set_option maxHeartbeats 4000000 in
theorem c_pne {p : Program} (w : World) (mean : ExcName → Option Value) (mg mb : Str → Option Value) (loose : List Str) (x d : Addr) (k0 k1 k2 k3 k4 k5 k6 k7 k8 k9 k10 k11 k12 k13 k14 k15 k16 : Tok) (v0 v1 v2 v3 v4 v5 v6 v9 v10 v13 v14 v15 v16 : Value) (limit old new : Array UInt8) (tl tsp tw th told tnew : Tok) (spacing whole period height : Int) (dn : Nat) (ho : old.size = 4) (hn : new.size = 4) (hs0 : 0 < spacing) (hs1 : spacing < 1073741824) (hw0 : 0 < whole) (hw1 : whole < 100000000) (hwp : whole / spacing = period) (hp0 : 0 < period) (hm : height % period ≠ 0) (news : List (Addr × Obj)) :
  EzClaim 9 Challenge.rw_ez0014_01.row.prog w (hd.heap_39 w.params) p loose mean mg mb 129 ((x, instObj 201 d) :: (d, dictOf [{ hash := PyData.keyHash w.params (PySem.Str.ofString "name"), key := .str (PySem.Str.ofString "name") k0, val := v0 }, { hash := PyData.keyHash w.params (PySem.Str.ofString "subsidy_halving_interval"), key := .str (PySem.Str.ofString "subsidy_halving_interval") k1, val := v1 }, { hash := PyData.keyHash w.params (PySem.Str.ofString "bip34_height"), key := .str (PySem.Str.ofString "bip34_height") k2, val := v2 }, { hash := PyData.keyHash w.params (PySem.Str.ofString "bip66_height"), key := .str (PySem.Str.ofString "bip66_height") k3, val := v3 }, { hash := PyData.keyHash w.params (PySem.Str.ofString "bip65_height"), key := .str (PySem.Str.ofString "bip65_height") k4, val := v4 }, { hash := PyData.keyHash w.params (PySem.Str.ofString "csv_height"), key := .str (PySem.Str.ofString "csv_height") k5, val := v5 }, { hash := PyData.keyHash w.params (PySem.Str.ofString "segwit_height"), key := .str (PySem.Str.ofString "segwit_height") k6, val := v6 }, { hash := PyData.keyHash w.params (PySem.Str.ofString "pow_limit_bits"), key := .str (PySem.Str.ofString "pow_limit_bits") k7, val := .bytes limit tl }, { hash := PyData.keyHash w.params (PySem.Str.ofString "pow_allow_min_difficulty_blocks"), key := .str (PySem.Str.ofString "pow_allow_min_difficulty_blocks") k8, val := .bool false }, { hash := PyData.keyHash w.params (PySem.Str.ofString "enforce_bip94"), key := .str (PySem.Str.ofString "enforce_bip94") k9, val := v9 }, { hash := PyData.keyHash w.params (PySem.Str.ofString "pow_no_retargeting"), key := .str (PySem.Str.ofString "pow_no_retargeting") k10, val := v10 }, { hash := PyData.keyHash w.params (PySem.Str.ofString "pow_target_spacing"), key := .str (PySem.Str.ofString "pow_target_spacing") k11, val := .int spacing tsp }, { hash := PyData.keyHash w.params (PySem.Str.ofString "pow_target_timespan"), key := .str (PySem.Str.ofString "pow_target_timespan") k12, val := .int whole tw }, { hash := PyData.keyHash w.params (PySem.Str.ofString "minimum_chain_work"), key := .str (PySem.Str.ofString "minimum_chain_work") k13, val := v13 }, { hash := PyData.keyHash w.params (PySem.Str.ofString "bip30_exceptions"), key := .str (PySem.Str.ofString "bip30_exceptions") k14, val := v14 }, { hash := PyData.keyHash w.params (PySem.Str.ofString "bip30_unspendable"), key := .str (PySem.Str.ofString "bip30_unspendable") k15, val := v15 }, { hash := PyData.keyHash w.params (PySem.Str.ofString "script_flag_exceptions"), key := .str (PySem.Str.ofString "script_flag_exceptions") k16, val := v16 }] dn) :: news) (True) [.ref x, .int height th, .bytes old told, .bytes new tnew] (fun _ => .bool (old.toList == new.toList)) := by
  k_fill
  dsimp only [LawClaim, EzClaim, CbLists, CbRet]
  intros
  rename_i hret
  refine wpAny_call ?_
  k_dflt (refine' code_def ?k1 ?k2 ?k3 ?k4 ?k5 ?kA ?kF ?kK ?k6 ?k7 ?k8 ?k9 ?kB ?_ ?c2 ?c3 ?c4 ?c5; (case kA => exact rfl); (case kF => exact rfl); (case kK => assumption); (case k1 => k_asm); (case k2 => k_asm); (case k3 => k_asm); (case k4 => k_asm); (case k5 => k_asm); (case k6 => k_is); (case k7 => k_is); (case k8 => ktr_room); (case k9 => first | exact BindsTo.of_eq rfl | exact binds_K (by k_in) rfl (by k_is) rfl rfl rfl); (case c5 => decide); (case kB => exact locs rfl); (case c2 => exact rfl); (case c3 => exact rfl); (case c4 => exact rfl); k_whole; intro g' L' h' FG' F' N' B' X' T'; (try dsimp only); (try k_lift B'); (try k_fold))
  k_steps
  all_goals exact ret_V hret rfl (by k_asm) (by first | k_asm | exact cb_drop (by assumption) (by repeat (first | exact sub_refl | refine sub_tail ?_ | refine sub_app ?_)))
end
section
local macro_rules | `(tactic| walk_at "call ref") => `(tactic| (k_here; (first | (with_reducible show wpAny _ _ (call (Value.ref (nat_lit 66)) [Value.bytes _ _, Value.int _ _] _) _ _ _) | (with_reducible show wpAny _ _ (call (Value.ref 66) [Value.bytes _ _, Value.int _ _] _) _ _ _)); k_dflt (refine' (c_bfo4 _ _ _ _ _ _ _ _ (by assumption) _) _ _ _ _ _ _ _ _ _ _ _ _ _ _ _ _ ?k1 ?k2 ?k3 ?k4 ?k5 ?kK ?kp ?kd ?ku ?_; (case k1 => k_asm); (case k2 => k_asm); (case k3 => k_asm); (case k4 => k_asm); (case k5 => k_asm); (case kK => first | exact rfl | assumption); (case kp => exact trivial); (case kd => ktr_room); (case ku => ktr_units)); intro t9 h9 tk9 F9 N9; (try dsimp only); (try k_sweep); (try k_fold); walk_say "BY CONTRACT c_bfo4"))
local macro_rules | `(tactic| walk_at "call ref") => `(tactic| (k_here; (first | (with_reducible show wpAny _ _ (call (Value.ref (nat_lit 80)) [_] _) _ _ _) | (with_reducible show wpAny _ _ (call (Value.ref 80) [_] _) _ _ _)); k_dflt (refine' (c_isint _ _ _ _ _ _ _ _) _ _ _ _ _ _ _ _ _ _ _ _ _ _ _ _ ?k1 ?k2 ?k3 ?k4 ?k5 ?kK ?kp ?kd ?ku ?_; (case k1 => k_asm); (case k2 => k_asm); (case k3 => k_asm); (case k4 => k_asm); (case k5 => k_asm); (case kK => first | exact rfl | assumption); (case kp => exact trivial); (case kd => ktr_room); (case ku => ktr_units)); intro t9 h9 tk9 F9 N9; (try dsimp only); (try k_sweep); (try k_fold); walk_say "BY CONTRACT c_isint"))
local macro_rules | `(tactic| walk_at "call ref") => `(tactic| (k_here; (first | (with_reducible show wpAny _ _ (call (Value.ref (nat_lit 101)) [Value.bytes _ _] _) _ _ _) | (with_reducible show wpAny _ _ (call (Value.ref 101) [Value.bytes _ _] _) _ _ _)); k_dflt (refine' (c_tfb _ _ _ _ _ _ _ (by first | assumption | exact lform_size _) (by assumption) _) _ _ _ _ _ _ _ _ _ _ _ _ _ _ _ _ ?k1 ?k2 ?k3 ?k4 ?k5 ?kK ?kp ?kd ?ku ?_; (case k1 => k_asm); (case k2 => k_asm); (case k3 => k_asm); (case k4 => k_asm); (case k5 => k_asm); (case kK => first | exact rfl | assumption); (case kp => exact trivial); (case kd => ktr_room); (case ku => ktr_units)); intro t9 h9 tk9 F9 N9; (try dsimp only); (try k_sweep); (try k_fold); walk_say "BY CONTRACT c_tfb"))
local macro_rules | `(tactic| walk_at "call ref") => `(tactic| (k_here; (first | (with_reducible show wpAny _ _ (call (Value.ref (nat_lit 122)) [Value.int _ _, Value.int _ _, Value.int _ _, Value.int _ _] _) _ _ _) | (with_reducible show wpAny _ _ (call (Value.ref 122) [Value.int _ _, Value.int _ _, Value.int _ _, Value.int _ _] _) _ _ _)); k_dflt (refine' (c_bound _ _ _ _ _ _ _ _ _ _ _ _ _ (by first | assumption | omega) (by first | assumption | omega) (by first | assumption | omega) (by first | assumption | omega) (by first | assumption | omega) (by first | assumption | omega) (by first | assumption | omega) (by first | assumption | omega) _) _ _ _ _ _ _ _ _ _ _ _ _ _ _ _ _ ?k1 ?k2 ?k3 ?k4 ?k5 ?kK ?kp ?kd ?ku ?_; (case k1 => k_asm); (case k2 => k_asm); (case k3 => k_asm); (case k4 => k_asm); (case k5 => k_asm); (case kK => first | exact rfl | assumption); (case kp => exact trivial); (case kd => ktr_room); (case ku => ktr_units)); intro t9 h9 tk9 F9 N9; (try dsimp only); (try k_sweep); (try k_fold); walk_say "BY CONTRACT c_bound"))
local macro_rules | `(tactic| walk_at "execs cons") => `(tactic| (k_here; exfalso; with_reducible contradiction))
set_option maxHeartbeats 4000000 in
theorem c_peq {p : Program} (w : World) (mean : ExcName → Option Value) (mg mb : Str → Option Value) (loose : List Str) (x d : Addr) (k0 k1 k2 k3 k4 k5 k6 k7 k8 k9 k10 k11 k12 k13 k14 k15 k16 : Tok) (v0 v1 v2 v3 v4 v5 v6 v9 v10 v13 v14 v15 v16 : Value) (limit old new : Array UInt8) (tl tsp tw th told tnew : Tok) (spacing whole period height : Int) (dn : Nat) (ho : old.size = 4) (hn : new.size = 4) (hs0 : 0 < spacing) (hs1 : spacing < 1073741824) (hw0 : 0 < whole) (hw1 : whole < 100000000) (hwp : whole / spacing = period) (hp0 : 0 < period) (hl4 : limit.size = 4) (hlw : worth limit < 115792089237316195423570985008687907853269984665640564039457584007913129639936) (how : worth old < 115792089237316195423570985008687907853269984665640564039457584007913129639936) (hnw : worth new < 115792089237316195423570985008687907853269984665640564039457584007913129639936) (hm : height % period = 0) (news : List (Addr × Obj)) :
  EzClaim 9 Challenge.rw_ez0014_01.row.prog w (hd.heap_39 w.params) p loose mean mg mb 129 ((x, instObj 201 d) :: (d, dictOf [{ hash := PyData.keyHash w.params (PySem.Str.ofString "name"), key := .str (PySem.Str.ofString "name") k0, val := v0 }, { hash := PyData.keyHash w.params (PySem.Str.ofString "subsidy_halving_interval"), key := .str (PySem.Str.ofString "subsidy_halving_interval") k1, val := v1 }, { hash := PyData.keyHash w.params (PySem.Str.ofString "bip34_height"), key := .str (PySem.Str.ofString "bip34_height") k2, val := v2 }, { hash := PyData.keyHash w.params (PySem.Str.ofString "bip66_height"), key := .str (PySem.Str.ofString "bip66_height") k3, val := v3 }, { hash := PyData.keyHash w.params (PySem.Str.ofString "bip65_height"), key := .str (PySem.Str.ofString "bip65_height") k4, val := v4 }, { hash := PyData.keyHash w.params (PySem.Str.ofString "csv_height"), key := .str (PySem.Str.ofString "csv_height") k5, val := v5 }, { hash := PyData.keyHash w.params (PySem.Str.ofString "segwit_height"), key := .str (PySem.Str.ofString "segwit_height") k6, val := v6 }, { hash := PyData.keyHash w.params (PySem.Str.ofString "pow_limit_bits"), key := .str (PySem.Str.ofString "pow_limit_bits") k7, val := .bytes limit tl }, { hash := PyData.keyHash w.params (PySem.Str.ofString "pow_allow_min_difficulty_blocks"), key := .str (PySem.Str.ofString "pow_allow_min_difficulty_blocks") k8, val := .bool false }, { hash := PyData.keyHash w.params (PySem.Str.ofString "enforce_bip94"), key := .str (PySem.Str.ofString "enforce_bip94") k9, val := v9 }, { hash := PyData.keyHash w.params (PySem.Str.ofString "pow_no_retargeting"), key := .str (PySem.Str.ofString "pow_no_retargeting") k10, val := v10 }, { hash := PyData.keyHash w.params (PySem.Str.ofString "pow_target_spacing"), key := .str (PySem.Str.ofString "pow_target_spacing") k11, val := .int spacing tsp }, { hash := PyData.keyHash w.params (PySem.Str.ofString "pow_target_timespan"), key := .str (PySem.Str.ofString "pow_target_timespan") k12, val := .int whole tw }, { hash := PyData.keyHash w.params (PySem.Str.ofString "minimum_chain_work"), key := .str (PySem.Str.ofString "minimum_chain_work") k13, val := v13 }, { hash := PyData.keyHash w.params (PySem.Str.ofString "bip30_exceptions"), key := .str (PySem.Str.ofString "bip30_exceptions") k14, val := v14 }, { hash := PyData.keyHash w.params (PySem.Str.ofString "bip30_unspendable"), key := .str (PySem.Str.ofString "bip30_unspendable") k15, val := v15 }, { hash := PyData.keyHash w.params (PySem.Str.ofString "script_flag_exceptions"), key := .str (PySem.Str.ofString "script_flag_exceptions") k16, val := v16 }] dn) :: news) (True) [.ref x, .int height th, .bytes old told, .bytes new tnew] (fun _ => .bool (decide (bnd (worth old) (whole / 4) whole (worth limit) ≤ worth new ∧ worth new ≤ bnd (worth old) (whole * 4) whole (worth limit)))) := by
  k_fill
  dsimp only [LawClaim, EzClaim, CbLists, CbRet]
  intros
  rename_i hret
  have hl0 := worth_nonneg limit
  have ho0 := worth_nonneg old
  have hn0 := worth_nonneg new
  have hz1 := be_size 32 (worth limit)
  have hz2 := be_size 32 (worth old)
  have hz3 := be_size 32 (worth new)
  refine wpAny_call ?_
  k_dflt (refine' code_def ?k1 ?k2 ?k3 ?k4 ?k5 ?kA ?kF ?kK ?k6 ?k7 ?k8 ?k9 ?kB ?_ ?c2 ?c3 ?c4 ?c5; (case kA => exact rfl); (case kF => exact rfl); (case kK => assumption); (case k1 => k_asm); (case k2 => k_asm); (case k3 => k_asm); (case k4 => k_asm); (case k5 => k_asm); (case k6 => k_is); (case k7 => k_is); (case k8 => ktr_room); (case k9 => first | exact BindsTo.of_eq rfl | exact binds_K (by k_in) rfl (by k_is) rfl rfl rfl); (case c5 => decide); (case kB => exact locs rfl); (case c2 => exact rfl); (case c3 => exact rfl); (case c4 => exact rfl); k_whole; intro g' L' h' FG' F' N' B' X' T'; (try dsimp only); (try k_lift B'); (try k_fold))
  k_steps
  all_goals refine ret_V hret ?_ (by k_asm) (by first | k_asm | exact cb_drop (by assumption) (by repeat (first | exact sub_refl | refine sub_tail ?_ | refine sub_app ?_)))
  · exact congrArg Value.bool (Eq.symm (decide_eq_false (by omega)))
  · exact congrArg Value.bool (decide_eq_decide.mpr ⟨fun h => ⟨h, by omega⟩, fun h => h.1⟩)
end
section
local macro_rules | `(tactic| walk_at "call ref") => `(tactic| (k_here; (first | (with_reducible show wpAny _ _ (call (Value.ref (nat_lit 80)) [_] _) _ _ _) | (with_reducible show wpAny _ _ (call (Value.ref 80) [_] _) _ _ _)); k_dflt (refine' (c_isint _ _ _ _ _ _ _ _) _ _ _ _ _ _ _ _ _ _ _ _ _ _ _ _ ?k1 ?k2 ?k3 ?k4 ?k5 ?kK ?kp ?kd ?ku ?_; (case k1 => k_asm); (case k2 => k_asm); (case k3 => k_asm); (case k4 => k_asm); (case k5 => k_asm); (case kK => first | exact rfl | assumption); (case kp => exact trivial); (case kd => ktr_room); (case ku => ktr_units)); intro t9 h9 tk9 F9 N9; (try dsimp only); (try k_sweep); (try k_fold); walk_say "BY CONTRACT c_isint"))
local macro_rules | `(tactic| walk_at "call ref") => `(tactic| (k_here; (first | (with_reducible show wpAny _ _ (call (Value.ref (nat_lit 66)) [Value.bytes _ _, Value.int _ _] _) _ _ _) | (with_reducible show wpAny _ _ (call (Value.ref 66) [Value.bytes _ _, Value.int _ _] _) _ _ _)); k_dflt (refine' (c_bfo4 _ _ _ _ _ _ _ _ (by assumption) _) _ _ _ _ _ _ _ _ _ _ _ _ _ _ _ _ ?k1 ?k2 ?k3 ?k4 ?k5 ?kK ?kp ?kd ?ku ?_; (case k1 => k_asm); (case k2 => k_asm); (case k3 => k_asm); (case k4 => k_asm); (case k5 => k_asm); (case kK => first | exact rfl | assumption); (case kp => exact trivial); (case kd => ktr_room); (case ku => ktr_units)); intro t9 h9 tk9 F9 N9; (try dsimp only); (try k_sweep); (try k_fold); walk_say "BY CONTRACT c_bfo4"))
local macro_rules | `(tactic| walk_at "call ref") => `(tactic| (k_here; (first | (with_reducible show wpAny _ _ (call (Value.ref (nat_lit 66)) [Value.bytes _ _, Value.int _ _] _) _ _ _) | (with_reducible show wpAny _ _ (call (Value.ref 66) [Value.bytes _ _, Value.int _ _] _) _ _ _)); k_dflt (refine' (c_bfoR _ _ _ _ _ _ _ _ (by assumption) (by assumption) _) _ _ _ _ _ _ _ _ _ _ _ _ _ _ _ _ ?kXB ?kTB ?k1 ?k2 ?k3 ?k4 ?k5 ?kD ?kK ?kp ?kd ?ku ?_; (case k1 => k_asm); (case k2 => k_asm); (case k3 => k_asm); (case k4 => k_asm); (case k5 => k_asm); (case kXB => k_asm); (case kTB => k_asm); (case kD => k_asm); (case kK => first | exact rfl | assumption); (case kp => exact trivial); (case kd => ktr_room); (case ku => ktr_units)); intro g9 h9 e9 t9 ws9 tk9 FG9 S9 R9 U9; (try dsimp only at S9 R9 U9 ⊢); walk_say "RAISES BY CONTRACT c_bfoR"))
set_option maxHeartbeats 4000000 in
theorem c_pRo {p : Program} (w : World) (mean : ExcName → Option Value) (mg mb : Str → Option Value) (loose : List Str) (x : Addr) (old new : Array UInt8) (th told tnew : Tok) (height : Int) (ho : old.size ≠ 4) (ho2 : old.size ≤ 1000) (news : List (Addr × Obj)) :
  EzRaise 9 44 Challenge.rw_ez0014_01.row.prog w (hd.heap_39 w.params) p loose mean mg mb 129 news (True) [.ref x, .int height th, .bytes old told, .bytes new tnew] := by
  k_fill
  dsimp only [EzRaise, CbLists]
  intros
  rename_i hret
  refine wpAny_call ?_
  k_dflt (refine' code_defS ?k1 ?k2 ?k3 ?k4 ?k5 ?XB ?TB ?D ?T0 ?kA ?k6 ?k7 ?k8 ?k9 ?kB ?_ ?cK ?c2 ?c3 ?c4 ?c5; (case kA => exact rfl); (case k2 => k_asm); (case k1 => k_asm); (case XB => assumption); (case TB => assumption); (case D => assumption); (case T0 => exact KtsTurn.refl); (case k3 => k_asm); (case k4 => k_asm); (case k5 => k_asm); (case k6 => k_is); (case k7 => k_is); (case k8 => ktr_room); (case k9 => first | exact BindsTo.of_eq rfl | exact binds_K (by k_in) rfl (by k_is) rfl rfl rfl); (case kB => exact locs rfl); (case cK => assumption); (case c2 => exact rfl); (case c3 => exact rfl); (case c4 => exact rfl); (case c5 => decide); k_whole; intro g' L' h' FG' F' N' B' X' T' D'; (try dsimp only); (try k_lift B'); (try k_fold))
  k_steps
  all_goals (
    (rename RaisedS _ _ _ _ _ _ _ _ _ => S9)
    (rename Heap.UpToSlots _ _ => U9)
    have S8 := raisedS_drop (news := news) (by repeat (first | exact sub_refl | refine sub_tail ?_ | refine sub_app ?_)) S9
    exact hret _ _ _ _ _ _ FG' S8 S8.toK U9)
set_option maxHeartbeats 4000000 in
theorem c_pRn {p : Program} (w : World) (mean : ExcName → Option Value) (mg mb : Str → Option Value) (loose : List Str) (x : Addr) (old new : Array UInt8) (th told tnew : Tok) (height : Int) (ho : old.size = 4) (hn : new.size ≠ 4) (hn2 : new.size ≤ 1000) (news : List (Addr × Obj)) :
  EzRaise 9 44 Challenge.rw_ez0014_01.row.prog w (hd.heap_39 w.params) p loose mean mg mb 129 news (True) [.ref x, .int height th, .bytes old told, .bytes new tnew] := by
  k_fill
  dsimp only [EzRaise, CbLists]
  intros
  rename_i hret
  refine wpAny_call ?_
  k_dflt (refine' code_defS ?k1 ?k2 ?k3 ?k4 ?k5 ?XB ?TB ?D ?T0 ?kA ?k6 ?k7 ?k8 ?k9 ?kB ?_ ?cK ?c2 ?c3 ?c4 ?c5; (case kA => exact rfl); (case k2 => k_asm); (case k1 => k_asm); (case XB => assumption); (case TB => assumption); (case D => assumption); (case T0 => exact KtsTurn.refl); (case k3 => k_asm); (case k4 => k_asm); (case k5 => k_asm); (case k6 => k_is); (case k7 => k_is); (case k8 => ktr_room); (case k9 => first | exact BindsTo.of_eq rfl | exact binds_K (by k_in) rfl (by k_is) rfl rfl rfl); (case kB => exact locs rfl); (case cK => assumption); (case c2 => exact rfl); (case c3 => exact rfl); (case c4 => exact rfl); (case c5 => decide); k_whole; intro g' L' h' FG' F' N' B' X' T' D'; (try dsimp only); (try k_lift B'); (try k_fold))
  k_steps
  all_goals (
    (rename RaisedS _ _ _ _ _ _ _ _ _ => S9)
    (rename Heap.UpToSlots _ _ => U9)
    have S8 := raisedS_drop (news := news) (by repeat (first | exact sub_refl | refine sub_tail ?_ | refine sub_app ?_)) S9
    exact hret _ _ _ _ _ _ FG' S8 S8.toK U9)
end
section
local macro_rules | `(tactic| walk_at "call ref") => `(tactic| (k_here; (first | (with_reducible show wpAny _ _ (call (Value.ref (nat_lit 129)) [Value.ref _, Value.int _ _, Value.bytes _ _, Value.bytes _ _] _) _ _ _) | (with_reducible show wpAny _ _ (call (Value.ref 129) [Value.ref _, Value.int _ _, Value.bytes _ _, Value.bytes _ _] _) _ _ _)); k_dflt (refine' (c_pRo _ _ _ _ _ _ _ _ _ _ _ _ (by first | assumption | omega) (by first | assumption | omega) _) _ _ _ _ _ _ _ _ _ _ _ _ _ _ _ _ ?kXB ?kTB ?k1 ?k2 ?k3 ?k4 ?k5 ?kD ?kK ?kp ?kd ?ku ?_; (case k1 => k_asm); (case k2 => k_asm); (case k3 => k_asm); (case k4 => k_asm); (case k5 => k_asm); (case kXB => k_asm); (case kTB => k_asm); (case kD => k_asm); (case kK => first | exact rfl | assumption); (case kp => exact trivial); (case kd => ktr_room); (case ku => ktr_units)); intro g9 h9 e9 t9 ws9 tk9 FG9 S9 R9 U9; (try dsimp only at S9 R9 U9 ⊢); walk_say "RAISES BY CONTRACT c_pRo"))
local macro_rules | `(tactic| walk_at "call ref") => `(tactic| (k_here; (first | (with_reducible show wpAny _ _ (call (Value.ref (nat_lit 129)) [Value.ref _, Value.int _ _, Value.bytes _ _, Value.bytes _ _] _) _ _ _) | (with_reducible show wpAny _ _ (call (Value.ref 129) [Value.ref _, Value.int _ _, Value.bytes _ _, Value.bytes _ _] _) _ _ _)); k_dflt (refine' (c_pRn _ _ _ _ _ _ _ _ _ _ _ _ (by first | assumption | omega) (by first | assumption | omega) (by first | assumption | omega) _) _ _ _ _ _ _ _ _ _ _ _ _ _ _ _ _ ?kXB ?kTB ?k1 ?k2 ?k3 ?k4 ?k5 ?kD ?kK ?kp ?kd ?ku ?_; (case k1 => k_asm); (case k2 => k_asm); (case k3 => k_asm); (case k4 => k_asm); (case k5 => k_asm); (case kXB => k_asm); (case kTB => k_asm); (case kD => k_asm); (case kK => first | exact rfl | assumption); (case kp => exact trivial); (case kd => ktr_room); (case ku => ktr_units)); intro g9 h9 e9 t9 ws9 tk9 FG9 S9 R9 U9; (try dsimp only at S9 R9 U9 ⊢); walk_say "RAISES BY CONTRACT c_pRn"))
set_option maxHeartbeats 4000000 in
theorem c_mRo {p : Program} (w : World) (mean : ExcName → Option Value) (mg mb : Str → Option Value) (loose : List Str) (x : Addr) (old new : Array UInt8) (th told tnew : Tok) (height : Int) (ho : old.size ≠ 4) (ho2 : old.size ≤ 1000) (news : List (Addr × Obj)) :
  LawClaim Challenge.rw_ez0014_01.row.prog w (hd.heap_39 w.params) p loose mean mg mb 261 news (True) [.ref x, .int height th, .bytes old told, .bytes new tnew] (fun _ => .none) := by
  k_fill
  dsimp only [LawClaim, EzClaim, CbLists, CbRet]
  intros
  rename_i hret
  refine wpAny_call ?_
  k_dflt (refine' code_defS0 ?k1 ?k2 ?k3 ?k4 ?k5 ?kA ?k6 ?k7 ?k8 ?k9 ?kB ?_ ?cK ?c2 ?c3 ?c4 ?c5; (case kA => exact rfl); (case k2 => k_asm); (case k1 => k_asm); (case k3 => k_asm); (case k4 => k_asm); (case k5 => k_asm); (case k6 => k_is); (case k7 => k_is); (case k8 => k_room); (case k9 => exact BindsTo.of_eq rfl); (case kB => exact locs rfl); (case cK => assumption); (case c2 => exact rfl); (case c3 => exact rfl); (case c4 => exact rfl); (case c5 => decide); k_whole; intro g' L' h' FG' F' N' B' X' T' D'; (try dsimp only); (try k_lift B'); (try k_fold))
  k_steps
  all_goals exact ret_V hret rfl (by k_asm) (by first | k_asm | exact cb_drop (by assumption) (by repeat (first | exact sub_refl | refine sub_tail ?_ | refine sub_app ?_)))
set_option maxHeartbeats 4000000 in
theorem c_mRn {p : Program} (w : World) (mean : ExcName → Option Value) (mg mb : Str → Option Value) (loose : List Str) (x : Addr) (old new : Array UInt8) (th told tnew : Tok) (height : Int) (ho : old.size = 4) (hn : new.size ≠ 4) (hn2 : new.size ≤ 1000) (news : List (Addr × Obj)) :
  LawClaim Challenge.rw_ez0014_01.row.prog w (hd.heap_39 w.params) p loose mean mg mb 261 news (True) [.ref x, .int height th, .bytes old told, .bytes new tnew] (fun _ => .none) := by
  k_fill
  dsimp only [LawClaim, EzClaim, CbLists, CbRet]
  intros
  rename_i hret
  refine wpAny_call ?_
  k_dflt (refine' code_defS0 ?k1 ?k2 ?k3 ?k4 ?k5 ?kA ?k6 ?k7 ?k8 ?k9 ?kB ?_ ?cK ?c2 ?c3 ?c4 ?c5; (case kA => exact rfl); (case k2 => k_asm); (case k1 => k_asm); (case k3 => k_asm); (case k4 => k_asm); (case k5 => k_asm); (case k6 => k_is); (case k7 => k_is); (case k8 => k_room); (case k9 => exact BindsTo.of_eq rfl); (case kB => exact locs rfl); (case cK => assumption); (case c2 => exact rfl); (case c3 => exact rfl); (case c4 => exact rfl); (case c5 => decide); k_whole; intro g' L' h' FG' F' N' B' X' T' D'; (try dsimp only); (try k_lift B'); (try k_fold))
  k_steps
  all_goals exact ret_V hret rfl (by k_asm) (by first | k_asm | exact cb_drop (by assumption) (by repeat (first | exact sub_refl | refine sub_tail ?_ | refine sub_app ?_)))
end
section
theorem news_dup {h₀ h : Heap} {L : Addr} {news : List (Addr × Obj)} {p q : Addr × Obj} (N : News h₀ L h news) (hp : p ∈ news) (hq : q ∈ news) : News h₀ L h (p :: q :: news) := fun r hr => by
  rcases List.mem_cons.mp hr with rfl | hr
  · exact N _ hp
  · rcases List.mem_cons.mp hr with rfl | hr
    · exact N _ hq
    · exact N _ hr
theorem news_undup {h₀ h : Heap} {L : Addr} {news : List (Addr × Obj)} {p q : Addr × Obj} (N : News h₀ L h (p :: q :: news)) : News h₀ L h news := fun r hr => N r (List.mem_cons_of_mem _ (List.mem_cons_of_mem _ hr))

local macro_rules | `(tactic| walk_at "call ref") => `(tactic| (k_here; (first | (with_reducible show wpAny _ _ (call (Value.ref (nat_lit 129)) [Value.ref _, Value.int _ _, Value.bytes _ _, Value.bytes _ _] _) _ _ _) | (with_reducible show wpAny _ _ (call (Value.ref 129) [Value.ref _, Value.int _ _, Value.bytes _ _, Value.bytes _ _] _) _ _ _)); k_dflt (refine' (c_pfree _ _ _ _ _ _ _ _ _ _ _ _ _ _ _ _ _ _ _ _ _ _ _ _ _ _ _ _ _ _ _ _ _ _ _ _ _ _ _ _ _ _ _ _ _ _ _ _ (0 : Int) _ _ ?e0 ?e1 _) _ _ _ _ _ _ _ _ _ _ _ _ _ _ _ _ ?k1 ?k2 ?k3 ?k4 ?k5 ?kK ?kp ?kd ?ku ?_; (case k1 => k_asm); (case k2 => k_asm); (case k3 => k_asm); (case k4 => k_asm); (case k5 => k_asm); (case e0 => first | with_reducible assumption | omega); (case e1 => first | with_reducible assumption | omega);(case kK => first | exact rfl | assumption); (case kp => exact trivial); (case kd => ktr_room); (case ku => ktr_units)); intro t9 h9 tk9 F9 N9; (try dsimp only); (try k_sweep); (try k_fold); walk_say "BY CONTRACT c_pfree"))
set_option maxHeartbeats 4000000 in
theorem c_mfree {p : Program} (w : World) (mean : ExcName → Option Value) (mg mb : Str → Option Value) (loose : List Str) (x d : Addr) (k0 k1 k2 k3 k4 k5 k6 k7 k8 k9 k10 k11 k12 k13 k14 k15 k16 : Tok) (v0 v1 v2 v3 v4 v5 v6 v9 v10 v13 v14 v15 v16 : Value) (limit old new : Array UInt8) (tl tsp tw th told tnew : Tok) (spacing whole period height : Int) (dn : Nat) (ho : old.size = 4) (hn : new.size = 4) (news : List (Addr × Obj)) :
  LawClaim Challenge.rw_ez0014_01.row.prog w (hd.heap_39 w.params) p loose mean mg mb 261 ((x, instObj 201 d) :: (d, dictOf [{ hash := PyData.keyHash w.params (PySem.Str.ofString "name"), key := .str (PySem.Str.ofString "name") k0, val := v0 }, { hash := PyData.keyHash w.params (PySem.Str.ofString "subsidy_halving_interval"), key := .str (PySem.Str.ofString "subsidy_halving_interval") k1, val := v1 }, { hash := PyData.keyHash w.params (PySem.Str.ofString "bip34_height"), key := .str (PySem.Str.ofString "bip34_height") k2, val := v2 }, { hash := PyData.keyHash w.params (PySem.Str.ofString "bip66_height"), key := .str (PySem.Str.ofString "bip66_height") k3, val := v3 }, { hash := PyData.keyHash w.params (PySem.Str.ofString "bip65_height"), key := .str (PySem.Str.ofString "bip65_height") k4, val := v4 }, { hash := PyData.keyHash w.params (PySem.Str.ofString "csv_height"), key := .str (PySem.Str.ofString "csv_height") k5, val := v5 }, { hash := PyData.keyHash w.params (PySem.Str.ofString "segwit_height"), key := .str (PySem.Str.ofString "segwit_height") k6, val := v6 }, { hash := PyData.keyHash w.params (PySem.Str.ofString "pow_limit_bits"), key := .str (PySem.Str.ofString "pow_limit_bits") k7, val := .bytes limit tl }, { hash := PyData.keyHash w.params (PySem.Str.ofString "pow_allow_min_difficulty_blocks"), key := .str (PySem.Str.ofString "pow_allow_min_difficulty_blocks") k8, val := .bool true }, { hash := PyData.keyHash w.params (PySem.Str.ofString "enforce_bip94"), key := .str (PySem.Str.ofString "enforce_bip94") k9, val := v9 }, { hash := PyData.keyHash w.params (PySem.Str.ofString "pow_no_retargeting"), key := .str (PySem.Str.ofString "pow_no_retargeting") k10, val := v10 }, { hash := PyData.keyHash w.params (PySem.Str.ofString "pow_target_spacing"), key := .str (PySem.Str.ofString "pow_target_spacing") k11, val := .int spacing tsp }, { hash := PyData.keyHash w.params (PySem.Str.ofString "pow_target_timespan"), key := .str (PySem.Str.ofString "pow_target_timespan") k12, val := .int whole tw }, { hash := PyData.keyHash w.params (PySem.Str.ofString "minimum_chain_work"), key := .str (PySem.Str.ofString "minimum_chain_work") k13, val := v13 }, { hash := PyData.keyHash w.params (PySem.Str.ofString "bip30_exceptions"), key := .str (PySem.Str.ofString "bip30_exceptions") k14, val := v14 }, { hash := PyData.keyHash w.params (PySem.Str.ofString "bip30_unspendable"), key := .str (PySem.Str.ofString "bip30_unspendable") k15, val := v15 }, { hash := PyData.keyHash w.params (PySem.Str.ofString "script_flag_exceptions"), key := .str (PySem.Str.ofString "script_flag_exceptions") k16, val := v16 }] dn) :: news) (True) [.ref x, .int height th, .bytes old told, .bytes new tnew] (fun _ => .bool true) := by
  k_fill
  dsimp only [LawClaim, EzClaim, CbLists, CbRet]
  intros
  rename_i hret
  refine wpAny_call ?_
  k_dflt (refine' code_defS0 ?k1 ?k2 ?k3 ?k4 ?k5 ?kA ?k6 ?k7 ?k8 ?k9 ?kB ?_ ?cK ?c2 ?c3 ?c4 ?c5; (case kA => exact rfl); (case k2 => k_asm); (case k1 => k_asm); (case k3 => k_asm); (case k4 => k_asm); (case k5 => k_asm); (case k6 => k_is); (case k7 => k_is); (case k8 => k_room); (case k9 => exact BindsTo.of_eq rfl); (case kB => exact locs rfl); (case cK => assumption); (case c2 => exact rfl); (case c3 => exact rfl); (case c4 => exact rfl); (case c5 => decide); k_whole; intro g' L' h' FG' F' N' B' X' T' D'; (try dsimp only); (try k_lift B'); (try k_fold))
  k_steps
  all_goals exact ret_V hret rfl (by k_asm) (by first | k_asm | exact cb_drop (by assumption) (by repeat (first | exact sub_refl | refine sub_tail ?_ | refine sub_app ?_)))
end
local macro_rules | `(tactic| walk_at "nowhere") => `(tactic| fail "nowhere")
section
local macro_rules | `(tactic| walk_at "call ref") => `(tactic| (k_here; (first | (with_reducible show wpAny _ _ (call (Value.ref (nat_lit 129)) [Value.ref _, Value.int _ _, Value.bytes _ _, Value.bytes _ _] _) _ _ _) | (with_reducible show wpAny _ _ (call (Value.ref 129) [Value.ref _, Value.int _ _, Value.bytes _ _, Value.bytes _ _] _) _ _ _)); k_dflt (refine' (c_pne _ _ _ _ _ _ _ _ _ _ _ _ _ _ _ _ _ _ _ _ _ _ _ _ _ _ _ _ _ _ _ _ _ _ _ _ _ _ _ _ _ _ _ _ _ _ _ _ _ _ _ ?e0 ?e1 ?e2 ?e3 ?e4 ?e5 ?e6 ?e7 ?e8 _) _ _ _ _ _ _ _ _ _ _ _ _ _ _ _ _ ?k1 ?k2 ?k3 ?k4 ?k5 ?kK ?kp ?kd ?ku ?_; (case k1 => k_asm); (case k2 => k_asm); (case k3 => k_asm); (case k4 => k_asm); (case k5 => k_asm); (case e0 => first | with_reducible assumption | omega); (case e1 => first | with_reducible assumption | omega); (case e2 => first | with_reducible assumption | omega); (case e3 => first | with_reducible assumption | omega); (case e4 => first | with_reducible assumption | omega); (case e5 => first | with_reducible assumption | omega); (case e6 => first | with_reducible assumption | omega); (case e7 => first | with_reducible assumption | omega); (case e8 => first | with_reducible assumption | omega);(case kK => first | exact rfl | assumption); (case kp => exact trivial); (case kd => ktr_room); (case ku => ktr_units)); intro t9 h9 tk9 F9 N9; (try dsimp only); (try k_sweep); (try k_fold); walk_say "BY CONTRACT c_pne"))
set_option maxHeartbeats 4000000 in
theorem c_mne {p : Program} (w : World) (mean : ExcName → Option Value) (mg mb : Str → Option Value) (loose : List Str) (x d : Addr) (k0 k1 k2 k3 k4 k5 k6 k7 k8 k9 k10 k11 k12 k13 k14 k15 k16 : Tok) (v0 v1 v2 v3 v4 v5 v6 v9 v10 v13 v14 v15 v16 : Value) (limit old new : Array UInt8) (tl tsp tw th told tnew : Tok) (spacing whole period height : Int) (dn : Nat) (ho : old.size = 4) (hn : new.size = 4) (hs0 : 0 < spacing) (hs1 : spacing < 1073741824) (hw0 : 0 < whole) (hw1 : whole < 100000000) (hwp : whole / spacing = period) (hp0 : 0 < period) (hm : height % period ≠ 0) (news : List (Addr × Obj)) :
  LawClaim Challenge.rw_ez0014_01.row.prog w (hd.heap_39 w.params) p loose mean mg mb 261 ((x, instObj 201 d) :: (d, dictOf [{ hash := PyData.keyHash w.params (PySem.Str.ofString "name"), key := .str (PySem.Str.ofString "name") k0, val := v0 }, { hash := PyData.keyHash w.params (PySem.Str.ofString "subsidy_halving_interval"), key := .str (PySem.Str.ofString "subsidy_halving_interval") k1, val := v1 }, { hash := PyData.keyHash w.params (PySem.Str.ofString "bip34_height"), key := .str (PySem.Str.ofString "bip34_height") k2, val := v2 }, { hash := PyData.keyHash w.params (PySem.Str.ofString "bip66_height"), key := .str (PySem.Str.ofString "bip66_height") k3, val := v3 }, { hash := PyData.keyHash w.params (PySem.Str.ofString "bip65_height"), key := .str (PySem.Str.ofString "bip65_height") k4, val := v4 }, { hash := PyData.keyHash w.params (PySem.Str.ofString "csv_height"), key := .str (PySem.Str.ofString "csv_height") k5, val := v5 }, { hash := PyData.keyHash w.params (PySem.Str.ofString "segwit_height"), key := .str (PySem.Str.ofString "segwit_height") k6, val := v6 }, { hash := PyData.keyHash w.params (PySem.Str.ofString "pow_limit_bits"), key := .str (PySem.Str.ofString "pow_limit_bits") k7, val := .bytes limit tl }, { hash := PyData.keyHash w.params (PySem.Str.ofString "pow_allow_min_difficulty_blocks"), key := .str (PySem.Str.ofString "pow_allow_min_difficulty_blocks") k8, val := .bool false }, { hash := PyData.keyHash w.params (PySem.Str.ofString "enforce_bip94"), key := .str (PySem.Str.ofString "enforce_bip94") k9, val := v9 }, { hash := PyData.keyHash w.params (PySem.Str.ofString "pow_no_retargeting"), key := .str (PySem.Str.ofString "pow_no_retargeting") k10, val := v10 }, { hash := PyData.keyHash w.params (PySem.Str.ofString "pow_target_spacing"), key := .str (PySem.Str.ofString "pow_target_spacing") k11, val := .int spacing tsp }, { hash := PyData.keyHash w.params (PySem.Str.ofString "pow_target_timespan"), key := .str (PySem.Str.ofString "pow_target_timespan") k12, val := .int whole tw }, { hash := PyData.keyHash w.params (PySem.Str.ofString "minimum_chain_work"), key := .str (PySem.Str.ofString "minimum_chain_work") k13, val := v13 }, { hash := PyData.keyHash w.params (PySem.Str.ofString "bip30_exceptions"), key := .str (PySem.Str.ofString "bip30_exceptions") k14, val := v14 }, { hash := PyData.keyHash w.params (PySem.Str.ofString "bip30_unspendable"), key := .str (PySem.Str.ofString "bip30_unspendable") k15, val := v15 }, { hash := PyData.keyHash w.params (PySem.Str.ofString "script_flag_exceptions"), key := .str (PySem.Str.ofString "script_flag_exceptions") k16, val := v16 }] dn) :: news) (True) [.ref x, .int height th, .bytes old told, .bytes new tnew] (fun _ => .bool (old.toList == new.toList)) := by
  k_fill
  dsimp only [LawClaim, EzClaim, CbLists, CbRet]
  intros
  rename_i hret
  refine wpAny_call ?_
  k_dflt (refine' code_defS0 ?k1 ?k2 ?k3 ?k4 ?k5 ?kA ?k6 ?k7 ?k8 ?k9 ?kB ?_ ?cK ?c2 ?c3 ?c4 ?c5; (case kA => exact rfl); (case k2 => k_asm); (case k1 => k_asm); (case k3 => k_asm); (case k4 => k_asm); (case k5 => k_asm); (case k6 => k_is); (case k7 => k_is); (case k8 => k_room); (case k9 => exact BindsTo.of_eq rfl); (case kB => exact locs rfl); (case cK => assumption); (case c2 => exact rfl); (case c3 => exact rfl); (case c4 => exact rfl); (case c5 => decide); k_whole; intro g' L' h' FG' F' N' B' X' T' D'; (try dsimp only); (try k_lift B'); (try k_fold))
  k_steps
  all_goals exact ret_V hret rfl (by k_asm) (by first | k_asm | exact cb_drop (by assumption) (by repeat (first | exact sub_refl | refine sub_tail ?_ | refine sub_app ?_)))
end
local macro_rules | `(tactic| walk_at "nowhere") => `(tactic| fail "nowhere")
section
local macro_rules | `(tactic| walk_at "call ref") => `(tactic| (k_here; (first | (with_reducible show wpAny _ _ (call (Value.ref (nat_lit 129)) [Value.ref _, Value.int _ _, Value.bytes _ _, Value.bytes _ _] _) _ _ _) | (with_reducible show wpAny _ _ (call (Value.ref 129) [Value.ref _, Value.int _ _, Value.bytes _ _, Value.bytes _ _] _) _ _ _)); k_dflt (refine' (c_peq _ _ _ _ _ _ _ _ _ _ _ _ _ _ _ _ _ _ _ _ _ _ _ _ _ _ _ _ _ _ _ _ _ _ _ _ _ _ _ _ _ _ _ _ _ _ _ _ _ _ _ ?e0 ?e1 ?e2 ?e3 ?e4 ?e5 ?e6 ?e7 ?e8 ?e9 ?e10 ?e11 ?e12 _) _ _ _ _ _ _ _ _ _ _ _ _ _ _ _ _ ?k1 ?k2 ?k3 ?k4 ?k5 ?kK ?kp ?kd ?ku ?_; (case k1 => k_asm); (case k2 => k_asm); (case k3 => k_asm); (case k4 => k_asm); (case k5 => k_asm); (case e0 => first | with_reducible assumption | omega); (case e1 => first | with_reducible assumption | omega); (case e2 => first | with_reducible assumption | omega); (case e3 => first | with_reducible assumption | omega); (case e4 => first | with_reducible assumption | omega); (case e5 => first | with_reducible assumption | omega); (case e6 => first | with_reducible assumption | omega); (case e7 => first | with_reducible assumption | omega); (case e8 => first | with_reducible assumption | omega); (case e9 => first | with_reducible assumption | omega); (case e10 => first | with_reducible assumption | omega); (case e11 => first | with_reducible assumption | omega); (case e12 => first | with_reducible assumption | omega);(case kK => first | exact rfl | assumption); (case kp => exact trivial); (case kd => ktr_room); (case ku => ktr_units)); intro t9 h9 tk9 F9 N9; (try dsimp only); (try k_sweep); (try k_fold); walk_say "BY CONTRACT c_peq"))
set_option maxHeartbeats 4000000 in
theorem c_meq {p : Program} (w : World) (mean : ExcName → Option Value) (mg mb : Str → Option Value) (loose : List Str) (x d : Addr) (k0 k1 k2 k3 k4 k5 k6 k7 k8 k9 k10 k11 k12 k13 k14 k15 k16 : Tok) (v0 v1 v2 v3 v4 v5 v6 v9 v10 v13 v14 v15 v16 : Value) (limit old new : Array UInt8) (tl tsp tw th told tnew : Tok) (spacing whole period height : Int) (dn : Nat) (ho : old.size = 4) (hn : new.size = 4) (hs0 : 0 < spacing) (hs1 : spacing < 1073741824) (hw0 : 0 < whole) (hw1 : whole < 100000000) (hwp : whole / spacing = period) (hp0 : 0 < period) (hl4 : limit.size = 4) (hlw : worth limit < 115792089237316195423570985008687907853269984665640564039457584007913129639936) (how : worth old < 115792089237316195423570985008687907853269984665640564039457584007913129639936) (hnw : worth new < 115792089237316195423570985008687907853269984665640564039457584007913129639936) (hm : height % period = 0) (news : List (Addr × Obj)) :
  LawClaim Challenge.rw_ez0014_01.row.prog w (hd.heap_39 w.params) p loose mean mg mb 261 ((x, instObj 201 d) :: (d, dictOf [{ hash := PyData.keyHash w.params (PySem.Str.ofString "name"), key := .str (PySem.Str.ofString "name") k0, val := v0 }, { hash := PyData.keyHash w.params (PySem.Str.ofString "subsidy_halving_interval"), key := .str (PySem.Str.ofString "subsidy_halving_interval") k1, val := v1 }, { hash := PyData.keyHash w.params (PySem.Str.ofString "bip34_height"), key := .str (PySem.Str.ofString "bip34_height") k2, val := v2 }, { hash := PyData.keyHash w.params (PySem.Str.ofString "bip66_height"), key := .str (PySem.Str.ofString "bip66_height") k3, val := v3 }, { hash := PyData.keyHash w.params (PySem.Str.ofString "bip65_height"), key := .str (PySem.Str.ofString "bip65_height") k4, val := v4 }, { hash := PyData.keyHash w.params (PySem.Str.ofString "csv_height"), key := .str (PySem.Str.ofString "csv_height") k5, val := v5 }, { hash := PyData.keyHash w.params (PySem.Str.ofString "segwit_height"), key := .str (PySem.Str.ofString "segwit_height") k6, val := v6 }, { hash := PyData.keyHash w.params (PySem.Str.ofString "pow_limit_bits"), key := .str (PySem.Str.ofString "pow_limit_bits") k7, val := .bytes limit tl }, { hash := PyData.keyHash w.params (PySem.Str.ofString "pow_allow_min_difficulty_blocks"), key := .str (PySem.Str.ofString "pow_allow_min_difficulty_blocks") k8, val := .bool false }, { hash := PyData.keyHash w.params (PySem.Str.ofString "enforce_bip94"), key := .str (PySem.Str.ofString "enforce_bip94") k9, val := v9 }, { hash := PyData.keyHash w.params (PySem.Str.ofString "pow_no_retargeting"), key := .str (PySem.Str.ofString "pow_no_retargeting") k10, val := v10 }, { hash := PyData.keyHash w.params (PySem.Str.ofString "pow_target_spacing"), key := .str (PySem.Str.ofString "pow_target_spacing") k11, val := .int spacing tsp }, { hash := PyData.keyHash w.params (PySem.Str.ofString "pow_target_timespan"), key := .str (PySem.Str.ofString "pow_target_timespan") k12, val := .int whole tw }, { hash := PyData.keyHash w.params (PySem.Str.ofString "minimum_chain_work"), key := .str (PySem.Str.ofString "minimum_chain_work") k13, val := v13 }, { hash := PyData.keyHash w.params (PySem.Str.ofString "bip30_exceptions"), key := .str (PySem.Str.ofString "bip30_exceptions") k14, val := v14 }, { hash := PyData.keyHash w.params (PySem.Str.ofString "bip30_unspendable"), key := .str (PySem.Str.ofString "bip30_unspendable") k15, val := v15 }, { hash := PyData.keyHash w.params (PySem.Str.ofString "script_flag_exceptions"), key := .str (PySem.Str.ofString "script_flag_exceptions") k16, val := v16 }] dn) :: news) (True) [.ref x, .int height th, .bytes old told, .bytes new tnew] (fun _ => .bool (decide (bnd (worth old) (whole / 4) whole (worth limit) ≤ worth new ∧ worth new ≤ bnd (worth old) (whole * 4) whole (worth limit)))) := by
  k_fill
  dsimp only [LawClaim, EzClaim, CbLists, CbRet]
  intros
  rename_i hret
  refine wpAny_call ?_
  k_dflt (refine' code_defS0 ?k1 ?k2 ?k3 ?k4 ?k5 ?kA ?k6 ?k7 ?k8 ?k9 ?kB ?_ ?cK ?c2 ?c3 ?c4 ?c5; (case kA => exact rfl); (case k2 => k_asm); (case k1 => k_asm); (case k3 => k_asm); (case k4 => k_asm); (case k5 => k_asm); (case k6 => k_is); (case k7 => k_is); (case k8 => k_room); (case k9 => exact BindsTo.of_eq rfl); (case kB => exact locs rfl); (case cK => assumption); (case c2 => exact rfl); (case c3 => exact rfl); (case c4 => exact rfl); (case c5 => decide); k_whole; intro g' L' h' FG' F' N' B' X' T' D'; (try dsimp only); (try k_lift B'); (try k_fold))
  k_steps
  all_goals exact ret_V hret rfl (by k_asm) (by first | k_asm | exact cb_drop (by assumption) (by repeat (first | exact sub_refl | refine sub_tail ?_ | refine sub_app ?_)))
end
section
def RulesAt (w : World) (news : List (Addr × Obj)) (x : Addr) (allow : Bool) (limit : Array UInt8) (spacing whole : Int) : Prop :=
  ∃ (d : Addr) (k0 k1 k2 k3 k4 k5 k6 k7 k8 k9 k10 k11 k12 k13 k14 k15 k16 : Tok) (v0 v1 v2 v3 v4 v5 v6 v9 v10 v13 v14 v15 v16 : Value) (tl tsp tw : Tok) (dn : Nat), (x, instObj 201 d) ∈ news ∧ (d, dictOf [{ hash := PyData.keyHash w.params (PySem.Str.ofString "name"), key := .str (PySem.Str.ofString "name") k0, val := v0 }, { hash := PyData.keyHash w.params (PySem.Str.ofString "subsidy_halving_interval"), key := .str (PySem.Str.ofString "subsidy_halving_interval") k1, val := v1 }, { hash := PyData.keyHash w.params (PySem.Str.ofString "bip34_height"), key := .str (PySem.Str.ofString "bip34_height") k2, val := v2 }, { hash := PyData.keyHash w.params (PySem.Str.ofString "bip66_height"), key := .str (PySem.Str.ofString "bip66_height") k3, val := v3 }, { hash := PyData.keyHash w.params (PySem.Str.ofString "bip65_height"), key := .str (PySem.Str.ofString "bip65_height") k4, val := v4 }, { hash := PyData.keyHash w.params (PySem.Str.ofString "csv_height"), key := .str (PySem.Str.ofString "csv_height") k5, val := v5 }, { hash := PyData.keyHash w.params (PySem.Str.ofString "segwit_height"), key := .str (PySem.Str.ofString "segwit_height") k6, val := v6 }, { hash := PyData.keyHash w.params (PySem.Str.ofString "pow_limit_bits"), key := .str (PySem.Str.ofString "pow_limit_bits") k7, val := .bytes limit tl }, { hash := PyData.keyHash w.params (PySem.Str.ofString "pow_allow_min_difficulty_blocks"), key := .str (PySem.Str.ofString "pow_allow_min_difficulty_blocks") k8, val := .bool allow }, { hash := PyData.keyHash w.params (PySem.Str.ofString "enforce_bip94"), key := .str (PySem.Str.ofString "enforce_bip94") k9, val := v9 }, { hash := PyData.keyHash w.params (PySem.Str.ofString "pow_no_retargeting"), key := .str (PySem.Str.ofString "pow_no_retargeting") k10, val := v10 }, { hash := PyData.keyHash w.params (PySem.Str.ofString "pow_target_spacing"), key := .str (PySem.Str.ofString "pow_target_spacing") k11, val := .int spacing tsp }, { hash := PyData.keyHash w.params (PySem.Str.ofString "pow_target_timespan"), key := .str (PySem.Str.ofString "pow_target_timespan") k12, val := .int whole tw }, { hash := PyData.keyHash w.params (PySem.Str.ofString "minimum_chain_work"), key := .str (PySem.Str.ofString "minimum_chain_work") k13, val := v13 }, { hash := PyData.keyHash w.params (PySem.Str.ofString "bip30_exceptions"), key := .str (PySem.Str.ofString "bip30_exceptions") k14, val := v14 }, { hash := PyData.keyHash w.params (PySem.Str.ofString "bip30_unspendable"), key := .str (PySem.Str.ofString "bip30_unspendable") k15, val := v15 }, { hash := PyData.keyHash w.params (PySem.Str.ofString "script_flag_exceptions"), key := .str (PySem.Str.ofString "script_flag_exceptions") k16, val := v16 }] dn) ∈ news
theorem RulesAt.mono {w : World} {a b : List (Addr × Obj)} {x : Addr} {allow : Bool} {limit : Array UInt8} {spacing whole : Int} (h : RulesAt w a x allow limit spacing whole) (s : ∀ p ∈ a, p ∈ b) : RulesAt w b x allow limit spacing whole := by
  obtain ⟨d, k0, k1, k2, k3, k4, k5, k6, k7, k8, k9, k10, k11, k12, k13, k14, k15, k16, v0, v1, v2, v3, v4, v5, v6, v9, v10, v13, v14, v15, v16, tl, tsp, tw, dn, h1, h2⟩ := h
  exact ⟨d, k0, k1, k2, k3, k4, k5, k6, k7, k8, k9, k10, k11, k12, k13, k14, k15, k16, v0, v1, v2, v3, v4, v5, v6, v9, v10, v13, v14, v15, v16, tl, tsp, tw, dn, s _ h1, s _ h2⟩
theorem c_mfreeR {p : Program} (w : World) (mean : ExcName → Option Value) (mg mb : Str → Option Value) (loose : List Str) (x : Addr) (limit old new : Array UInt8) (th told tnew : Tok) (spacing whole period height : Int) (ho : old.size = 4) (hn : new.size = 4) (news : List (Addr × Obj))
  (hR : RulesAt w news x true limit spacing whole) :
  LawClaim Challenge.rw_ez0014_01.row.prog w (hd.heap_39 w.params) p loose mean mg mb 261 news (True) [.ref x, .int height th, .bytes old told, .bytes new tnew] (fun _ => .bool true) := by
  obtain ⟨d, k0, k1, k2, k3, k4, k5, k6, k7, k8, k9, k10, k11, k12, k13, k14, k15, k16, v0, v1, v2, v3, v4, v5, v6, v9, v10, v13, v14, v15, v16, tl, tsp, tw, dn, h1, h2⟩ := hR
  intro dp un gd cn cs a ccd A₀ h₀ L m s Q E q1 q2 q3 q4 q5 qK qp qd qu qr
  exact c_mfree w mean mg mb loose x d k0 k1 k2 k3 k4 k5 k6 k7 k8 k9 k10 k11 k12 k13 k14 k15 k16 v0 v1 v2 v3 v4 v5 v6 v9 v10 v13 v14 v15 v16 limit old new tl tsp tw th told tnew spacing whole period height dn ho hn news dp un gd cn cs a ccd A₀ h₀ L m s Q E q1 q2 q3 (news_dup q4 h1 h2) q5 qK qp qd qu
    (fun t h' tk F N => qr t h' tk F (news_undup N))
theorem c_mneR {p : Program} (w : World) (mean : ExcName → Option Value) (mg mb : Str → Option Value) (loose : List Str) (x : Addr) (limit old new : Array UInt8) (th told tnew : Tok) (spacing whole period height : Int) (ho : old.size = 4) (hn : new.size = 4) (hs0 : 0 < spacing) (hs1 : spacing < 1073741824) (hw0 : 0 < whole) (hw1 : whole < 100000000) (hwp : whole / spacing = period) (hp0 : 0 < period) (hm : height % period ≠ 0) (news : List (Addr × Obj))
  (hR : RulesAt w news x false limit spacing whole) :
  LawClaim Challenge.rw_ez0014_01.row.prog w (hd.heap_39 w.params) p loose mean mg mb 261 news (True) [.ref x, .int height th, .bytes old told, .bytes new tnew] (fun _ => .bool (old.toList == new.toList)) := by
  obtain ⟨d, k0, k1, k2, k3, k4, k5, k6, k7, k8, k9, k10, k11, k12, k13, k14, k15, k16, v0, v1, v2, v3, v4, v5, v6, v9, v10, v13, v14, v15, v16, tl, tsp, tw, dn, h1, h2⟩ := hR
  intro dp un gd cn cs a ccd A₀ h₀ L m s Q E q1 q2 q3 q4 q5 qK qp qd qu qr
  exact c_mne w mean mg mb loose x d k0 k1 k2 k3 k4 k5 k6 k7 k8 k9 k10 k11 k12 k13 k14 k15 k16 v0 v1 v2 v3 v4 v5 v6 v9 v10 v13 v14 v15 v16 limit old new tl tsp tw th told tnew spacing whole period height dn ho hn hs0 hs1 hw0 hw1 hwp hp0 hm news dp un gd cn cs a ccd A₀ h₀ L m s Q E q1 q2 q3 (news_dup q4 h1 h2) q5 qK qp qd qu
    (fun t h' tk F N => qr t h' tk F (news_undup N))
theorem c_meqR {p : Program} (w : World) (mean : ExcName → Option Value) (mg mb : Str → Option Value) (loose : List Str) (x : Addr) (limit old new : Array UInt8) (th told tnew : Tok) (spacing whole period height : Int) (ho : old.size = 4) (hn : new.size = 4) (hs0 : 0 < spacing) (hs1 : spacing < 1073741824) (hw0 : 0 < whole) (hw1 : whole < 100000000) (hwp : whole / spacing = period) (hp0 : 0 < period) (hl4 : limit.size = 4) (hlw : worth limit < 115792089237316195423570985008687907853269984665640564039457584007913129639936) (how : worth old < 115792089237316195423570985008687907853269984665640564039457584007913129639936) (hnw : worth new < 115792089237316195423570985008687907853269984665640564039457584007913129639936) (hm : height % period = 0) (news : List (Addr × Obj))
  (hR : RulesAt w news x false limit spacing whole) :
  LawClaim Challenge.rw_ez0014_01.row.prog w (hd.heap_39 w.params) p loose mean mg mb 261 news (True) [.ref x, .int height th, .bytes old told, .bytes new tnew] (fun _ => .bool (decide (bnd (worth old) (whole / 4) whole (worth limit) ≤ worth new ∧ worth new ≤ bnd (worth old) (whole * 4) whole (worth limit)))) := by
  obtain ⟨d, k0, k1, k2, k3, k4, k5, k6, k7, k8, k9, k10, k11, k12, k13, k14, k15, k16, v0, v1, v2, v3, v4, v5, v6, v9, v10, v13, v14, v15, v16, tl, tsp, tw, dn, h1, h2⟩ := hR
  intro dp un gd cn cs a ccd A₀ h₀ L m s Q E q1 q2 q3 q4 q5 qK qp qd qu qr
  exact c_meq w mean mg mb loose x d k0 k1 k2 k3 k4 k5 k6 k7 k8 k9 k10 k11 k12 k13 k14 k15 k16 v0 v1 v2 v3 v4 v5 v6 v9 v10 v13 v14 v15 v16 limit old new tl tsp tw th told tnew spacing whole period height dn ho hn hs0 hs1 hw0 hw1 hwp hp0 hl4 hlw how hnw hm news dp un gd cn cs a ccd A₀ h₀ L m s Q E q1 q2 q3 (news_dup q4 h1 h2) q5 qK qp qd qu
    (fun t h' tk F N => qr t h' tk F (news_undup N))
end
section
section
variable {prog : Program} {w : World} {A : Around} {E : Value → Shared → Prop} {s : Shared} {env : Env} {st : Stmt} {rest : List Stmt} {Q : Flow → Shared → Prop} {h₀ : Heap} {L : Addr} {m : Str → Option Value} {news : List (Addr × Obj)}
def CutO (h₀ : Heap) (L : Addr) (m : Str → Option Value) (news : List (Addr × Obj)) (s : Shared) (x : Str) (P : List (Addr × Obj) → Addr → Prop) (f : Flow) (s' : Shared) : Prop :=
  f = .next ∧ ∃ (a : Addr) (h : Heap) (tk : Nat) (news' : List (Addr × Obj)), P news' a ∧ (∀ p ∈ news, p ∈ news') ∧ Fr h₀ L h (fun y => if y = x then some (.ref a) else m y) ∧ News h₀ L h news' ∧ s' = { s with heap := h, toks := tk }
theorem CutO.mk {x : Str} {P : List (Addr × Obj) → Addr → Prop} {a : Addr} {h : Heap} {tk : Nat} {news' : List (Addr × Obj)} (N : News h₀ L h news') (F : Fr h₀ L h (fun y => if y = x then some (.ref a) else m y)) (p : P news' a) (sub : ∀ p ∈ news, p ∈ news') : CutO h₀ L m news s x P .next { s with heap := h, toks := tk } :=
  ⟨rfl, a, h, tk, news', p, sub, F, N, rfl⟩
theorem cutO (x : Str) (P : List (Addr × Obj) → Addr → Prop) (_F : Fr h₀ L s.heap m) (_N : News h₀ L s.heap news)
    (h1 : wpAny (model prog w) A (exec st env) (CutO h₀ L m news s x P) E s)
    (h2 : ∀ a h tk news', P news' a → (∀ p ∈ news, p ∈ news') → Fr h₀ L h (fun y => if y = x then some (.ref a) else m y) → News h₀ L h news' → wpAny (model prog w) A (execs rest env) Q E { s with heap := h, toks := tk }) :
    wpAny (model prog w) A (execs (st :: rest) env) Q E s := wpAny_execs_cons (wpAny_mono h1 (fun f s' h => by
      obtain ⟨rfl, v, h, tk, n, a, b, c, d, rfl⟩ := h
      exact h2 v h tk n a b c d) fun _ _ e => e)
end
end
local macro_rules | `(tactic| walk_at "nowhere") => `(tactic| fail "nowhere")
section
abbrev envTop (dp un : Nat) (gd : Option (List Code)) (env : Env) (outer : List Env) : Around := { handled := none, depth := dp, frames := some (env :: outer), guards := gd, units := un }
abbrev EzClaimE (n : Nat) (prog : Program) (w : World) (K : Frag) (p : Program) (loose : List Str) (mean : ExcName → Option Value) (mg mb : Str → Option Value) (f : Addr) (news : List (Addr × Obj)) (pre : Prop) (vs : List Value) (R : Tok → Value) : Prop :=
  ∀ (dp un : Nat) (gd : Option (List Code)) (env : Env) (outer : List Env) (A₀ : Around) (base h₀ : Heap) (L : Addr) (m : Str → Option Value) (s : Shared) (Q E : Value → Shared → Prop),
    Below A₀ base outer h₀ → Fr h₀ L s.heap m → K.In h₀ → News h₀ L s.heap news → Top p loose mean mg mb h₀ → env.frame = some L → env.scope.kind = .function →
    pre → dp + n < recursionLimit → un + 10 * n < cLine → CbRet h₀ L m news s Q R →
      wpAny (model prog w) (envTop dp un gd env outer) (call (.ref f) vs) Q E s
abbrev EzRaiseE (n : Nat) (C : Addr) (prog : Program) (w : World) (K : Frag) (p : Program) (loose : List Str) (mean : ExcName → Option Value) (mg mb : Str → Option Value) (f : Addr) (news : List (Addr × Obj)) (pre : Prop) (vs : List Value) : Prop :=
  ∀ (dp un : Nat) (gd : Option (List Code)) (env : Env) (outer : List Env) (A₀ : Around) (base h₀ : Heap) (L : Addr) (m : Str → Option Value) (s : Shared) (Q E : Value → Shared → Prop),
    K.In base → Top p loose mean mg mb base → Below A₀ base outer h₀ → Fr h₀ L s.heap m → K.In h₀ → News h₀ L s.heap news → Top p loose mean mg mb h₀ → KtsDicts (outer.filterMap (·.frame)) h₀ → env.frame = some L → env.scope.kind = .function →
    pre → dp + n < recursionLimit → un + 10 * n < cLine →
    (∀ (g h' : Heap) (e t : Addr) (ws : List Value) (tk' : Nat), Fr h₀ L g m → RaisedS base g (env :: outer) e (.ref C) t ws news h' → RaisedK base (env :: outer) e (.ref C) t ws news h' → g.UpToSlots h' → E (.ref e) { s with heap := h', toks := tk' }) →
      wpAny (model prog w) (envTop dp un gd env outer) (call (.ref f) vs) Q E s
theorem kd_push {h₀ g : Heap} {L : Addr} {m : Str → Option Value} {env : Env} {outer : List Env} (F : Fr h₀ L g m) (hf : env.frame = some L) (D : KtsDicts (outer.filterMap (·.frame)) h₀) : KtsDicts ((env :: outer).filterMap (·.frame)) g := by
  intro b hb
  obtain ⟨e, he, hfb⟩ := List.mem_filterMap.mp hb
  rcases List.mem_cons.mp he with rfl | he
  · have hb' : L = b := Option.some.inj (hf.symm.trans hfb)
    subst hb'
    obtain ⟨o, es, ep, ho, hd, _⟩ := F.ns
    exact ⟨o, es, ep, ho, hd⟩
  · obtain ⟨o, es, n, ho, hd⟩ := D b (List.mem_filterMap.mpr ⟨e, he, hfb⟩)
    exact ⟨o, es, n, F.keep _ _ ho, hd⟩

local macro_rules | `(tactic| walk_at "call ref") => `(tactic| (k_here; (first | (with_reducible show wpAny _ _ (call (Value.ref (nat_lit 101)) [Value.bytes _ _] _) _ _ _) | (with_reducible show wpAny _ _ (call (Value.ref 101) [Value.bytes _ _] _) _ _ _)); k_dflt (refine' (c_tfb _ _ _ _ _ _ _ (by first | assumption | exact lform_size _) (by assumption) _) _ _ _ _ _ _ _ _ _ _ _ _ _ _ _ _ ?k1 ?k2 ?k3 ?k4 ?k5 ?kK ?kp ?kd ?ku ?_; (case k1 => k_asm); (case k2 => k_asm); (case k3 => k_asm); (case k4 => k_asm); (case k5 => k_asm); (case kK => first | exact rfl | assumption); (case kp => exact trivial); (case kd => ktr_room); (case ku => ktr_units)); intro t9 h9 tk9 F9 N9; (try dsimp only); (try k_sweep); (try k_fold); walk_say "BY CONTRACT c_tfb"))
set_option maxHeartbeats 4000000 in
theorem c_blockE {p : Program} (w : World) (mean : ExcName → Option Value) (mg mb : Str → Option Value) (loose : List Str) (b : Array UInt8) (tb : Tok) (hb : b.size = 4) (hw0 : 0 < worth b) (hw1 : worth b < 1000) (news : List (Addr × Obj)) :
  EzClaimE 6 Challenge.rw_ez0014_01.row.prog w (hd.heap_39 w.params) p loose mean mg mb 136 news (True) [.bytes b tb] (fun t => .int (115792089237316195423570985008687907853269984665640564039457584007913129639936 / (worth b + 1)) t) := by
  k_fill
  dsimp only [EzClaimE, CbLists, CbRet, envTop]
  intros
  rename_i hret
  have hw : worth b < 115792089237316195423570985008687907853269984665640564039457584007913129639936 := by omega
  have hz := be_size 32 (worth b)
  refine wpAny_call ?_
  k_dflt (refine' code_def ?k1 ?k2 ?k3 ?k4 ?k5 ?kA ?kF ?kK ?k6 ?k7 ?k8 ?k9 ?kB ?_ ?c2 ?c3 ?c4 ?c5; (case kA => exact rfl); (case kF => assumption); (case kK => assumption); (case k1 => k_asm); (case k2 => k_asm); (case k3 => k_asm); (case k4 => k_asm); (case k5 => k_asm); (case k6 => k_is); (case k7 => k_is); (case k8 => ktr_room); (case k9 => first | exact BindsTo.of_eq rfl | exact binds_K (by k_in) rfl (by k_is) rfl rfl rfl); (case c5 => decide); (case kB => exact locs rfl); (case c2 => exact rfl); (case c3 => exact rfl); (case c4 => exact rfl); k_whole; intro g' L' h' FG' F' N' B' X' T'; (try dsimp only); (try k_lift B'); (try k_fold))
  k_steps
  all_goals first | exact absurd (by assumption) (Int.ne_of_gt hw0) | skip
  all_goals refine cb_retI hret ?_ (by k_asm) (by first | k_asm | exact cb_drop (by assumption) (by repeat (first | exact sub_refl | refine sub_tail ?_ | refine sub_app ?_)))
  all_goals rfl
end
section
local macro_rules | `(tactic| walk_at "call ref") => `(tactic| (k_here; (first | (with_reducible show wpAny _ _ (call (Value.ref (nat_lit 101)) [Value.bytes _ _] _) _ _ _) | (with_reducible show wpAny _ _ (call (Value.ref 101) [Value.bytes _ _] _) _ _ _)); k_dflt (refine' (c_tfb _ _ _ _ _ _ _ (by first | assumption | exact lform_size _) (by assumption) _) _ _ _ _ _ _ _ _ _ _ _ _ _ _ _ _ ?k1 ?k2 ?k3 ?k4 ?k5 ?kK ?kp ?kd ?ku ?_; (case k1 => k_asm); (case k2 => k_asm); (case k3 => k_asm); (case k4 => k_asm); (case k5 => k_asm); (case kK => first | exact rfl | assumption); (case kp => exact trivial); (case kd => ktr_room); (case ku => ktr_units)); intro t9 h9 tk9 F9 N9; (try dsimp only); (try k_sweep); (try k_fold); walk_say "BY CONTRACT c_tfb"))
local macro_rules | `(tactic| walk_at "call ref") => `(tactic| (k_here; (first | (with_reducible show wpAny _ _ (call (Value.ref (nat_lit 66)) [Value.bytes _ _] _) _ _ _) | (with_reducible show wpAny _ _ (call (Value.ref 66) [Value.bytes _ _] _) _ _ _)); k_dflt (refine' (c_bfo0 _ _ _ _ _ _ _ _) _ _ _ _ _ _ _ _ _ _ _ _ _ _ _ _ ?k1 ?k2 ?k3 ?k4 ?k5 ?kK ?kp ?kd ?ku ?_; (case k1 => k_asm); (case k2 => k_asm); (case k3 => k_asm); (case k4 => k_asm); (case k5 => k_asm); (case kK => first | exact rfl | assumption); (case kp => exact trivial); (case kd => ktr_room); (case ku => ktr_units)); intro t9 h9 tk9 F9 N9; (try dsimp only); (try k_sweep); (try k_fold); walk_say "BY CONTRACT c_bfo0"))
local macro_rules | `(tactic| walk_at "getMethod bytes") => `(tactic| (k_here; (with_reducible refine getM_hex ?_)))
local macro_rules | `(tactic| walk_at "call builtin:bytes.hex") => `(tactic| (k_here; (with_reducible (refine' call_hex ?eza ?_; (case eza => omega))); intro _ _ _ hx'))
local macro_rules | `(tactic| walk_at "joinParts") => `(tactic| (k_here; (first | (with_reducible show wpAny _ _ (joinParts _ []) _ _ _) | ((with_reducible show wpAny _ _ (joinParts _ (evalEach [] _)) _ _ _); with_reducible refine joinParts_nilE ?_)); (with_reducible refine' joinParts_nil ?_ (fit_ok ?ezl));  (case ezl => with_reducible repeat (first | exact emp_ok | assumption | exact lit_len _ (by decide +kernel) | refine app_ok ?_ ?_))))
local macro_rules | `(tactic| walk_at "And") => `(tactic| (k_here; (with_reducible show PySem.Str.length _ ≤ _ ∧ _); k_dflt (refine' And.intro (fit_ok ?ezl) ?_; (case ezl => with_reducible repeat (first | exact emp_ok | assumption | exact lit_len _ (by decide +kernel) | refine app_ok ?_ ?_)))))
set_option maxHeartbeats 4000000 in
theorem c_workEE {p : Program} (w : World) (mean : ExcName → Option Value) (mg mb : Str → Option Value) (loose : List Str) (b : Array UInt8) (tb : Tok)
  (hb : b.size = 4) (hw0 : worth b = 0) (news : List (Addr × Obj)) :
  EzRaiseE 6 44 Challenge.rw_ez0014_01.row.prog w (hd.heap_39 w.params) p loose mean mg mb 136 news True [.bytes b tb] := by
  k_fill
  dsimp only [EzRaiseE, CbLists, envTop]
  intro dp un gd env outer A₀ base h₀ L m s Q E XB TB B0 F0 X0 N0 T0 D0 hf hke _ hdp hun hret
  have hw : worth b < 115792089237316195423570985008687907853269984665640564039457584007913129639936 := by rw [hw0]; decide
  have hwn := worth_nonneg b
  have hz := be_size 32 (worth b)
  refine wpAny_call ?_
  k_dflt (refine' code_def ?k1 ?k2 ?k3 ?k4 ?k5 ?kA ?kF ?kK ?k6 ?k7 ?k8 ?k9 ?kB ?_ ?c2 ?c3 ?c4 ?c5; (case kA => exact rfl); (case kF => assumption); (case kK => assumption); (case k1 => k_asm); (case k2 => k_asm); (case k3 => k_asm); (case k4 => k_asm); (case k5 => k_asm); (case k6 => k_is); (case k7 => k_is); (case k8 => ktr_room); (case k9 => first | exact BindsTo.of_eq rfl | exact binds_K (by k_in) rfl (by k_is) rfl rfl rfl); (case c5 => decide); (case kB => exact locs rfl); (case c2 => exact rfl); (case c3 => exact rfl); (case c4 => exact rfl); k_whole; intro g' L' h' FG' F' N' B' X' T'; (try dsimp only); (try k_lift B'); (try k_fold))
  have D' := kd_push FG' hf D0
  k_steps
  · exact absurd hw0 (by assumption)
  all_goals (
    (rename RaisedS _ _ _ _ _ _ _ _ _ => S9)
    (rename Heap.UpToSlots _ _ => U9)
    have S8 := raisedS_drop (news := news) (by repeat (first | exact sub_refl | refine sub_tail ?_ | refine sub_app ?_)) S9
    exact hret _ _ _ _ _ _ FG' S8 S8.toK U9)
end
section
section
variable {prog : Program} {w : World} {A : Around} {E : Value → Shared → Prop} {s : Shared}
/-- what a test of an exception against StopIteration answers here -/
def NoStop (prog : Program) (w : World) (e : Addr) (s : Shared) : Prop := ∀ (A : Around) (Q : Bool → Shared → Prop) (E : Value → Shared → Prop), Q false s → wpAny (model prog w) A (isInstance (.ref e) (.type "StopIteration")) Q E s
theorem pyNextG {a : Addr} {g n : Nat} {gs : GenState} {R : GenEnd} {Y : Protocol} {Q : Option Value → Shared → Prop} (hh : A.handled = none)
    (hl : s.heap.NoLimit) (hroom : A.depth < recursionLimit)
    (hg : s.heap.IsGen a g) (hgs : s.gens[g]? = some gs)
    (hgo : gs.Goes (model prog w) A.in1 R Y n (.send .none) (s.setGen g .running))
    (hY : ∀ v s₁ gs', gs'.bare = true → Y (n - 1) (s.setGen g .running) v s₁ (fun r' s'' => match n with
        | 0 => False
        | m + 1 => gs'.Goes (model prog w) A.in1 R Y m r' s'') → Q (some v) (s₁.setGen g gs'))
    (hR : ∀ r s₁, R n (s.setGen g .running) r s₁ →
      (r = .ok .next ∧ ∀ h', (∀ b o, s₁.heap.get? b = some o → h'.get? b = some o) → Q none { s₁.setGen g .finished with heap := h' }) ∨
      (∃ e, r = .error (.ref e) ∧ s₁.heap.IsGen a g ∧ NoStop prog w e (s₁.setGen g .finished) ∧ E (.ref e) (s₁.setGen g .finished))) :
    wpAny (model prog w) A (pyNext (.ref a)) Q E s := by
  unfold pyNext
  refine wpAny_bind (wpAny_attempt (wpAny_callSpecial?_slot (name := Str.ofString "__next__") hg.typeIs slot_gen_next
    (wpAny_call_entry slot_gen_next hg.typeIs entry_gen_next ?_ (args_gen_next _))))
  show wpAny _ A.in1 (Builtin.Generator.genWake (.ref a) (.send .none)) _ _ s
  unfold Builtin.Generator.genWake
  refine wpAny_bind (wpAny_holding (wpAny_genNumber hg (wpAny_bind (wpAny_genState hgs ?_))))
  cases gs with
  | running => exact hgo.elim
  | finished => exact hgo.elim
  | _ =>
    refine wpAny_bind (wpAny_roomToWake hl hroom ?_)
    show wpAny _ A.in1 (.resume g (.send .none) [] _) _ _ s
    refine wpAny_resumeQ hgs hgo (fun x s₁ hx => ?_) (fun v s₁ gs' hb hv => ?_)
    · rcases hR x s₁ hx with ⟨rfl, hq⟩ | ⟨e, rfl, hgen, hin, hE⟩
      · show wpAny _ A.in1 (newExc (.type "StopIteration") [] >>= _) _ _ _
        refine wpAny_bind ?_
        simp only [newExc, newTuple]
        refine wpAny_bind (wpAny_newObj_type ?_ (by size_fits))
        refine wpAny_bind (m := firstArgMember _ _) (wpAny_of_eq (a := Value.none) (by first | rfl | (simp only [firstArgMember]; rfl)) ?_)
        refine wpAny_newObj_type ?_ (by size_fits)
        simp only [raiseNew]
        refine wpAny_bind (wpAny_bind (wpAny_handled ?_))
        first | rw [show A.in1.handled = none from hh] | rw [hh]
        refine wpAny_throw ?_
        refine wpAny_bind (wpAny_isInstance (T := "StopIteration") (b := true) ⟨_, Heap.get?_push_size _ rfl, rfl⟩ isSubtype_stop ?_)
        exact wpAny_pure (hq _ fun b o hb => Heap.get?_push_of_some _ (Heap.get?_push_of_some _ hb))
      · show wpAny _ A.in1 (Builtin.Generator.genLeft (.ref a) (.ref e)) _ _ _
        obtain ⟨o, nm, qn, ho, hc, hd, hsl⟩ := hgen
        have hmade : ∀ (Q' : Bool → Shared → Prop) (E' : Value → Shared → Prop), Q' false (s₁.setGen g .finished) → wpAny (model prog w) A.in1 (Builtin.Generator.madeByALambda (.ref a)) Q' E' (s₁.setGen g .finished) := by
          intro Q' E' hq
          unfold Builtin.Generator.madeByALambda
          refine wpAny_bind (wpAny_load ho (wpAny_pure ?_))
          rw [hd]
          have : ((o.cls == Value.type "generator") && (#[Value.int (g : Int) 0, nm, qn][3]? == some (Value.bool true))) = false := by
            simp
          simpa using hq
        unfold Builtin.Generator.genLeft
        refine wpAny_bind (hmade _ _ ?_)
        refine wpAny_bind (hin _ _ _ ?_)
        simp only [Bool.and_self, Bool.false_eq_true, if_false]
        unfold Builtin.Generator.genEscaped
        refine wpAny_bind (hin _ _ _ ?_)
        simp only [Bool.not_false, if_true]
        refine wpAny_bind (wpAny_throw ?_)
        show wpAny _ A (isInstance (.ref e) (.type "StopIteration") >>= _) _ _ _
        refine wpAny_bind (hin _ _ _ ?_)
        simp only [Bool.false_eq_true, if_false]
        exact wpAny_throw hE
    · exact wpAny_pure ⟨v, rfl, wpAny_pure (hY v s₁ gs' hb hv)⟩
end
end
section
def accO (n : Int) (t : Tok) (c : Nat) : Obj := { cls := .type "list", dict := none, data := .seq #[.int n t] c, slots := #[] }
section
variable {prog : Program} {w : World} {A : Around} {R : Result → Shared → Prop}
/-- a walk whose values are told ahead, and that may end in an exception; S is kept by it -/
structure Told9 (prog : Program) (w : World) (A : Around) (a S : Addr) (St : Obj → List Int → Bool → Shared → Prop) (Done : Shared → Prop) (Bad : Obj → Addr → Shared → Prop) : Prop where
  item : ∀ (so : Obj) (v : Int) (vals : List Int) (bad : Bool) (s : Shared) (Q : Option Value → Shared → Prop) (E : Value → Shared → Prop), St so (v :: vals) bad s → (∀ t s', St so vals bad s' → Q (some (.int v t)) s') → wpAny (model prog w) A (pyNext (.ref a)) Q E s
  done : ∀ (so : Obj) (s : Shared) (Q : Option Value → Shared → Prop) (E : Value → Shared → Prop), St so [] false s → (∀ s', Done s' → Q none s') → wpAny (model prog w) A (pyNext (.ref a)) Q E s
  bad : ∀ (so : Obj) (s : Shared) (Q : Option Value → Shared → Prop) (E : Value → Shared → Prop), St so [] true s → (∀ e s', Bad so e s' → E (.ref e) s') → wpAny (model prog w) A (pyNext (.ref a)) Q E s
  get : ∀ (so : Obj) (vals : List Int) (bad : Bool) (s : Shared), St so vals bad s → s.heap.get? S = some so
  set : ∀ (so so' : Obj) (vals : List Int) (bad : Bool) (s : Shared) (h' : Heap) (tk : Nat), St so vals bad s → Heap.SameBut S s.heap h' → h'.get? S = some so' → St so' vals bad { s with heap := h', toks := tk }
  bget : ∀ (so : Obj) (e : Addr) (s : Shared), Bad so e s → s.heap.get? S = some so
theorem sum_loop9 {a S : Addr} {St : Obj → List Int → Bool → Shared → Prop} {Done : Shared → Prop} {Bad : Obj → Addr → Shared → Prop} (W : Told9 prog w A.in1 a S St Done Bad) (bad : Bool) :
    ∀ (vals : List Int) (s : Shared) (acc : Int) (tA : Tok) (c : Nat) (st : Int), (st = 0 ∨ st = 2) → St (accO acc tA c) vals bad s →
    (bad = false → ∀ s' t, Done s' → R (.ok (.ret (.int (acc + vals.sum) t))) s') →
    (bad = true → ∀ so e s' n t c, so = accO n t c → Bad so e s' → R (.error (.ref e)) { s' with heap := s'.heap.update S (Obj.mapSeq fun _ => #[]) }) →
      codeAny (model prog w) A (.builtin "sum.loop" ⟨[.ref a, .ref S, rawInt st, rawInt 0], []⟩) R s := by
  intro vals
  induction vals with
  | nil =>
    intro s acc tA c st hst2 hst hok hbad
    have hS := W.get _ _ _ _ hst
    refine codeAny_builtin F.entry_sum_loop ?_
    rw [Around.under_plainId F.plain_sum_loop _]
    show wpAny _ A.in1 (seqItems? (.ref S) >>= _) _ _ s
    refine wpAny_bind (wpAny_seqItems hS rfl ?_)
    show wpAny _ A.in1 (tryCatch (pyNext (.ref a)) _ >>= _) _ _ s
    cases bad with
    | false =>
      refine wpAny_bind (wpAny_tryCatch (W.done _ s _ _ hst fun s' hd => ?_))
      have := hok rfl s' tA hd
      simp only [List.sum_nil, Int.add_zero] at this
      exact wpAny_pure this
    | true =>
      refine wpAny_bind (wpAny_tryCatch (W.bad _ s _ _ hst fun e s' hb => ?_))
      refine wpAny_bind (wpAny_updateSeq (W.bget _ _ _ hb) rfl ?_)
      refine wpAny_bind (wpAny_letGo ?_)
      exact wpAny_throw (hbad rfl _ _ _ _ _ _ rfl hb)
  | cons v vals ih =>
    intro s acc tA c st hst2 hst hok hbad
    have hS := W.get _ _ _ _ hst
    refine codeAny_builtin F.entry_sum_loop ?_
    rw [Around.under_plainId F.plain_sum_loop _]
    show wpAny _ A.in1 (seqItems? (.ref S) >>= _) _ _ s
    refine wpAny_bind (wpAny_seqItems hS rfl ?_)
    show wpAny _ A.in1 (tryCatch (pyNext (.ref a)) _ >>= _) _ _ s
    refine wpAny_bind (wpAny_tryCatch (W.item _ v vals bad s _ _ hst fun t s' hst' => ?_))
    have hS' := W.get _ _ _ _ hst'
    have hok' : bad = false → ∀ s' t, Done s' → R (.ok (.ret (.int (acc + v + vals.sum) t))) s' := fun hb s' t hd => by
      have := hok hb s' t hd
      rw [List.sum_cons, ← Int.add_assoc] at this
      exact this
    have plain : wpAny (model prog w) A.in1 ((holding [Value.int v t] (binaryOp .Add (.int acc tA) (.int v t))).attempt >>= fun r => match r with
        | .ok r => do updateSeq S (fun _ => #[r]); letGo [.int acc tA, .int v t]; updateSeq S (fun _ => #[r]); again (.builtin "sum.loop" ⟨[.ref a, .ref S, rawInt 2, rawInt 0], []⟩)
        | .error e => do updateSeq S (fun _ => #[]); letGo [.int acc tA, .int v t] [e]; throw e)
        (fun fin s' => match fin with | .done f => R (.ok f) s' | .again c' => c'.quiet = true ∧ codeAny (model prog w) A c' R s') (fun e s' => R (.error e) s') s' := by
      refine wpAny_bind (wpAny_attempt (wpAny_holding (wpAny_add_int ?_)))
      show wpAny _ A.in1 (updateSeq S (fun _ => #[.int (acc + v) s'.toks]) >>= _) _ _ _
      refine wpAny_bind (wpAny_updateSeq hS' rfl ?_)
      have hS₂ := Heap.get?_update_self (Obj.mapSeq fun _ => #[Value.int (acc + v) s'.toks]) hS' rfl
      refine wpAny_bind (wpAny_letGo ?_)
      refine wpAny_bind (wpAny_updateSeq hS₂ rfl (wpAny_pure ⟨plainId_quiet F.plain_sum_loop _, ih _ (acc + v) s'.toks _ 2 (.inr rfl) (W.set _ _ vals bad s' _ _ hst' ?_ (Heap.get?_update_self _ hS₂ rfl)) hok' hbad⟩))
      exact ⟨(Heap.SameBut.update ..).1.trans (Heap.SameBut.update ..).1, fun b hb => ((Heap.SameBut.update ..).2 b hb).trans ((Heap.SameBut.update ..).2 b hb)⟩
    rcases hst2 with rfl | rfl
    · show wpAny _ A.in1 (if (_ : Bool) = true then (mkInt (acc + v) >>= _) else _) _ _ _
      split
      · refine wpAny_bind (wpAny_mkInt ?_)
        show wpAny _ A.in1 (updateSeq S (fun _ => #[.int (acc + v) s'.toks]) >>= _) _ _ _
        refine wpAny_bind ?_
        refine wpAny_updateSeq hS' rfl (wpAny_pure ⟨plainId_quiet F.plain_sum_loop _, ih _ (acc + v) s'.toks _ 0 (.inl rfl) (W.set _ _ vals bad s' _ _ hst' (Heap.SameBut.update ..) (Heap.get?_update_self _ hS' rfl)) hok' hbad⟩)
      · refine wpAny_bind (wpAny_rule ?_)
        exact plain
    · exact plain
end
end
section
def yl : List (Option Int) → Nat
  | some _ :: r => yl r + 1
  | _ => 0
def valz : List (Option Int) → List Int
  | some v :: r => v :: valz r
  | _ => []
def bads : List (Option Int) → Bool
  | some _ :: r => bads r
  | none :: _ => true
  | [] => false
/-- the heap amid a generator's turns: hh is kept but for the iterator I; C is the code's frame, ga the generator, S the sum's cell -/
structure Gh (hh : Heap) (I C l ga S : Addr) (go : Obj) (i : Nat) (so : Obj) (h : Heap) : Prop where
  keep : ∀ b o, hh.get? b = some o → b ≠ I → h.get? b = some o
  ns : ∃ m, h.Ns C m
  gen : h.get? ga = some go
  acc : h.get? S = some so
  iter : h.IsListIter I l i
section
variable {prog : Program} {w : World} {A : Around} {hh : Heap} {I C l ga S : Addr} {go : Obj} {items : Array Value} {vals : List (Option Int)} {elt iter : PySem.Expr} {x : Str} {px pos : Pos} {scope : Scope} {cenv : Env}
  {BadC Bad : Obj → Addr → Heap → Prop}
abbrev genC (elt iter : PySem.Expr) (x : Str) (px pos : Pos) (scope : Scope) (I : Addr) (cenv : Env) : Code := .compLoop (.GeneratorExp elt [⟨.Name x px, iter, [], 0⟩] scope pos) 0 (.ref I) .none cenv
abbrev genS (elt iter : PySem.Expr) (x : Str) (px pos : Pos) (scope : Scope) (I : Addr) (cenv : Env) : Code := .compStart (.GeneratorExp elt [⟨.Name x px, iter, [], 0⟩] scope pos) 0 (.ref I) .none cenv
def RG (hh : Heap) (I S : Addr) (vals : List (Option Int)) (Bad : Obj → Addr → Heap → Prop) : GenEnd := fun n s₀ r s₁ => n = 0 ∧ ∃ h tk, s₁ = { s₀ with heap := h, toks := tk } ∧
  ((r = .ok .next ∧ bads vals = false ∧ ∀ b o, hh.get? b = some o → b ≠ I → h.get? b = some o) ∨ ∃ e, r = .error (.ref e) ∧ bads vals = true ∧ ∀ so, s₀.heap.get? S = some so → Bad so e h)
def YG (hh : Heap) (I C l ga S : Addr) (go : Obj) (vals : List (Option Int)) : Protocol := fun n s₀ v s kap => ∃ h tk, s = { s₀ with heap := h, toks := tk } ∧ ∃ i r t, vals[i]? = some (some r) ∧ yl vals = i + 1 + n ∧ yl (vals.drop (i + 1)) = n ∧ v = .int r t ∧
  (∀ so, s₀.heap.get? S = some so → Gh hh I C l ga S go (i + 1) so h) ∧ ∀ (s'' : Shared) so, Gh hh I C l ga S go (i + 1) so s''.heap → kap (.send .none) s''
/-- what the element does, and what the frame does behind a raise -/
structure EltG (prog : Program) (w : World) (B : Around) (hh : Heap) (I C l ga S : Addr) (go : Obj) (items : Array Value) (vals : List (Option Int)) (elt : PySem.Expr) (x : Str) (cenv : Env) (BadC Bad : Obj → Addr → Heap → Prop) : Prop where
  elt : ∀ (i : Nat) (v : Value) (o : Option Int) (so : Obj) (s : Shared) (m : Str → Option Value) (Q E : Value → Shared → Prop), items[i]? = some v → vals[i]? = some o → Gh hh I C l ga S go (i + 1) so s.heap → s.heap.Ns C m → m x = some v →
    (∀ r, o = some r → ∀ t h' tk', Gh hh I C l ga S go (i + 1) so h' → Q (.int r t) { s with heap := h', toks := tk' }) → (o = none → ∀ e h' tk', BadC so e h' → E (.ref e) { s with heap := h', toks := tk' }) → wpAny (model prog w) B (eval elt cenv) Q E s
  leave : ∀ (so : Obj) (e : Addr) (s : Shared) (Q : Unit → Shared → Prop) (E : Value → Shared → Prop), BadC so e s.heap → (∀ h', Bad so e h' → Q () { s with heap := h' }) → wpAny (model prog w) B (leaving cenv (.ref e)) Q E s
theorem seg_turns (hA : A.handled = none) (hlen : items.size = vals.length) (hl : hh.IsList l items) (hlI : l ≠ I) (hCI : C ≠ I) (hga : ga ≠ I ∧ ga ≠ C) (hS : S ≠ I ∧ S ≠ C) (hhC : hh.get? C = none) (hcl : cenv.locals = C)
    (hx : cenv.kindOf x = some .local) (hp : (cenv.scope.kind == .class || (cenv.scope.kind == .module && cenv.locals != cenv.globals)) = false) (hco : cenv.scope.isCoroutine = false)
    (W : EltG prog w (A.over (genC elt iter x px pos scope I cenv) []) hh I C l ga S go items vals elt x cenv BadC Bad) :
    ∀ (rest : List (Option Int)) (i : Nat) (s₀ s : Shared) (so : Obj), vals.drop i = rest → i ≤ vals.length → yl vals = i + yl rest → bads vals = bads rest → Gh hh I C l ga S go i so s.heap → (∃ h tk, s = { s₀ with heap := h, toks := tk }) → s₀.heap.get? S = some so →
      Seg (model prog w) A (RG hh I S vals Bad) (YG hh I C l ga S go vals) (yl rest) s₀ (genC elt iter x px pos scope I cenv) ((model prog w).den (genC elt iter x px pos scope I cenv)) [] s := by
  have hA' : (A.over (genC elt iter x px pos scope I cenv) []).handled = none := hA
  have hlist : ∀ i so h, Gh hh I C l ga S go i so h → h.IsList l items := fun i so h g => by
    obtain ⟨o, ho, r⟩ := hl
    exact ⟨o, g.keep _ _ ho hlI, r⟩
  intro rest
  induction rest with
  | nil =>
    intro i s₀ s so hd hi hyl hbd hg hs hso
    have hin : items[i]? = none := by
      have := List.drop_eq_nil_iff.mp hd
      simp only [Array.getElem?_eq_none_iff]; omega
    show Seg _ A _ _ _ s₀ _ ((compTurn (.GeneratorExp elt [⟨.Name x px, iter, [], 0⟩] scope pos) 0 (.ref I) .none cenv).onRaise (leaving cenv)) [] s
    rw [compTurn_gen, Sem.onRaise_eq_wrap]
    refine seg_bind_wrap (wpAny_standAt ?_)
    refine seg_bind_wrap (wpAny_pyNext_list_end hA' hg.iter (hlist _ _ _ hg) hin fun h' he' => ?_)
    obtain ⟨h₁, tk₁, rfl⟩ := hs
    exact seg_end (.ok .next) ⟨rfl, h', tk₁, rfl,   .inl ⟨rfl, hbd, fun b o e hb => he' b o hb (hg.keep b o e hb)⟩⟩
  | cons o rest ih =>
    intro i s₀ s so hd hi hyl hbd hg hs hso
    have hvi : vals[i]? = some o := by
      have := congrArg (fun z => z[0]?) hd
      simpa [List.getElem?_drop] using this
    have hlt : i < vals.length := (List.getElem?_eq_some_iff.mp hvi).1
    have hit : items[i]? = some (items[i]'(by omega)) := by simp
    have hd' : vals.drop (i + 1) = rest := by
      have := congrArg (List.drop 1) hd
      simpa [List.drop_drop, Nat.add_comm] using this
    show Seg _ A _ _ _ s₀ _ ((compTurn (.GeneratorExp elt [⟨.Name x px, iter, [], 0⟩] scope pos) 0 (.ref I) .none cenv).onRaise (leaving cenv)) [] s
    rw [compTurn_gen, Sem.onRaise_eq_wrap]
    refine seg_bind_wrap (wpAny_standAt ?_)
    refine seg_bind_wrap (wpAny_pyNext_list_item hg.iter (hlist _ _ _ hg) hit fun h₁ hit₁ hs₁ => ?_)
    refine seg_bind_wrap (wpAny_of_eq (rfl : letOwnedTupleGo (.Name x px) (.ref I) _ = pure ()) ?_)
    obtain ⟨m₀, hns₀⟩ := hg.ns
    have hns₁ : h₁.Ns cenv.locals m₀ := by rw [hcl]; exact hns₀.sameBut hs₁ hCI
    refine seg_bind_wrap (wpAny_assign_Name (wpAny_storeName_local hx hns₁ (fun h₂ hn₂ hs₂ => ?_) hp))
    rw [hcl] at hn₂ hs₂
    have hg₂ : Gh hh I C l ga S go (i + 1) so h₂ := by
      refine ⟨fun b o' e hb => ?_, ⟨_, hn₂⟩, ?_, ?_, hit₁.extBut hs₂.extBut (Ne.symm hCI)⟩
      · have hbC : b ≠ C := fun z => by rw [z, hhC] at e; cases e
        exact hs₂.extBut b o' hbC (hs₁.extBut b o' hb (hg.keep b o' e hb))
      · exact hs₂.extBut _ _ hga.2 (hs₁.extBut _ _ hga.1 hg.gen)
      · exact hs₂.extBut _ _ hS.2 (hs₁.extBut _ _ hS.1 hg.acc)
    simp only [List.forIn_nil]
    refine seg_bind_wrap (wpAny_pure ?_)
    simp only [if_true]
    have hy : ∀ v, yieldOut cenv v = yieldValue v := fun v => by simp only [yieldOut, hco, Bool.false_eq_true, if_false]
    simp only [hy]
    rw [Sem.bind_eq_wrap', Sem.bind_eq_wrap', Sem.wrap_wrap, Sem.wrap_wrap]
    obtain ⟨h₀', tk₀', rfl⟩ := hs
    refine seg_wrap (W.elt i _ o so _ _ _ _ hit hvi hg₂ hn₂ (by simp) (fun r hr t h' tk' hg' => ?_) (fun hr e h' tk' hb => ?_))
    · subst hr
      have hyl' : yl vals = i + 1 + yl rest := by rw [hyl]; simp only [yl]; omega
      refine seg_at (seg_yield rfl rfl rfl ⟨h', tk', rfl, i, r, t, hvi, hyl', by rw [hd'], rfl, fun so' e' => ?_, fun s'' so' hg'' => ?_⟩)
      · rw [hso] at e'
        cases e'
        exact hg'
      · exact seg_again rfl (ih (i + 1) s'' s'' so' hd' hlt hyl' hbd hg'' ⟨_, _, rfl⟩ hg''.acc)
    · subst hr
      show Seg _ A _ _ 0 s₀ _ ((leaving cenv (.ref e)).bind _) [] _
      rw [Sem.bind_eq_wrap]
      refine seg_wrap (W.leave so e _ _ _ hb fun h'' hb' => ?_)
      refine seg_end (.error (.ref e)) ⟨rfl, h'', tk', rfl, .inr ⟨e, rfl, hbd, fun so' e' => ?_⟩⟩
      rw [hso] at e'
      cases e'
      exact hb'
end
end
section
theorem gen_only_bare {g : Nat} {a b : Array GenState} {x : GenState} (h : GenOnly g a b) (hb : b[g]? = some x) (hx : x.bare = true) (ha : ∀ k y, k ≠ g → a[k]? = some y → y.bare = true) : ∀ y ∈ b, y.bare = true := by
  intro y hy
  obtain ⟨i, hi, rfl⟩ := Array.mem_iff_getElem.mp hy
  by_cases e : i = g
  · subst e
    have := Array.getElem?_eq_getElem hi
    rw [hb] at this
    cases this
    exact hx
  · exact ha i _ e ((h.2 i e).symm.trans (Array.getElem?_eq_getElem hi))
section
variable {prog : Program} {w : World} {A : Around} {hh : Heap} {I C l ga S : Addr} {go : Obj} {items : Array Value} {vals : List (Option Int)} {elt iter : PySem.Expr} {x : Str} {px pos : Pos} {scope : Scope} {cenv : Env}
  {BadC Bad : Obj → Addr → Heap → Prop} {s₀ : Shared} {gno : Nat}
def StG (prog : Program) (w : World) (A : Around) (hh : Heap) (I C l ga S : Addr) (go : Obj) (vals : List (Option Int)) (Bad : Obj → Addr → Heap → Prop) (s₀ : Shared) (gno : Nat) (so : Obj) (zs : List Int) (bad : Bool) (s : Shared) : Prop :=
  ∃ h tk gens gs i, s = { s₀ with heap := h, toks := tk, gens := gens } ∧ GenOnly gno s₀.gens gens ∧ gens[gno]? = some gs ∧ Gh hh I C l ga S go i so h ∧ i ≤ vals.length ∧ yl vals = i + yl (vals.drop i) ∧ valz (vals.drop i) = zs ∧ bads vals = bad ∧ bads vals = bads (vals.drop i) ∧
    ∀ (s'' : Shared) so', Gh hh I C l ga S go i so' s''.heap → gs.Goes (model prog w) A.in1 (RG hh I S vals Bad) (YG hh I C l ga S go vals) (yl (vals.drop i)) (.send .none) s''
def DoneG (hh : Heap) (I : Addr) (s₀ : Shared) (gno : Nat) (s : Shared) : Prop :=
  ∃ h tk gens, s = { s₀ with heap := h, toks := tk, gens := gens } ∧ GenOnly gno s₀.gens gens ∧ gens[gno]? = some .finished ∧ ∀ b o, hh.get? b = some o → b ≠ I → h.get? b = some o
def BadG (Bad : Obj → Addr → Heap → Prop) (s₀ : Shared) (gno : Nat) (so : Obj) (e : Addr) (s : Shared) : Prop :=
  ∃ h tk gens, s = { s₀ with heap := h, toks := tk, gens := gens } ∧ GenOnly gno s₀.gens gens ∧ gens[gno]? = some .finished ∧ Bad so e h
theorem yl_nil {v : List (Option Int)} (h : valz v = []) : yl v = 0 := by
  match v with
  | [] => rfl
  | none :: _ => rfl
  | some _ :: r => cases h
theorem told_gen (hA : A.handled = none) (hroom : A.depth < recursionLimit) (hl : hh.NoLimit) (hIs : cStatics ≠ I) (hgo : ∀ h : Heap, h.get? ga = some go → h.IsGen ga gno) (hSI : S ≠ I) (hSC : S ≠ C) (hSg : S ≠ ga)
    (hhS : hh.get? S = none)
    (hb1 : ∀ so e h, Bad so e h → h.get? S = some so) (hb2 : ∀ so e h, Bad so e h → h.get? ga = some go) (hb3 : ∀ so e (s : Shared), Bad so e s.heap → NoStop prog w e s) :
    Told9 prog w A ga S (StG prog w A hh I C l ga S go vals Bad s₀ gno) (DoneG hh I s₀ gno) (BadG Bad s₀ gno) where
  item := by
    rintro so v zs bad s Q E ⟨h, tk, gens, gs, i, rfl, hG, hgs, hg, hi, hyl, hz, hbad, hbd, hgoes⟩ hQ
    have hlim : h.NoLimit := by
      obtain ⟨mc, ⟨o, es, ep, ho, r⟩, hn⟩ := hl
      exact ⟨mc, ⟨o, es, ep, hg.keep _ _ ho hIs, r⟩, hn⟩
    obtain ⟨o, rest, hd⟩ : ∃ o rest, vals.drop i = some o :: rest := by
      cases hq : vals.drop i with
      | nil => rw [hq] at hz; cases hz
      | cons y r =>
        cases y with
        | none => rw [hq] at hz; cases hz
        | some o => exact ⟨o, r, rfl⟩
    rw [hd] at hz hyl hbd
    simp only [valz, List.cons.injEq] at hz
    obtain ⟨rfl, rfl⟩ := hz
    have hd' : vals.drop (i + 1) = rest := by
      have := congrArg (List.drop 1) hd
      simpa [List.drop_drop, Nat.add_comm] using this
    have hlt : i < vals.length := by
      rcases Nat.lt_or_ge i vals.length with h | h
      · exact h
      · rw [List.drop_eq_nil_of_le h] at hd; cases hd
    have hvi : vals[i]? = some (some o) := by
      have := congrArg (fun z => z[0]?) hd
      simpa [List.getElem?_drop] using this
    refine pyNextG (n := yl rest + 1) (R := RG hh I S vals Bad) (Y := YG hh I C l ga S go vals) hA hlim hroom (hgo _ hg.gen) hgs ?_ (fun v₁ s₁ gs' _ hv => ?_) (fun r s₁ hr => ?_)
    · have := hgoes ({ s₀ with heap := h, toks := tk, gens := gens }.setGen gno .running) so hg
      rw [hd] at this
      exact this
    · obtain ⟨h₁, tk₁, rfl, j, r, t, hvj, hy1, hy2, rfl, hgh, hkap⟩ := hv
      have hj : j = i := by simp only [yl] at hyl; omega
      subst hj
      rw [hvi] at hvj
      obtain rfl := Option.some.inj (Option.some.inj hvj)
      refine hQ t _ ⟨h₁, tk₁, _, gs', j + 1, rfl, (hG.trans ((GenOnly.setGen { s₀ with heap := h, toks := tk, gens := gens } gno .running).trans (GenOnly.setGen _ gno gs'))), setGen_self (gs := .running) (setGen_self hgs), hgh _ hg.acc, hlt, ?_, ?_, hbad, ?_, ?_⟩
      · rw [hd']; simp only [yl] at hyl; omega
      · rw [hd']
      · rw [hd']; exact hbd
      · intro s'' so' hg''
        rw [hd']
        exact hkap s'' so' hg''
    · obtain ⟨h0, _⟩ := hr
      cases h0
  done := by
    rintro so s Q E ⟨h, tk, gens, gs, i, rfl, hG, hgs, hg, hi, hyl, hz, hbad, hbd, hgoes⟩ hQ
    have hlim : h.NoLimit := by
      obtain ⟨mc, ⟨o, es, ep, ho, r⟩, hn⟩ := hl
      exact ⟨mc, ⟨o, es, ep, hg.keep _ _ ho hIs, r⟩, hn⟩
    have hy0 := yl_nil hz
    refine pyNextG (n := 0) (R := RG hh I S vals Bad) (Y := YG hh I C l ga S go vals) hA hlim hroom (hgo _ hg.gen) hgs ?_ (fun v₁ s₁ gs' _ hv => ?_) (fun r s₁ hr => ?_)
    · have := hgoes ({ s₀ with heap := h, toks := tk, gens := gens }.setGen gno .running) so hg
      rw [hy0] at this
      exact this
    · obtain ⟨h₁, tk₁, rfl, j, r, t, hvj, hy1, hy2, rfl, hgh, hkap⟩ := hv
      exact (hkap { s₀ with heap := h₁ } _ (hgh _ hg.acc)).elim
    · obtain ⟨_, h₁, tk₁, rfl, ⟨rfl, _, hk⟩ | ⟨e, rfl, hb, _⟩⟩ := hr
      · refine .inl ⟨rfl, fun h' hk' => hQ _ ⟨h', tk₁, _, rfl, (hG.trans ((GenOnly.setGen { s₀ with heap := h, toks := tk, gens := gens } gno .running).trans (GenOnly.setGen _ gno .finished))), setGen_self (gs := .running) (setGen_self hgs), fun b o e hb => hk' _ _ (hk b o e hb)⟩⟩
      · rw [hbad] at hb; cases hb
  bad := by
    rintro so s Q E ⟨h, tk, gens, gs, i, rfl, hG, hgs, hg, hi, hyl, hz, hbad, hbd, hgoes⟩ hQ
    have hlim : h.NoLimit := by
      obtain ⟨mc, ⟨o, es, ep, ho, r⟩, hn⟩ := hl
      exact ⟨mc, ⟨o, es, ep, hg.keep _ _ ho hIs, r⟩, hn⟩
    have hy0 := yl_nil hz
    refine pyNextG (n := 0) (R := RG hh I S vals Bad) (Y := YG hh I C l ga S go vals) hA hlim hroom (hgo _ hg.gen) hgs ?_ (fun v₁ s₁ gs' _ hv => ?_) (fun r s₁ hr => ?_)
    · have := hgoes ({ s₀ with heap := h, toks := tk, gens := gens }.setGen gno .running) so hg
      rw [hy0] at this
      exact this
    · obtain ⟨h₁, tk₁, rfl, j, r, t, hvj, hy1, hy2, rfl, hgh, hkap⟩ := hv
      exact (hkap { s₀ with heap := h₁ } _ (hgh _ hg.acc)).elim
    · obtain ⟨_, h₁, tk₁, rfl, ⟨rfl, hb, _⟩ | ⟨e, rfl, hb, hB⟩⟩ := hr
      · rw [hbad] at hb; cases hb
      · have hB' := hB so hg.acc
        exact .inr ⟨e, rfl, hgo _ (hb2 _ _ _ hB'), hb3 so e _ hB', hQ e _ ⟨h₁, tk₁, _, rfl, (hG.trans ((GenOnly.setGen { s₀ with heap := h, toks := tk, gens := gens } gno .running).trans (GenOnly.setGen _ gno .finished))), setGen_self (gs := .running) (setGen_self hgs), hB'⟩⟩
  get := by
    rintro so zs bad s ⟨h, tk, gens, gs, i, rfl, hG, hgs, hg, _⟩
    exact hg.acc
  set := by
    rintro so so' zs bad s h' tk' ⟨h, tk, gens, gs, i, rfl, hG, hgs, hg, r⟩ hsb hS'
    refine ⟨h', tk', gens, gs, i, rfl, hG, hgs, ?_, r⟩
    refine ⟨fun b o e hb => ?_, ?_, ?_, hS', ?_⟩
    · exact hsb.extBut b o (fun z => by rw [z, hhS] at e; cases e) (hg.keep b o e hb)
    · obtain ⟨m, hn⟩ := hg.ns
      exact ⟨m, hn.sameBut hsb (Ne.symm hSC)⟩
    · exact hsb.extBut _ _ (Ne.symm hSg) hg.gen
    · exact hg.iter.extBut hsb.extBut (Ne.symm hSI)
  bget := by
    rintro so e s ⟨h, tk, gens, rfl, _, _, hb⟩
    exact hb1 _ _ _ hb
end
end
section
section
variable {base GG h : Heap} {outer : List Env} {e t S : Addr} {cls : Value} {ws : List Value} {news : List (Addr × Obj)} {so : Obj}
theorem raised_set (hSn : GG.get? S = none) (hns : ∀ q ∈ news, q.1 ≠ S) (f : Obj → Obj) (R : RaisedS base GG outer e cls t ws ((S, so) :: news) h) : RaisedS base GG outer e cls t ws news (h.update S f) := by
  obtain ⟨⟨B, hB, hBG, hl, ⟨f1, f2, f3, oe, vs, T, oT, ts, a1, a2, a3, a4, a5, a6, a7, a8, a9⟩, hnew⟩, htup⟩ := R
  have hBS := (hl _ List.mem_cons_self).1
  have hbS := (hl _ List.mem_cons_self).2.2
  have ne : ∀ b, B.get? b = none → S ≠ b := fun b hb z => by rw [← z, hBS] at hb; cases hb
  have up : ∀ b, S ≠ b → (h.update S f).get? b = h.get? b := fun b hb => Heap.get?_update_other _ _ hb
  have hid : ∀ b, (hideAll B [S]).get? b = none ∨ (b ≠ S ∧ (hideAll B [S]).get? b = B.get? b) := fun b => by
    by_cases z : b = S
    · exact .inl (hideAll_none _ (by simp [z]))
    · cases q : (hideAll B [S]).get? b with
      | none => exact .inl rfl
      | some o => exact .inr ⟨z, (of_hideAll _ q).symm⟩
  have hnone : ∀ b, B.get? b = none → (hideAll B [S]).get? b = none := fun b hb => by
    cases q : (hideAll B [S]).get? b with
    | none => rfl
    | some o => rw [of_hideAll _ q] at hb; cases hb
  have hget : ∀ b o, B.get? b = some o → b ≠ S → (hideAll B [S]).get? b = some o := fun b o e n => hideAll_get _ e (by simpa using n)
  refine ⟨⟨hideAll B [S], fun b o q => hget _ _ (hB b o q) (fun z => by rw [z, hbS] at q; cases q), fun b o q nm => hget _ _ (hBG b o q nm) (fun z => by rw [z, hSn] at q; cases q), fun q hq => ?_, ⟨fun b o q => ?_, hnone _ f2, ?_, ?_⟩, hnone _ hnew⟩, ?_⟩
  · have := hl q (List.mem_cons_of_mem _ hq)
    exact ⟨hget _ _ this.1 (hns q hq), this.2⟩
  · have hb : S ≠ b := fun z => by rw [← z, hideAll_none _ (by simp)] at q; cases q
    rw [up b hb]
    exact f1 b o (of_hideAll _ q)
  · have frames : ∀ {l : List Env}, h.FunFrames B l → (h.update S f).FunFrames (hideAll B [S]) l := by
      intro l
      induction l with
      | nil => intro _; trivial
      | cons env l ih =>
        rintro ⟨g1, ⟨L, o, g2, g3, g4, g5⟩, g6⟩
        exact ⟨g1, ⟨L, o, g2, hnone _ g3, by rw [up L (ne _ g3)]; exact g4, g5⟩, ih g6⟩
    exact frames f3
  · exact ⟨oe, vs, T, oT, ts, by rw [up e (ne _ f2)]; exact a1, a2, a3, a4, hnone _ a5, a6, by rw [up T (ne _ a5)]; exact a7, a8, a9⟩
  · obtain ⟨o, n, ho, hc, hd⟩ := htup
    exact ⟨o, n, by rw [up t (ne _ hnew)]; exact ho, hc, hd⟩
theorem slots_set (hSn : GG.get? S = none) (f : Obj → Obj) (U : GG.UpToSlots h) : GG.UpToSlots (h.update S f) := fun b o q hn => by
  obtain ⟨sl, hs⟩ := U b o q hn
  refine ⟨sl, ?_⟩
  rw [Heap.get?_update_other _ _ (fun z => by rw [← z, hSn] at q; cases q)]
  exact hs
end
section
variable {prog : Program} {w : World} {base GG : Heap} {outer : List Env} {e t : Addr} {ws : List Value} {news : List (Addr × Obj)} {s : Shared}
theorem noStop_of {K : Frag} (XB : K.In base) (q : peek K ⟨prog, w.params⟩ (isSubtype (.ref 44) (.type "StopIteration")) = some false) (R : RaisedS base GG outer e (.ref 44) t ws news s.heap) : NoStop prog w e s := by
  obtain ⟨⟨B, hB, hBG, hl, hfl, hnew⟩, htup⟩ := R
  obtain ⟨ob, ho, hc⟩ := hfl.there
  have X : K.In s.heap := fun a o q => hfl.1 _ _ (hB _ _ (XB a o q))
  intro A Q E hQ
  simp only [isInstance, typeOf]
  refine wpAny_bind (wpAny_bind (wpAny_load ho (wpAny_pure ?_)))
  rw [hc]
  exact (Looks.of_peek (M := model prog w) X q).here hQ
end
end
section
abbrev LIT9 : Int := 115792089237316195423570985008687907853269984665640564039457584007913129639936
/-- an item of the list and what block_work makes of it -/
def ItemG (v : Value) (o : Option Int) : Prop := ∃ (b : Array UInt8) (t : Tok), v = .bytes b t ∧ b.size = 4 ∧ ((0 < worth b ∧ worth b < 1000 ∧ o = some (115792089237316195423570985008687907853269984665640564039457584007913129639936 / (worth b + 1))) ∨ (worth b = 0 ∧ o = none))
section
variable {p : Program} {w : World} {mean : ExcName → Option Value} {mg mb : Str → Option Value} {loose : List Str} {base hh GG : Heap} {outer : List Env} {I C l ga S : Addr} {go : Obj} {items : Array Value} {vals : List (Option Int)} {cenv : Env} {newsX : List (Addr × Obj)} {A₀ : Around}
def BadC9 (base hh : Heap) (outer : List Env) (cenv : Env) (I C ga S : Addr) (go so : Obj) (e : Addr) (h : Heap) : Prop :=
  ∃ G t ws m io, Fr (hideAll hh [I]) C G m ∧ RaisedS base G (cenv :: outer) e (.ref 44) t ws [(I, io), (ga, go), (S, so)] h ∧ G.UpToSlots h
def Bad9 (base GG : Heap) (outer : List Env) (ga S : Addr) (go : Obj) (newsX : List (Addr × Obj)) (so : Obj) (e : Addr) (h : Heap) : Prop :=
  ∃ t ws, RaisedS base GG outer e (.ref 44) t ws ((S, so) :: (ga, go) :: newsX) h ∧ GG.UpToSlots h
theorem elt_block {dp un : Nat} {gd : Option (List Code)} {p1 p2 p3 : Pos}
    (XB : (hd.heap_39 w.params).In base) (TB : Top p loose mean mg mb base) (B : Below A₀ base outer (hideAll hh [I])) (X : (hd.heap_39 w.params).In (hideAll hh [I])) (T : Top p loose mean mg mb (hideAll hh [I])) (D : KtsDicts (outer.filterMap (·.frame)) (hideAll hh [I]))
    (hf : cenv.frame = some C) (hke : cenv.scope.kind = .function) (hgl : cenv.globals = mainGlobals) (hlo : cenv.locals = C) (hkb : cenv.kindOf "block_work" = some .globalImplicit) (hkx : cenv.kindOf "bits" = some .local)
    (hdp : dp + 6 < recursionLimit) (hun : un + 60 < cLine) (hsz : hh.objs.size = C) (hIC : I < C) (hga : C < ga) (hS : C < S)
    (hK : keepIn (hd.heap_39 w.params) (.ref 136) = true) (hN : nsIn (hd.heap_39 w.params) mainGlobals "block_work" = some (some (.ref 136)))
    (hit : ∀ (i : Nat) v o, items[i]? = some v → vals[i]? = some o → ItemG v o)
    (hGG : GG = hideAll hh (I :: newsX.map (·.1))) (hX : ∀ q ∈ newsX, hh.get? q.1 = some q.2 ∧ q.1 ≠ I ∧ q.1 ∉ outer.filterMap (·.frame) ∧ base.get? q.1 = none) :
    EltG Challenge.rw_ez0014_01.row.prog w (envTop dp un gd cenv outer) hh I C l ga S go items vals (.Call (.Name "block_work" p1) [.Name "bits" p2] [] p3) "bits" cenv (BadC9 base hh outer cenv I C ga S go) (Bad9 base GG outer ga S go newsX) where
  elt := by
    intro i v o so s m Q E hi hv hg hn hm hQ hE
    obtain ⟨b, t, rfl, hb4, hw⟩ := hit i v o hi hv
    have gk : ∀ b o, (hideAll hh [I]).get? b = some o → s.heap.get? b = some o := fun b o e => hg.keep b o (of_hideAll _ e) (fun z => by rw [z, hideAll_none _ (by simp)] at e; cases e)
    have F : Fr (hideAll hh [I]) C s.heap m := ⟨hn, gk, by rw [hideAll_size, hsz]; exact Nat.le_refl _⟩
    obtain ⟨io, hio, hioc, hiod⟩ := hg.iter
    have out : ∀ a, C < a → (hideAll hh [I]).get? a = none := fun a ha => Heap.get?_none_of_le (by rw [hideAll_size, hsz]; exact Nat.le_of_lt ha)
    have N : News (hideAll hh [I]) C s.heap [(I, io), (ga, go), (S, so)] := by
      intro q hq
      simp only [List.mem_cons, List.not_mem_nil, or_false] at hq
      rcases hq with rfl | rfl | rfl
      · exact ⟨hio, Nat.ne_of_lt hIC, hideAll_none _ (by simp)⟩
      · exact ⟨hg.gen, Nat.ne_of_gt hga, out _ hga⟩
      · exact ⟨hg.acc, Nat.ne_of_gt hS, out _ hS⟩
    have mgb : mg "block_work" = some (.ref 136) := mg_of X T.g hN
    have hnl : s.heap.Ns cenv.locals m := by rw [hlo]; exact hn
    refine Call_ (Name_function_global hke hkb (loadGlobal_global (mg := mg) (by rw [hgl]; exact T.g.keeps gk) mgb ?_))
    refine callWith_K X hK ?_
    refine args_cons (wpAny_Name (wpAny_loadName_local hke hkx hnl hm (args_nil ⟨X.keeps gk, ?_⟩)))
    show wpAny _ (envTop dp un gd cenv outer) (call (.ref 136) [.bytes b t]) _ _ _
    rcases hw with ⟨hw0, hw1, ho⟩ | ⟨hw0, ho⟩
    · refine c_blockE w mean mg mb loose b t hb4 hw0 hw1 [(I, io), (ga, go), (S, so)] dp un gd cenv outer A₀ base (hideAll hh [I]) C m s Q E B F X N T hf hke trivial hdp (by omega) (fun t' h' tk' F' N' => hQ _ ho t' h' tk' ?_)
      refine ⟨fun b o e hb => F'.keep _ _ (hideAll_get _ e (by simpa using hb)), ⟨m, F'.ns⟩, (N' (ga, go) (by simp)).1, (N' (S, so) (by simp)).1, ⟨io, (N' (I, io) (by simp)).1, hioc, hiod⟩⟩
    · refine c_workEE w mean mg mb loose b t hb4 hw0 [(I, io), (ga, go), (S, so)] dp un gd cenv outer A₀ base (hideAll hh [I]) C m s Q E XB TB B F X N T D hf hke trivial hdp (by omega) (fun G h' e t' ws tk' FG R _ U => hE ho e h' tk' ?_)
      exact ⟨G, t', ws, m, io, FG, R, U⟩
  leave := by
    rintro so e s Q E ⟨G, t, ws, m, io, FG, ⟨⟨Bh, hB, hBG, hl, hfl, hnew⟩, htup⟩, hU⟩ hQ
    subst hGG
    have ggh : ∀ b o, (hideAll hh (I :: newsX.map (·.1))).get? b = some o → (hideAll hh [I]).get? b = some o ∧ b ≠ C := fun b o e => by
      have e₁ := of_hideAll _ e
      refine ⟨hideAll_get _ e₁ (fun z => ?_), fun z => ?_⟩
      · rw [hideAll_none (I :: newsX.map (·.1)) (by simp only [List.mem_singleton] at z; simp [z])] at e; cases e
      · have := Heap.lt_size e₁; rw [z, hsz] at this; exact Nat.lt_irrefl _ this
    have offC : ∀ b, b ≠ C → b ∉ outer.filterMap (·.frame) → b ∉ (cenv :: outer).filterMap (·.frame) := fun b hb hbo q => by
      obtain ⟨en, he, hfe⟩ := List.mem_filterMap.mp q
      rcases List.mem_cons.mp he with rfl | he
      · rw [hf] at hfe; exact hb (Option.some.inj hfe).symm
      · exact hbo (List.mem_filterMap.mpr ⟨en, he, hfe⟩)
    have out : ∀ a, C < a → (hideAll hh (I :: newsX.map (·.1))).get? a = none := fun a ha => Heap.get?_none_of_le (by rw [hideAll_size, hsz]; exact Nat.le_of_lt ha)
    refine wpAny_leaves_onW (A := envTop dp un gd cenv outer) rfl hf hfl fun h' x1 x2 => hQ h' ⟨t, ws, ⟨⟨Bh, hB, fun b o q nm => ?_, fun q hq => ?_, x1, hnew⟩, htup.of_slots x2⟩, ?_⟩
    · obtain ⟨e₁, e₂⟩ := ggh b o q
      exact hBG b o (FG.keep _ _ e₁) (offC b e₂ nm)
    · simp only [List.mem_cons] at hq
      rcases hq with rfl | rfl | hq
      · have := hl (S, so) (by simp)
        exact ⟨this.1, out _ hS, this.2.2⟩
      · have := hl (ga, go) (by simp)
        exact ⟨this.1, out _ hga, this.2.2⟩
      · obtain ⟨q1, q2, q3, q4⟩ := hX q hq
        have hqC : q.1 ≠ C := fun z => by have := Heap.lt_size q1; rw [z, hsz] at this; exact Nat.lt_irrefl _ this
        exact ⟨hBG _ _ (FG.keep _ _ (hideAll_get _ q1 (by simpa using q2))) (offC _ hqC q3), hideAll_none _ (List.mem_cons_of_mem _ (List.mem_map_of_mem hq)), q4⟩
    · exact ((Heap.UpToSlots.of_keeps fun b o q => FG.keep _ _ (ggh b o q).1).trans hU).trans x2
end
end
section
section
variable {M : Model} {A : Around} {E : Value → Shared → Prop} {s : Shared}
theorem gcode {env : Env} {c P : Addr} {ps : Array Value} {pos : Pos} {qualname : Str} {scope : Scope} {Q : Value → Shared → Prop} (hc : env.code = .ref c) (hok : s.heap.IsCode c P ps) (htab : s.heap.TableAt c P ps)
    (hQ : ∀ code h' tk (ps' more : Array Value), ps' = ps ++ more → Heap.ExtBut P s.heap h' → s.heap.objs.size ≤ h'.objs.size → h'.IsCode c P ps' → h'.TableAt c P ps' → Q code { s with heap := h', toks := tk }) :
    wpAny M A (genexprCode env pos qualname scope) Q E s := by
  cases hnf : codeAmong pos ps.toList with
  | none => exact wpAny_genexprCodeX hc hok htab hnf fun c' h' tk hx h1 h2 hi _ ht _ => hQ _ h' tk _ _ rfl hx (Nat.le_of_lt (Nat.lt_of_le_of_lt h1 h2)) hi ht
  | some cv =>
    obtain ⟨o, vs, file, tf, flags, tg, inF, text, tt, op, ho, hd, h11, h2, h7, h9, h10, hop, hpd, htr, hne⟩ := id hok
    unfold genexprCode codeAt
    rw [hc, if_neg (show ¬ ((Value.ref c == Value.none) = true) from Bool.false_ne_true)]
    refine wpAny_bind (wpAny_fieldsOf ho hd ?_)
    rw [h11]
    refine wpAny_bind (wpAny_fieldsOf hop hpd ?_)
    rw [hnf]
    exact wpAny_pure (hQ cv s.heap s.toks ps #[] (by simp) (Heap.ExtBut.refl _ _) (Nat.le_refl _) hok htab)
end
section
variable {prog : Program} {w : World} {A : Around} {hh : Heap} {I C l ga S : Addr} {go : Obj} {items : Array Value} {vals : List (Option Int)} {elt iter : PySem.Expr} {x : Str} {px pos : Pos} {scope : Scope} {cenv : Env}
  {BadC Bad : Obj → Addr → Heap → Prop}
theorem seg_start (hA : A.handled = none) (hl : hh.IsList l items) (hlI : l ≠ I)
    (n : Nat) (R : GenEnd) (Y : Protocol) (s₀ s : Shared) (so : Obj) (i : Nat) (hg : Gh hh I C l ga S go i so s.heap)
    (loop : Seg (model prog w) A R Y n s₀ (genC elt iter x px pos scope I cenv) ((model prog w).den (genC elt iter x px pos scope I cenv)) [] s) :
      Seg (model prog w) A R Y n s₀ (genS elt iter x px pos scope I cenv) ((model prog w).den (genS elt iter x px pos scope I cenv)) [] s := by
  have hA' : (A.over (genS elt iter x px pos scope I cenv) []).handled = none := hA
  have hl' : s.heap.IsList l items := by
    obtain ⟨o, ho, r⟩ := hl
    exact ⟨o, hg.keep _ _ ho hlI, r⟩
  show Seg _ A _ _ _ s₀ _ ((compStart (.GeneratorExp elt [⟨.Name x px, iter, [], 0⟩] scope pos) 0 (.ref I) .none cenv).onRaise (leaving cenv)) [] s
  unfold compStart
  rw [Sem.onRaise_eq_wrap]
  show Seg _ A _ _ _ s₀ _ ((ask >>= _).wrap _ _ _ _) [] s
  refine seg_bind_wrap (wpAny_askSetting ?_)
  split
  · exact seg_again rfl loop
  · refine seg_bind_wrap (wpAny_rule ?_)
    show Seg _ A _ _ _ s₀ _ ((standAt iter.pos >>= _).wrap _ _ _ _) [] s
    exact seg_bind_wrap (wpAny_standAt (seg_bind_wrap ((Walks.list hA' I l hlI items).self i s _ _ ⟨hg.iter, hl'⟩ (seg_again rfl loop))))
end
section
variable {prog : Program} {w : World} {A : Around} {E : Value → Shared → Prop} {s : Shared}
theorem sum_call {ga gno : Nat} {St : Obj → List Int → Bool → Shared → Prop} {Done : Shared → Prop} {Bad : Obj → Addr → Shared → Prop} {zs : List Int} {bad : Bool} {Q : Value → Shared → Prop} (hg : s.heap.IsGen ga gno)
    (W : Told9 prog w A.in1 ga s.heap.objs.size St Done Bad) (hst : ∀ c tk, St (accO 0 s.toks c) zs bad { s with heap := s.heap.push (accO 0 s.toks c), toks := tk })
    (hok : bad = false → ∀ s' t, Done s' → Q (.int zs.sum t) s')
    (hbad : bad = true → ∀ so e s' n t c, so = accO n t c → Bad so e s' → E (.ref e) { s' with heap := s'.heap.update s.heap.objs.size (Obj.mapSeq fun _ => #[]) }) :
    wpAny (model prog w) A (call (.builtin "sum") [.ref ga]) Q E s := by
  refine call_function_tree F.kind_sum F.plain_sum F.entry_sum (F.args_sum1 _) ?_
  unfold Builtin.«sum»
  simp only [List.length_cons, List.length_nil]
  rw [if_neg (by decide)]
  refine wpAny_bind (wpAny_of_eq (show Builtin.Builtins.bindParams "sum" ["start"] 0 { } = pure [none] from rfl) ?_)
  refine wpAny_bind (wpAny_pyIter_gen hg ?_)
  refine wpAny_bind (wpAny_mkInt ?_)
  refine wpAny_bind (wpAny_pure ?_)
  simp only [List.forIn_cons, List.forIn_nil]
  refine wpAny_bind (wpAny_bind (wpAny_bind (wpAny_isInstance (T := "int") (b := false) (typeIs_int _ _ _) PySem.sub_int_str ?_)))
  simp only [Bool.false_eq_true, if_false]
  refine wpAny_pure (wpAny_bind (wpAny_bind (wpAny_isInstance (T := "int") (b := false) (typeIs_int _ _ _) PySem.sub_int_bytes ?_)))
  simp only [Bool.false_eq_true, if_false]
  refine wpAny_pure (wpAny_bind (wpAny_bind (wpAny_isInstance (T := "int") (b := false) (typeIs_int _ _ _) PySem.sub_int_bytearray ?_)))
  simp only [Bool.false_eq_true, if_false]
  refine wpAny_pure (wpAny_pure ?_)
  refine wpAny_bind (wpAny_newObj_type ?_)
  refine wpAny_pure ⟨plainId_quiet F.plain_sum_loop _, sum_loop9 W bad zs _ 0 s.toks 0 0 (.inl rfl) (hst _ _) (fun hb s' t hd => ?_) (fun hb so e s' n t c he hB => ?_)⟩
  · have := hok hb s' t hd
    rw [Int.zero_add]
    exact this
  · exact hbad hb so e s' n t c he hB
end
end
section
/-- a code record whose table of places is P -/
def CodeP (h : Heap) (c P : Addr) : Prop := ∃ o vs file tf flags tg inF text tt, h.get? c = some o ∧ o.cls = .type "code" ∧ o.data = .fields vs ∧ vs[11]? = some (.ref P) ∧ vs.getD 11 .none = .ref P ∧ vs.getD 18 .none = .str file tf ∧
  vs.getD 7 .none = .int flags tg ∧ vs.getD 9 .none = .bool inF ∧ vs.getD 10 .none = .int text tt ∧ c ≠ P
theorem CodeP.keeps {h h' : Heap} {c P : Addr} (x : CodeP h c P) (k : ∀ b o, h.get? b = some o → h'.get? b = some o) : CodeP h' c P := by
  obtain ⟨o, vs, file, tf, flags, tg, inF, text, tt, ho, r⟩ := x
  exact ⟨o, vs, file, tf, flags, tg, inF, text, tt, k _ _ ho, r⟩
theorem CodeP.isCode {h : Heap} {c P : Addr} {ps : Array Value} (x : CodeP h c P) (hP : h.get? P = some (tabO ps)) (ht : TriplesOk ps.toList) : h.IsCode c P ps ∧ h.TableAt c P ps := by
  obtain ⟨o, vs, file, tf, flags, tg, inF, text, tt, ho, hc, hd, h11, h11', h18, h7, h9, h10, hne⟩ := x
  exact ⟨⟨o, vs, file, tf, flags, tg, inF, text, tt, _, ho, hd, h11', h18, h7, h9, h10, hP, rfl, ht, hne⟩, ⟨o, vs, ho, hc, hd, h11⟩, hP⟩
theorem CodeP.of {h : Heap} {c P : Addr} {ps : Array Value} (x : h.IsCode c P ps) (t : h.TableAt c P ps) : CodeP h c P := by
  obtain ⟨o, vs, file, tf, flags, tg, inF, text, tt, op, ho, hd, h11, h18, h7, h9, h10, hop, hpd, htr, hne⟩ := x
  obtain ⟨⟨o', vs', ho', hc, hd', h11'⟩, _⟩ := t
  rw [ho] at ho'
  cases ho'
  rw [hd] at hd'
  cases hd'
  exact ⟨o, vs, file, tf, flags, tg, inF, text, tt, ho, hc, hd, h11', h11, h18, h7, h9, h10, hne⟩
section
variable {p : Program} {w : World} {mean : ExcName → Option Value} {mg mb : Str → Option Value} {loose : List Str} {base g : Heap} {outer : List Env} {l L₃ a P : Addr} {items : Array Value} {vals : List (Option Int)} {A A₀ : Around} {cn : Str} {cs gscope : Scope} {m₃ : Str → Option Value}
  {news : List (Addr × Obj)} {ps : Array Value} {s : Shared} {iter : PySem.Expr} {px pos p1 p2 p3 pp : Pos} {Q E : Value → Shared → Prop} {n : Nat}
set_option maxHeartbeats 2000000 in
theorem sum_gen (hA1 : A.handled = none) (hA2 : A.frames = some (envOf cn cs L₃ a (.ref 142) :: outer)) (hdp : A.depth + 10 < recursionLimit) (hun : A.units + 100 < cLine)
    (XB : (hd.heap_39 w.params).In base) (TB : Top p loose mean mg mb base) (B : Below A₀ base outer g) (F : Fr g L₃ s.heap m₃) (X : (hd.heap_39 w.params).In g) (N : News g L₃ s.heap ((P, tabO ps) :: news)) (T : Top p loose mean mg mb g) (D : KtsDicts (outer.filterMap (·.frame)) g)
    (CP : CodeP g 142 P) (hps : TriplesOk ps.toList) (hNP : ∀ q ∈ news, q.1 ≠ P) (hlm : (l, PySem.W.listOf items n) ∈ news) (hcs : cs.kind = .function)
    (hiter : ∀ Q' E', Q' (.ref l) s → wpAny (model Challenge.rw_ez0014_01.row.prog w) A (eval iter (envOf cn cs L₃ a (.ref 142))) Q' E' s) (hgf : ∀ x, genFold iter (envOf cn cs L₃ a (.ref 142)) x = pure x)
    (hco : gscope.isCoroutine = false) (hclos : closureFor gscope (envOf cn cs L₃ a (.ref 142)) = pure []) (hcell : ∀ y ∈ gscope.names, y.2 ≠ .cell) (h0 : gscope.names.lookup (".0" : Str) = some NameKind.local) (hkind : gscope.kind = .function)
    (hxb : gscope.names.lookup ("bits" : Str) = some .local) (hxw : gscope.names.lookup ("block_work" : Str) = some .globalImplicit)
    (hK : keepIn (hd.heap_39 w.params) (.ref 136) = true) (hN : nsIn (hd.heap_39 w.params) mainGlobals "block_work" = some (some (.ref 136))) (hpk : peek (hd.heap_39 w.params) ⟨Challenge.rw_ez0014_01.row.prog, w.params⟩ (isSubtype (.ref 44) (.type "StopIteration")) = some false)
    (hlen : items.size = vals.length) (hit : ∀ (i : Nat) v o, items[i]? = some v → vals[i]? = some o → ItemG v o) (hbare : AllBare s.gens)
    (hok : bads vals = false → ∀ h' tk' gens' (ps' more : Array Value) t, ps' = ps ++ more → TriplesOk ps'.toList → Fr g L₃ h' m₃ → News g L₃ h' ((P, tabO ps') :: news) → AllBare gens' → Q (.int (valz vals).sum t) { s with heap := h', toks := tk', gens := gens' })
    (hbad : bads vals = true → ∀ G h' e t ws tk' gens' (ps' more : Array Value), ps' = ps ++ more → TriplesOk ps'.toList → Fr g L₃ G m₃ → RaisedS base G (envOf cn cs L₃ a (.ref 142) :: outer) e (.ref 44) t ws ((P, tabO ps') :: news) h' → G.UpToSlots h' → AllBare gens' → E (.ref e) { s with heap := h', toks := tk', gens := gens' }) :
    wpAny (model Challenge.rw_ez0014_01.row.prog w) A (eval (.GeneratorExp (.Call (.Name "block_work" p1) [.Name "bits" p2] [] p3) [⟨.Name "bits" px, iter, [], 0⟩] gscope pos) (envOf cn cs L₃ a (.ref 142)))
      (fun v s₁ => wpAny (model Challenge.rw_ez0014_01.row.prog w) A (spliced (backTo pp (starEach [] (envOf cn cs L₃ a (.ref 142))))) (fun vs s₂ => wpAny (model Challenge.rw_ez0014_01.row.prog w) A (call (.builtin "sum") (v :: vs)) Q E s₂) E s₁) E s := by
  obtain ⟨ah, dp, af, gd, un⟩ := A
  simp only at hA1 hA2 hdp hun
  subst hA1 hA2
  have hPs : s.heap.get? P = some (tabO ps) := (N _ List.mem_cons_self).1
  have hgP : g.get? P = none := (N _ List.mem_cons_self).2.2
  have hPL : P ≠ L₃ := (N _ List.mem_cons_self).2.1
  have hls : s.heap.IsList l items := ⟨_, (N _ (List.mem_cons_of_mem _ hlm)).1, rfl, n, rfl⟩
  have hlP : l ≠ P := hNP _ hlm
  have hlim : s.heap.NoLimit := T.nolimit.keeps F.keep
  have hPI : P < s.heap.objs.size := Heap.lt_size hPs
  have hlI : l < s.heap.objs.size := Heap.lt_size (N _ (List.mem_cons_of_mem _ hlm)).1
  have hLI : L₃ < s.heap.objs.size := F.ns.lt
  have CS : CodeP s.heap 142 P := CP.keeps F.keep
  refine wpAny_GeneratorExp_make hco hclos hcell h0 hkind (Nat.lt_of_le_of_lt (Nat.le_add_right _ 10) hdp) ?_ hgf
  refine hiter _ _ ?_
  refine wpAny_pyIter_list hls ⟨hlim.push _, ?_⟩
  have hcode₂ := (CS.keeps fun b o e => Heap.get?_push_of_some ({ cls := .type "list_iterator", data := .fields #[.ref l, .int 0 0] } : Obj) e).isCode (Heap.get?_push_of_some _ hPs) hps
  refine gcode (c := 142) (P := P) (ps := ps) rfl hcode₂.1 hcode₂.2 ?_
  intro code h₃ tk₃ ps' more hpse hx₃ hsz₃ hcode₃ htab₃
  have hsz₃' : s.heap.objs.size < h₃.objs.size := by
    have : s.heap.objs.size + 1 ≤ h₃.objs.size := by rw [← Heap.size_push]; exact hsz₃
    exact this
  have hps' : TriplesOk ps'.toList := by obtain ⟨_, _, _, _, _, _, _, _, _, _, _, _, _, _, _, _, _, _, _, ht, _⟩ := hcode₃; exact ht
  have hP₃ : h₃.get? P = some (tabO ps') := htab₃.2
  have k₃ : ∀ b o, b ≠ P → s.heap.get? b = some o → h₃.get? b = some o := fun b o hb e => hx₃ b o hb (Heap.get?_push_of_some _ e)
  have gP : ∀ b o, g.get? b = some o → b ≠ P := fun b o e z => by rw [z, hgP] at e; cases e
  have gI : ∀ b o, g.get? b = some o → b ≠ s.heap.objs.size := fun b o e => Nat.ne_of_lt (Heap.lt_size (F.keep _ _ e))
  have gk₃ : ∀ b o, g.get? b = some o → h₃.get? b = some o := fun b o e => k₃ b o (gP b o e) (F.keep _ _ e)
  have hI₃ : h₃.IsListIter s.heap.objs.size l 0 := ⟨_, hx₃ _ _ (Nat.ne_of_gt hPI) (Heap.get?_push_size _ rfl), rfl, rfl⟩
  obtain ⟨bm, ob, hb1, hb2, hb3, hb4, hb5, hb6⟩ := T.bmain
  refine wpAny_builtinsFor (T.g.keeps gk₃) hb1 hb2 (gk₃ _ _ hb3) hb4 hb5 hb6 ?_
  intro h' hn' hs'
  refine args_nil ?_
  have hszh : h'.objs.size = h₃.objs.size + 1 := by rw [hs'.1, Heap.size_push]
  have hC : h₃.get? h₃.objs.size = none := Heap.get?_none_of_le (Nat.le_refl _)
  have k' : ∀ b o, h₃.get? b = some o → h'.get? b = some o := fun b o e => hs'.extBut b o (Nat.ne_of_lt (Heap.lt_size e)) (Heap.get?_push_of_some _ e)
  -- the frame's base behind the making
  have kgC : ∀ b o, g.get? b = some o → (hideAll h₃ [s.heap.objs.size]).get? b = some o := fun b o e => hideAll_get _ (gk₃ b o e) (by simpa using gI b o e)
  have sgC : ∀ b o, s.heap.get? b = some o → b ≠ P → (hideAll h₃ [s.heap.objs.size]).get? b = some o := fun b o e hb => hideAll_get _ (k₃ b o hb e) (by simpa using Nat.ne_of_lt (Heap.lt_size e))
  have FC : Fr g L₃ (hideAll h₃ [s.heap.objs.size]) m₃ := ⟨by
    obtain ⟨o, es, ep, ho, r⟩ := F.ns
    exact ⟨o, es, ep, sgC _ _ ho (Ne.symm hPL), r⟩, kgC, F.above⟩
  have BP := B.push (name := cn) (scope := cs) (a := a) (cd := .ref 142) F hcs
  have BC : Below (envTop dp un gd (envOf cn cs L₃ a (.ref 142)) outer) base (envOf cn cs L₃ a (.ref 142) :: outer) (hideAll h₃ [s.heap.objs.size]) := ⟨rfl, fun b o e => kgC b o (B.stays b o e), BP.frames.of_keeps fun b o e hn => ⟨o, sgC b o e (fun z => by rw [z, hPs] at e; cases e; exact hn _ rfl), rfl⟩⟩
  have DC := kd_push (env := envOf cn cs L₃ a (.ref 142)) FC rfl D
  have offF : ∀ b, b ≠ L₃ → g.get? b = none → b ∉ (envOf cn cs L₃ a (.ref 142) :: outer).filterMap (·.frame) := fun b hb hgb q => by
    rcases kts_mem q with z | z
    · exact hb z
    · obtain ⟨_, o, ho, _⟩ := B.frames.mem z
      rw [hgb] at ho; cases ho
  have nX : ∀ q ∈ (P, tabO ps') :: news, h₃.get? q.1 = some q.2 ∧ q.1 ≠ L₃ ∧ g.get? q.1 = none ∧ q.1 < s.heap.objs.size := fun q hq => by
    rcases List.mem_cons.mp hq with rfl | hq
    · exact ⟨hP₃, hPL, hgP, hPI⟩
    · have := N q (List.mem_cons_of_mem _ hq)
      exact ⟨k₃ _ _ (hNP q hq) this.1, this.2.1, this.2.2, Heap.lt_size this.1⟩
  have hX : ∀ q ∈ (P, tabO ps') :: news, h₃.get? q.1 = some q.2 ∧ q.1 ≠ s.heap.objs.size ∧ q.1 ∉ (envOf cn cs L₃ a (.ref 142) :: outer).filterMap (·.frame) ∧ base.get? q.1 = none := fun q hq => by
    obtain ⟨q1, q2, q3, q4⟩ := nX q hq
    exact ⟨q1, Nat.ne_of_lt q4, offF _ q2 q3, fresh_of_stays B.stays q3⟩
  have kb : ∀ (gobj : Obj) b o, h₃.get? b = some o → (h'.push gobj).get? b = some o := fun gobj b o e => Heap.get?_push_of_some _ (k' b o e)
  have hlim₃ : h₃.NoLimit := T.nolimit.keeps gk₃
  have hst₃ : cStatics < h₃.objs.size := let ⟨_, hn, _⟩ := hlim₃; hn.lt
  have hIs : cStatics ≠ s.heap.objs.size := by
    obtain ⟨_, hn, _⟩ := hlim
    exact Nat.ne_of_lt hn.lt
  have FGG : Fr g L₃ (hideAll h₃ (s.heap.objs.size :: ((P, tabO ps') :: news).map (·.1))) m₃ := by
    have hid : ∀ b o, h₃.get? b = some o → b ≠ s.heap.objs.size → (∀ q ∈ (P, tabO ps') :: news, q.1 ≠ b) → (hideAll h₃ (s.heap.objs.size :: ((P, tabO ps') :: news).map (·.1))).get? b = some o := fun b o e h1 h2 => hideAll_get _ e (fun q => by
      rcases List.mem_cons.mp q with z | z
      · exact h1 z
      · obtain ⟨y, hy, hyb⟩ := List.mem_map.mp z
        exact h2 y hy hyb)
    refine ⟨?_, fun b o e => hid b o (gk₃ _ _ e) (gI _ _ e) (fun q hq z => by have := (nX q hq).2.2.1; rw [z, e] at this; cases this), F.above⟩
    obtain ⟨o, es, ep, ho, r⟩ := F.ns
    exact ⟨o, es, ep, hid _ _ (k₃ _ _ (Ne.symm hPL) ho) (Nat.ne_of_lt hLI) (fun q hq => (nX q hq).2.1), r⟩
  have key : ∀ (gobj : Obj) (tk₆ : Nat), gobj.cls = .type "generator" → (∃ nm qn, gobj.data = .fields #[.int s.gens.size 0, nm, qn]) → gobj.slots = #[] → gobj.isFreed = false →
      wpAny (model Challenge.rw_ez0014_01.row.prog w) ⟨none, dp, some (envOf cn cs L₃ a (.ref 142) :: outer), gd, un⟩ (call (.builtin "sum") [.ref h'.objs.size]) Q E
        { s with gens := s.gens.push (.fresh (genS (.Call (.Name "block_work" p1) [.Name "bits" p2] [] p3) iter "bits" px pos gscope s.heap.objs.size (genEnv gscope [] h₃.objs.size code builtinsNs (envOf cn cs L₃ a (.ref 142))))), toks := tk₆, heap := h'.push gobj } := by
    rintro gobj tk₆ hgc ⟨nm, qn, hgd⟩ hgs hgf'
    have hsz₅ : (h'.push gobj).objs.size = h₃.objs.size + 2 := by rw [Heap.size_push, hszh]
    have hCga : h₃.objs.size < h'.objs.size := by rw [hszh]; exact Nat.lt_succ_self _
    have hCS : h₃.objs.size < (h'.push gobj).objs.size := by rw [hsz₅]; exact Nat.lt_add_of_pos_right (by decide)
    have hgaI : h'.objs.size ≠ s.heap.objs.size := Nat.ne_of_gt (Nat.lt_trans hsz₃' hCga)
    have hgaC : h'.objs.size ≠ h₃.objs.size := Nat.ne_of_gt hCga
    have hSI : (h'.push gobj).objs.size ≠ s.heap.objs.size := Nat.ne_of_gt (Nat.lt_trans hsz₃' hCS)
    have hSC : (h'.push gobj).objs.size ≠ h₃.objs.size := Nat.ne_of_gt hCS
    have hSg : (h'.push gobj).objs.size ≠ h'.objs.size := by rw [Heap.size_push]; exact Nat.succ_ne_self _
    have hgp : ((genEnv gscope [] h₃.objs.size code builtinsNs (envOf cn cs L₃ a (.ref 142))).scope.kind == .class || ((genEnv gscope [] h₃.objs.size code builtinsNs (envOf cn cs L₃ a (.ref 142))).scope.kind == .module && (genEnv gscope [] h₃.objs.size code builtinsNs (envOf cn cs L₃ a (.ref 142))).locals != (genEnv gscope [] h₃.objs.size code builtinsNs (envOf cn cs L₃ a (.ref 142))).globals)) = false := by
      show ((gscope.kind == .class) || (gscope.kind == .module && _)) = false
      rw [hkind]; rfl
    have hgetga : (h'.push gobj).get? h'.objs.size = some gobj := Heap.get?_push_size _ hgf'
    have hIsGen : ∀ h : Heap, h.get? h'.objs.size = some gobj → h.IsGen h'.objs.size s.gens.size := fun h e => ⟨gobj, nm, qn, e, hgc, hgd, hgs⟩
    have hS₃ : h₃.get? (h'.push gobj).objs.size = none := Heap.get?_none_of_le (Nat.le_of_lt hCS)
    have W := elt_block (p := p) (w := w) (mean := mean) (mg := mg) (mb := mb) (loose := loose) (base := base) (hh := h₃) (GG := hideAll h₃ (s.heap.objs.size :: ((P, tabO ps') :: news).map (·.1))) (outer := envOf cn cs L₃ a (.ref 142) :: outer) (I := s.heap.objs.size) (C := h₃.objs.size) (l := l)
      (ga := h'.objs.size) (S := (h'.push gobj).objs.size) (go := gobj) (items := items) (vals := vals) (cenv := genEnv gscope [] h₃.objs.size code builtinsNs (envOf cn cs L₃ a (.ref 142))) (newsX := (P, tabO ps') :: news) (dp := dp + 1) (un := un + 5) (gd := gd) (p1 := p1) (p2 := p2) (p3 := p3)
      XB TB BC (X.keeps kgC) (T.keeps kgC) DC rfl hkind rfl rfl hxw hxb (by omega) (by omega) rfl hsz₃' hCga hCS hK hN hit rfl hX
    have hbd : ∀ so e h, Bad9 base (hideAll h₃ (s.heap.objs.size :: ((P, tabO ps') :: news).map (·.1))) (envOf cn cs L₃ a (.ref 142) :: outer) h'.objs.size (h'.push gobj).objs.size gobj ((P, tabO ps') :: news) so e h → h.get? (h'.push gobj).objs.size = some so ∧ h.get? h'.objs.size = some gobj := by
      rintro so e h ⟨t, ws, ⟨⟨Bh, _, _, hl, hfl, _⟩, _⟩, _⟩
      exact ⟨hfl.1 _ _ (hl _ List.mem_cons_self).1, hfl.1 _ _ (hl _ (List.mem_cons_of_mem _ List.mem_cons_self)).1⟩
    refine sum_call (gno := s.gens.size) (zs := valz vals) (bad := bads vals) (hIsGen _ hgetga)
      (told_gen (hh := h₃) (I := s.heap.objs.size) (C := h₃.objs.size) (l := l) (go := gobj) (vals := vals) (Bad := Bad9 base (hideAll h₃ (s.heap.objs.size :: ((P, tabO ps') :: news).map (·.1))) (envOf cn cs L₃ a (.ref 142) :: outer) h'.objs.size (h'.push gobj).objs.size gobj ((P, tabO ps') :: news)) (gno := s.gens.size)
        (s₀ := { s with gens := s.gens.push (.fresh (genS (.Call (.Name "block_work" p1) [.Name "bits" p2] [] p3) iter "bits" px pos gscope s.heap.objs.size (genEnv gscope [] h₃.objs.size code builtinsNs (envOf cn cs L₃ a (.ref 142))))), toks := tk₆, heap := h'.push gobj })
        rfl (Nat.lt_of_le_of_lt (Nat.le_add_right _ 10) hdp) hlim₃ hIs hIsGen hSI hSC hSg hS₃
        (fun so e h hb => (hbd so e h hb).1) (fun so e h hb => (hbd so e h hb).2) (fun so e s' hb => ?_)) (fun c tk => ?_) (fun hb s' t hd => ?_) (fun hb so e s' n' t c hso hB => ?_)
    · obtain ⟨t, ws, R, _⟩ := hb
      exact noStop_of XB hpk R
    · have hgh : Gh h₃ s.heap.objs.size h₃.objs.size l h'.objs.size (h'.push gobj).objs.size gobj 0 (accO 0 tk₆ c) ((h'.push gobj).push (accO 0 tk₆ c)) := by
        refine ⟨fun b o e _ => Heap.get?_push_of_some _ (kb gobj b o e), ⟨_, (hn'.push _).push _⟩, Heap.get?_push_of_some _ hgetga, Heap.get?_push_size _ rfl, ?_⟩
        obtain ⟨o, ho, r⟩ := hI₃
        exact ⟨o, Heap.get?_push_of_some _ (kb gobj _ _ ho), r⟩
      refine ⟨_, tk, _, _, 0, rfl, ⟨rfl, fun _ _ => rfl⟩, Array.getElem?_push_size .., hgh, Nat.zero_le _, by simp, by simp, rfl, by simp, fun s'' so' hg'' => ⟨rfl, ?_⟩⟩
      have hlI' : l ≠ s.heap.objs.size := Nat.ne_of_lt hlI
      have hl₃ : h₃.IsList l items := by
        obtain ⟨o, ho, r⟩ := hls
        exact ⟨o, k₃ _ _ hlP ho, r⟩
      refine seg_start rfl hl₃ hlI' _ _ _ s'' s'' so' 0 hg'' ?_
      exact seg_turns (x := "bits") (cenv := genEnv gscope [] h₃.objs.size code builtinsNs (envOf cn cs L₃ a (.ref 142))) rfl hlen hl₃ hlI' (Nat.ne_of_gt hsz₃') ⟨hgaI, hgaC⟩ ⟨hSI, hSC⟩ hC rfl hxb hgp hco W (vals.drop 0) 0 s'' s'' so' rfl (Nat.zero_le _) (by simp) (by simp) hg'' ⟨_, _, rfl⟩ hg''.acc
    · obtain ⟨h, tk, gens, rfl, hG, hgs', hk⟩ := hd
      refine hok hb h tk gens ps' more t hpse hps' ⟨?_, fun b o e => hk b o (gk₃ b o e) (gI b o e), F.above⟩ (fun q hq => ⟨hk _ _ (nX q hq).1 (Nat.ne_of_lt (nX q hq).2.2.2), (nX q hq).2.1, (nX q hq).2.2.1⟩) ?_
      · obtain ⟨o, es, ep, ho, r⟩ := F.ns
        exact ⟨o, es, ep, hk _ _ (k₃ _ _ (Ne.symm hPL) ho) (Nat.ne_of_lt hLI), r⟩
      · exact gen_only_bare hG hgs' rfl (fun k y hk hy => by
          rw [Array.getElem?_push, if_neg hk] at hy
          exact hbare y (Array.mem_of_getElem? hy))
    · obtain ⟨h, tk, gens, rfl, hG, hgs', t', ws, R, U⟩ := hB
      have hSn : (hideAll h₃ (s.heap.objs.size :: ((P, tabO ps') :: news).map (·.1))).get? (h'.push gobj).objs.size = none := Heap.get?_none_of_le (by rw [hideAll_size]; exact Nat.le_of_lt hCS)
      have R' := raised_set hSn (fun q hq => by
        rcases List.mem_cons.mp hq with rfl | hq
        · exact Ne.symm hSg
        · exact Nat.ne_of_lt (Nat.lt_trans (nX q hq).2.2.2 (Nat.lt_trans hsz₃' hCS))) (Obj.mapSeq fun _ => #[]) R
      refine hbad hb _ _ e t' ws tk gens ps' more hpse hps' FGG (raisedS_drop (fun q hq => List.mem_cons_of_mem _ hq) R') (slots_set hSn _ U) ?_
      exact gen_only_bare hG hgs' rfl (fun k y hk hy => by
          rw [Array.getElem?_push, if_neg hk] at hy
          exact hbare y (Array.mem_of_getElem? hy))
  exact key _ _ rfl ⟨_, _, rfl⟩ rfl rfl
end
end
section
set_option maxHeartbeats 4000000 in
theorem c_chainV {p : Program} (w : World) (mean : ExcName → Option Value) (mg mb : Str → Option Value) (loose : List Str) (l P : Addr) (ps items : Array Value) (n : Nat) (vals : List (Option Int)) (hlen : items.size = vals.length) (hit : ∀ (i : Nat) v o, items[i]? = some v → vals[i]? = some o → ItemG v o) (hg : bads vals = false)
  (news : List (Addr × Obj)) (hps : TriplesOk ps.toList) (hNP : ∀ q ∈ (l, PySem.W.listOf items n) :: news, q.1 ≠ P)
  (dp un : Nat) (gd : Option (List Code)) (cn : Str) (cs : Scope) (a : Addr) (ccd : Value) (A₀ : Around) (h₀ : Heap) (L : Addr) (m : Str → Option Value) (s : Shared) (Q E : Value → Shared → Prop)
  (B0 : Below A₀ h₀ [] h₀) (F0 : Fr h₀ L s.heap m) (X0 : (hd.heap_39 w.params).In h₀) (N0 : News h₀ L s.heap ((P, tabO ps) :: (l, PySem.W.listOf items n) :: news)) (T0 : Top p loose mean mg mb h₀) (hcs : cs.kind = .function) (hdp : dp + 20 < recursionLimit) (hun : un + 200 < cLine)
  (CP0 : CodeP h₀ 142 P) (hbare : AllBare s.gens)
  (hret : ∀ (t : Tok) (h' : Heap) (tk' : Nat) (gens' : Array GenState) (ps' more : Array Value), ps' = ps ++ more → TriplesOk ps'.toList → Fr h₀ L h' m → News h₀ L h' ((P, tabO ps') :: (l, PySem.W.listOf items n) :: news) → AllBare gens' → Q (.int (valz vals).sum t) { s with heap := h', toks := tk', gens := gens' }) :
  wpAny (model Challenge.rw_ez0014_01.row.prog w) (ktrTop dp un gd cn cs L a ccd [] []) (call (.ref 254) [.ref l]) Q E s := by
  have hKx : (hd.heap_39 w.params) = (hd.heap_39 w.params) := rfl
  revert hKx
  k_fill
  intro _
  refine wpAny_call ?_
  k_dflt (refine' code_defS0 ?k1 ?k2 ?k3 ?k4 ?k5 ?kA ?k6 ?k7 ?k8 ?k9 ?kB ?_ ?cK ?c2 ?c3 ?c4 ?c5; (case kA => exact rfl); (case k2 => k_asm); (case k1 => k_asm); (case k3 => k_asm); (case k4 => k_asm); (case k5 => k_asm); (case k6 => k_is); (case k7 => k_is); (case k8 => k_room); (case k9 => exact BindsTo.of_eq rfl); (case kB => exact locs rfl); (case cK => assumption); (case c2 => exact rfl); (case c3 => exact rfl); (case c4 => exact rfl); (case c5 => decide); k_whole; intro g' L' h' FG' F' N' B' X' T' D'; (try dsimp only); (try k_lift B'); (try k_fold))
  k_steps
  (rename (Below _ _ [_, _] _) => B2)
  (rename Fr _ _ _ _ => F2)
  (rename News _ _ _ _ => N2)
  refine sum_gen rfl rfl (by first | ktr_room | omega) (by first | ktr_units | omega) X0 T0 B2 F2 (by assumption) (fun q hq => N2 q (List.mem_cons_of_mem _ hq)) (by assumption) (kd_push (by assumption) rfl D') ((CP0.keeps FG'.keep).keeps (Fr.keep (by assumption))) hps hNP List.mem_cons_self rfl ?_ ?_ rfl rfl ?_ rfl rfl rfl rfl ?_ ?_ ?_ hlen hit hbare ?_ ?_
  · intro Q' E' hq
    exact ld F2 rfl hq
  · intro _; rfl
  · decide
  · k_is
  · k_is
  · first | k_is | kernel_rfl
  · intro _ h9 tk9 gens9 ps9 more9 t9 hpe9 hpo9 F9 N9 G9
    (try dsimp only)
    (try k_fold)
    k_steps
    all_goals exact hret _ _ _ _ _ _ hpe9 hpo9 (by k_asm) (by first | k_asm | exact cb_drop (by assumption) (by repeat (first | exact sub_refl | refine sub_tail ?_))) G9
  · intro hb
    rw [hg] at hb
    cases hb
end
local macro_rules | `(tactic| walk_at "nowhere") => `(tactic| fail "nowhere")
section
set_option maxHeartbeats 4000000 in
theorem c_chainR {p : Program} (w : World) (mean : ExcName → Option Value) (mg mb : Str → Option Value) (loose : List Str) (l P : Addr) (ps items : Array Value) (n : Nat) (vals : List (Option Int)) (hlen : items.size = vals.length) (hit : ∀ (i : Nat) v o, items[i]? = some v → vals[i]? = some o → ItemG v o) (hg : bads vals = true)
  (news : List (Addr × Obj)) (hps : TriplesOk ps.toList) (hNP : ∀ q ∈ (l, PySem.W.listOf items n) :: news, q.1 ≠ P)
  (dp un : Nat) (gd : Option (List Code)) (cn : Str) (cs : Scope) (a : Addr) (ccd : Value) (A₀ : Around) (h₀ : Heap) (L : Addr) (m : Str → Option Value) (s : Shared) (Q E : Value → Shared → Prop)
  (B0 : Below A₀ h₀ [] h₀) (F0 : Fr h₀ L s.heap m) (X0 : (hd.heap_39 w.params).In h₀) (N0 : News h₀ L s.heap ((P, tabO ps) :: (l, PySem.W.listOf items n) :: news)) (T0 : Top p loose mean mg mb h₀) (hcs : cs.kind = .function) (hdp : dp + 20 < recursionLimit) (hun : un + 200 < cLine)
  (CP0 : CodeP h₀ 142 P) (hbare : AllBare s.gens)
  (hret : ∀ (t : Tok) (h' : Heap) (tk' : Nat) (gens' : Array GenState) (ps' more : Array Value), ps' = ps ++ more → TriplesOk ps'.toList → Fr h₀ L h' m → News h₀ L h' ((P, tabO ps') :: (l, PySem.W.listOf items n) :: news) → AllBare gens' → Q (.str (PySem.Str.ofString "nought") t) { s with heap := h', toks := tk', gens := gens' }) :
  wpAny (model Challenge.rw_ez0014_01.row.prog w) (ktrTop dp un gd cn cs L a ccd [] []) (call (.ref 254) [.ref l]) Q E s := by
  have hKx : (hd.heap_39 w.params) = (hd.heap_39 w.params) := rfl
  revert hKx
  k_fill
  intro _
  refine wpAny_call ?_
  k_dflt (refine' code_defS0 ?k1 ?k2 ?k3 ?k4 ?k5 ?kA ?k6 ?k7 ?k8 ?k9 ?kB ?_ ?cK ?c2 ?c3 ?c4 ?c5; (case kA => exact rfl); (case k2 => k_asm); (case k1 => k_asm); (case k3 => k_asm); (case k4 => k_asm); (case k5 => k_asm); (case k6 => k_is); (case k7 => k_is); (case k8 => k_room); (case k9 => exact BindsTo.of_eq rfl); (case kB => exact locs rfl); (case cK => assumption); (case c2 => exact rfl); (case c3 => exact rfl); (case c4 => exact rfl); (case c5 => decide); k_whole; intro g' L' h' FG' F' N' B' X' T' D'; (try dsimp only); (try k_lift B'); (try k_fold))
  k_steps
  (rename (Below _ _ [_, _] _) => B2)
  (rename Fr _ _ _ _ => F2)
  (rename News _ _ _ _ => N2)
  refine sum_gen rfl rfl (by first | ktr_room | omega) (by first | ktr_units | omega) X0 T0 B2 F2 (by assumption) (fun q hq => N2 q (List.mem_cons_of_mem _ hq)) (by assumption) (kd_push (by assumption) rfl D') ((CP0.keeps FG'.keep).keeps (Fr.keep (by assumption))) hps hNP List.mem_cons_self rfl ?_ ?_ rfl rfl ?_ rfl rfl rfl rfl ?_ ?_ ?_ hlen hit hbare ?_ ?_
  · intro Q' E' hq
    exact ld F2 rfl hq
  · intro _; rfl
  · decide
  · k_is
  · k_is
  · first | k_is | kernel_rfl
  · intro hb
    rw [hg] at hb
    cases hb
  · intro _ g9 h9 e9 t9 ws9 tk9 gens9 ps9 more9 hpe9 hpo9 FG9 S9 U9 G9
    have R9 := S9.toK
    (try dsimp only at S9 R9 U9 ⊢)
    k_steps
    all_goals exact hret _ _ _ _ _ _ hpe9 hpo9 (by k_asm) (by first | k_asm | exact cb_drop (by assumption) (by repeat (first | exact sub_refl | refine sub_tail ?_))) G9
end
section
local macro_rules | `(tactic| walk_at "call type:type") => `(tactic| (k_here; (with_reducible show wpAny _ _ (call _ [Value.bytes _ _]) _ _ _); refine call_type_of (Tx := "bytes") rfl (by decide +kernel) ?_))
set_option maxHeartbeats 4000000 in
theorem c_chainO {p : Program} (w : World) (mean : ExcName → Option Value) (mg mb : Str → Option Value) (loose : List Str) (b : Array UInt8) (tb : Tok) (hb : b.size = 4) (news : List (Addr × Obj)) :
  LawClaim Challenge.rw_ez0014_01.row.prog w (hd.heap_39 w.params) p loose mean mg mb 254 news (True) [.bytes b tb] (fun t => .str (PySem.Str.ofString "octets") t) := by
  k_fill
  dsimp only [LawClaim, EzClaim, CbLists, CbRet]
  intros
  rename_i hret
  refine wpAny_call ?_
  k_dflt (refine' code_defS0 ?k1 ?k2 ?k3 ?k4 ?k5 ?kA ?k6 ?k7 ?k8 ?k9 ?kB ?_ ?cK ?c2 ?c3 ?c4 ?c5; (case kA => exact rfl); (case k2 => k_asm); (case k1 => k_asm); (case k3 => k_asm); (case k4 => k_asm); (case k5 => k_asm); (case k6 => k_is); (case k7 => k_is); (case k8 => k_room); (case k9 => exact BindsTo.of_eq rfl); (case kB => exact locs rfl); (case cK => assumption); (case c2 => exact rfl); (case c3 => exact rfl); (case c4 => exact rfl); (case c5 => decide); k_whole; intro g' L' h' FG' F' N' B' X' T' D'; (try dsimp only); (try k_lift B'); (try k_fold))
  k_steps
  all_goals exact hret _ _ _ (by k_asm) (by first | k_asm | exact cb_drop (by assumption) (by repeat (first | exact sub_refl | refine sub_tail ?_ | refine sub_app ?_)))
end
section
theorem item_5 (t : Tok) : ItemG (.bytes #[3, 0, 0, 5] t) (some (115792089237316195423570985008687907853269984665640564039457584007913129639936 / 6)) :=
  ⟨#[3, 0, 0, 5], t, rfl, rfl, .inl ⟨by decide +kernel, by decide +kernel, by rw [show worth #[3, 0, 0, 5] = 5 by decide +kernel]; rfl⟩⟩
theorem item_z {b : Array UInt8} (t : Tok) (hb : b.size = 4) (hw : worth b = 0) : ItemG (.bytes b t) none := ⟨b, t, rfl, hb, .inr ⟨hw, rfl⟩⟩
theorem items_2 {v₁ v₂ : Value} {o₁ o₂ : Option Int} (h1 : ItemG v₁ o₁) (h2 : ItemG v₂ o₂) : ∀ (i : Nat) v o, (#[v₁, v₂] : Array Value)[i]? = some v → [o₁, o₂][i]? = some o → ItemG v o := by
  intro i v o e1 e2
  match i with
  | 0 => simp at e1 e2; subst e1 e2; exact h1
  | 1 => simp at e1 e2; subst e1 e2; exact h2
  | n + 2 => simp at e2
theorem items_1 {v₁ : Value} {o₁ : Option Int} (h1 : ItemG v₁ o₁) : ∀ (i : Nat) v o, (#[v₁] : Array Value)[i]? = some v → [o₁][i]? = some o → ItemG v o := by
  intro i v o e1 e2
  match i with
  | 0 => simp at e1 e2; subst e1 e2; exact h1
  | n + 1 => simp at e2
theorem news_swap {h₀ h : Heap} {L : Addr} {a b : Addr × Obj} {r : List (Addr × Obj)} (N : News h₀ L h (a :: b :: r)) : News h₀ L h (b :: a :: r) := fun q hq => N q (by
  simp only [List.mem_cons] at hq ⊢
  rcases hq with h | h | h
  · exact .inr (.inl h)
  · exact .inl h
  · exact .inr (.inr h))
theorem list_ne {h₀ h : Heap} {L l P : Addr} {ps items : Array Value} {n : Nat} {news : List (Addr × Obj)} (N : News h₀ L h ((l, PySem.W.listOf items n) :: (P, tabO ps) :: news)) (hNP : ∀ q ∈ news, q.1 ≠ P) : ∀ q ∈ (l, PySem.W.listOf items n) :: news, q.1 ≠ P := by
  intro q hq
  rcases List.mem_cons.mp hq with rfl | hq
  · intro z
    have h1 := (N _ List.mem_cons_self).1
    have h2 := (N (P, tabO ps) (by simp)).1
    simp only at z h1 h2
    rw [z, h2] at h1
    cases h1
  · exact hNP q hq
section
variable {p : Program} (w : World) (mean : ExcName → Option Value) (mg mb : Str → Option Value) (loose : List Str) (l P : Addr) (ps : Array Value) (t5 tb : Tok) (news : List (Addr × Obj)) (hps : TriplesOk ps.toList) (hNP : ∀ q ∈ news, q.1 ≠ P)
  (dp un : Nat) (gd : Option (List Code)) (cn : Str) (cs : Scope) (a : Addr) (ccd : Value) (A₀ : Around) (h₀ : Heap) (L : Addr) (m : Str → Option Value) (s : Shared) (Q E : Value → Shared → Prop)
  (B0 : Below A₀ h₀ [] h₀) (F0 : Fr h₀ L s.heap m) (X0 : (hd.heap_39 w.params).In h₀) (T0 : Top p loose mean mg mb h₀) (hcs : cs.kind = .function) (hdp : dp + 20 < recursionLimit) (hun : un + 200 < cLine)
  (CP0 : CodeP h₀ 142 P) (hbare : AllBare s.gens)
include hps hNP B0 F0 X0 T0 hcs hdp hun CP0 hbare
theorem c_chain2 (b : Array UInt8) (hb : b.size = 4) (hw : worth b = 0) (N0 : News h₀ L s.heap ((l, PySem.W.listOf #[.bytes #[3, 0, 0, 5] t5, .bytes b tb] 0) :: (P, tabO ps) :: news))
  (hret : ∀ (t : Tok) (h' : Heap) (tk' : Nat) (gens' : Array GenState) (ps' more : Array Value), ps' = ps ++ more → TriplesOk ps'.toList → Fr h₀ L h' m → News h₀ L h' ((P, tabO ps') :: news) → AllBare gens' → Q (.str (PySem.Str.ofString "nought") t) { s with heap := h', toks := tk', gens := gens' }) :
  wpAny (model Challenge.rw_ez0014_01.row.prog w) (ktrTop dp un gd cn cs L a ccd [] []) (call (.ref 254) [.ref l]) Q E s :=
  c_chainR (p := p) w mean mg mb loose l P ps _ 0 [some (115792089237316195423570985008687907853269984665640564039457584007913129639936 / 6), none] rfl (items_2 (item_5 t5) (item_z tb hb hw)) rfl news hps (list_ne N0 hNP) dp un gd cn cs a ccd A₀ h₀ L m s Q E B0 F0 X0 (news_swap N0) T0 hcs hdp hun CP0 hbare
    fun t h' tk' gens' ps' more e1 e2 F N G => hret t h' tk' gens' ps' more e1 e2 F (fun q hq => N q (by
      rcases List.mem_cons.mp hq with h | h
      · rw [h]; exact List.mem_cons_self
      · exact List.mem_cons_of_mem _ (List.mem_cons_of_mem _ h))) G
theorem c_chain1 (N0 : News h₀ L s.heap ((l, PySem.W.listOf #[.bytes #[3, 0, 0, 5] t5] 0) :: (P, tabO ps) :: news))
  (hret : ∀ (t : Tok) (h' : Heap) (tk' : Nat) (gens' : Array GenState) (ps' more : Array Value), ps' = ps ++ more → TriplesOk ps'.toList → Fr h₀ L h' m → News h₀ L h' ((P, tabO ps') :: news) → AllBare gens' → Q (.int (115792089237316195423570985008687907853269984665640564039457584007913129639936 / 6) t) { s with heap := h', toks := tk', gens := gens' }) :
  wpAny (model Challenge.rw_ez0014_01.row.prog w) (ktrTop dp un gd cn cs L a ccd [] []) (call (.ref 254) [.ref l]) Q E s :=
  c_chainV (p := p) w mean mg mb loose l P ps _ 0 [some (115792089237316195423570985008687907853269984665640564039457584007913129639936 / 6)] rfl (items_1 (item_5 t5)) rfl news hps (list_ne N0 hNP) dp un gd cn cs a ccd A₀ h₀ L m s Q E B0 F0 X0 (news_swap N0) T0 hcs hdp hun CP0 hbare
    fun t h' tk' gens' ps' more e1 e2 F N G => by
      have := hret t h' tk' gens' ps' more e1 e2 F (fun q hq => N q (by
        rcases List.mem_cons.mp hq with h | h
        · rw [h]; exact List.mem_cons_self
        · exact List.mem_cons_of_mem _ (List.mem_cons_of_mem _ h))) G
      simpa only [valz, List.sum_cons, List.sum_nil, Int.add_zero] using this
theorem c_chain0 (N0 : News h₀ L s.heap ((l, PySem.W.listOf #[] 0) :: (P, tabO ps) :: news))
  (hret : ∀ (t : Tok) (h' : Heap) (tk' : Nat) (gens' : Array GenState) (ps' more : Array Value), ps' = ps ++ more → TriplesOk ps'.toList → Fr h₀ L h' m → News h₀ L h' ((P, tabO ps') :: news) → AllBare gens' → Q (.int 0 t) { s with heap := h', toks := tk', gens := gens' }) :
  wpAny (model Challenge.rw_ez0014_01.row.prog w) (ktrTop dp un gd cn cs L a ccd [] []) (call (.ref 254) [.ref l]) Q E s :=
  c_chainV (p := p) w mean mg mb loose l P ps _ 0 [] rfl (fun i v o _ e2 => by simp at e2) rfl news hps (list_ne N0 hNP) dp un gd cn cs a ccd A₀ h₀ L m s Q E B0 F0 X0 (news_swap N0) T0 hcs hdp hun CP0 hbare
    fun t h' tk' gens' ps' more e1 e2 F N G => hret t h' tk' gens' ps' more e1 e2 F (fun q hq => N q (by
        rcases List.mem_cons.mp hq with h | h
        · rw [h]; exact List.mem_cons_self
        · exact List.mem_cons_of_mem _ (List.mem_cons_of_mem _ h))) G
end
end
section
/-- the state behind a turn in which the table of places and the generators may have grown -/
def GenNext (h₀ : Heap) (L P : Addr) (m : Str → Option Value) (news : List (Addr × Obj)) (s s' : Shared) : Prop :=
  ∃ h tk gens ps, s' = { s with heap := h, toks := tk, gens := gens } ∧ Fr h₀ L h m ∧ News h₀ L h ((P, tabO ps) :: news) ∧ AllBare gens ∧ TriplesOk ps.toList
theorem GenNext.mk {h₀ : Heap} {L P : Addr} {m : Str → Option Value} {news : List (Addr × Obj)} {s : Shared} {h : Heap} {tk : Nat} {gens : Array GenState} {ps : Array Value} (F : Fr h₀ L h m) (N : News h₀ L h ((P, tabO ps) :: news)) (G : AllBare gens) (hp : TriplesOk ps.toList) :
    GenNext h₀ L P m news s { s with heap := h, toks := tk, gens := gens } := ⟨h, tk, gens, ps, rfl, F, N, G, hp⟩
def CutG (h₀ : Heap) (L P : Addr) (m : Str → Option Value) (news : List (Addr × Obj)) (s : Shared) (xs : List Str) (f : Flow) (s' : Shared) : Prop :=
  f = .next ∧ ∃ u : Str → Option Value, GenNext h₀ L P (fun y => ovr xs u m y) news s s'
section
variable {prog : Program} {w : World} {A : Around} {E : Value → Shared → Prop} {s : Shared} {env : Env} {st : Stmt} {rest : List Stmt} {Q : Flow → Shared → Prop} {h₀ : Heap} {L P : Addr} {m : Str → Option Value} {news : List (Addr × Obj)} {ps : Array Value}
theorem cutG (xs : List Str) (h1 : wpAny (model prog w) A (exec st env) (CutG h₀ L P m news s xs) E s)
    (h2 : ∀ (u : Str → Option Value) h tk gens ps, Fr h₀ L h (fun y => ovr xs u m y) → News h₀ L h ((P, tabO ps) :: news) → AllBare gens → TriplesOk ps.toList → wpAny (model prog w) A (execs rest env) Q E { s with heap := h, toks := tk, gens := gens }) :
    wpAny (model prog w) A (execs (st :: rest) env) Q E s := wpAny_execs_cons (wpAny_mono h1 (fun f s' h => by
      obtain ⟨rfl, u, h, tk, gens, ps, rfl, F, N, G, hp⟩ := h
      exact h2 u h tk gens ps F N G hp) fun _ _ e => e)
theorem For_G {x : Str} {px pos : Pos} {iter : PySem.Expr} {body : List Stmt} {l : Addr} {vs : List Value} {n : Nat} (PV : Value → Prop)
    (hh : A.handled = none) (hx : env.kindOf x = some .local) (hp : (env.scope.kind == .class || (env.scope.kind == .module && env.locals != env.globals)) = false) (hL : env.locals = L)
    (F : Fr h₀ L s.heap m) (N : News h₀ L s.heap ((P, tabO ps) :: news)) (hm : (l, PySem.W.listOf vs.toArray n) ∈ news) (hNP : ∀ q ∈ news, q.1 ≠ P) (hps : TriplesOk ps.toList) (hG : AllBare s.gens) (ha : All PV vs)
    (hiter : ∀ Q', Q' (.ref l) s → wpAny (model prog w) A (eval iter env) Q' E s)
    (turn : ∀ (v : Value) (u : Str → Option Value) (h : Heap) (tk : Nat) (gens : Array GenState) (ps : Array Value) (I : Addr) (io : Obj), PV v → I ≠ P → Fr h₀ L h (fun y => if y = x then some v else m y) → News h₀ L h ((P, tabO ps) :: (I, io) :: news) → AllBare gens → TriplesOk ps.toList →
      wpAny (model prog w) A (execs body env) (fun f s' => f = .next ∧ GenNext h₀ L P (fun y => if y = x then some v else m y) ((I, io) :: news) { s with heap := h, toks := tk, gens := gens } s') E { s with heap := h, toks := tk, gens := gens })
    (done : ∀ s', CutG h₀ L P m news s [x] .next s' → Q .next s')
    (hs : ∀ x, foldedSetIterable iter env x = pure x := by intro _; rfl)
    (hE : PassesOwn (model prog w) A env E := by passes_own) :
    wpAny (model prog w) A (exec (.For (.Name x px) iter body [] pos) env) Q E s := by
  have hP : s.heap.get? P = some (tabO ps) := (N _ List.mem_cons_self).1
  have hls : s.heap.IsList l vs.toArray := ⟨_, (N _ (List.mem_cons_of_mem _ hm)).1, rfl, n, rfl⟩
  have hlI : l ≠ s.heap.objs.size := Nat.ne_of_lt (Heap.lt_size (N _ (List.mem_cons_of_mem _ hm)).1)
  have hPI : P ≠ s.heap.objs.size := Nat.ne_of_lt (Heap.lt_size hP)
  have hLI : L ≠ s.heap.objs.size := Nat.ne_of_lt F.ns.lt
  have hnI : ∀ q ∈ (P, tabO ps) :: news, q.1 ≠ s.heap.objs.size := fun q hq => Nat.ne_of_lt (Heap.lt_size (N q hq).1)
  have hoI : ∀ b o, h₀.get? b = some o → b ≠ s.heap.objs.size := fun b o e => Nat.ne_of_lt (Heap.lt_size (F.keep _ _ e))
  have hI0 : h₀.get? s.heap.objs.size = none := Heap.get?_none_of_le (Nat.le_of_lt (Nat.lt_of_le_of_lt F.above F.ns.lt))
  refine wpAny_For (hiter _ (wpAny_pyIter_list hls ?_)) hs
  refine codeAny_forLoop
    (fun k s' => ∃ h' tk gens ps' i u, s' = { s with heap := h', toks := tk, gens := gens } ∧ h'.IsListIter s.heap.objs.size l i ∧ Fr h₀ L h' (fun y => ovr [x] u m y) ∧ News h₀ L h' ((P, tabO ps') :: news) ∧ AllBare gens ∧ TriplesOk ps'.toList ∧ i ≤ vs.length ∧ k = vs.length + 1 - i) ?_ (vs.length + 1)
    ⟨_, s.toks, s.gens, ps, 0, m, rfl, ⟨_, Heap.get?_push_size _ rfl, rfl, rfl⟩, ?_, ?_, hG, hps, Nat.zero_le _, rfl⟩
  · rintro k s' ⟨h', tk, gens, ps', i, u, rfl, hit, F', N', hG', hps', hi, rfl⟩
    have hl' : h'.IsList l vs.toArray := ⟨_, (N' _ (List.mem_cons_of_mem _ hm)).1, rfl, n, rfl⟩
    rcases Nat.lt_or_ge i vs.length with hlt | hge
    · have hv : vs.toArray[i]? = some (vs[i]'hlt) := by simp [hlt]
      refine wpAny_pyNext_list_item hit hl' hv fun h₁ hit₁ hs₁ => ?_
      have F₁ : Fr h₀ L h₁ (fun y => ovr [x] u m y) := ⟨F'.ns.sameBut hs₁ hLI, fun b o e => hs₁.extBut b o (hoI b o e) (F'.keep b o e), F'.above⟩
      have N₁ : News h₀ L h₁ ((P, tabO ps') :: news) := fun q hq => ⟨hs₁.extBut _ _ (by
        rcases List.mem_cons.mp hq with rfl | hq
        · exact hPI
        · exact hnI q (List.mem_cons_of_mem _ hq)) (N' q hq).1, (N' q hq).2⟩
      have hns : h₁.Ns env.locals (fun y => ovr [x] u m y) := by rw [hL]; exact F₁.ns
      refine wpAny_assign_Name (wpAny_storeName_local hx hns (fun h₂ hn₂ hs₂ => ?_) hp)
      rw [hL] at hn₂ hs₂
      have e : (fun y => if y = x then some (vs[i]'hlt) else ovr [x] u m y) = fun y => if y = x then some (vs[i]'hlt) else m y := by
        funext y
        by_cases hy : y = x
        · rw [if_pos hy, if_pos hy]
        · rw [if_neg hy, if_neg hy]
          show (if y = x then u y else m y) = m y
          rw [if_neg hy]
      rw [e] at hn₂
      have F₂ := F₁.set hn₂ hs₂
      have N₂ := N₁.set hs₂
      obtain ⟨io, hio, hioc, hiod⟩ := hit₁.extBut hs₂.extBut (Ne.symm hLI)
      have N₃ : News h₀ L h₂ ((P, tabO ps') :: (s.heap.objs.size, io) :: news) := by
        intro q hq
        simp only [List.mem_cons] at hq
        rcases hq with rfl | rfl | hq
        · exact N₂ _ List.mem_cons_self
        · exact ⟨hio, Ne.symm hLI, hI0⟩
        · exact N₂ _ (List.mem_cons_of_mem _ hq)
      refine wpAny_mono (wpAny_passesOwn hE (turn (vs[i]'hlt) u h₂ (tk + 1) gens ps' s.heap.objs.size io (ha.get (i := i) (by simp [hlt])) (Ne.symm hPI) F₂ N₃ hG' hps')) (fun f s₃ h₃ => ?_) fun _ _ e => e
      obtain ⟨rfl, h₃', tk₃, gens₃, ps₃, rfl, F₃, N₄, hG₃, hps₃⟩ := h₃
      refine ⟨vs.length + 1 - (i + 1), by omega, h₃', tk₃, gens₃, ps₃, i + 1, fun _ => some (vs[i]'hlt), rfl, ⟨io, (N₄ (s.heap.objs.size, io) (by simp)).1, hioc, hiod⟩, F₃, fun q hq => N₄ q (by
        rcases List.mem_cons.mp hq with rfl | hq
        · exact List.mem_cons_self
        · exact List.mem_cons_of_mem _ (List.mem_cons_of_mem _ hq)), hG₃, hps₃, hlt, rfl⟩
    · have hin : i = vs.length := Nat.le_antisymm hi hge
      subst hin
      refine wpAny_pyNext_list_end hh hit hl' (by simp) fun h₁ he₁ => wpAny_execs_nil ?_
      refine done _ ⟨rfl, u, h₁, tk, gens, ps', rfl, ⟨F'.ns.extBut he₁ hLI, fun b o e => he₁ b o (hoI b o e) (F'.keep b o e), F'.above⟩, fun q hq => ⟨he₁ _ _ (by
        rcases List.mem_cons.mp hq with rfl | hq
        · exact hPI
        · exact hnI q (List.mem_cons_of_mem _ hq)) (N' q hq).1, (N' q hq).2⟩, hG', hps'⟩
  · have e : (fun y => ovr [x] m m y) = m := by
      funext y
      show (if y = x then m y else m y) = m y
      split <;> rfl
    rw [e]
    exact F.push _
  · exact fun q hq => ⟨Heap.get?_push_of_some _ (N q hq).1, (N q hq).2⟩
end
end
section
section
variable {h h' : Heap} {P L c f : Addr} {ps : Array Value} {m mg mb : Str → Option Value} {K : Frag} {p : Program} {loose : List Str} {mean : ExcName → Option Value} {x : Str}
theorem tab_of (X : K.In h) (T : Top p loose mean mg mb h) (hr : ((recsOf p).any fun d => d.name == x) = true) (e : nsIn K mainGlobals x = some (some (.ref f))) {oc : Value} {od : Option Addr} {fdk : FuncData} {osl : Array (Option Value)} (el : K.lookup f = some ⟨oc, od, .func fdk, osl⟩) (ec : fdk.code = .ref c) : ∃ P, h.IsCode c P #[] ∧ h.TableAt c P #[] := by
  obtain ⟨d, hd1, hd2⟩ := List.any_eq_true.mp hr
  obtain ⟨a, o, fd, c', P, q1, q2, q3, q4, q5, q6⟩ := T.tab d hd1
  have hn : d.name = x := beq_iff_eq.mp hd2
  have q7 := mg_of X T.g e
  rw [hn, q7] at q1
  cases q1
  have z := X _ _ el
  rw [q2] at z
  cases z
  cases q3
  rw [q4] at ec
  cases ec
  exact ⟨P, q5, q6⟩
theorem hole_code (x : CodeP h c P) : CodeP (hole h P) c P := by
  obtain ⟨o, vs, file, tf, flags, tg, inF, text, tt, ho, h1, h2, h3, h4, h5, h6, h7, h8, hne⟩ := x
  exact ⟨o, vs, file, tf, flags, tg, inF, text, tt, hole_get ho hne, h1, h2, h3, h4, h5, h6, h7, h8, hne⟩
theorem undig (hC : h.IsCode c P #[]) (hT : h.TableAt c P #[]) (hst : P ≠ cStatics) (F : Fr (hole h P) L h' m) (hP' : h'.get? P = some (tabO ps)) (hps : TriplesOk ps.toList) : Based h (regrown h P ps) c P ps ∧ Fr (regrown h P ps) L h' m := by
  have hself : (regrown h P ps).get? P = some (tabO ps) := Heap.get?_update_self _ hT.2 rfl
  have hoth : ∀ b, b ≠ P → (regrown h P ps).get? b = h.get? b := fun b hb => Heap.get?_update_other _ _ (Ne.symm hb)
  have hCP : CodeP (regrown h P ps) c P := by
    obtain ⟨o, vs, file, tf, flags, tg, inF, text, tt, ho, h1, h2, h3, h4, h5, h6, h7, h8, hne⟩ := CodeP.of hC hT
    exact ⟨o, vs, file, tf, flags, tg, inF, text, tt, (hoth _ hne).trans ho, h1, h2, h3, h4, h5, h6, h7, h8, hne⟩
  obtain ⟨hc, ht⟩ := hCP.isCode hself hps
  refine ⟨⟨(OldK.refl h).step_table hT hT (more := ps) (by rw [Array.empty_append]; exact ht) (fun b o hb e => (hoth b hb).trans e) hst, ⟨(Heap.SameBut.update h P _).1, fun b hb => hoth b hb⟩, hc, ht, ⟨#[], hT⟩, hst⟩, F.ns, fun b o e => ?_, ?_⟩
  · by_cases hb : b = P
    · subst hb
      rw [hself] at e
      cases e
      exact hP'
    · rw [hoth b hb] at e
      exact F.keep b o (hole_get e hb)
  · have := F.above
    rw [hole_size] at this
    exact Nat.le_trans (Nat.le_of_eq (Heap.SameBut.update h P _).1) this
end
theorem kbc (P : Params) : kb_classed (hd.heap_39 P) = true := by kernel_rfl
theorem below_hole {h : Heap} {P : Addr} {o : Obj} (_ : h.get? P = some o) : Below callerA (hole h P) [] (hole h P) := below_caller _
end
section
local macro_rules | `(tactic| walk_at "pyIter ref") => `(tactic| (k_here; (with_reducible show wpAny _ _ (pyIter (Value.ref _)) (fun it s₂ => LoopAtV _ _ _ _ _ _ _ _ _ it s₂) _ _); (rename Fr _ _ _ _ => lF'); (rename News _ _ _ _ => lN'); (with_unfolding_all refine' iter_allL [] (IsB fun b => b.size ≠ 4 ∧ b.size ≤ 1000) ?hh lF' lN' ?hm ?hc ?hd ?ha ?_ ?_; (case hh => exact rfl); (case hm => k_mem); (case hc => exact rfl); (case hd => exact rfl); (case ha => repeat (first | exact All.nil | refine All.cons (IsB.mk (by first | (constructor <;> omega) | decide)) ?_)); (intro v' u' h' tk' own' hv' F' N'; (obtain ⟨b', t', e', hb'⟩ := hv'); subst e'; (obtain ⟨hb1', hb2'⟩ := hb'); (try k_fold)); rotate_left; (intro u' h' tk' F' N'; (try k_fold)); rotate_right); walk_say "LOOP over all"))
local macro_rules | `(tactic| walk_at "call ref") => `(tactic| (k_here; (first | (with_reducible show wpAny _ _ (call (Value.ref (nat_lit 226)) [Value.bytes _ _] _) _ _ _) | (with_reducible show wpAny _ _ (call (Value.ref 226) [Value.bytes _ _] _) _ _ _)); k_dflt (refine' (c_target _ _ _ _ _ _ _ (by first | assumption | omega) (by first | assumption | omega) _) _ _ _ _ _ _ _ _ _ _ _ _ _ _ ?k1 ?k2 ?k3 ?k4 ?k5 ?kK ?kp ?kd ?ku ?_; (case k1 => k_asm); (case k2 => k_asm); (case k3 => k_asm); (case k4 => k_asm); (case k5 => k_asm); (case kK => first | exact rfl | assumption); (case kp => exact trivial); (case kd => ktr_room); (case ku => ktr_units)); intro t9 h9 tk9 F9 N9; (try dsimp only); (try k_sweep); (try k_fold); walk_say "BY CONTRACT c_target"))
local macro_rules | `(tactic| walk_at "call ref") => `(tactic| (k_here; (first | (with_reducible show wpAny _ _ (call (Value.ref (nat_lit 233)) [Value.bytes _ _] _) _ _ _) | (with_reducible show wpAny _ _ (call (Value.ref 233) [Value.bytes _ _] _) _ _ _)); k_dflt (refine' (c_sign _ _ _ _ _ _ _ (by first | assumption | omega) (by first | assumption | omega) _) _ _ _ _ _ _ _ _ _ _ _ _ _ _ ?k1 ?k2 ?k3 ?k4 ?k5 ?kK ?kp ?kd ?ku ?_; (case k1 => k_asm); (case k2 => k_asm); (case k3 => k_asm); (case k4 => k_asm); (case k5 => k_asm); (case kK => first | exact rfl | assumption); (case kp => exact trivial); (case kd => ktr_room); (case ku => ktr_units)); intro t9 h9 tk9 F9 N9; (try dsimp only); (try k_sweep); (try k_fold); walk_say "BY CONTRACT c_sign"))
local macro_rules | `(tactic| walk_at "call ref") => `(tactic| (k_here; (first | (with_reducible show wpAny _ _ (call (Value.ref (nat_lit 247)) [Value.bytes _ _] _) _ _ _) | (with_reducible show wpAny _ _ (call (Value.ref 247) [Value.bytes _ _] _) _ _ _)); k_dflt (refine' (c_workR _ _ _ _ _ _ _ (by first | assumption | omega) (by first | assumption | omega) _) _ _ _ _ _ _ _ _ _ _ _ _ _ _ ?k1 ?k2 ?k3 ?k4 ?k5 ?kK ?kp ?kd ?ku ?_; (case k1 => k_asm); (case k2 => k_asm); (case k3 => k_asm); (case k4 => k_asm); (case k5 => k_asm); (case kK => first | exact rfl | assumption); (case kp => exact trivial); (case kd => ktr_room); (case ku => ktr_units)); intro t9 h9 tk9 F9 N9; (try dsimp only); (try k_sweep); (try k_fold); walk_say "BY CONTRACT c_workR"))
set_option maxHeartbeats 2000000 in
theorem ch_2 {p : Program} (w : World) (mean : ExcName → Option Value) (mg mb : Str → Option Value) (loose : List Str) (h₀ : Heap) (L a : Addr) (cd : Value) (m0 : Str → Option Value) (news : List (Addr × Obj)) (s : Shared) (R : Result → Shared → Prop) (head : Int) (th : Tok) (more : Int) (tm : Tok) 
  (F : Fr h₀ L s.heap (fun y => (if y = PySem.Str.ofString "more" then some (.int more tm) else (if y = PySem.Str.ofString "head" then some (.int head th) else (m0 y))))) (N : News h₀ L s.heap news) (T : Top p loose mean mg mb h₀) (K0 : Below callerA h₀ [] h₀) :
  (hd.heap_39 w.params).In h₀ → wpAny (model Challenge.rw_ez0014_01.row.prog w) (callerA.deeper (lawEnv L a cd)) (exec (lawSt 2) (lawEnv L a cd)) (CutF h₀ L (fun y => (if y = PySem.Str.ofString "more" then some (.int more tm) else (if y = PySem.Str.ofString "head" then some (.int head th) else (m0 y)))) news s (PySem.Str.ofString "row") (IsB fun b => b.size = 5)) (lawE w L a cd R) s := by
  k_fill
  intro X
  dsimp only [lawSt, lawEnv, lawE, lawD, lawOf, nth]
  k_steps
  all_goals refine CutF.mk ?_ (by k_asm) (by first | k_asm | exact cb_drop (by assumption) (by repeat (first | exact sub_refl | refine sub_tail ?_ | refine sub_app ?_)))
  all_goals exact IsB.mk rfl
set_option maxHeartbeats 2000000 in
theorem ch_3 {p : Program} (w : World) (mean : ExcName → Option Value) (mg mb : Str → Option Value) (loose : List Str) (h₀ : Heap) (L a : Addr) (cd : Value) (m0 : Str → Option Value) (news : List (Addr × Obj)) (s : Shared) (R : Result → Shared → Prop) (row : Array UInt8) (tr : Tok) (hrow : row.size = 5) 
  (F : Fr h₀ L s.heap (fun y => (if y = PySem.Str.ofString "row" then some (.bytes row tr) else (m0 y)))) (N : News h₀ L s.heap news) (T : Top p loose mean mg mb h₀) (K0 : Below callerA h₀ [] h₀) :
  (hd.heap_39 w.params).In h₀ → wpAny (model Challenge.rw_ez0014_01.row.prog w) (callerA.deeper (lawEnv L a cd)) (exec (lawSt 3) (lawEnv L a cd)) (CutL h₀ L (fun y => (if y = PySem.Str.ofString "row" then some (.bytes row tr) else (m0 y))) news s [PySem.Str.ofString "form"]) (lawE w L a cd R) s := by
  k_fill
  intro X
  dsimp only [lawSt, lawEnv, lawE, lawD, lawOf, nth]
  k_steps
  all_goals exact CutL.mk (by k_asm) (by first | k_asm | exact cb_drop (by assumption) (by repeat (first | exact sub_refl | refine sub_tail ?_ | refine sub_app ?_)))
end
local macro_rules | `(tactic| walk_at "nowhere") => `(tactic| fail "nowhere")
section
local macro_rules | `(tactic| walk_at "call type:bytes") => `(tactic| (k_here; (with_reducible show wpAny _ _ (call (Value.type "bytes") [Value.int _ _]) _ _ _); (refine' call_bz ?eza ?ezb ?_; (case eza => omega); (case ezb => omega)); intro _ _ _ hz'))
local macro_rules | `(tactic| walk_at "binaryOp Mult bytes int") => `(tactic| (k_here; (with_reducible (refine' mul_z ?eza ?ezb ?_; (case eza => omega); (case ezb => omega))); intro _ _ _ hz'))
local macro_rules | `(tactic| walk_at "pyIter ref") => `(tactic| (k_here; (with_reducible show wpAny _ _ (pyIter (Value.ref _)) (fun it s₂ => LoopAtV _ _ _ _ _ _ _ _ _ it s₂) _ _); (rename Fr _ _ _ _ => lF'); (rename News _ _ _ _ => lN'); (with_unfolding_all refine' iter_allL [] (IsB fun b => ¬ b.size ≤ 32 ∧ b.size ≤ 1000) ?hh lF' lN' ?hm ?hc ?hd ?ha ?_ ?_; (case hh => exact rfl); (case hm => k_mem); (case hc => exact rfl); (case hd => exact rfl); (case ha => repeat (first | exact All.nil | refine All.cons (IsB.mk (by (try simp only [Array.size_append, List.size_toArray, List.length_cons, List.length_nil]); constructor <;> omega)) ?_)); (intro v' u' h' tk' own' hv' F' N'; (obtain ⟨b', t', e', hb'⟩ := hv'); subst e'; (obtain ⟨hb1', hb2'⟩ := hb'); (try k_fold)); rotate_left; (intro u' h' tk' F' N'; (try k_fold)); rotate_right); walk_say "LOOP over targets"))
local macro_rules | `(tactic| walk_at "call ref") => `(tactic| (k_here; (first | (with_reducible show wpAny _ _ (call (Value.ref (nat_lit 240)) [Value.bytes _ _] _) _ _ _) | (with_reducible show wpAny _ _ (call (Value.ref 240) [Value.bytes _ _] _) _ _ _)); k_dflt (refine' (c_bits _ _ _ _ _ _ _ (by first | assumption | omega) (by first | assumption | omega) _) _ _ _ _ _ _ _ _ _ _ _ _ _ _ ?k1 ?k2 ?k3 ?k4 ?k5 ?kK ?kp ?kd ?ku ?_; (case k1 => k_asm); (case k2 => k_asm); (case k3 => k_asm); (case k4 => k_asm); (case k5 => k_asm); (case kK => first | exact rfl | assumption); (case kp => exact trivial); (case kd => ktr_room); (case ku => ktr_units)); intro t9 h9 tk9 F9 N9; (try dsimp only); (try k_sweep); (try k_fold); walk_say "BY CONTRACT c_bits"))
set_option maxHeartbeats 2000000 in
theorem ch_4 {p : Program} (w : World) (mean : ExcName → Option Value) (mg mb : Str → Option Value) (loose : List Str) (h₀ : Heap) (L a : Addr) (cd : Value) (m0 : Str → Option Value) (news : List (Addr × Obj)) (s : Shared) (R : Result → Shared → Prop) (head : Int) (th : Tok) (more : Int) (tm : Tok) (row : Array UInt8) (tr : Tok) (hrow : row.size = 5) (u1 : Str → Option Value) 
  (F : Fr h₀ L s.heap (fun y => (ovr [PySem.Str.ofString "form"] u1 (fun y => (if y = PySem.Str.ofString "row" then some (.bytes row tr) else (if y = PySem.Str.ofString "more" then some (.int more tm) else (if y = PySem.Str.ofString "head" then some (.int head th) else (m0 y))))) y))) (N : News h₀ L s.heap news) (T : Top p loose mean mg mb h₀) (K0 : Below callerA h₀ [] h₀) :
  (hd.heap_39 w.params).In h₀ → wpAny (model Challenge.rw_ez0014_01.row.prog w) (callerA.deeper (lawEnv L a cd)) (exec (lawSt 4) (lawEnv L a cd)) (CutL h₀ L (fun y => (ovr [PySem.Str.ofString "form"] u1 (fun y => (if y = PySem.Str.ofString "row" then some (.bytes row tr) else (if y = PySem.Str.ofString "more" then some (.int more tm) else (if y = PySem.Str.ofString "head" then some (.int head th) else (m0 y))))) y)) news s [PySem.Str.ofString "target"]) (lawE w L a cd R) s := by
  k_fill
  intro X
  dsimp only [lawSt, lawEnv, lawE, lawD, lawOf, nth]
  k_steps
  all_goals exact CutL.mk (by k_asm) (by first | k_asm | exact cb_drop (by assumption) (by repeat (first | exact sub_refl | refine sub_tail ?_ | refine sub_app ?_)))
end
section
local macro_rules | `(tactic| walk_at "binaryOp Pow int int") => `(tactic| (k_here; (with_reducible (refine' pow_2n ?eza ?ezb ?_; (case eza => omega); (case ezb => omega))); intro _ _ _ hp1' hp2'))
local macro_rules | `(tactic| walk_at "binaryOp Mult int int") => `(tactic| (k_here; (with_reducible show wpAny _ _ (binaryOp Operator.Mult (Value.int _ _) (Value.int (1 + _ % _) _)) _ _ _); (with_reducible (refine' mul_opq ?eza ?ezb ?ezc ?ezd ?_; (case eza => omega); (case ezb => omega); (case ezc => omega); (case ezd => omega))); intro _ _ _ hp1' hp2'))
local macro_rules | `(tactic| walk_at "call ref") => `(tactic| (k_here; (first | (with_reducible show wpAny _ _ (call (Value.ref (nat_lit 219)) [Value.int _ _] _) _ _ _) | (with_reducible show wpAny _ _ (call (Value.ref 219) [Value.int _ _] _) _ _ _)); k_dflt (refine' (c_form _ _ _ _ _ _ _ (by first | assumption | omega) (by first | assumption | omega) _) _ _ _ _ _ _ _ _ _ _ _ _ _ _ _ _ ?k1 ?k2 ?k3 ?k4 ?k5 ?kK ?kp ?kd ?ku ?_; (case k1 => k_asm); (case k2 => k_asm); (case k3 => k_asm); (case k4 => k_asm); (case k5 => k_asm); (case kK => first | exact rfl | assumption); (case kp => exact trivial); (case kd => ktr_room); (case ku => ktr_units)); intro t9 h9 tk9 F9 N9; (try dsimp only); (try k_sweep); (try k_fold); walk_say "BY CONTRACT c_form"))
local macro_rules | `(tactic| walk_at "subscriptTail") => `(tactic| (k_here; (with_reducible show wpAny _ _ (subscriptTail _ _ (Value.ref _) (Value.int (_ % 3) _)) _ _ _); (with_reducible refine sub_mod3 ?_ ?_ ?_) <;> intro _))
local macro_rules | `(tactic| walk_at "subscriptTail") => `(tactic| (k_here; (with_reducible show wpAny _ _ (subscriptTail _ _ (Value.ref _) (Value.int (_ % 4) _)) _ _ _); (with_reducible refine sub_mod4 ?_ ?_ ?_ ?_) <;> intro _))
set_option maxHeartbeats 2000000 in
theorem ch_8 {p : Program} (w : World) (mean : ExcName → Option Value) (mg mb : Str → Option Value) (loose : List Str) (h₀ : Heap) (L a : Addr) (cd : Value) (m0 : Str → Option Value) (news : List (Addr × Obj)) (s : Shared) (R : Result → Shared → Prop) (more : Int) (tm : Tok) (row : Array UInt8) (tr : Tok) (hrow : row.size = 5) (u1 : Str → Option Value) (u2 : Str → Option Value) (noughts : Addr) (u4 : Str → Option Value) (u5 : Str → Option Value) 
  (F : Fr h₀ L s.heap (fun y => (ovr [] u5 (fun y => (ovr [PySem.Str.ofString "form"] u4 (fun y => (if y = PySem.Str.ofString "noughts" then some (.ref noughts) else (ovr [PySem.Str.ofString "target"] u2 (fun y => (ovr [PySem.Str.ofString "form"] u1 (fun y => (if y = PySem.Str.ofString "row" then some (.bytes row tr) else (if y = PySem.Str.ofString "more" then some (.int more tm) else (m0 y)))) y)) y))) y)) y))) (N : News h₀ L s.heap news) (T : Top p loose mean mg mb h₀) (K0 : Below callerA h₀ [] h₀) :
  (hd.heap_39 w.params).In h₀ → wpAny (model Challenge.rw_ez0014_01.row.prog w) (callerA.deeper (lawEnv L a cd)) (exec (lawSt 8) (lawEnv L a cd)) (CutF h₀ L (fun y => (ovr [] u5 (fun y => (ovr [PySem.Str.ofString "form"] u4 (fun y => (if y = PySem.Str.ofString "noughts" then some (.ref noughts) else (ovr [PySem.Str.ofString "target"] u2 (fun y => (ovr [PySem.Str.ofString "form"] u1 (fun y => (if y = PySem.Str.ofString "row" then some (.bytes row tr) else (if y = PySem.Str.ofString "more" then some (.int more tm) else (m0 y)))) y)) y))) y)) y)) news s (PySem.Str.ofString "spacing") (IsI fun n => 0 < n ∧ n ≤ 1200)) (lawE w L a cd R) s := by
  k_fill
  intro X
  dsimp only [lawSt, lawEnv, lawE, lawD, lawOf, nth]
  k_steps
  all_goals refine CutF.mk ?_ (by k_asm) (by first | k_asm | exact cb_drop (by assumption) (by repeat (first | exact sub_refl | refine sub_tail ?_ | refine sub_app ?_)))
  all_goals exact IsI.mk (by omega)
set_option maxHeartbeats 2000000 in
theorem ch_9 {p : Program} (w : World) (mean : ExcName → Option Value) (mg mb : Str → Option Value) (loose : List Str) (h₀ : Heap) (L a : Addr) (cd : Value) (m0 : Str → Option Value) (news : List (Addr × Obj)) (s : Shared) (R : Result → Shared → Prop) (more : Int) (tm : Tok) (row : Array UInt8) (tr : Tok) (hrow : row.size = 5) (u1 : Str → Option Value) (u2 : Str → Option Value) (noughts : Addr) (u4 : Str → Option Value) (u5 : Str → Option Value) (spacing : Int) (tsp : Tok) (hs1 : 0 < spacing) (hs2 : spacing ≤ 1200) 
  (F : Fr h₀ L s.heap (fun y => (if y = PySem.Str.ofString "spacing" then some (.int spacing tsp) else (ovr [] u5 (fun y => (ovr [PySem.Str.ofString "form"] u4 (fun y => (if y = PySem.Str.ofString "noughts" then some (.ref noughts) else (ovr [PySem.Str.ofString "target"] u2 (fun y => (ovr [PySem.Str.ofString "form"] u1 (fun y => (if y = PySem.Str.ofString "row" then some (.bytes row tr) else (if y = PySem.Str.ofString "more" then some (.int more tm) else (m0 y)))) y)) y))) y)) y)))) (N : News h₀ L s.heap news) (T : Top p loose mean mg mb h₀) (K0 : Below callerA h₀ [] h₀) :
  (hd.heap_39 w.params).In h₀ → wpAny (model Challenge.rw_ez0014_01.row.prog w) (callerA.deeper (lawEnv L a cd)) (exec (lawSt 9) (lawEnv L a cd)) (CutF h₀ L (fun y => (if y = PySem.Str.ofString "spacing" then some (.int spacing tsp) else (ovr [] u5 (fun y => (ovr [PySem.Str.ofString "form"] u4 (fun y => (if y = PySem.Str.ofString "noughts" then some (.ref noughts) else (ovr [PySem.Str.ofString "target"] u2 (fun y => (ovr [PySem.Str.ofString "form"] u1 (fun y => (if y = PySem.Str.ofString "row" then some (.bytes row tr) else (if y = PySem.Str.ofString "more" then some (.int more tm) else (m0 y)))) y)) y))) y)) y))) news s (PySem.Str.ofString "period") (IsI fun n => 0 < n ∧ n ≤ 2016)) (lawE w L a cd R) s := by
  k_fill
  intro X
  dsimp only [lawSt, lawEnv, lawE, lawD, lawOf, nth]
  k_steps
  all_goals refine CutF.mk ?_ (by k_asm) (by first | k_asm | exact cb_drop (by assumption) (by repeat (first | exact sub_refl | refine sub_tail ?_ | refine sub_app ?_)))
  all_goals exact IsI.mk (by omega)
set_option maxHeartbeats 2000000 in
theorem ch_10 {p : Program} (w : World) (mean : ExcName → Option Value) (mg mb : Str → Option Value) (loose : List Str) (h₀ : Heap) (L a : Addr) (cd : Value) (m0 : Str → Option Value) (news : List (Addr × Obj)) (s : Shared) (R : Result → Shared → Prop) (spacing : Int) (tsp : Tok) (hs1 : 0 < spacing) (hs2 : spacing ≤ 1200) (period : Int) (tp : Tok) (hp1 : 0 < period) (hp2 : period ≤ 2016) 
  (F : Fr h₀ L s.heap (fun y => (if y = PySem.Str.ofString "period" then some (.int period tp) else (if y = PySem.Str.ofString "spacing" then some (.int spacing tsp) else (m0 y))))) (N : News h₀ L s.heap news) (T : Top p loose mean mg mb h₀) (K0 : Below callerA h₀ [] h₀) :
  (hd.heap_39 w.params).In h₀ → wpAny (model Challenge.rw_ez0014_01.row.prog w) (callerA.deeper (lawEnv L a cd)) (exec (lawSt 10) (lawEnv L a cd)) (CutF h₀ L (fun y => (if y = PySem.Str.ofString "period" then some (.int period tp) else (if y = PySem.Str.ofString "spacing" then some (.int spacing tsp) else (m0 y)))) news s (PySem.Str.ofString "whole") (IsI fun n => n = spacing * period)) (lawE w L a cd R) s := by
  k_fill
  intro X
  dsimp only [lawSt, lawEnv, lawE, lawD, lawOf, nth]
  k_steps
  all_goals refine CutF.mk ?_ (by k_asm) (by first | k_asm | exact cb_drop (by assumption) (by repeat (first | exact sub_refl | refine sub_tail ?_ | refine sub_app ?_)))
  all_goals exact IsI.mk rfl
set_option maxHeartbeats 2000000 in
theorem ch_11 {p : Program} (w : World) (mean : ExcName → Option Value) (mg mb : Str → Option Value) (loose : List Str) (h₀ : Heap) (L a : Addr) (cd : Value) (m0 : Str → Option Value) (news : List (Addr × Obj)) (s : Shared) (R : Result → Shared → Prop) (more : Int) (tm : Tok) (row : Array UInt8) (tr : Tok) (hrow : row.size = 5) (u1 : Str → Option Value) (u2 : Str → Option Value) (noughts : Addr) (u4 : Str → Option Value) (u5 : Str → Option Value) (spacing : Int) (tsp : Tok) (hs1 : 0 < spacing) (hs2 : spacing ≤ 1200) (period : Int) (tp : Tok) (hp1 : 0 < period) (hp2 : period ≤ 2016) (whole : Int) (tw : Tok) 
  (F : Fr h₀ L s.heap (fun y => (if y = PySem.Str.ofString "whole" then some (.int whole tw) else (if y = PySem.Str.ofString "period" then some (.int period tp) else (if y = PySem.Str.ofString "spacing" then some (.int spacing tsp) else (ovr [] u5 (fun y => (ovr [PySem.Str.ofString "form"] u4 (fun y => (if y = PySem.Str.ofString "noughts" then some (.ref noughts) else (ovr [PySem.Str.ofString "target"] u2 (fun y => (ovr [PySem.Str.ofString "form"] u1 (fun y => (if y = PySem.Str.ofString "row" then some (.bytes row tr) else (if y = PySem.Str.ofString "more" then some (.int more tm) else (m0 y)))) y)) y))) y)) y)))))) (N : News h₀ L s.heap news) (T : Top p loose mean mg mb h₀) (K0 : Below callerA h₀ [] h₀) :
  (hd.heap_39 w.params).In h₀ → wpAny (model Challenge.rw_ez0014_01.row.prog w) (callerA.deeper (lawEnv L a cd)) (exec (lawSt 11) (lawEnv L a cd)) (CutF h₀ L (fun y => (if y = PySem.Str.ofString "whole" then some (.int whole tw) else (if y = PySem.Str.ofString "period" then some (.int period tp) else (if y = PySem.Str.ofString "spacing" then some (.int spacing tsp) else (ovr [] u5 (fun y => (ovr [PySem.Str.ofString "form"] u4 (fun y => (if y = PySem.Str.ofString "noughts" then some (.ref noughts) else (ovr [PySem.Str.ofString "target"] u2 (fun y => (ovr [PySem.Str.ofString "form"] u1 (fun y => (if y = PySem.Str.ofString "row" then some (.bytes row tr) else (if y = PySem.Str.ofString "more" then some (.int more tm) else (m0 y)))) y)) y))) y)) y))))) news s (PySem.Str.ofString "limit") (IsB fun b => b.size = 4 ∧ worth b < 883423532389192164791648750371459257913741948437809479060803100646309888)) (lawE w L a cd R) s := by
  k_fill
  intro X
  dsimp only [lawSt, lawEnv, lawE, lawD, lawOf, nth]
  k_steps
  all_goals refine CutF.mk ?_ (by k_asm) (by first | k_asm | exact cb_drop (by assumption) (by repeat (first | exact sub_refl | refine sub_tail ?_ | refine sub_app ?_)))
  all_goals exact IsB.mk (by decide +kernel)
set_option maxHeartbeats 2000000 in
theorem ch_12 {p : Program} (w : World) (mean : ExcName → Option Value) (mg mb : Str → Option Value) (loose : List Str) (h₀ : Heap) (L a : Addr) (cd : Value) (m0 : Str → Option Value) (news : List (Addr × Obj)) (s : Shared) (R : Result → Shared → Prop) (head : Int) (th : Tok) (more : Int) (tm : Tok) (row : Array UInt8) (tr : Tok) (hrow : row.size = 5) (u1 : Str → Option Value) (u2 : Str → Option Value) (noughts : Addr) (u4 : Str → Option Value) (u5 : Str → Option Value) (spacing : Int) (tsp : Tok) (hs1 : 0 < spacing) (hs2 : spacing ≤ 1200) (period : Int) (tp : Tok) (hp1 : 0 < period) (hp2 : period ≤ 2016) (whole : Int) (tw : Tok) (limit : Array UInt8) (tl : Tok) (hl4 : limit.size = 4) (hlw : worth limit < 883423532389192164791648750371459257913741948437809479060803100646309888) 
  (F : Fr h₀ L s.heap (fun y => (if y = PySem.Str.ofString "limit" then some (.bytes limit tl) else (if y = PySem.Str.ofString "whole" then some (.int whole tw) else (if y = PySem.Str.ofString "period" then some (.int period tp) else (if y = PySem.Str.ofString "spacing" then some (.int spacing tsp) else (ovr [] u5 (fun y => (ovr [PySem.Str.ofString "form"] u4 (fun y => (if y = PySem.Str.ofString "noughts" then some (.ref noughts) else (ovr [PySem.Str.ofString "target"] u2 (fun y => (ovr [PySem.Str.ofString "form"] u1 (fun y => (if y = PySem.Str.ofString "row" then some (.bytes row tr) else (if y = PySem.Str.ofString "more" then some (.int more tm) else (if y = PySem.Str.ofString "head" then some (.int head th) else (m0 y))))) y)) y))) y)) y))))))) (N : News h₀ L s.heap news) (T : Top p loose mean mg mb h₀) (K0 : Below callerA h₀ [] h₀) :
  (hd.heap_39 w.params).In h₀ → wpAny (model Challenge.rw_ez0014_01.row.prog w) (callerA.deeper (lawEnv L a cd)) (exec (lawSt 12) (lawEnv L a cd)) (CutF h₀ L (fun y => (if y = PySem.Str.ofString "limit" then some (.bytes limit tl) else (if y = PySem.Str.ofString "whole" then some (.int whole tw) else (if y = PySem.Str.ofString "period" then some (.int period tp) else (if y = PySem.Str.ofString "spacing" then some (.int spacing tsp) else (ovr [] u5 (fun y => (ovr [PySem.Str.ofString "form"] u4 (fun y => (if y = PySem.Str.ofString "noughts" then some (.ref noughts) else (ovr [PySem.Str.ofString "target"] u2 (fun y => (ovr [PySem.Str.ofString "form"] u1 (fun y => (if y = PySem.Str.ofString "row" then some (.bytes row tr) else (if y = PySem.Str.ofString "more" then some (.int more tm) else (if y = PySem.Str.ofString "head" then some (.int head th) else (m0 y))))) y)) y))) y)) y)))))) news s (PySem.Str.ofString "old") (IsB fun b => b.size = 4 ∧ worth b < 1645504557321206042154969182557350504982735865633579863348609024)) (lawE w L a cd R) s := by
  k_fill
  intro X
  dsimp only [lawSt, lawEnv, lawE, lawD, lawOf, nth]
  k_steps
  all_goals refine CutF.mk ?_ (by k_asm) (by first | k_asm | exact cb_drop (by assumption) (by repeat (first | exact sub_refl | refine sub_tail ?_ | refine sub_app ?_)))
  all_goals exact IsB.mk ⟨lform_size _, worth_below (by omega) (by omega) (by decide)⟩
end
section
set_option maxHeartbeats 3000000 in
theorem c_cons {p : Program} (w : World) (mean : ExcName → Option Value) (mg mb : Str → Option Value) (loose : List Str) (v0 v1 v2 v3 v4 v5 v6 v9 v10 v13 v14 v15 v16 : Value) (limit : Array UInt8) (tl : Tok) (al : Bool) (spacing whole : Int) (tsp tw : Tok) (news : List (Addr × Obj))
  (h₀ : Heap) (L a : Addr) (cd : Value) (m : Str → Option Value) (s : Shared) (Q E : Value → Shared → Prop)
  (B0 : Below callerA h₀ [] h₀) (F0 : Fr h₀ L s.heap m) (X0 : (hd.heap_39 w.params).In h₀) (N0 : News h₀ L s.heap news) (T0 : Top p loose mean mg mb h₀)
  (hret : ∀ (x : Addr) (h' : Heap) (tk' : Nat) (news' : List (Addr × Obj)), RulesAt w news' x al limit spacing whole → (∀ p ∈ news, p ∈ news') → Fr h₀ L h' m → News h₀ L h' news' → Q (.ref x) { s with heap := h', toks := tk' }) :
  wpAny (model Challenge.rw_ez0014_01.row.prog w) (callerA.deeper (lawEnv L a cd)) (call (.ref 201) [v0, v1, v2, v3, v4, v5, v6, .bytes limit tl, .bool al, v9, v10, .int spacing tsp, .int whole tw, v13, v14, v15, v16]) Q E s := by
  have hKx : (hd.heap_39 w.params) = (hd.heap_39 w.params) := rfl
  revert hKx
  k_fill
  intro _
  dsimp only [lawEnv, lawD, lawOf]
  k_steps
  all_goals refine hret _ _ _ _ ?_ ?_ (by k_asm) (by k_asm)
  all_goals first | exact ⟨_, _, _, _, _, _, _, _, _, _, _, _, _, _, _, _, _, _, _, _, _, _, _, _, _, _, _, _, _, _, _, _, _, _, _, List.mem_cons_self, List.mem_cons_of_mem _ List.mem_cons_self⟩ | (repeat (first | exact sub_refl | refine sub_tail ?_))
end
section
local macro_rules | `(tactic| walk_at "call ref") => `(tactic| (k_here; (first | (with_reducible show wpAny _ _ (call (Value.ref (nat_lit 201)) _ _) _ _ _) | (with_reducible show wpAny _ _ (call (Value.ref 201) _ _) _ _ _)); k_dflt (refine' c_cons _ _ _ _ _ _ _ _ _ _ _ _ _ _ _ _ _ _ _ _ _ _ _ _ _ _ _ _ _ _ _ _ _ _ ?k1 ?k2 ?k3 ?k4 ?k5 ?_; (case k1 => k_asm); (case k2 => k_asm); (case k3 => k_asm); (case k4 => k_asm); (case k5 => k_asm)); intro x9 h9 tk9 news9 hR9 hs9 F9 N9; (try dsimp only); (try k_sweep); (try k_fold); walk_say "BY CONTRACT c_cons"))
set_option maxHeartbeats 2000000 in
theorem ch_13 {p : Program} (w : World) (mean : ExcName → Option Value) (mg mb : Str → Option Value) (loose : List Str) (h₀ : Heap) (L a : Addr) (cd : Value) (m0 : Str → Option Value) (news : List (Addr × Obj)) (s : Shared) (R : Result → Shared → Prop) (spacing : Int) (tsp : Tok) (hs1 : 0 < spacing) (hs2 : spacing ≤ 1200) (period : Int) (tp : Tok) (hp1 : 0 < period) (hp2 : period ≤ 2016) (whole : Int) (tw : Tok) (limit : Array UInt8) (tl : Tok) (hl4 : limit.size = 4) (hlw : worth limit < 883423532389192164791648750371459257913741948437809479060803100646309888) (old : Array UInt8) (told : Tok) (ho4 : old.size = 4) (how : worth old < 1645504557321206042154969182557350504982735865633579863348609024) 
  (F : Fr h₀ L s.heap (fun y => (if y = PySem.Str.ofString "old" then some (.bytes old told) else (if y = PySem.Str.ofString "limit" then some (.bytes limit tl) else (if y = PySem.Str.ofString "whole" then some (.int whole tw) else (if y = PySem.Str.ofString "period" then some (.int period tp) else (if y = PySem.Str.ofString "spacing" then some (.int spacing tsp) else (m0 y)))))))) (N : News h₀ L s.heap news) (T : Top p loose mean mg mb h₀) (K0 : Below callerA h₀ [] h₀) :
  (hd.heap_39 w.params).In h₀ → wpAny (model Challenge.rw_ez0014_01.row.prog w) (callerA.deeper (lawEnv L a cd)) (exec (lawSt 13) (lawEnv L a cd)) (CutO h₀ L (fun y => (if y = PySem.Str.ofString "old" then some (.bytes old told) else (if y = PySem.Str.ofString "limit" then some (.bytes limit tl) else (if y = PySem.Str.ofString "whole" then some (.int whole tw) else (if y = PySem.Str.ofString "period" then some (.int period tp) else (if y = PySem.Str.ofString "spacing" then some (.int spacing tsp) else (m0 y))))))) news s (PySem.Str.ofString "rules") (fun ns a => RulesAt w ns a false limit spacing whole)) (lawE w L a cd R) s := by
  k_fill
  intro X
  dsimp only [lawSt, lawEnv, lawE, lawD, lawOf, nth]
  k_steps
  all_goals refine CutO.mk (by k_asm) (by k_asm) (by assumption) ?_
  all_goals (intro q9 hq9; (rename (∀ p ∈ _, p ∈ _) => hs8); exact hs8 _ (by repeat (first | exact hq9 | refine List.mem_cons_of_mem _ ?_)))
set_option maxHeartbeats 2000000 in
theorem ch_14 {p : Program} (w : World) (mean : ExcName → Option Value) (mg mb : Str → Option Value) (loose : List Str) (h₀ : Heap) (L a : Addr) (cd : Value) (m0 : Str → Option Value) (news : List (Addr × Obj)) (s : Shared) (R : Result → Shared → Prop) (spacing : Int) (tsp : Tok) (hs1 : 0 < spacing) (hs2 : spacing ≤ 1200) (period : Int) (tp : Tok) (hp1 : 0 < period) (hp2 : period ≤ 2016) (whole : Int) (tw : Tok) (limit : Array UInt8) (tl : Tok) (hl4 : limit.size = 4) (hlw : worth limit < 883423532389192164791648750371459257913741948437809479060803100646309888) (old : Array UInt8) (told : Tok) (ho4 : old.size = 4) (how : worth old < 1645504557321206042154969182557350504982735865633579863348609024) (rules : Addr) 
  (F : Fr h₀ L s.heap (fun y => (if y = PySem.Str.ofString "rules" then some (.ref rules) else (if y = PySem.Str.ofString "old" then some (.bytes old told) else (if y = PySem.Str.ofString "limit" then some (.bytes limit tl) else (if y = PySem.Str.ofString "whole" then some (.int whole tw) else (if y = PySem.Str.ofString "period" then some (.int period tp) else (if y = PySem.Str.ofString "spacing" then some (.int spacing tsp) else (m0 y))))))))) (N : News h₀ L s.heap news) (T : Top p loose mean mg mb h₀) (K0 : Below callerA h₀ [] h₀) :
  (hd.heap_39 w.params).In h₀ → wpAny (model Challenge.rw_ez0014_01.row.prog w) (callerA.deeper (lawEnv L a cd)) (exec (lawSt 14) (lawEnv L a cd)) (CutO h₀ L (fun y => (if y = PySem.Str.ofString "rules" then some (.ref rules) else (if y = PySem.Str.ofString "old" then some (.bytes old told) else (if y = PySem.Str.ofString "limit" then some (.bytes limit tl) else (if y = PySem.Str.ofString "whole" then some (.int whole tw) else (if y = PySem.Str.ofString "period" then some (.int period tp) else (if y = PySem.Str.ofString "spacing" then some (.int spacing tsp) else (m0 y)))))))) news s (PySem.Str.ofString "free") (fun ns a => RulesAt w ns a true limit spacing whole)) (lawE w L a cd R) s := by
  k_fill
  intro X
  dsimp only [lawSt, lawEnv, lawE, lawD, lawOf, nth]
  k_steps
  all_goals refine CutO.mk (by k_asm) (by k_asm) (by assumption) ?_
  all_goals (intro q9 hq9; (rename (∀ p ∈ _, p ∈ _) => hs8); exact hs8 _ (by repeat (first | exact hq9 | refine List.mem_cons_of_mem _ ?_)))
end
section
local macro_rules | `(tactic| walk_at "call ref") => `(tactic| (k_here; (first | (with_reducible show wpAny _ _ (call (Value.ref (nat_lit 212)) [Value.bytes _ _] _) _ _ _) | (with_reducible show wpAny _ _ (call (Value.ref 212) [Value.bytes _ _] _) _ _ _)); k_dflt (refine' (c_worth _ _ _ _ _ _ _ (by first | assumption | exact lform_size _ | omega) _) _ _ _ _ _ _ _ _ _ _ _ _ _ _ _ _ ?k1 ?k2 ?k3 ?k4 ?k5 ?kK ?kp ?kd ?ku ?_; (case k1 => k_asm); (case k2 => k_asm); (case k3 => k_asm); (case k4 => k_asm); (case k5 => k_asm); (case kK => first | exact rfl | assumption); (case kp => exact trivial); (case kd => ktr_room); (case ku => ktr_units)); intro t9 h9 tk9 F9 N9; (try dsimp only); (try k_sweep); (try k_fold); walk_say "BY CONTRACT c_worth"))
local macro_rules | `(tactic| walk_at "call ref") => `(tactic| (k_here; (first | (with_reducible show wpAny _ _ (call (Value.ref (nat_lit 268)) [Value.int _ _, Value.int _ _, Value.int _ _, Value.int _ _] _) _ _ _) | (with_reducible show wpAny _ _ (call (Value.ref 268) [Value.int _ _, Value.int _ _, Value.int _ _, Value.int _ _] _) _ _ _)); k_dflt (refine' (c_lbound _ _ _ _ _ _ _ _ _ _ _ _ _ (by first | assumption | omega) (by first | assumption | omega) (by first | assumption | omega) (by first | assumption | omega) (by first | assumption | omega) (by first | assumption | omega) (by first | assumption | omega) (by first | assumption | omega) _) _ _ _ _ _ _ _ _ _ _ _ _ _ _ _ _ ?k1 ?k2 ?k3 ?k4 ?k5 ?kK ?kp ?kd ?ku ?_; (case k1 => k_asm); (case k2 => k_asm); (case k3 => k_asm); (case k4 => k_asm); (case k5 => k_asm); (case kK => first | exact rfl | assumption); (case kp => exact trivial); (case kd => ktr_room); (case ku => ktr_units)); intro t9 h9 tk9 F9 N9; (try dsimp only); (try k_sweep); (try k_fold); walk_say "BY CONTRACT c_lbound"))
set_option maxHeartbeats 2000000 in
theorem ch_15 {p : Program} (w : World) (mean : ExcName → Option Value) (mg mb : Str → Option Value) (loose : List Str) (h₀ : Heap) (L a : Addr) (cd : Value) (m0 : Str → Option Value) (news : List (Addr × Obj)) (s : Shared) (R : Result → Shared → Prop) (whole : Int) (tw : Tok) (limit : Array UInt8) (tl : Tok) (hl4 : limit.size = 4) (hlw : worth limit < 883423532389192164791648750371459257913741948437809479060803100646309888) (old : Array UInt8) (told : Tok) (ho4 : old.size = 4) (how : worth old < 1645504557321206042154969182557350504982735865633579863348609024) (rules : Addr) (free : Addr) (hw0 : 0 < whole) (hw1 : whole < 100000000) (hl0 : 0 ≤ worth limit) (ho0 : 0 ≤ worth old)
  (F : Fr h₀ L s.heap (fun y => (if y = PySem.Str.ofString "free" then some (.ref free) else (if y = PySem.Str.ofString "rules" then some (.ref rules) else (if y = PySem.Str.ofString "old" then some (.bytes old told) else (if y = PySem.Str.ofString "limit" then some (.bytes limit tl) else (if y = PySem.Str.ofString "whole" then some (.int whole tw) else (m0 y)))))))) (N : News h₀ L s.heap news) (T : Top p loose mean mg mb h₀) (K0 : Below callerA h₀ [] h₀) :
  (hd.heap_39 w.params).In h₀ → wpAny (model Challenge.rw_ez0014_01.row.prog w) (callerA.deeper (lawEnv L a cd)) (exec (lawSt 15) (lawEnv L a cd)) (CutF h₀ L (fun y => (if y = PySem.Str.ofString "free" then some (.ref free) else (if y = PySem.Str.ofString "rules" then some (.ref rules) else (if y = PySem.Str.ofString "old" then some (.bytes old told) else (if y = PySem.Str.ofString "limit" then some (.bytes limit tl) else (if y = PySem.Str.ofString "whole" then some (.int whole tw) else (m0 y))))))) news s (PySem.Str.ofString "most") (IsI fun n => n = bnd (worth old) (whole * 4) whole (worth limit))) (lawE w L a cd R) s := by
  k_fill
  intro X
  dsimp only [lawSt, lawEnv, lawE, lawD, lawOf, nth]
  k_steps
  all_goals refine CutF.mk ?_ (by k_asm) (by first | k_asm | exact cb_drop (by assumption) (by repeat (first | exact sub_refl | refine sub_tail ?_ | refine sub_app ?_)))
  all_goals exact IsI.mk (by rw [Int.mul_comm whole 4])
set_option maxHeartbeats 2000000 in
theorem ch_16 {p : Program} (w : World) (mean : ExcName → Option Value) (mg mb : Str → Option Value) (loose : List Str) (h₀ : Heap) (L a : Addr) (cd : Value) (m0 : Str → Option Value) (news : List (Addr × Obj)) (s : Shared) (R : Result → Shared → Prop) (whole : Int) (tw : Tok) (limit : Array UInt8) (tl : Tok) (hl4 : limit.size = 4) (hlw : worth limit < 883423532389192164791648750371459257913741948437809479060803100646309888) (old : Array UInt8) (told : Tok) (ho4 : old.size = 4) (how : worth old < 1645504557321206042154969182557350504982735865633579863348609024) (rules : Addr) (free : Addr) (most : Int) (tmo : Tok) (hw0 : 0 < whole) (hw1 : whole < 100000000) (hl0 : 0 ≤ worth limit) (ho0 : 0 ≤ worth old)
  (F : Fr h₀ L s.heap (fun y => (if y = PySem.Str.ofString "most" then some (.int most tmo) else (if y = PySem.Str.ofString "free" then some (.ref free) else (if y = PySem.Str.ofString "rules" then some (.ref rules) else (if y = PySem.Str.ofString "old" then some (.bytes old told) else (if y = PySem.Str.ofString "limit" then some (.bytes limit tl) else (if y = PySem.Str.ofString "whole" then some (.int whole tw) else (m0 y))))))))) (N : News h₀ L s.heap news) (T : Top p loose mean mg mb h₀) (K0 : Below callerA h₀ [] h₀) :
  (hd.heap_39 w.params).In h₀ → wpAny (model Challenge.rw_ez0014_01.row.prog w) (callerA.deeper (lawEnv L a cd)) (exec (lawSt 16) (lawEnv L a cd)) (CutF h₀ L (fun y => (if y = PySem.Str.ofString "most" then some (.int most tmo) else (if y = PySem.Str.ofString "free" then some (.ref free) else (if y = PySem.Str.ofString "rules" then some (.ref rules) else (if y = PySem.Str.ofString "old" then some (.bytes old told) else (if y = PySem.Str.ofString "limit" then some (.bytes limit tl) else (if y = PySem.Str.ofString "whole" then some (.int whole tw) else (m0 y)))))))) news s (PySem.Str.ofString "least") (IsI fun n => n = bnd (worth old) (whole / 4) whole (worth limit))) (lawE w L a cd R) s := by
  k_fill
  intro X
  dsimp only [lawSt, lawEnv, lawE, lawD, lawOf, nth]
  k_steps
  all_goals refine CutF.mk ?_ (by k_asm) (by first | k_asm | exact cb_drop (by assumption) (by repeat (first | exact sub_refl | refine sub_tail ?_ | refine sub_app ?_)))
  all_goals exact IsI.mk rfl
end
section
local macro_rules | `(tactic| walk_at "call ref") => `(tactic| (k_here; (first | (with_reducible show wpAny _ _ (call (Value.ref (nat_lit 212)) [Value.bytes _ _] _) _ _ _) | (with_reducible show wpAny _ _ (call (Value.ref 212) [Value.bytes _ _] _) _ _ _)); k_dflt (refine' (c_worth _ _ _ _ _ _ _ (by first | assumption | exact lform_size _ | omega) _) _ _ _ _ _ _ _ _ _ _ _ _ _ _ _ _ ?k1 ?k2 ?k3 ?k4 ?k5 ?kK ?kp ?kd ?ku ?_; (case k1 => k_asm); (case k2 => k_asm); (case k3 => k_asm); (case k4 => k_asm); (case k5 => k_asm); (case kK => first | exact rfl | assumption); (case kp => exact trivial); (case kd => ktr_room); (case ku => ktr_units)); intro t9 h9 tk9 F9 N9; (try dsimp only); (try k_sweep); (try k_fold); walk_say "BY CONTRACT c_worth"))
local macro_rules | `(tactic| walk_at "call ref") => `(tactic| (k_here; (first | (with_reducible show wpAny _ _ (call (Value.ref (nat_lit 261)) [Value.ref _, Value.int _ _, Value.bytes _ _, Value.bytes _ _] _) _ _ _) | (with_reducible show wpAny _ _ (call (Value.ref 261) [Value.ref _, Value.int _ _, Value.bytes _ _, Value.bytes _ _] _) _ _ _)); k_dflt (refine' (c_mfreeR _ _ _ _ _ _ _ _ _ _ _ _ _ _ (0 : Int) _ ?e0 ?e1 _ ?kr) _ _ _ _ _ _ _ _ _ _ _ _ _ _ ?k1 ?k2 ?k3 ?k4 ?k5 ?kK ?kp ?kd ?ku ?_; (case k1 => k_asm); (case k2 => k_asm); (case k3 => k_asm); (case k4 => k_asm); (case k5 => k_asm); (case kr => first | with_reducible assumption | exact RulesAt.mono (by with_reducible assumption) (by repeat (first | exact sub_refl | refine sub_tail ?_ | refine sub_app ?_))); (case e0 => first | with_reducible assumption | omega); (case e1 => first | with_reducible assumption | omega);(case kK => first | exact rfl | assumption); (case kp => exact trivial); (case kd => ktr_room); (case ku => ktr_units)); intro t9 h9 tk9 F9 N9; (try dsimp only); (try k_sweep); (try k_fold); walk_say "BY CONTRACT c_mfreeR"))
local macro_rules | `(tactic| walk_at "call ref") => `(tactic| (k_here; (first | (with_reducible show wpAny _ _ (call (Value.ref (nat_lit 261)) [Value.ref _, Value.int _ _, Value.bytes _ _, Value.bytes _ _] _) _ _ _) | (with_reducible show wpAny _ _ (call (Value.ref 261) [Value.ref _, Value.int _ _, Value.bytes _ _, Value.bytes _ _] _) _ _ _)); k_dflt (refine' (c_mneR _ _ _ _ _ _ _ _ _ _ _ _ _ _ _ _ ?e0 ?e1 ?e2 ?e3 ?e4 ?e5 ?e6 ?e7 ?e8 _ ?kr) _ _ _ _ _ _ _ _ _ _ _ _ _ _ ?k1 ?k2 ?k3 ?k4 ?k5 ?kK ?kp ?kd ?ku ?_; (case k1 => k_asm); (case k2 => k_asm); (case k3 => k_asm); (case k4 => k_asm); (case k5 => k_asm); (case kr => first | with_reducible assumption | exact RulesAt.mono (by with_reducible assumption) (by repeat (first | exact sub_refl | refine sub_tail ?_ | refine sub_app ?_))); (case e0 => first | with_reducible assumption | omega); (case e1 => first | with_reducible assumption | omega); (case e2 => first | with_reducible assumption | omega); (case e3 => first | with_reducible assumption | omega); (case e4 => first | with_reducible assumption | omega); (case e5 => first | with_reducible assumption | omega); (case e6 => first | with_reducible assumption | omega); (case e7 => first | with_reducible assumption | omega); (case e8 => first | with_reducible assumption | omega);(case kK => first | exact rfl | assumption); (case kp => exact trivial); (case kd => ktr_room); (case ku => ktr_units)); intro t9 h9 tk9 F9 N9; (try dsimp only); (try k_sweep); (try k_fold); walk_say "BY CONTRACT c_mneR"))
local macro_rules | `(tactic| walk_at "call ref") => `(tactic| (k_here; (first | (with_reducible show wpAny _ _ (call (Value.ref (nat_lit 261)) [Value.ref _, Value.int _ _, Value.bytes _ _, Value.bytes _ _] _) _ _ _) | (with_reducible show wpAny _ _ (call (Value.ref 261) [Value.ref _, Value.int _ _, Value.bytes _ _, Value.bytes _ _] _) _ _ _)); k_dflt (refine' (c_meqR _ _ _ _ _ _ _ _ _ _ _ _ _ _ _ _ ?e0 ?e1 ?e2 ?e3 ?e4 ?e5 ?e6 ?e7 ?e8 ?e9 ?e10 ?e11 ?e12 _ ?kr) _ _ _ _ _ _ _ _ _ _ _ _ _ _ ?k1 ?k2 ?k3 ?k4 ?k5 ?kK ?kp ?kd ?ku ?_; (case k1 => k_asm); (case k2 => k_asm); (case k3 => k_asm); (case k4 => k_asm); (case k5 => k_asm); (case kr => first | with_reducible assumption | exact RulesAt.mono (by with_reducible assumption) (by repeat (first | exact sub_refl | refine sub_tail ?_ | refine sub_app ?_))); (case e0 => first | with_reducible assumption | omega); (case e1 => first | with_reducible assumption | omega); (case e2 => first | with_reducible assumption | omega); (case e3 => first | with_reducible assumption | omega); (case e4 => first | with_reducible assumption | omega); (case e5 => first | with_reducible assumption | omega); (case e6 => first | with_reducible assumption | omega); (case e7 => first | with_reducible assumption | omega); (case e8 => first | with_reducible assumption | omega); (case e9 => first | with_reducible assumption | omega); (case e10 => first | with_reducible assumption | omega); (case e11 => first | with_reducible assumption | omega); (case e12 => first | with_reducible assumption | omega);(case kK => first | exact rfl | assumption); (case kp => exact trivial); (case kd => ktr_room); (case ku => ktr_units)); intro t9 h9 tk9 F9 N9; (try dsimp only); (try k_sweep); (try k_fold); walk_say "BY CONTRACT c_meqR"))
local macro_rules | `(tactic| walk_at "zzz") => `(tactic| skip)
set_option maxHeartbeats 2000000 in
theorem in_eq {p : Program} (w : World) (mean : ExcName → Option Value) (mg mb : Str → Option Value) (loose : List Str) (h₀ : Heap) (L a : Addr) (cd : Value) (m1 u u2 : Str → Option Value) (news : List (Addr × Obj)) (s : Shared) (Q : Flow → Shared → Prop) (R : Result → Shared → Prop) (new : Array UInt8) (tn : Tok) (height : Int) (tht : Tok) (spacing : Int) (tsp : Tok) (hs1 : 0 < spacing) (hs2 : spacing ≤ 1200) (period : Int) (tp : Tok) (hp1 : 0 < period) (hp2 : period ≤ 2016) (whole : Int) (tw : Tok) (limit : Array UInt8) (tl : Tok) (hl4 : limit.size = 4) (hlw : worth limit < 883423532389192164791648750371459257913741948437809479060803100646309888) (old : Array UInt8) (told : Tok) (ho4 : old.size = 4) (how : worth old < 1645504557321206042154969182557350504982735865633579863348609024) (rules : Addr) (free : Addr) (most : Int) (tmo : Tok) (least : Int) (tle : Tok) (hw0 : 0 < whole) (hw1 : whole < 100000000) (hl0 : 0 ≤ worth limit) (ho0 : 0 ≤ worth old) (hwp : whole / spacing = period) (hmost : most = bnd (worth old) (whole * 4) whole (worth limit)) (hleast : least = bnd (worth old) (whole / 4) whole (worth limit)) (hmo0 : 0 ≤ most) (hmo1 : most ≤ worth limit) (hle0 : 0 ≤ least) (hle1 : least ≤ worth limit) (hn4 : new.size = 4) (hnw : worth new < 115792089237316195423570985008687907853269984665640564039457584007913129639936) (hR1 : RulesAt w news rules false limit spacing whole) (hR2 : RulesAt w news free true limit spacing whole) (hcase : height % period = 0)
  (F : Fr h₀ L s.heap (fun y => if y = PySem.Str.ofString "height" then some (.int height tht) else ovr [PySem.Str.ofString "due"] u (fun y => if y = PySem.Str.ofString "new" then some (.bytes new tn) else ovr [PySem.Str.ofString "height", PySem.Str.ofString "due"] u2 (fun y => (if y = PySem.Str.ofString "least" then some (.int least tle) else (if y = PySem.Str.ofString "most" then some (.int most tmo) else (if y = PySem.Str.ofString "free" then some (.ref free) else (if y = PySem.Str.ofString "rules" then some (.ref rules) else (if y = PySem.Str.ofString "old" then some (.bytes old told) else (if y = PySem.Str.ofString "limit" then some (.bytes limit tl) else (if y = PySem.Str.ofString "whole" then some (.int whole tw) else (if y = PySem.Str.ofString "period" then some (.int period tp) else (if y = PySem.Str.ofString "spacing" then some (.int spacing tsp) else (m1 y))))))))))) y) y)) (N : News h₀ L s.heap news) (T : Top p loose mean mg mb h₀) (K0 : Below callerA h₀ [] h₀) :
  (hd.heap_39 w.params).In h₀ → wpAny (model Challenge.rw_ez0014_01.row.prog w) (callerA.deeper (lawEnv L a cd)) (execs lawIn (lawEnv L a cd)) (InvPost h₀ L (fun m' => ∀ z, z ∉ [PySem.Str.ofString "height", PySem.Str.ofString "due"] → m' z = (fun y => if y = PySem.Str.ofString "new" then some (.bytes new tn) else ovr [PySem.Str.ofString "height", PySem.Str.ofString "due"] u2 (fun y => (if y = PySem.Str.ofString "least" then some (.int least tle) else (if y = PySem.Str.ofString "most" then some (.int most tmo) else (if y = PySem.Str.ofString "free" then some (.ref free) else (if y = PySem.Str.ofString "rules" then some (.ref rules) else (if y = PySem.Str.ofString "old" then some (.bytes old told) else (if y = PySem.Str.ofString "limit" then some (.bytes limit tl) else (if y = PySem.Str.ofString "whole" then some (.int whole tw) else (if y = PySem.Str.ofString "period" then some (.int period tp) else (if y = PySem.Str.ofString "spacing" then some (.int spacing tsp) else (m1 y))))))))))) y) z) news s Q) (lawE w L a cd R) s := by
  k_fill
  intro X
  dsimp only [lawIn, forBody, lawSt, lawEnv, lawE, lawD, lawOf, nth]
  k_steps
  all_goals exfalso
  all_goals first
    | omega
    | (rename ((@bne Bool _ _ _) = true) => hz; rw [← hleast, ← hmost] at hz; simp only [bne_iff_ne, ne_eq, decide_eq_decide] at hz; exact hz (by constructor <;> intro _ <;> omega))
    | (rename ((@bne Bool _ _ _) = true) => hz; simp at hz)
set_option maxHeartbeats 2000000 in
theorem in_ne {p : Program} (w : World) (mean : ExcName → Option Value) (mg mb : Str → Option Value) (loose : List Str) (h₀ : Heap) (L a : Addr) (cd : Value) (m1 u u2 : Str → Option Value) (news : List (Addr × Obj)) (s : Shared) (Q : Flow → Shared → Prop) (R : Result → Shared → Prop) (new : Array UInt8) (tn : Tok) (height : Int) (tht : Tok) (spacing : Int) (tsp : Tok) (hs1 : 0 < spacing) (hs2 : spacing ≤ 1200) (period : Int) (tp : Tok) (hp1 : 0 < period) (hp2 : period ≤ 2016) (whole : Int) (tw : Tok) (limit : Array UInt8) (tl : Tok) (hl4 : limit.size = 4) (hlw : worth limit < 883423532389192164791648750371459257913741948437809479060803100646309888) (old : Array UInt8) (told : Tok) (ho4 : old.size = 4) (how : worth old < 1645504557321206042154969182557350504982735865633579863348609024) (rules : Addr) (free : Addr) (most : Int) (tmo : Tok) (least : Int) (tle : Tok) (hw0 : 0 < whole) (hw1 : whole < 100000000) (hl0 : 0 ≤ worth limit) (ho0 : 0 ≤ worth old) (hwp : whole / spacing = period) (hmost : most = bnd (worth old) (whole * 4) whole (worth limit)) (hleast : least = bnd (worth old) (whole / 4) whole (worth limit)) (hmo0 : 0 ≤ most) (hmo1 : most ≤ worth limit) (hle0 : 0 ≤ least) (hle1 : least ≤ worth limit) (hn4 : new.size = 4) (hnw : worth new < 115792089237316195423570985008687907853269984665640564039457584007913129639936) (hR1 : RulesAt w news rules false limit spacing whole) (hR2 : RulesAt w news free true limit spacing whole) (hcase : height % period ≠ 0)
  (F : Fr h₀ L s.heap (fun y => if y = PySem.Str.ofString "height" then some (.int height tht) else ovr [PySem.Str.ofString "due"] u (fun y => if y = PySem.Str.ofString "new" then some (.bytes new tn) else ovr [PySem.Str.ofString "height", PySem.Str.ofString "due"] u2 (fun y => (if y = PySem.Str.ofString "least" then some (.int least tle) else (if y = PySem.Str.ofString "most" then some (.int most tmo) else (if y = PySem.Str.ofString "free" then some (.ref free) else (if y = PySem.Str.ofString "rules" then some (.ref rules) else (if y = PySem.Str.ofString "old" then some (.bytes old told) else (if y = PySem.Str.ofString "limit" then some (.bytes limit tl) else (if y = PySem.Str.ofString "whole" then some (.int whole tw) else (if y = PySem.Str.ofString "period" then some (.int period tp) else (if y = PySem.Str.ofString "spacing" then some (.int spacing tsp) else (m1 y))))))))))) y) y)) (N : News h₀ L s.heap news) (T : Top p loose mean mg mb h₀) (K0 : Below callerA h₀ [] h₀) :
  (hd.heap_39 w.params).In h₀ → wpAny (model Challenge.rw_ez0014_01.row.prog w) (callerA.deeper (lawEnv L a cd)) (execs lawIn (lawEnv L a cd)) (InvPost h₀ L (fun m' => ∀ z, z ∉ [PySem.Str.ofString "height", PySem.Str.ofString "due"] → m' z = (fun y => if y = PySem.Str.ofString "new" then some (.bytes new tn) else ovr [PySem.Str.ofString "height", PySem.Str.ofString "due"] u2 (fun y => (if y = PySem.Str.ofString "least" then some (.int least tle) else (if y = PySem.Str.ofString "most" then some (.int most tmo) else (if y = PySem.Str.ofString "free" then some (.ref free) else (if y = PySem.Str.ofString "rules" then some (.ref rules) else (if y = PySem.Str.ofString "old" then some (.bytes old told) else (if y = PySem.Str.ofString "limit" then some (.bytes limit tl) else (if y = PySem.Str.ofString "whole" then some (.int whole tw) else (if y = PySem.Str.ofString "period" then some (.int period tp) else (if y = PySem.Str.ofString "spacing" then some (.int spacing tsp) else (m1 y))))))))))) y) z) news s Q) (lawE w L a cd R) s := by
  k_fill
  intro X
  dsimp only [lawIn, forBody, lawSt, lawEnv, lawE, lawD, lawOf, nth]
  k_steps
  all_goals exfalso
  all_goals first
    | omega
    | (rename ((@bne Bool _ _ _) = true) => hz; rw [← hleast, ← hmost] at hz; simp only [bne_iff_ne, ne_eq, decide_eq_decide] at hz; exact hz (by constructor <;> intro _ <;> omega))
    | (rename ((@bne Bool _ _ _) = true) => hz; simp at hz)
theorem in_all {p : Program} (w : World) (mean : ExcName → Option Value) (mg mb : Str → Option Value) (loose : List Str) (h₀ : Heap) (L a : Addr) (cd : Value) (m1 u u2 : Str → Option Value) (news : List (Addr × Obj)) (s : Shared) (Q : Flow → Shared → Prop) (R : Result → Shared → Prop) (new : Array UInt8) (tn : Tok) (height : Int) (tht : Tok) (spacing : Int) (tsp : Tok) (hs1 : 0 < spacing) (hs2 : spacing ≤ 1200) (period : Int) (tp : Tok) (hp1 : 0 < period) (hp2 : period ≤ 2016) (whole : Int) (tw : Tok) (limit : Array UInt8) (tl : Tok) (hl4 : limit.size = 4) (hlw : worth limit < 883423532389192164791648750371459257913741948437809479060803100646309888) (old : Array UInt8) (told : Tok) (ho4 : old.size = 4) (how : worth old < 1645504557321206042154969182557350504982735865633579863348609024) (rules : Addr) (free : Addr) (most : Int) (tmo : Tok) (least : Int) (tle : Tok) (hw0 : 0 < whole) (hw1 : whole < 100000000) (hl0 : 0 ≤ worth limit) (ho0 : 0 ≤ worth old) (hwp : whole / spacing = period) (hmost : most = bnd (worth old) (whole * 4) whole (worth limit)) (hleast : least = bnd (worth old) (whole / 4) whole (worth limit)) (hmo0 : 0 ≤ most) (hmo1 : most ≤ worth limit) (hle0 : 0 ≤ least) (hle1 : least ≤ worth limit) (hn4 : new.size = 4) (hnw : worth new < 115792089237316195423570985008687907853269984665640564039457584007913129639936) (hR1 : RulesAt w news rules false limit spacing whole) (hR2 : RulesAt w news free true limit spacing whole)
  (F : Fr h₀ L s.heap (fun y => if y = PySem.Str.ofString "height" then some (.int height tht) else ovr [PySem.Str.ofString "due"] u (fun y => if y = PySem.Str.ofString "new" then some (.bytes new tn) else ovr [PySem.Str.ofString "height", PySem.Str.ofString "due"] u2 (fun y => (if y = PySem.Str.ofString "least" then some (.int least tle) else (if y = PySem.Str.ofString "most" then some (.int most tmo) else (if y = PySem.Str.ofString "free" then some (.ref free) else (if y = PySem.Str.ofString "rules" then some (.ref rules) else (if y = PySem.Str.ofString "old" then some (.bytes old told) else (if y = PySem.Str.ofString "limit" then some (.bytes limit tl) else (if y = PySem.Str.ofString "whole" then some (.int whole tw) else (if y = PySem.Str.ofString "period" then some (.int period tp) else (if y = PySem.Str.ofString "spacing" then some (.int spacing tsp) else (m1 y))))))))))) y) y)) (N : News h₀ L s.heap news) (T : Top p loose mean mg mb h₀) (K0 : Below callerA h₀ [] h₀) :
  (hd.heap_39 w.params).In h₀ → wpAny (model Challenge.rw_ez0014_01.row.prog w) (callerA.deeper (lawEnv L a cd)) (execs lawIn (lawEnv L a cd)) (InvPost h₀ L (fun m' => ∀ z, z ∉ [PySem.Str.ofString "height", PySem.Str.ofString "due"] → m' z = (fun y => if y = PySem.Str.ofString "new" then some (.bytes new tn) else ovr [PySem.Str.ofString "height", PySem.Str.ofString "due"] u2 (fun y => (if y = PySem.Str.ofString "least" then some (.int least tle) else (if y = PySem.Str.ofString "most" then some (.int most tmo) else (if y = PySem.Str.ofString "free" then some (.ref free) else (if y = PySem.Str.ofString "rules" then some (.ref rules) else (if y = PySem.Str.ofString "old" then some (.bytes old told) else (if y = PySem.Str.ofString "limit" then some (.bytes limit tl) else (if y = PySem.Str.ofString "whole" then some (.int whole tw) else (if y = PySem.Str.ofString "period" then some (.int period tp) else (if y = PySem.Str.ofString "spacing" then some (.int spacing tsp) else (m1 y))))))))))) y) z) news s Q) (lawE w L a cd R) s := by
  by_cases h : height % period = 0
  · exact in_eq w mean mg mb loose h₀ L a cd m1 u u2 news s Q R new tn height tht spacing tsp hs1 hs2 period tp hp1 hp2 whole tw limit tl hl4 hlw old told ho4 how rules free most tmo least tle hw0 hw1 hl0 ho0 hwp hmost hleast hmo0 hmo1 hle0 hle1 hn4 hnw hR1 hR2 h F N T K0
  · exact in_ne w mean mg mb loose h₀ L a cd m1 u u2 news s Q R new tn height tht spacing tsp hs1 hs2 period tp hp1 hp2 whole tw limit tl hl4 hlw old told ho4 how rules free most tmo least tle hw0 hw1 hl0 ho0 hwp hmost hleast hmo0 hmo1 hle0 hle1 hn4 hnw hR1 hR2 h F N T K0
end
section
local macro_rules | `(tactic| walk_at "call ref") => `(tactic| (k_here; (first | (with_reducible show wpAny _ _ (call (Value.ref (nat_lit 212)) [Value.bytes _ _] _) _ _ _) | (with_reducible show wpAny _ _ (call (Value.ref 212) [Value.bytes _ _] _) _ _ _)); k_dflt (refine' (c_worth _ _ _ _ _ _ _ (by first | assumption | exact lform_size _ | omega) _) _ _ _ _ _ _ _ _ _ _ _ _ _ _ _ _ ?k1 ?k2 ?k3 ?k4 ?k5 ?kK ?kp ?kd ?ku ?_; (case k1 => k_asm); (case k2 => k_asm); (case k3 => k_asm); (case k4 => k_asm); (case k5 => k_asm); (case kK => first | exact rfl | assumption); (case kp => exact trivial); (case kd => ktr_room); (case ku => ktr_units)); intro t9 h9 tk9 F9 N9; (try dsimp only); (try k_sweep); (try k_fold); walk_say "BY CONTRACT c_worth"))
local macro_rules | `(tactic| walk_at "call ref") => `(tactic| (k_here; (first | (with_reducible show wpAny _ _ (call (Value.ref (nat_lit 219)) [Value.int _ _] _) _ _ _) | (with_reducible show wpAny _ _ (call (Value.ref 219) [Value.int _ _] _) _ _ _)); k_dflt (refine' (c_form _ _ _ _ _ _ _ (by first | assumption | omega) (by first | assumption | omega) _) _ _ _ _ _ _ _ _ _ _ _ _ _ _ _ _ ?k1 ?k2 ?k3 ?k4 ?k5 ?kK ?kp ?kd ?ku ?_; (case k1 => k_asm); (case k2 => k_asm); (case k3 => k_asm); (case k4 => k_asm); (case k5 => k_asm); (case kK => first | exact rfl | assumption); (case kp => exact trivial); (case kd => ktr_room); (case ku => ktr_units)); intro t9 h9 tk9 F9 N9; (try dsimp only); (try k_sweep); (try k_fold); walk_say "BY CONTRACT c_form"))
local macro_rules | `(tactic| walk_at "pyIter ref") => `(tactic| (k_here; (with_reducible show wpAny _ _ (pyIter (Value.ref _)) (fun it s₂ => LoopAtV _ _ _ _ _ _ _ _ _ it s₂) _ _); (rename Fr _ _ _ _ => lF'); (rename News _ _ _ _ => lN'); (with_unfolding_all refine' iter_allL [PySem.Str.ofString "due"] IsInt ?hh lF' lN' ?hm ?hc ?hd ?ha ?_ ?_; (case hh => exact rfl); (case hm => k_mem); (case hc => exact rfl); (case hd => exact rfl); (case ha => repeat (first | exact All.nil | refine All.cons IsInt.mk ?_)); (intro v' u' h' tk' own' hv' F' N'; (obtain ⟨b', t', e'⟩ := hv'); subst e'; (try k_fold)); rotate_left; (intro u' h' tk' F' N'; (try k_fold)); rotate_right); walk_say "LOOP over heights"))
local macro_rules | `(tactic| walk_at "pyIter ref") => `(tactic| (k_here; (with_reducible show wpAny _ _ (pyIter (Value.ref _)) (fun it s₂ => LoopAtV _ _ _ _ _ _ _ _ _ it s₂) _ _); (rename Fr _ _ _ _ => lF'); (rename News _ _ _ _ => lN'); (with_unfolding_all refine' iter_allL [PySem.Str.ofString "height", PySem.Str.ofString "due"] (IsB fun b => b.size = 4 ∧ worth b < 115792089237316195423570985008687907853269984665640564039457584007913129639936) ?hh lF' lN' ?hm ?hc ?hd ?ha ?_ ?_; (case hh => exact rfl); (case hm => k_mem); (case hc => exact rfl); (case hd => exact rfl); (case ha => repeat (first | exact All.nil | refine All.cons (IsB.mk (by first | exact ⟨lform_size _, worth_lt (by omega) (by omega)⟩ | (constructor <;> first | assumption | omega))) ?_)); (intro v' u' h' tk' own' hv' F' N'; (obtain ⟨b', t', e', hb'⟩ := hv'); subst e'; (have hb1' := hb'.1); (have hb2' := hb'.2); clear hb'; (try k_fold)); rotate_left; (intro u' h' tk' F' N'; (try k_fold)); rotate_right); walk_say "LOOP over news"))
local macro_rules | `(tactic| walk_at "binaryOp Pow int int") => `(tactic| (k_here; (with_reducible (refine' pow_2n ?eza ?ezb ?_; (case eza => omega); (case ezb => omega))); intro _ _ _ hp1' hp2'))
local macro_rules | `(tactic| walk_at "binaryOp Mult int int") => `(tactic| (k_here; (with_reducible show wpAny _ _ (binaryOp Operator.Mult (Value.int _ _) (Value.int (1 + _ % _) _)) _ _ _); (with_reducible (refine' mul_opq ?eza ?ezb ?ezc ?ezd ?_; (case eza => omega); (case ezb => omega); (case ezc => omega); (case ezd => omega))); intro _ _ _ hp1' hp2'))
local macro_rules | `(tactic| walk_at "execs cons") => `(tactic| (k_here; (with_reducible show wpAny _ _ (execs (Stmt.Assign [Expr.Name _ _] (Expr.IfExp _ _ _ _) _ :: Stmt.If _ _ _ _ :: []) _) (InvPost _ _ _ _ _ _) _ _); (rename Fr _ _ _ _ => lF'); (rename News _ _ _ _ => lN'); (with_unfolding_all exact in_all _ _ _ _ _ _ _ _ _ _ _ _ _ _ _ _ _ _ _ _ _ _ (by assumption) (by assumption) _ _ (by assumption) (by assumption) _ _ _ _ (by assumption) (by assumption) _ _ (by assumption) (by assumption) _ _ _ _ _ _ (by assumption) (by assumption) (by assumption) (by assumption) (by assumption) (by assumption) (by assumption) (by assumption) (by assumption) (by assumption) (by assumption) (by assumption) (by assumption) (RulesAt.mono (by assumption) (by repeat (first | exact sub_refl | refine sub_tail ?_ | refine sub_app ?_))) (RulesAt.mono (by assumption) (by repeat (first | exact sub_refl | refine sub_tail ?_ | refine sub_app ?_))) lF' lN' (by assumption) (by assumption) (by assumption)); walk_say "INNER"))
set_option maxHeartbeats 2000000 in
theorem ch_17 {p : Program} (w : World) (mean : ExcName → Option Value) (mg mb : Str → Option Value) (loose : List Str) (h₀ : Heap) (L a : Addr) (cd : Value) (m0 : Str → Option Value) (news : List (Addr × Obj)) (s : Shared) (R : Result → Shared → Prop) (head : Int) (th : Tok) (more : Int) (tm : Tok) (row : Array UInt8) (tr : Tok) (hrow : row.size = 5) (u1 : Str → Option Value) (u2 : Str → Option Value) (noughts : Addr) (u4 : Str → Option Value) (u5 : Str → Option Value) (spacing : Int) (tsp : Tok) (hs1 : 0 < spacing) (hs2 : spacing ≤ 1200) (period : Int) (tp : Tok) (hp1 : 0 < period) (hp2 : period ≤ 2016) (whole : Int) (tw : Tok) (limit : Array UInt8) (tl : Tok) (hl4 : limit.size = 4) (hlw : worth limit < 883423532389192164791648750371459257913741948437809479060803100646309888) (old : Array UInt8) (told : Tok) (ho4 : old.size = 4) (how : worth old < 1645504557321206042154969182557350504982735865633579863348609024) (rules : Addr) (free : Addr) (most : Int) (tmo : Tok) (least : Int) (tle : Tok) (hw0 : 0 < whole) (hw1 : whole < 100000000) (hl0 : 0 ≤ worth limit) (ho0 : 0 ≤ worth old) (hwp : whole / spacing = period) (hmost : most = bnd (worth old) (whole * 4) whole (worth limit)) (hleast : least = bnd (worth old) (whole / 4) whole (worth limit)) (hmo0 : 0 ≤ most) (hmo1 : most ≤ worth limit) (hle0 : 0 ≤ least) (hle1 : least ≤ worth limit) (hR1 : RulesAt w news rules false limit spacing whole) (hR2 : RulesAt w news free true limit spacing whole)
  (F : Fr h₀ L s.heap (fun y => (if y = PySem.Str.ofString "least" then some (.int least tle) else (if y = PySem.Str.ofString "most" then some (.int most tmo) else (if y = PySem.Str.ofString "free" then some (.ref free) else (if y = PySem.Str.ofString "rules" then some (.ref rules) else (if y = PySem.Str.ofString "old" then some (.bytes old told) else (if y = PySem.Str.ofString "limit" then some (.bytes limit tl) else (if y = PySem.Str.ofString "whole" then some (.int whole tw) else (if y = PySem.Str.ofString "period" then some (.int period tp) else (if y = PySem.Str.ofString "spacing" then some (.int spacing tsp) else (ovr [] u5 (fun y => (ovr [PySem.Str.ofString "form"] u4 (fun y => (if y = PySem.Str.ofString "noughts" then some (.ref noughts) else (ovr [PySem.Str.ofString "target"] u2 (fun y => (ovr [PySem.Str.ofString "form"] u1 (fun y => (if y = PySem.Str.ofString "row" then some (.bytes row tr) else (if y = PySem.Str.ofString "more" then some (.int more tm) else (if y = PySem.Str.ofString "head" then some (.int head th) else (m0 y))))) y)) y))) y)) y)))))))))))) (N : News h₀ L s.heap news) (T : Top p loose mean mg mb h₀) (K0 : Below callerA h₀ [] h₀) :
  (hd.heap_39 w.params).In h₀ → wpAny (model Challenge.rw_ez0014_01.row.prog w) (callerA.deeper (lawEnv L a cd)) (exec (lawSt 17) (lawEnv L a cd)) (CutL h₀ L (fun y => (if y = PySem.Str.ofString "least" then some (.int least tle) else (if y = PySem.Str.ofString "most" then some (.int most tmo) else (if y = PySem.Str.ofString "free" then some (.ref free) else (if y = PySem.Str.ofString "rules" then some (.ref rules) else (if y = PySem.Str.ofString "old" then some (.bytes old told) else (if y = PySem.Str.ofString "limit" then some (.bytes limit tl) else (if y = PySem.Str.ofString "whole" then some (.int whole tw) else (if y = PySem.Str.ofString "period" then some (.int period tp) else (if y = PySem.Str.ofString "spacing" then some (.int spacing tsp) else (ovr [] u5 (fun y => (ovr [PySem.Str.ofString "form"] u4 (fun y => (if y = PySem.Str.ofString "noughts" then some (.ref noughts) else (ovr [PySem.Str.ofString "target"] u2 (fun y => (ovr [PySem.Str.ofString "form"] u1 (fun y => (if y = PySem.Str.ofString "row" then some (.bytes row tr) else (if y = PySem.Str.ofString "more" then some (.int more tm) else (if y = PySem.Str.ofString "head" then some (.int head th) else (m0 y))))) y)) y))) y)) y))))))))))) news s [PySem.Str.ofString "new", PySem.Str.ofString "height", PySem.Str.ofString "due"]) (lawE w L a cd R) s := by
  k_fill
  intro X
  dsimp only [lawSt, lawEnv, lawE, lawD, lawOf, nth]
  k_steps
  all_goals exact CutL.mk (by k_asm) (by first | k_asm | exact cb_drop (by assumption) (by repeat (first | exact sub_refl | refine sub_tail ?_ | refine sub_app ?_)))
end
section
local macro_rules | `(tactic| walk_at "call ref") => `(tactic| (k_here; (first | (with_reducible show wpAny _ _ (call (Value.ref (nat_lit 261)) [Value.ref _, Value.int _ _, Value.bytes _ _, Value.bytes _ _] _) _ _ _) | (with_reducible show wpAny _ _ (call (Value.ref 261) [Value.ref _, Value.int _ _, Value.bytes _ _, Value.bytes _ _] _) _ _ _)); k_dflt (refine' (c_mRo _ _ _ _ _ _ _ _ _ _ _ _ (by first | assumption | omega) (by first | assumption | omega) _) _ _ _ _ _ _ _ _ _ _ _ _ _ _ ?k1 ?k2 ?k3 ?k4 ?k5 ?kK ?kp ?kd ?ku ?_; (case k1 => k_asm); (case k2 => k_asm); (case k3 => k_asm); (case k4 => k_asm); (case k5 => k_asm); (case kK => first | exact rfl | assumption); (case kp => exact trivial); (case kd => ktr_room); (case ku => ktr_units)); intro t9 h9 tk9 F9 N9; (try dsimp only); (try k_sweep); (try k_fold); walk_say "BY CONTRACT c_mRo"))
local macro_rules | `(tactic| walk_at "call ref") => `(tactic| (k_here; (first | (with_reducible show wpAny _ _ (call (Value.ref (nat_lit 261)) [Value.ref _, Value.int _ _, Value.bytes _ _, Value.bytes _ _] _) _ _ _) | (with_reducible show wpAny _ _ (call (Value.ref 261) [Value.ref _, Value.int _ _, Value.bytes _ _, Value.bytes _ _] _) _ _ _)); k_dflt (refine' (c_mRn _ _ _ _ _ _ _ _ _ _ _ _ (by first | assumption | omega) (by first | assumption | omega) (by first | assumption | omega) _) _ _ _ _ _ _ _ _ _ _ _ _ _ _ ?k1 ?k2 ?k3 ?k4 ?k5 ?kK ?kp ?kd ?ku ?_; (case k1 => k_asm); (case k2 => k_asm); (case k3 => k_asm); (case k4 => k_asm); (case k5 => k_asm); (case kK => first | exact rfl | assumption); (case kp => exact trivial); (case kd => ktr_room); (case ku => ktr_units)); intro t9 h9 tk9 F9 N9; (try dsimp only); (try k_sweep); (try k_fold); walk_say "BY CONTRACT c_mRn"))
set_option maxHeartbeats 2000000 in
theorem ch_18 {p : Program} (w : World) (mean : ExcName → Option Value) (mg mb : Str → Option Value) (loose : List Str) (h₀ : Heap) (L a : Addr) (cd : Value) (m0 : Str → Option Value) (news : List (Addr × Obj)) (s : Shared) (R : Result → Shared → Prop) (row : Array UInt8) (tr : Tok) (hrow : row.size = 5) (u1 : Str → Option Value) (u2 : Str → Option Value) (noughts : Addr) (u4 : Str → Option Value) (u5 : Str → Option Value) (spacing : Int) (tsp : Tok) (hs1 : 0 < spacing) (hs2 : spacing ≤ 1200) (period : Int) (tp : Tok) (hp1 : 0 < period) (hp2 : period ≤ 2016) (whole : Int) (tw : Tok) (limit : Array UInt8) (tl : Tok) (hl4 : limit.size = 4) (hlw : worth limit < 883423532389192164791648750371459257913741948437809479060803100646309888) (old : Array UInt8) (told : Tok) (ho4 : old.size = 4) (how : worth old < 1645504557321206042154969182557350504982735865633579863348609024) (rules : Addr) (free : Addr) (most : Int) (tmo : Tok) (least : Int) (tle : Tok) (u9 : Str → Option Value)
  (F : Fr h₀ L s.heap (fun y => (ovr [PySem.Str.ofString "new", PySem.Str.ofString "height", PySem.Str.ofString "due"] u9 (fun y => (if y = PySem.Str.ofString "least" then some (.int least tle) else (if y = PySem.Str.ofString "most" then some (.int most tmo) else (if y = PySem.Str.ofString "free" then some (.ref free) else (if y = PySem.Str.ofString "rules" then some (.ref rules) else (if y = PySem.Str.ofString "old" then some (.bytes old told) else (if y = PySem.Str.ofString "limit" then some (.bytes limit tl) else (if y = PySem.Str.ofString "whole" then some (.int whole tw) else (if y = PySem.Str.ofString "period" then some (.int period tp) else (if y = PySem.Str.ofString "spacing" then some (.int spacing tsp) else (ovr [] u5 (fun y => (ovr [PySem.Str.ofString "form"] u4 (fun y => (if y = PySem.Str.ofString "noughts" then some (.ref noughts) else (ovr [PySem.Str.ofString "target"] u2 (fun y => (ovr [PySem.Str.ofString "form"] u1 (fun y => (if y = PySem.Str.ofString "row" then some (.bytes row tr) else (m0 y))) y)) y))) y)) y))))))))))) y))) (N : News h₀ L s.heap news) (T : Top p loose mean mg mb h₀) (K0 : Below callerA h₀ [] h₀) :
  (hd.heap_39 w.params).In h₀ → wpAny (model Challenge.rw_ez0014_01.row.prog w) (callerA.deeper (lawEnv L a cd)) (exec (lawSt 18) (lawEnv L a cd)) (fun f s' => f = .ret (.bool true) ∧ ∃ h tk, Fr h₀ L h (fun y => (ovr [PySem.Str.ofString "new", PySem.Str.ofString "height", PySem.Str.ofString "due"] u9 (fun y => (if y = PySem.Str.ofString "least" then some (.int least tle) else (if y = PySem.Str.ofString "most" then some (.int most tmo) else (if y = PySem.Str.ofString "free" then some (.ref free) else (if y = PySem.Str.ofString "rules" then some (.ref rules) else (if y = PySem.Str.ofString "old" then some (.bytes old told) else (if y = PySem.Str.ofString "limit" then some (.bytes limit tl) else (if y = PySem.Str.ofString "whole" then some (.int whole tw) else (if y = PySem.Str.ofString "period" then some (.int period tp) else (if y = PySem.Str.ofString "spacing" then some (.int spacing tsp) else (ovr [] u5 (fun y => (ovr [PySem.Str.ofString "form"] u4 (fun y => (if y = PySem.Str.ofString "noughts" then some (.ref noughts) else (ovr [PySem.Str.ofString "target"] u2 (fun y => (ovr [PySem.Str.ofString "form"] u1 (fun y => (if y = PySem.Str.ofString "row" then some (.bytes row tr) else (m0 y))) y)) y))) y)) y))))))))))) y)) ∧ News h₀ L h news ∧ s' = { s with heap := h, toks := tk }) (lawE w L a cd R) s := by
  k_fill
  intro X
  dsimp only [lawSt, lawEnv, lawE, lawD, lawOf, nth]
  k_steps
  all_goals k_asm
end
local macro_rules | `(tactic| walk_at "nowhere") => `(tactic| fail "nowhere")
section
local macro_rules | `(tactic| walk_at "subscriptTail") => `(tactic| (k_here; (with_reducible show wpAny _ _ (subscriptTail _ _ (Value.ref _) (Value.int (_ % 3) _)) _ _ _); (with_reducible refine sub_mod3 ?_ ?_ ?_) <;> intro _))
local macro_rules | `(tactic| walk_at "subscriptTail") => `(tactic| (k_here; (with_reducible show wpAny _ _ (subscriptTail _ _ (Value.ref _) (Value.int (_ % 4) _)) _ _ _); (with_reducible refine sub_mod4 ?_ ?_ ?_ ?_) <;> intro _))
section
variable {p : Program} (w : World) (mean : ExcName → Option Value) (mg mb : Str → Option Value) (loose : List Str) (h₀ : Heap) (L a : Addr) (cd : Value) (m0 : Str → Option Value) (P : Addr) (ps : Array Value) (news : List (Addr × Obj)) (s : Shared) (R : Result → Shared → Prop) (head more : Int) (th tm tr : Tok) (row : Array UInt8) (u1 u2 : Str → Option Value)
def CutN (h₀ : Heap) (L P : Addr) (ps : Array Value) (m : Str → Option Value) (news : List (Addr × Obj)) (s : Shared) (f : Flow) (s' : Shared) : Prop :=
  f = .next ∧ ∃ (no : Addr) (h : Heap) (tk : Nat) (vs : List Value) (n : Nat), All (IsB fun b => b.size = 4) vs ∧ Fr h₀ L h (fun y => if y = PySem.Str.ofString "noughts" then some (.ref no) else m y) ∧ News h₀ L h ((no, PySem.W.listOf vs.toArray n) :: (P, tabO ps) :: news) ∧ s' = { s with heap := h, toks := tk }
theorem CutN.mk {h₀ : Heap} {L P : Addr} {ps : Array Value} {m : Str → Option Value} {news : List (Addr × Obj)} {s : Shared} {no : Addr} {h : Heap} {tk : Nat} {vs : List Value} {n : Nat} (ha : All (IsB fun b => b.size = 4) vs) (F : Fr h₀ L h (fun y => if y = PySem.Str.ofString "noughts" then some (.ref no) else m y)) (N : News h₀ L h ((no, PySem.W.listOf vs.toArray n) :: (P, tabO ps) :: news)) : CutN h₀ L P ps m news s .next { s with heap := h, toks := tk } := ⟨rfl, no, h, tk, vs, n, ha, F, N, rfl⟩
theorem sub_keep {q : Addr × Obj} {l l' : List (Addr × Obj)} (h : ∀ p ∈ l, p ∈ l') : ∀ p ∈ q :: l, p ∈ q :: l' := fun p hp => (List.mem_cons.mp hp).elim (fun e => e ▸ List.mem_cons_self) fun e => List.mem_cons_of_mem _ (h p e)
set_option maxHeartbeats 2000000 in
theorem ch_5 (F : Fr h₀ L s.heap (fun y => (ovr [PySem.Str.ofString "target"] u2 (fun y => (ovr [PySem.Str.ofString "form"] u1 (fun y => (if y = PySem.Str.ofString "row" then some (.bytes row tr) else (if y = PySem.Str.ofString "more" then some (.int more tm) else (if y = PySem.Str.ofString "head" then some (.int head th) else (m0 y))))) y)) y))) (N : News h₀ L s.heap ((P, tabO ps) :: news)) (T : Top p loose mean mg mb h₀) (K0 : Below callerA h₀ [] h₀) :
  (hd.heap_39 w.params).In h₀ → wpAny (model Challenge.rw_ez0014_01.row.prog w) (callerA.deeper (lawEnv L a cd)) (exec (lawSt 5) (lawEnv L a cd)) (CutN h₀ L P ps (fun y => (ovr [PySem.Str.ofString "target"] u2 (fun y => (ovr [PySem.Str.ofString "form"] u1 (fun y => (if y = PySem.Str.ofString "row" then some (.bytes row tr) else (if y = PySem.Str.ofString "more" then some (.int more tm) else (if y = PySem.Str.ofString "head" then some (.int head th) else (m0 y))))) y)) y)) news s) (lawE w L a cd R) s := by
  k_fill
  intro X
  dsimp only [lawSt, lawEnv, lawE, lawD, lawOf, nth]
  k_steps
  all_goals (
    (rename News _ _ _ _ => N9)
    refine' CutN.mk (vs := [_, _, _, _, _]) (n := 0) ?ha (by k_asm) ?N
    (case N => exact cb_drop N9 (by refine sub_keep ?_; repeat (first | exact sub_refl | refine sub_tail ?_)))
    (case ha => (refine All.cons (IsB.mk ?_) (All.cons (IsB.mk ?_) (All.cons (IsB.mk ?_) (All.cons (IsB.mk ?_) (All.cons (IsB.mk ?_) All.nil)))) <;> rfl)))
end
end
section
local macro_rules | `(tactic| walk_at "call ref") => `(tactic| (k_here; (first | (with_reducible show wpAny _ _ (call (Value.ref (nat_lit 212)) [Value.bytes _ _] _) _ _ _) | (with_reducible show wpAny _ _ (call (Value.ref 212) [Value.bytes _ _] _) _ _ _)); k_dflt (refine' (c_worth _ _ _ _ _ _ _ (by first | assumption | exact lform_size _ | omega) _) _ _ _ _ _ _ _ _ _ _ _ _ _ _ _ _ ?k1 ?k2 ?k3 ?k4 ?k5 ?kK ?kp ?kd ?ku ?_; (case k1 => k_asm); (case k2 => k_asm); (case k3 => k_asm); (case k4 => k_asm); (case k5 => k_asm); (case kK => first | exact rfl | assumption); (case kp => exact trivial); (case kd => ktr_room); (case ku => ktr_units)); intro t9 h9 tk9 F9 N9; (try dsimp only); (try k_sweep); (try k_fold); walk_say "BY CONTRACT c_worth"))
local macro_rules | `(tactic| walk_at "call ref") => `(tactic| (k_here; (first | (with_reducible show wpAny _ _ (call (Value.ref (nat_lit 247)) [Value.bytes _ _] _) _ _ _) | (with_reducible show wpAny _ _ (call (Value.ref 247) [Value.bytes _ _] _) _ _ _)); k_dflt (refine' (c_work0 _ _ _ _ _ _ _ (by first | assumption | omega) (by first | assumption | omega) _) _ _ _ _ _ _ _ _ _ _ _ _ _ _ ?k1 ?k2 ?k3 ?k4 ?k5 ?kK ?kp ?kd ?ku ?_; (case k1 => k_asm); (case k2 => k_asm); (case k3 => k_asm); (case k4 => k_asm); (case k5 => k_asm); (case kK => first | exact rfl | assumption); (case kp => exact trivial); (case kd => ktr_room); (case ku => ktr_units)); intro t9 h9 tk9 F9 N9; (try dsimp only); (try k_sweep); (try k_fold); walk_say "BY CONTRACT c_work0"))
local macro_rules | `(tactic| walk_at "call ref") => `(tactic| (k_here; (first | (with_reducible show wpAny _ _ (call (Value.ref (nat_lit 254)) [Value.ref _] _) _ _ _) | (with_reducible show wpAny _ _ (call (Value.ref 254) [Value.ref _] _) _ _ _)); k_dflt (refine' c_chain2 _ _ _ _ _ _ _ _ _ _ _ ?kp ?kn _ _ _ _ _ _ _ _ _ _ _ _ _ _ ?k1 ?k2 ?k3 ?k5 ?kc ?kd ?ku ?kcp ?kb _ ?hb ?hw ?k4 ?_; (case k1 => k_asm); (case k2 => k_asm); (case k3 => k_asm); (case k5 => k_asm); (case k4 => k_asm); (case kp => assumption); (case kn => assumption); (case kc => exact rfl); (case kd => ktr_room); (case ku => ktr_units); (case kcp => assumption); (case kb => assumption); (case hb => assumption); (case hw => assumption)); intro t9 h9 tk9 gens9 ps9 more9 hpe9 hpo9 F9 N9 G9; (try dsimp only); (try k_sweep); (try k_fold); walk_say "BY CONTRACT c_chain2"))
section
variable {p : Program} (w : World) (mean : ExcName → Option Value) (mg mb : Str → Option Value) (loose : List Str) (h₀ : Heap) (L a : Addr) (cd : Value) (m : Str → Option Value) (P : Addr) (ps : Array Value) (news : List (Addr × Obj)) (s : Shared) (R : Result → Shared → Prop)
set_option maxHeartbeats 2000000 in
theorem nb_turn (b : Array UInt8) (tb : Tok) (hb4 : b.size = 4) (F : Fr h₀ L s.heap (fun y => if y = PySem.Str.ofString "form" then some (.bytes b tb) else m y)) (N : News h₀ L s.heap ((P, tabO ps) :: news)) (hNP : ∀ q ∈ news, q.1 ≠ P) (hps : TriplesOk ps.toList) (hG : AllBare s.gens) (CP : CodeP h₀ 142 P) (T : Top p loose mean mg mb h₀) (K0 : Below callerA h₀ [] h₀) :
  (hd.heap_39 w.params).In h₀ → wpAny (model Challenge.rw_ez0014_01.row.prog w) (callerA.deeper (lawEnv L a cd)) (execs lawNB (lawEnv L a cd)) (fun f s' => f = .next ∧ GenNext h₀ L P (fun y => if y = PySem.Str.ofString "form" then some (.bytes b tb) else m y) news s s') (lawE w L a cd R) s := by
  k_fill
  intro X
  dsimp only [lawNB, forBody, lawSt, lawEnv, lawE, lawD, lawOf, nth]
  k_steps
  all_goals exact GenNext.mk (by k_asm) (by k_asm) (by assumption) (by assumption)
theorem ch_6 (noughts : Addr) (vs : List Value) (n : Nat) (ha : All (IsB fun b => b.size = 4) vs) (F : Fr h₀ L s.heap (fun y => if y = PySem.Str.ofString "noughts" then some (.ref noughts) else m y)) (N : News h₀ L s.heap ((P, tabO ps) :: news)) (hm : (noughts, PySem.W.listOf vs.toArray n) ∈ news)
  (hNP : ∀ q ∈ news, q.1 ≠ P) (hps : TriplesOk ps.toList) (hG : AllBare s.gens) (CP : CodeP h₀ 142 P) (T : Top p loose mean mg mb h₀) (K0 : Below callerA h₀ [] h₀) (X : (hd.heap_39 w.params).In h₀) :
  wpAny (model Challenge.rw_ez0014_01.row.prog w) (callerA.deeper (lawEnv L a cd)) (exec (lawSt 6) (lawEnv L a cd)) (CutG h₀ L P (fun y => if y = PySem.Str.ofString "noughts" then some (.ref noughts) else m y) news s [PySem.Str.ofString "form"]) (lawE w L a cd R) s := by
  have turn := nb_turn (p := p) w mean mg mb loose h₀ L a cd (fun y => if y = PySem.Str.ofString "noughts" then some (.ref noughts) else m y) P
  revert turn
  dsimp only [lawNB, forBody, lawSt, lawEnv, lawD, lawOf, nth]
  intro turn
  refine For_G (L := L) (P := P) (ps := ps) (news := news) (IsB fun b => b.size = 4) rfl rfl rfl rfl F N hm hNP hps hG ha (fun Q' h => ld F rfl h) ?_ (fun s' h => h) (by intro _; rfl) (by passes_own)
  intro v u h tk gens ps' I io hv hIP F' N' hG' hps'
  obtain ⟨b, tb, rfl, hb4⟩ := hv
  refine turn ps' ((I, io) :: news) { s with heap := h, toks := tk, gens := gens } R b tb hb4 F' N' (fun q hq => ?_) hps' hG' CP T K0 X
  rcases List.mem_cons.mp hq with rfl | hq
  · exact hIP
  · exact hNP q hq
end
end
local macro_rules | `(tactic| walk_at "nowhere") => `(tactic| fail "nowhere")
section
local macro_rules | `(tactic| walk_at "call ref") => `(tactic| (k_here; (first | (with_reducible show wpAny _ _ (call (Value.ref (nat_lit 254)) [Value.bytes _ _] _) _ _ _) | (with_reducible show wpAny _ _ (call (Value.ref 254) [Value.bytes _ _] _) _ _ _)); k_dflt (refine' (c_chainO _ _ _ _ _ _ _ (by first | assumption | rfl) _) _ _ _ _ _ _ _ _ _ _ _ _ _ _ ?k1 ?k2 ?k3 ?k4 ?k5 ?kK ?kp ?kd ?ku ?_; (case k1 => k_asm); (case k2 => k_asm); (case k3 => k_asm); (case k4 => k_asm); (case k5 => k_asm); (case kK => first | exact rfl | assumption); (case kp => exact trivial); (case kd => ktr_room); (case ku => ktr_units)); intro t9 h9 tk9 F9 N9; (try dsimp only); (try k_sweep); (try k_fold); walk_say "BY CONTRACT c_chainO"))
local macro_rules | `(tactic| walk_at "call ref") => `(tactic| (k_here; (first | (with_reducible show wpAny _ _ (call (Value.ref (nat_lit 254)) [Value.ref _] _) _ _ _) | (with_reducible show wpAny _ _ (call (Value.ref 254) [Value.ref _] _) _ _ _)); k_dflt (refine' c_chain0 _ _ _ _ _ _ _ _  _ ?kp ?kn _ _ _ _ _ _ _ _ _ _ _ _ _ _ ?k1 ?k2 ?k3 ?k5 ?kc ?kd ?ku ?kcp ?kb  ?k4 ?_; (case k1 => k_asm); (case k2 => k_asm); (case k3 => k_asm); (case k5 => k_asm); (case k4 => k_asm); (case kp => assumption); (case kn => assumption); (case kc => exact rfl); (case kd => ktr_room); (case ku => ktr_units); (case kcp => assumption); (case kb => assumption)); intro t9 h9 tk9 gens9 ps9 more9 hpe9 hpo9 F9 N9 G9; (try dsimp only); (try k_sweep); (try k_fold); walk_say "BY CONTRACT c_chain0"))
local macro_rules | `(tactic| walk_at "call ref") => `(tactic| (k_here; (first | (with_reducible show wpAny _ _ (call (Value.ref (nat_lit 254)) [Value.ref _] _) _ _ _) | (with_reducible show wpAny _ _ (call (Value.ref 254) [Value.ref _] _) _ _ _)); k_dflt (refine' c_chain1 _ _ _ _ _ _ _ _ _ _ ?kp ?kn _ _ _ _ _ _ _ _ _ _ _ _ _ _ ?k1 ?k2 ?k3 ?k5 ?kc ?kd ?ku ?kcp ?kb  ?k4 ?_; (case k1 => k_asm); (case k2 => k_asm); (case k3 => k_asm); (case k5 => k_asm); (case k4 => k_asm); (case kp => assumption); (case kn => assumption); (case kc => exact rfl); (case kd => ktr_room); (case ku => ktr_units); (case kcp => assumption); (case kb => assumption)); intro t9 h9 tk9 gens9 ps9 more9 hpe9 hpo9 F9 N9 G9; (try dsimp only); (try k_sweep); (try k_fold); walk_say "BY CONTRACT c_chain1"))
section
variable {p : Program} (w : World) (mean : ExcName → Option Value) (mg mb : Str → Option Value) (loose : List Str) (h₀ : Heap) (L a : Addr) (cd : Value) (m : Str → Option Value) (P : Addr) (ps : Array Value) (news : List (Addr × Obj)) (s : Shared) (R : Result → Shared → Prop)
set_option maxHeartbeats 2000000 in
theorem ch_7 (F : Fr h₀ L s.heap m) (N : News h₀ L s.heap ((P, tabO ps) :: news)) (hNP : ∀ q ∈ news, q.1 ≠ P) (hps : TriplesOk ps.toList) (hG : AllBare s.gens) (CP : CodeP h₀ 142 P) (T : Top p loose mean mg mb h₀) (K0 : Below callerA h₀ [] h₀) :
  (hd.heap_39 w.params).In h₀ → wpAny (model Challenge.rw_ez0014_01.row.prog w) (callerA.deeper (lawEnv L a cd)) (exec (lawSt 7) (lawEnv L a cd)) (fun f s' => f = .next ∧ GenNext h₀ L P m news s s') (lawE w L a cd R) s := by
  k_fill
  intro X
  dsimp only [lawSt, lawEnv, lawE, lawD, lawOf, nth]
  k_steps
  all_goals exact GenNext.mk (by k_asm) (by k_asm) (by assumption) (by assumption)
end
end
section
section
variable {prog : Program} {w : World} {A : Around} {E : Value → Shared → Prop} {s : Shared} {env : Env} {st : Stmt} {rest : List Stmt} {Q : Flow → Shared → Prop} {h₀ : Heap} {L : Addr} {m : Str → Option Value} {news : List (Addr × Obj)}
theorem cutI (x : Str) (P : Int → Prop) (F : Fr h₀ L s.heap m) (N : News h₀ L s.heap news) (h1 : wpAny (model prog w) A (exec st env) (CutF h₀ L m news s x (IsI P)) E s)
    (h2 : ∀ n t h tk, P n → Fr h₀ L h (fun y => if y = x then some (.int n t) else m y) → News h₀ L h news → wpAny (model prog w) A (execs rest env) Q E { s with heap := h, toks := tk }) : wpAny (model prog w) A (execs (st :: rest) env) Q E s :=
  cutF x (IsI P) F N h1 fun v h tk p F N => by
    obtain ⟨n, t, rfl, hp⟩ := p
    exact h2 n t h tk hp F N
theorem cutB (x : Str) (P : Array UInt8 → Prop) (F : Fr h₀ L s.heap m) (N : News h₀ L s.heap news) (h1 : wpAny (model prog w) A (exec st env) (CutF h₀ L m news s x (IsB P)) E s)
    (h2 : ∀ b t h tk, P b → Fr h₀ L h (fun y => if y = x then some (.bytes b t) else m y) → News h₀ L h news → wpAny (model prog w) A (execs rest env) Q E { s with heap := h, toks := tk }) : wpAny (model prog w) A (execs (st :: rest) env) Q E s :=
  cutF x (IsB P) F N h1 fun v h tk p F N => by
    obtain ⟨b, t, rfl, hp⟩ := p
    exact h2 b t h tk hp F N
end
theorem trip0 : TriplesOk (#[] : Array Value).toList := True.intro
theorem CutG.of {h₀ : Heap} {L P : Addr} {m : Str → Option Value} {news : List (Addr × Obj)} {s s' : Shared} {f : Flow} (h : f = .next ∧ GenNext h₀ L P m news s s') : CutG h₀ L P m news s [] f s' := ⟨h.1, fun _ => none, h.2⟩
def lawRest : List Stmt := lawD.body.drop 2
set_option maxHeartbeats 2000000 in
theorem law_rest {p : Program} (ww : World) (mean : ExcName → Option Value) (mg mb : Str → Option Value) (loose : List Str) (h₁ : Heap) (L a : Addr) (cd : Value) (m0 : Str → Option Value) (P : Addr) (s : Shared) (Q : Flow → Shared → Prop) (R : Result → Shared → Prop) (head more : Int) (th tm : Tok) (hG0 : AllBare s.gens)
  (F' : Fr h₁ L s.heap (fun y => if y = PySem.Str.ofString "more" then some (.int more tm) else if y = PySem.Str.ofString "head" then some (.int head th) else m0 y)) (N' : News h₁ L s.heap [(P, tabO #[])])
  (Td : Top p loose mean mg mb h₁) (Kd : Below callerA h₁ [] h₁) (Xd : (hd.heap_39 ww.params).In h₁) (CPd : CodeP h₁ 142 P)
  (fin : ∀ h' tk' gens' ps' m', Fr h₁ L h' m' → h'.get? P = some (tabO ps') → AllBare gens' → TriplesOk ps'.toList → Q (.ret (.bool true)) { s with heap := h', toks := tk', gens := gens' }) :
  wpAny (model Challenge.rw_ez0014_01.row.prog ww) (callerA.deeper (lawEnv L a cd)) (execs lawRest (lawEnv L a cd)) Q (lawE ww L a cd R) s := by
  show wpAny _ _ (execs (lawSt 2 :: lawSt 3 :: lawSt 4 :: lawSt 5 :: lawSt 6 :: lawSt 7 :: lawSt 8 :: lawSt 9 :: lawSt 10 :: lawSt 11 :: lawSt 12 :: lawSt 13 :: lawSt 14 :: lawSt 15 :: lawSt 16 :: lawSt 17 :: lawSt 18 :: []) _) _ _ _
  with_reducible refine cutB (PySem.Str.ofString "row") _ F' N' (ch_2 (p := p) ww _ _ _ _ _ _ _ _ _ _ _ _ head th more tm F' N' Td Kd Xd) ?_
  intro row tr h' tk' hrow F' N'
  with_reducible refine cutL [PySem.Str.ofString "form"] F' N' (ch_3 (p := p) ww _ _ _ _ _ _ _ _ _ _ _ _ row tr hrow F' N' Td Kd Xd) ?_
  intro u1 h' tk' F' N'
  with_reducible refine cutL [PySem.Str.ofString "target"] F' N' (ch_4 (p := p) ww _ _ _ _ _ _ _ _ _ _ _ _ head th more tm row tr hrow u1 F' N' Td Kd Xd) ?_
  intro u2 h' tk' F' N'
  with_reducible refine wpAny_execs_cons (wpAny_mono (ch_5 (p := p) ww _ _ _ _ _ _ _ _ _ P #[] _ _ _ head more th tm tr row u1 u2 F' N' Td Kd Xd) ?_ (fun _ _ e => e))
  rintro f s' ⟨rfl, noughts, h', tk', vs, n, ha, F', N', rfl⟩
  have hNP := list_ne N' (fun q hq => nomatch hq)
  replace N' := news_swap N'
  with_reducible refine cutG (P := P) [PySem.Str.ofString "form"] (ch_6 (p := p) ww _ _ _ _ _ _ _ _ _ P #[] _ _ _ noughts vs n ha F' N' List.mem_cons_self hNP trip0 hG0 CPd Td Kd Xd) ?_
  intro u4 h' tk' gens' ps' F' N' G' hps'
  with_reducible refine cutG (P := P) [] (wpAny_mono (ch_7 (p := p) ww _ _ _ _ _ _ _ _ _ P ps' _ _ _ F' N' hNP hps' G' CPd Td Kd Xd) (fun f s' h => CutG.of h) (fun _ _ e => e)) ?_
  intro u5 h' tk' gens' ps' F' N' G' hps'
  with_reducible refine cutI (PySem.Str.ofString "spacing") _ F' N' (ch_8 (p := p) ww _ _ _ _ _ _ _ _ _ _ _ _ more tm row tr hrow u1 u2 noughts u4 u5 F' N' Td Kd Xd) ?_
  intro spacing tsp h' tk' hq9 F' N'
  have hs1 := hq9.1
  have hs2 := hq9.2
  clear hq9
  with_reducible refine cutI (PySem.Str.ofString "period") _ F' N' (ch_9 (p := p) ww _ _ _ _ _ _ _ _ _ _ _ _ more tm row tr hrow u1 u2 noughts u4 u5 spacing tsp hs1 hs2 F' N' Td Kd Xd) ?_
  intro period tp h' tk' hq9 F' N'
  have hp1 := hq9.1
  have hp2 := hq9.2
  clear hq9
  with_reducible refine cutI (PySem.Str.ofString "whole") _ F' N' (ch_10 (p := p) ww _ _ _ _ _ _ _ _ _ _ _ _ spacing tsp hs1 hs2 period tp hp1 hp2 F' N' Td Kd Xd) ?_
  intro whole tw h' tk' hw F' N'
  with_reducible refine cutB (PySem.Str.ofString "limit") _ F' N' (ch_11 (p := p) ww _ _ _ _ _ _ _ _ _ _ _ _ more tm row tr hrow u1 u2 noughts u4 u5 spacing tsp hs1 hs2 period tp hp1 hp2 whole tw F' N' Td Kd Xd) ?_
  intro limit tl h' tk' hq9 F' N'
  have hl4 := hq9.1
  have hlw := hq9.2
  clear hq9
  with_reducible refine cutB (PySem.Str.ofString "old") _ F' N' (ch_12 (p := p) ww _ _ _ _ _ _ _ _ _ _ _ _ head th more tm row tr hrow u1 u2 noughts u4 u5 spacing tsp hs1 hs2 period tp hp1 hp2 whole tw limit tl hl4 hlw F' N' Td Kd Xd) ?_
  intro old told h' tk' hq9 F' N'
  have ho4 := hq9.1
  have how := hq9.2
  clear hq9
  with_reducible refine cutO (PySem.Str.ofString "rules") (fun ns a => RulesAt ww ns a false limit spacing whole) F' N' (ch_13 (p := p) ww _ _ _ _ _ _ _ _ _ _ _ _ spacing tsp hs1 hs2 period tp hp1 hp2 whole tw limit tl hl4 hlw old told ho4 how F' N' Td Kd Xd) ?_
  intro rules h' tk' news1 hR1 hsub1 F' N'
  with_reducible refine cutO (PySem.Str.ofString "free") (fun ns a => RulesAt ww ns a true limit spacing whole) F' N' (ch_14 (p := p) ww _ _ _ _ _ _ _ _ _ _ _ _ spacing tsp hs1 hs2 period tp hp1 hp2 whole tw limit tl hl4 hlw old told ho4 how rules F' N' Td Kd Xd) ?_
  intro free h' tk' news2 hR2 hsub2 F' N'
  replace hR1 : RulesAt ww news2 rules false limit spacing whole := RulesAt.mono hR1 hsub2
  have hwx := whole_le hs1 hs2 hp1 hp2
  rw [← hw] at hwx
  have hw0 := hwx.1
  have hw1 := hwx.2.1
  have hwp := hwx.2.2
  have hl0 := worth_nonneg limit
  have ho0 := worth_nonneg old
  with_reducible refine cutI (PySem.Str.ofString "most") _ F' N' (ch_15 (p := p) ww _ _ _ _ _ _ _ _ _ _ _ _ whole tw limit tl hl4 hlw old told ho4 how rules free hw0 hw1 hl0 ho0 F' N' Td Kd Xd) ?_
  intro most tmo h' tk' hmost F' N'
  with_reducible refine cutI (PySem.Str.ofString "least") _ F' N' (ch_16 (p := p) ww _ _ _ _ _ _ _ _ _ _ _ _ whole tw limit tl hl4 hlw old told ho4 how rules free most tmo hw0 hw1 hl0 ho0 F' N' Td Kd Xd) ?_
  intro least tle h' tk' hleast F' N'
  have hmo0 : 0 ≤ most := by rw [hmost]; exact bnd_nonneg _ _ _ _
  have hmo1 : most ≤ worth limit := by rw [hmost]; exact bnd_le hw0 hl0 (by omega)
  have hle0 : 0 ≤ least := by rw [hleast]; exact bnd_nonneg _ _ _ _
  have hle1 : least ≤ worth limit := by rw [hleast]; exact bnd_le hw0 hl0 (by omega)
  with_reducible refine cutL [PySem.Str.ofString "new", PySem.Str.ofString "height", PySem.Str.ofString "due"] F' N' (ch_17 (p := p) ww _ _ _ _ _ _ _ _ _ _ _ _ head th more tm row tr hrow u1 u2 noughts u4 u5 spacing tsp hs1 hs2 period tp hp1 hp2 whole tw limit tl hl4 hlw old told ho4 how rules free most tmo least tle hw0 hw1 hl0 ho0 hwp hmost hleast hmo0 hmo1 hle0 hle1 hR1 hR2 F' N' Td Kd Xd) ?_
  intro u9 h' tk' F' N'
  with_reducible refine wpAny_execs_cons (wpAny_mono (ch_18 (p := p) ww _ _ _ _ _ _ _ _ _ _ _ _ row tr hrow u1 u2 noughts u4 u5 spacing tsp hs1 hs2 period tp hp1 hp2 whole tw limit tl hl4 hlw old told ho4 how rules free most tmo least tle u9 F' N' Td Kd Xd) ?_ (fun _ _ e => e))
  rintro f s' ⟨rfl, h', tk', F', N', rfl⟩
  exact fin _ _ _ _ _ F' (N' (P, tabO ps') (hsub2 _ (hsub1 (P, tabO ps') List.mem_cons_self))).1 G' hps'
end
section
set_option maxHeartbeats 2000000 in
theorem t_main2 : PySem.Challenge.rw_ez0014_01.Holds := hd (by
  lge_go0
  (with_reducible rename LGe.Mark => lgeM)
  clear lgeM
  rename World => ww
  rename Top _ _ _ _ _ _ => T0
  rename Frag.In _ _ => KX
  rename (Shared.gens _ = #[]) => hgens
  refine cutF (PySem.Str.ofString "head") IsInt (by assumption) (by assumption) ?_ ?_
  · k_steps
    all_goals refine CutF.mk ?_ (by k_asm) (by first | k_asm | exact cb_drop (by assumption) (by repeat (first | exact sub_refl | refine sub_tail ?_ | refine sub_app ?_)))
    all_goals exact IsInt.mk
  intro v' h' tk' p' F' N'
  obtain ⟨head, th, rfl⟩ := p'
  refine cutF (PySem.Str.ofString "more") IsInt (by assumption) (by assumption) ?_ ?_
  · k_steps
    all_goals refine CutF.mk ?_ (by k_asm) (by first | k_asm | exact cb_drop (by assumption) (by repeat (first | exact sub_refl | refine sub_tail ?_ | refine sub_app ?_)))
    all_goals exact IsInt.mk
  intro v' h' tk' p' F' N'
  obtain ⟨more, tm, rfl⟩ := p'
  obtain ⟨P, hC, hT⟩ := tab_of (x := "chain_work") (f := 143) (c := 142) KX T0 (by decide +kernel) (by k_is) (by k_is) rfl
  have hP := hT.2
  have hst : P ≠ cStatics := fun e => by
    obtain ⟨_, n, _⟩ := T0.nodigits
    exact ne_ns hP n e.symm
  obtain ⟨mc9, n9, _⟩ := T0.nodigits
  have Xd := hole_in hP KX T0.g n9 (kbc _)
  have Td := hole_top hP T0
  have CPd := hole_code (CodeP.of hC hT)
  have Kd := below_hole hP
  refine law_rest (p := p₀) ww _ _ _ _ _ _ _ _ _ P _ _ _ head more th tm (AllBare.of_eq hgens) (hole_fr (P := P) F') (hole_news hP F' N') Td Kd Xd CPd ?_
  intro h' tk' gens' ps' m' F9' hP' G' hps'
  have U9 := undig hC hT hst F9' hP' hps'
  have B9 := U9.1
  have F9 := U9.2
  clear U9 F9' F' N' hP' Td Kd Xd CPd
  wrow_closeG)
end
end
end Mine
theorem PySem.Challenge.cw_ez0014_01_holds : PySem.Challenge.rw_ez0014_01.Holds := by
  exact Mine.t_main2
