import PyProof.Rows.All
import Wide.All
import OpenK.AllK
import Wide.FinOn
import PySem.Challenge.RW_kn0006_01
open PySem PySem.W PySem.Calls PyProof.Rows
set_option Elab.async false

/-! The law of _format_sign. The road:
1. the loop that fills «flags» goes by k_dat: each item is a list of a bool and a value that counts just then (gv);
   the mixed menus of five values are read by menuT and menuF: a value, no place.
2. «drawn» stays the term that the library's own lines make of it: of the first ways nothing is asked but that they are texts.
3. the loops over the first ways, over the flags, and the last one go by loop_c: for any target over a list of the ledger, what stands at the loop's
   start stays, and a word about some names of the frame. The first ways: no word. The flags: norm way = «» where one that counts was met, else kept,
   norm y being y where it stands in one piece in « +», else the empty text (sub_iff: just four texts do).
4. the KeyError of a key that is not there, with what it tells: item_made, got_news, args_key, list_args. -/
namespace Mine
/-- what is left for the hand -/
def Stop (p : Prop) : Prop := p

section
variable {prog : Program} {w : World} {A : Around} {E : Value → Shared → Prop} {s : Shared} {env : Env} {h₀ : Heap} {target : Expr} {body : List Stmt} {Q : Flow → Shared → Prop}

def EndC (h₀ : Heap) (L : Addr) (N0 : List (Addr × Obj)) (J : (Str → Option Value) → Prop) (s₁ s₂ : Shared) : Prop :=
  ∃ h' tk m', s₂ = { s₁ with heap := h', toks := tk } ∧ Fr h₀ L h' m' ∧ News h₀ L h' N0 ∧ J m'
def PostC (h₀ : Heap) (L : Addr) (N0 : List (Addr × Obj)) (J : (Str → Option Value) → Prop) (s₁ : Shared) (Q : Flow → Shared → Prop) (f : Flow) (s₂ : Shared) : Prop :=
  match f with
  | .ret v => Q (.ret v) s₂
  | .brk => Q .next s₂
  | _ => EndC h₀ L N0 J s₁ s₂
def LoopJ {σ : Type} (ps : σ → List (Str × Value)) (stored : List Str) (m₀ : Str → Option Value) (P : σ → Prop) (m : Str → Option Value) : Prop :=
  ∃ c : σ, (∀ p ∈ ps c, m p.1 = some p.2) ∧ (∀ z, (∀ p ∈ ps c, z ≠ p.1) → stored.contains z = false → m z = m₀ z) ∧ P c
theorem PostC.next {σ : Type} {ps : σ → List (Str × Value)} {stored : List Str} {m₀ m' : Str → Option Value} {P : σ → Prop} {L : Addr} {N0 all : List (Addr × Obj)} {s₁ : Shared} {h' : Heap} {tk : Nat} (c : σ)
    (F : Fr h₀ L h' m') (N : News h₀ L h' all) (hn : ∀ p ∈ N0, p ∈ all) (hk : ∀ p ∈ ps c, m' p.1 = some p.2)
    (hr : ∀ z, (∀ p ∈ ps c, z ≠ p.1) → stored.contains z = false → m' z = m₀ z) (hp : P c) :
    PostC h₀ L N0 (LoopJ ps stored m₀ P) s₁ Q .next { s₁ with heap := h', toks := tk } :=
  ⟨h', tk, m', rfl, F, fun p hp => N p (hn p hp), c, hk, hr, hp⟩

theorem fr_loop {σ : Type} {ps : σ → List (Str × Value)} {stored : List Str} {m₀ m₁ : Str → Option Value} {c : σ} {L : Addr} {h : Heap}
    (h1 : ∀ p ∈ ps c, m₁ p.1 = some p.2) (h2 : ∀ z, (∀ p ∈ ps c, z ≠ p.1) → stored.contains z = false → m₁ z = m₀ z) (F : Fr h₀ L h m₁) :
    Fr h₀ L h (kstB (fun z => if stored.contains z then m₁ z else m₀ z) (ps c)) := by
  have em : kstB (fun z => if stored.contains z then m₁ z else m₀ z) (ps c) = m₁ := by
    funext y
    refine kstB_eq h1 fun hn => ?_
    show (if stored.contains y = true then m₁ y else m₀ y) = m₁ y
    cases h3 : stored.contains y with
    | true => simp
    | false => simp only [Bool.false_eq_true, if_false]; exact (h2 y hn h3).symm
  rw [em]
  exact F

theorem items_c {σ : Type} {ax : Addr} {lo : Obj} {m₀ : Str → Option Value} {cst : List (Addr × Obj)} (ps : σ → List (Str × Value)) (stored : List Str) (P : List Value → σ → Prop) {I : Addr} (all : List Value)
    (hm : (ax, lo) ∈ cst) (hI : ∀ p ∈ cst, p.1 < I)
    (turn : ∀ v r c (u : Str → Option Value) h tk oI, v ∈ all → P (v :: r) c → Fr h₀ env.locals h (kstB (fun z => if stored.contains z then u z else m₀ z) (ps c)) → News h₀ env.locals h ((I, oI) :: cst) →
      wpAny (model prog w) A (assign target env v) (fun _ s₂ => wpAny (model prog w) A (execs body env) (PostC h₀ env.locals ((I, oI) :: cst) (LoopJ ps stored m₀ (P r)) { s with heap := h, toks := tk } Q) E s₂) E { s with heap := h, toks := tk })
    (done : ∀ c (u : Str → Option Value) h tk, P [] c → Fr h₀ env.locals h (kstB (fun z => if stored.contains z then u z else m₀ z) (ps c)) → News h₀ env.locals h cst → Q .next { s with heap := h, toks := tk }) :
    ∀ (vs : List Value) (m : Str → Option Value), (∀ v ∈ vs, v ∈ all) → LoopJ ps stored m₀ (P vs) m → ItemsRest prog w A E h₀ env target body Q s [(I, "list_iterator")] [(ax, lo)] (vs.map .val) m cst := by
  intro vs
  induction vs with
  | nil =>
    rintro m _ ⟨c, h1, h2, hp⟩
    exact ItemsRest.zero fun h tk F N => done c m h tk hp (fr_loop h1 h2 F) N
  | cons v r ih =>
    rintro m ha ⟨c, h1, h2, hp⟩
    refine ItemsRest.val fun h tk F => ?_
    refine AllObj.cons fun oI _ => AllObj.nil fun N => ?_
    refine wpAny_mono (turn v r c m h tk oI (ha v (.head _)) hp (fr_loop h1 h2 F) N) (fun _ s₂ h₂ => wpAny_mono h₂ (fun f s₃ p => ?_) fun _ _ e => e) fun _ _ e => e
    have fin : EndC h₀ env.locals ((I, oI) :: cst) (LoopJ ps stored m₀ (P r)) { s with heap := h, toks := tk } s₃ →
        UnrEndW h₀ env.locals { s with heap := h, toks := tk } [(I, oI)] (fun m' n' => SubL [(ax, lo)] n' ∧ ItemsRest prog w A E h₀ env target body Q s [(I, "list_iterator")] [(ax, lo)] (r.map .val) m' n') s₃ := by
      rintro ⟨h', tk', m', e, F', N', J⟩
      refine ⟨h', tk', m', cst, e, F', N', fun p hp q hq => ?_, ⟨hm, trivial⟩, ih m' (fun v hv => ha v (.tail _ hv)) J⟩
      rw [List.mem_singleton.mp hq]
      exact Nat.ne_of_lt (hI p hp)
    cases f with
    | ret v => exact p
    | brk => exact p
    | next => exact fin p
    | cont => exact fin p

theorem loop_c {σ : Type} {ax : Addr} {vs : List Value} {n : Nat} {m₀ : Str → Option Value} {cst : List (Addr × Obj)} (ps : σ → List (Str × Value)) (stored : List Str) (P : List Value → σ → Prop) (c₀ : σ)
    (hh : A.handled = none) (F : Fr h₀ env.locals s.heap m₀) (N : News h₀ env.locals s.heap cst) (hm : (ax, listOf vs.toArray n) ∈ cst)
    (hk : ∀ p ∈ ps c₀, m₀ p.1 = some p.2) (hp : P vs c₀)
    (turn : ∀ v r c (u : Str → Option Value) h tk I oI, v ∈ vs → P (v :: r) c → (∀ p ∈ cst, p.1 < I) → Fr h₀ env.locals h (kstB (fun z => if stored.contains z then u z else m₀ z) (ps c)) → News h₀ env.locals h ((I, oI) :: cst) →
      wpAny (model prog w) A (assign target env v) (fun _ s₂ => wpAny (model prog w) A (execs body env) (PostC h₀ env.locals ((I, oI) :: cst) (LoopJ ps stored m₀ (P r)) { s with heap := h, toks := tk } Q) E s₂) E { s with heap := h, toks := tk })
    (done : ∀ c (u : Str → Option Value) h tk, P [] c → Fr h₀ env.locals h (kstB (fun z => if stored.contains z then u z else m₀ z) (ps c)) → News h₀ env.locals h cst → Q .next { s with heap := h, toks := tk }) :
    wpAny (model prog w) A (pyIter (.ref ax)) (fun it s₂ => TurnsAt prog w A h₀ env target body Q E it s₂) E s :=
  iter_listTurns hh F N hm rfl rfl fun I hI =>
    items_c ps stored P vs hm hI (fun v r c u h tk oI hv hp' F' N' => turn v r c u h tk I oI hv hp' hI F' N') done vs m₀ (fun _ h => h) ⟨c₀, hk, fun _ _ _ => rfl, hp⟩

/-- an item of a written list at a bounded place: what is true of all of them -/
theorem menu {value slice : PySem.Expr} {l : Addr} {vs : List Value} {k : Int} {u : Tok} {Q : Value → Shared → Prop} (R : Value → Prop)
    (hl : s.heap.IsList l vs.toArray) (h0 : 0 ≤ k) (h1 : k < (vs.length : Int)) (hfit : k < 2 ^ 63) (hv : ∀ v ∈ vs, R v) (h : ∀ v, R v → Q v s)
    (hs : subscripted slice false (.ref l) (.int k u) = operate [.ref l, .int k u] (getItem (.ref l) (.int k u)) := by with_unfolding_all rfl) :
    wpAny (model prog w) A (subscriptTail value slice (.ref l) (.int k u)) Q E s := by
  have hk : k.toNat < vs.length := by omega
  exact tail_any hl.typeIs slot_list_getitem.lookup (wpAny_getItem_list hl h0 hfit (by simp [hk]) (h _ (hv _ (List.getElem_mem hk)))) hs
end

theorem fmod5 (x : Int) : 0 ≤ x.fmod 5 ∧ x.fmod 5 < 5 := by
  rw [Int.fmod_eq_emod_of_nonneg _ (by decide)]
  omega
theorem menu5 {prog : Program} {w : World} {A : Around} {E : Value → Shared → Prop} {s : Shared} {value slice : PySem.Expr} {l : Addr} {a b c d e : Value} {x : Int} {u : Tok} {Q : Value → Shared → Prop} (R : Value → Prop)
    (hl : s.heap.IsList l #[a, b, c, d, e]) (hv : ∀ v ∈ [a, b, c, d, e], R v) (h : ∀ v, R v → Q v s)
    (hs : subscripted slice false (.ref l) (.int (x.fmod 5) u) = operate [.ref l, .int (x.fmod 5) u] (getItem (.ref l) (.int (x.fmod 5) u)) := by with_unfolding_all rfl) :
    wpAny (model prog w) A (subscriptTail value slice (.ref l) (.int (x.fmod 5) u)) Q E s := by
  have h5 := fmod5 x
  exact menu (vs := [a, b, c, d, e]) R hl h5.1 (by simpa using h5.2) (by omega) hv h hs

/-- does a flag of this make count -/
def gv (b : Bool) (d : Dat) : Prop :=
  match b, d with
  | true, .int i => i ≠ 0
  | true, .str x => x = Str.ofString "0"
  | true, .list ds => ds = [Dat.int 0]
  | true, .bool b => b = true
  | false, .int i => i = 0
  | false, .str x => x = Str.ofString ""
  | false, .list ds => ds = []
  | false, .none => True
  | false, .bool b => b = false
  | _, _ => False
theorem odd_ne {x : Int} (h : x.fmod 2 = 1) : x ≠ 0 := by
  rintro rfl
  exact absurd h (by decide)
theorem menu_true {l : Addr} {n : Nat} {x : Int} {t1 t2 t3 t4 : Tok} (hx : x ≠ 0) :
    ∀ v ∈ [Value.int 1 t1, Value.str (Str.ofString "0") t2, Value.ref l, Value.int x t4, Value.bool true], ∃ d, DatIn [(l, listOf #[Value.int 0 t3] n)] v d ∧ gv true d := by
  intro v hv
  simp only [List.mem_cons, List.not_mem_nil, or_false] at hv
  rcases hv with rfl | rfl | rfl | rfl | rfl
  · exact ⟨_, .int _ _, by simp [gv]⟩
  · exact ⟨_, .str _ _, by simp [gv]⟩
  · exact ⟨.list [.int 0], .list (vs := [Value.int 0 t3]) (.head _) (.cons (.int _ _) .nil), by simp [gv]⟩
  · exact ⟨_, .int _ _, by simp [gv, hx]⟩
  · exact ⟨_, .bool _, by simp [gv]⟩
theorem menu_false {l : Addr} {n : Nat} {t1 t2 : Tok} :
    ∀ v ∈ [Value.int 0 t1, Value.str (Str.ofString "") t2, Value.ref l, Value.none, Value.bool false], ∃ d, DatIn [(l, listOf #[] n)] v d ∧ gv false d := by
  intro v hv
  simp only [List.mem_cons, List.not_mem_nil, or_false] at hv
  rcases hv with rfl | rfl | rfl | rfl | rfl
  · exact ⟨_, .int _ _, by simp [gv]⟩
  · exact ⟨_, .str _ _, by simp [gv]⟩
  · exact ⟨.list [], .list (vs := []) (.head _) .nil, by simp [gv]⟩
  · exact ⟨_, .none, by simp [gv]⟩
  · exact ⟨_, .bool _, by simp [gv]⟩
section
variable {prog : Program} {w : World} {A : Around} {E : Value → Shared → Prop} {s : Shared} {value slice : PySem.Expr} {h₀ : Heap} {L l l' : Addr} {n n' : Nat} {x y : Int} {u t1 t2 t3 t4 : Tok} {rest : List (Addr × Obj)} {Q : Value → Shared → Prop}
theorem menuT (N : News h₀ L s.heap ((l', listOf #[Value.int 1 t1, Value.str (Str.ofString "0") t2, Value.ref l, Value.int x t4, Value.bool true] n') :: (l, listOf #[Value.int 0 t3] n) :: rest)) (hx : x.fmod 2 = 1)
    (h : ∀ v d, DatIn [(l, listOf #[Value.int 0 t3] n)] v d → gv true d → Q v s)
    (hs : subscripted slice false (.ref l') (.int (y.fmod 5) u) = operate [.ref l', .int (y.fmod 5) u] (getItem (.ref l') (.int (y.fmod 5) u)) := by with_unfolding_all rfl) :
    wpAny (model prog w) A (subscriptTail value slice (.ref l') (.int (y.fmod 5) u)) Q E s :=
  menu5 _ (N.isList (.head _)) (menu_true (odd_ne hx)) (fun v ⟨d, h1, h2⟩ => h v d h1 h2) hs
theorem menuF (N : News h₀ L s.heap ((l', listOf #[Value.int 0 t1, Value.str (Str.ofString "") t2, Value.ref l, Value.none, Value.bool false] n') :: (l, listOf #[] n) :: rest))
    (h : ∀ v d, DatIn [(l, listOf #[] n)] v d → gv false d → Q v s)
    (hs : subscripted slice false (.ref l') (.int (y.fmod 5) u) = operate [.ref l', .int (y.fmod 5) u] (getItem (.ref l') (.int (y.fmod 5) u)) := by with_unfolding_all rfl) :
    wpAny (model prog w) A (subscriptTail value slice (.ref l') (.int (y.fmod 5) u)) Q E s :=
  menu5 _ (N.isList (.head _)) menu_false (fun v ⟨d, h1, h2⟩ => h v d h1 h2) hs
end
theorem cut_led {h₀ h : Heap} {L : Addr} {a b c d : Addr × Obj} {r : List (Addr × Obj)} {vs : List Value} {ds : List Dat} {G : Prop} (N : News h₀ L h (a :: b :: c :: d :: r)) (K : DatAll r vs ds)
    (g : ∀ dl, News h₀ L h (a :: d :: dl) → DatAll dl vs ds → G) : G :=
  g r (fun p hp => N p (by
    rcases List.mem_cons.mp hp with rfl | hp
    · exact .head _
    · exact .tail _ (.tail _ (.tail _ hp)))) K

/-- is it a part of " +" -/
def sub (y : Str) : Bool := !(Builtin.Str.occurrences (Str.ofString " +") y 0 (Str.ofString " +").length 1).isEmpty
def norm (y : Str) : Str := if sub y then y else Str.ofString ""
theorem sub_iff (y : Str) : sub y = [Str.ofString "", Str.ofString " ", Str.ofString "+", Str.ofString " +"].any fun z => z == y := by
  have e0 : Str.ofString "" = Str.mk #[] := by decide +kernel
  have e1 : Str.ofString " " = Str.mk #[32] := by decide +kernel
  have e2 : Str.ofString "+" = Str.mk #[43] := by decide +kernel
  have e3 : Str.ofString " +" = Str.mk #[32, 43] := by decide +kernel
  unfold sub
  rw [e0, e1, e2, e3, Bool.eq_iff_iff, StrLaws.found_iff]
  simp only [List.any_cons, List.any_nil, Bool.or_false, Bool.or_eq_true, beq_iff_eq]
  constructor
  · rintro ⟨i, h1, h2⟩
    rw [StrLaws.subAt_eq, beq_iff_eq] at h2
    obtain ⟨⟨l⟩⟩ := y
    have h2' : ([32, 43].drop i).take l.length = l := h2
    have h1' : i + l.length ≤ 2 := h1
    have hi : i = 0 ∨ i = 1 ∨ i = 2 := by omega
    have hl : l.length = 0 ∨ l.length = 1 ∨ l.length = 2 := by omega
    rcases hi with rfl | rfl | rfl <;> rcases hl with hl | hl | hl <;> rw [hl] at h2' <;> simp at h2' <;> subst h2' <;> simp at h1' ⊢
  · rintro (rfl | rfl | rfl | rfl)
    · exact ⟨0, by decide, by decide⟩
    · exact ⟨0, by decide, by decide⟩
    · exact ⟨1, by decide, by decide⟩
    · exact ⟨0, by decide, by decide⟩
theorem norm_id {y : Str} (h : ([Str.ofString "", Str.ofString " ", Str.ofString "+", Str.ofString " +"].any fun z => z == y) = true) : norm y = y := by
  unfold norm; rw [sub_iff, h]; rfl
theorem norm_no {y : Str} (h : ([Str.ofString "", Str.ofString " ", Str.ofString "+", Str.ofString " +"].any fun z => z == y) = false) : norm y = Str.ofString "" := by
  unfold norm; rw [sub_iff, h]; rfl
theorem norm_sub {y : Str} (h : sub y = true) : norm y = y := by unfold norm; rw [h]; rfl
theorem norm_nosub {y : Str} (h : sub y = false) : norm y = Str.ofString "" := by unfold norm; rw [h]; rfl
theorem norm_dash : norm (Str.ofString "-") = Str.ofString "" := norm_no (by decide +kernel)
theorem norm_empty : norm (Str.ofString "") = Str.ofString "" := norm_id (by decide +kernel)

section
variable {prog : Program} {w : World} {A : Around} {E : Value → Shared → Prop} {s : Shared} {h₀ : Heap} {L : Addr}
theorem in_yes {y : Str} {t u : Tok} {Q : Value → Shared → Prop} (hs : sub y = true) (h : Q (.bool true) s) : wpAny (model prog w) A (compareOp .In (.str y u) (.str (Str.ofString " +") t)) Q E s :=
  PyProof.Rows.in_str (by have e : (!(Builtin.Str.occurrences (Str.ofString " +") y 0 (Str.ofString " +").length 1).isEmpty) = true := hs
                          rw [e]; exact h)
theorem in_no {y : Str} {t u : Tok} {Q : Value → Shared → Prop} (hs : sub y = false) (h : Q (.bool false) s) : wpAny (model prog w) A (compareOp .In (.str y u) (.str (Str.ofString " +") t)) Q E s :=
  PyProof.Rows.in_str (by have e : (!(Builtin.Str.occurrences (Str.ofString " +") y 0 (Str.ofString " +").length 1).isEmpty) = false := hs
                          rw [e]; exact h)

theorem ne_same {y : Str} {t u : Tok} {Q : Value → Shared → Prop} (h : Q (.bool false) s) : wpAny (model prog w) A (compareOp .NotEq (.str y t) (.str y u)) Q E s :=
  P.ne_str (by have e : (y.cps.toList != y.cps.toList) = false := by simp
               rw [e]; exact h)
theorem truthy_flag {u : Value} {e : Dat} {b : Bool} {dl news : List (Addr × Obj)} {Q : Bool → Shared → Prop} (hd : DatIn dl u e) (hg : gv b e) (N : News h₀ L s.heap news) (hs : ∀ p ∈ dl, p ∈ news)
    (h : ∀ tk, Q b { s with toks := tk }) : wpAny (model prog w) A (truthy u) Q E s := by
  cases hd with
  | none =>
    have : b = false := by cases b <;> simp_all [gv]
    subst this
    exact PyProof.Rows.truthy_none (h s.toks)
  | bool b' =>
    have : b = b' := by cases b <;> simp_all [gv]
    subst this
    exact wpAny_truthy_bool (h s.toks)
  | int i t =>
    refine PyProof.Rows.truthy_int ?_
    have : (i != 0) = b := by cases b <;> simp_all [gv]
    rw [this]
    exact h s.toks
  | str x t =>
    have hx : x = if b then Str.ofString "0" else Str.ofString "" := by cases b <;> simp_all [gv]
    have hb : ((x.length : Int) != 0) = b := by subst hx; cases b <;> decide +kernel
    have hl : x.length ≤ 1 := by subst hx; cases b <;> decide +kernel
    refine P.truthy_str (by omega) ?_
    rw [hb]
    exact h _
  | bytes _ _ => cases b <;> exact absurd hg (by simp [gv])
  | tuple _ _ => cases b <;> exact absurd hg (by simp [gv])
  | @list a vs n ds hm hv =>
    have hl : s.heap.IsList a vs.toArray := N.isList (hs _ hm)
    have hds : ds = if b then [Dat.int 0] else [] := by cases b <;> simp_all [gv]
    have hlen := hv.length
    have hb : (!vs.toArray.isEmpty) = b := by
      subst hds
      cases b
      · have : vs = [] := List.eq_nil_of_length_eq_zero (by simpa using hlen)
        subst this; rfl
      · cases vs with
        | nil => simp at hlen
        | cons => rfl
    have hle : vs.length ≤ 1 := by subst hds; cases b <;> simp_all
    refine wpAny_truthy_list hl (by simp; omega) ?_
    rw [hb]
    exact h _
end
theorem flags_of {dl : List (Addr × Obj)} {vs : List Value} {ds : List Dat} (K : DatAll dl vs ds) : (∀ d ∈ ds, ∃ b v, d = Dat.list [Dat.bool b, v] ∧ gv b v) →
    ∀ v ∈ vs, ∃ a n b fv e, v = .ref a ∧ (a, listOf #[Value.bool b, fv] n) ∈ dl ∧ DatIn dl fv e ∧ gv b e := by
  induction vs generalizing ds with
  | nil => intro _ v hv; cases hv
  | cons v vs ih =>
    cases K with
    | cons hd hr =>
      intro R u hu
      rcases List.mem_cons.mp hu with rfl | hu
      · obtain ⟨b, e, rfl, hg⟩ := R _ (.head _)
        cases hd with
        | @list a us n _ hm hv =>
          cases hv with
          | cons h1 h2 =>
            cases h1
            cases h2 with
            | cons h3 h4 =>
              cases h4
              exact ⟨_, _, _, _, _, rfl, hm, h3, hg⟩
      · exact ih hr (fun d hd => R d (.tail _ hd)) u hu
theorem news_put {h₀ h : Heap} {L : Addr} {p : Addr × Obj} {dl all : List (Addr × Obj)} (N : News h₀ L h all) (hm : p ∈ dl) (hs : ∀ p ∈ dl, p ∈ all) : News h₀ L h (p :: all) := by
  intro q hq
  rcases List.mem_cons.mp hq with rfl | hq
  · exact N _ (hs _ hm)
  · exact N _ hq

/-! a key that is not there: the exception with what it tells -/
section
variable {α : Type} {M : Model} {A : Around} {E : Value → Shared → Prop} {s : Shared}
theorem raise_made {cls : String} {args : List Value} {Q : α → Shared → Prop} (hp : PlainExc cls) (hh : A.handled = none)
    (h : ∀ h' e, Heap.MadeExc s.heap h' e cls args → E (.ref e) { s with heap := h' })
    (hsz : args.length ≤ sizeLine) : wpAny M A (do raiseNew (← newExc (.type cls) args) : Sem α) Q E s :=
  wpAny_bind (wpAny_newExc_plain hp (fun h' e x => wpAny_raiseNew_none hh (h h' e x)) hsz)
end
section
variable {prog : Program} {w : World} {K : Type} [DecidableEq K] {knd : KeyKind prog w K} {A : Around} {E : Value → Shared → Prop} {s : Shared} {d : Addr} {k : K} {key : Value}
theorem getItem_made {f : K → Option Value} {Q : Value → Shared → Prop} (hkey : knd.is k key = true) (hd : (d == sysModules) = false) (hh : A.handled = none) (hm : s.heap.MapOf knd d f) (hv : f k = none)
    (h : ∀ h' e, Heap.MadeExc s.heap h' e "KeyError" [key] → E (.ref e) { s with heap := h', toks := s.toks + 1 }) : wpAny (model prog w) A (getItem (.ref d) key) Q E s := by
  unfold getItem
  try with_reducible refine wpAny_holding ?_
  refine wpAny_bind (wpAny_sequenceKey hm.typeIs (by decide) ?_)
  refine wpAny_bind (wpAny_callSpecial?_slot (name := Str.ofString "__getitem__") hm.typeIs slot_dict_getitem
    (wpAny_call_entry slot_dict_getitem hm.typeIs entry_dict_getitem ?_ (args_dict_getitem _ _)))
  show wpAny _ _ (dictGet d key >>= _) _ _ s
  refine wpAny_bind (wpAny_dictGet_of hkey hm ?_)
  rw [hv]
  show wpAny _ _ (Builtin.Dict.missed d key >>= _) _ _ _
  refine wpAny_bind (wpAny_missed_other hd ?_)
  refine wpAny_bind (wpAny_typeOf (s := { s with toks := s.toks + 1 }) hm.typeIs ?_)
  show wpAny _ _ (if (Value.type "dict" != Value.type "dict") = true then _ else _) _ _ _
  rw [if_neg (by decide)]
  exact wpAny_bind (wpAny_rule (raise_made (A := A.in1) plainExc_KeyError hh h (show 1 ≤ sizeLine by decide +kernel)))
end
section
variable {prog : Program} {w : World} {A : Around} {E : Value → Shared → Prop} {s : Shared} {d : Addr} {D : List (PyData × PyData)}
open PyProof.V
theorem item_made {value slice : PySem.Expr} {x : Str} {t : Tok} {Q : Value → Shared → Prop} (T : StrTab prog w s.heap d D) (hh : A.handled = none) (hl : PySem.Spec.lookup (.str x) D = none)
    (h : ∀ h' e, Heap.MadeExc s.heap h' e "KeyError" [.str x t] → E (.ref e) { s with heap := h', toks := s.toks + 1 })
    (hs : subscripted slice false (.ref d) (.str x t) = operate [.ref d, .str x t] (getItem (.ref d) (.str x t)) := by with_unfolding_all rfl) (hg : ∀ r, letTemporaryGo value (.ref d) r = pure () := by intro _; with_unfolding_all rfl) :
    wpAny (model prog w) A (subscriptTail value slice (.ref d) (.str x t)) Q E s := by
  obtain ⟨lo, kvs, hd, hf⟩ := T
  exact subscriptTail_builtin hd.typeIs slot_dict_getitem.lookup (getItem_made (strKind_is prog w x t) lo hh hd.mapOf (hf.none_of_lookup same_str hl) h) hs hg
end
theorem attr_KeyError : ExcAttrFacts "KeyError" where
  ga := .of (owner := "BaseException") (n := "__getattribute__") (by rw [typeLookup_type, builtinLookup_eq_fast]; kernel_rfl) (by decide +kernel) (by decide +kernel) (by decide +kernel)
    (by first | exact .inl (by decide +kernel) | exact .inr (by decide +kernel)) (by rw [isSubtype_type]; kernel_rfl)
  lkArgs := by rw [typeLookup_type, builtinLookup_eq_fast]; kernel_rfl
  sub := by rw [isSubtype_type]; kernel_rfl

section
variable {prog : Program} {w : World} {A : Around} {E : Value → Shared → Prop} {s : Shared} {h₀ h : Heap} {L e t : Addr} {m : Str → Option Value} {news n₂ : List (Addr × Obj)} {cls : Value} {vs : List Value} {oe ot : Obj} {ws : Array Value} {nt : Nat}
theorem got_news (G : Got n₂ e t cls vs) (N₂ : News h₀ L h n₂) (N : News h₀ L h news) :
    ∃ oe ot ws nt, News h₀ L h ((e, oe) :: (t, ot) :: news) ∧ oe.cls = cls ∧ oe.data = .fields ws ∧ ws[0]? = some (.ref t) ∧ ot.cls = .type "tuple" ∧ ot.data = .seq vs.toArray nt := by
  obtain ⟨oe, ot, ws, nt, h1, h2, r⟩ := G
  refine ⟨oe, ot, ws, nt, fun p hp => ?_, r⟩
  rcases List.mem_cons.mp hp with rfl | hp
  · exact N₂ _ h1
  rcases List.mem_cons.mp hp with rfl | hp
  · exact N₂ _ h2
  · exact N _ hp
theorem args_key {expr : Bool} {Q : Value → Shared → Prop} (hc : oe.cls = .type "KeyError") (hd : oe.data = .fields ws) (h0 : ws[0]? = some (.ref t)) (N : News h₀ L s.heap news) (hm : (e, oe) ∈ news)
    (hq : Q (.ref t) { s with toks := s.toks + 1 }) : wpAny (model prog w) A (getAttr (.ref e) (Str.ofString "args") expr) Q E s :=
  args_attr attr_KeyError (N.get hm) hc hd h0 hq
theorem list_args {Q : Value → Shared → Prop} (hc : ot.cls = .type "tuple") (hd : ot.data = .seq vs.toArray nt) (F : Fr h₀ L s.heap m) (N : News h₀ L s.heap news) (hm : (t, ot) ∈ news)
    (h : ∀ D c h', Fr h₀ L h' m → News h₀ L h' ((D, listOf vs.toArray c) :: news) → (∀ q ∈ news, q.1 < D) → Q (.ref D) { s with heap := h' }) (hsz : vs.toArray.size ≤ sizeLine) :
    wpAny (model prog w) A (call (.type "list") [.ref t]) Q E s :=
  list_copyKT F N ⟨ot, N.get hm, hc, nt, hd⟩ h hsz
end

/-! the two ways of «kept» joined: it is norm x on both -/
section
variable {prog : Program} {w : World} {A : Around} {E : Value → Shared → Prop} {s : Shared} {env : Env} {a b : PySem.Expr} {x : Str} {Q : Value → Shared → Prop}
def KeptIs (x : Str) (s : Shared) (v : Value) (s' : Shared) : Prop := ∃ tk tk', v = .str (norm x) tk ∧ s' = { s with toks := tk' }
theorem kept_join (ha : ([Str.ofString "", Str.ofString " ", Str.ofString "+", Str.ofString " +"].any fun z => z == x) = true → wpAny (model prog w) A (eval a env) (KeptIs x s) E s)
    (hb : ([Str.ofString "", Str.ofString " ", Str.ofString "+", Str.ofString " +"].any fun z => z == x) = false → wpAny (model prog w) A (eval b env) (KeptIs x s) E s)
    (h : ∀ k tk tk', norm x = k → Q (.str k tk) { s with toks := tk' }) :
    if ([Str.ofString "", Str.ofString " ", Str.ofString "+", Str.ofString " +"].any fun z => z == x) = true then wpAny (model prog w) A (eval a env) Q E s else wpAny (model prog w) A (eval b env) Q E s := by
  split
  · rename_i hy
    refine wpAny_mono (ha hy) (fun v s' hk => ?_) fun _ _ e => e
    obtain ⟨tk, tk', rfl, rfl⟩ := hk
    exact h _ _ _ rfl
  · rename_i hn
    refine wpAny_mono (hb (by simpa using hn)) (fun v s' hk => ?_) fun _ _ e => e
    obtain ⟨tk, tk', rfl, rfl⟩ := hk
    exact h _ _ _ rfl
theorem KeptIs.yes {tk tk' : Nat} (hy : ([Str.ofString "", Str.ofString " ", Str.ofString "+", Str.ofString " +"].any fun z => z == x) = true) : KeptIs x s (.str x tk) { s with toks := tk' } :=
  ⟨tk, tk', by rw [norm_id hy], rfl⟩
theorem KeptIs.no {tk tk' : Nat} (hn : ([Str.ofString "", Str.ofString " ", Str.ofString "+", Str.ofString " +"].any fun z => z == x) = false) : KeptIs x s (.str (Str.ofString "") tk) { s with toks := tk' } :=
  ⟨tk, tk', by rw [norm_no hn], rfl⟩
end
theorem Stop.out {p : Prop} (h : Stop p) : p := h
end Mine

open Mine
local macro_rules | `(tactic| walk_at "exec For Name BinOp cons nil") => `(tactic| (k_here; (rename Fr _ _ _ _ => lF'); (with_unfolding_all refine' For_invVF lF' ?k1 ?k2 ?_; (case k1 => exact rfl); (case k2 => exact rfl); k_whole)))
local macro_rules | `(tactic| walk_at "exec For Name List cons nil") => `(tactic| (k_here; (rename Fr _ _ _ _ => lF'); (with_unfolding_all refine' For_turns lF' ?_; k_whole)))
local macro_rules | `(tactic| walk_at "exec For Tuple Name cons nil") => `(tactic| (k_here; (rename Fr _ _ _ _ => lF'); (with_unfolding_all refine' For_turns lF' ?_; k_whole)))
local macro_rules | `(tactic| walk_at "pyIter ref") => `(tactic| ((with_reducible show wpAny _ _ (pyIter (Value.ref _)) (fun it s₂ => TurnsAt _ _ _ _ _ _ _ _ _ it s₂) _ _); refine Stop.out ?_))
local macro_rules | `(tactic| walk_at "pyIter ref") => `(tactic| ((with_reducible show wpAny _ _ (pyIter (Value.ref _)) (fun it s₂ => LoopAtV _ _ _ _ _ _ _ _ _ it s₂) _ _); refine Stop.out ?_))
local macro_rules | `(tactic| walk_at "subscriptTail") => `(tactic| ((with_reducible show wpAny _ _ (subscriptTail _ _ (Value.ref _) (Value.int (Int.fmod _ 5) _)) _ _ _); first | (refine menuT (by assumption) (by assumption) ?_; intro v' d' hd' hg') | (refine menuF (by assumption) ?_; intro v' d' hd' hg')))
local macro_rules | `(tactic| walk_at "compareOp In str str") => `(tactic| first | (refine in_yes (by assumption) ?_) | (refine in_no (by assumption) ?_))
local macro_rules | `(tactic| walk_at "truthy") => `(tactic| ((with_reducible rename DatIn _ _ _ => dL); (with_reducible rename gv _ _ => gL); (refine truthy_flag dL gL (by assumption) ?hs ?_; (case hs => kst_inAny)); intro tkL))
local macro_rules | `(tactic| walk_at "PostC") => `(tactic| ((rename News _ _ _ _ => eN); (rename Fr _ _ _ _ => eF); (refine' PostC.next (_, _, _) eF eN ?kn ?kk ?kr ?kp); (case kk => kst_all); (case kn => kst_inAny); (case kr => (intro z h2 h3; (simp only [List.forall_mem_cons, List.not_mem_nil, false_implies, implies_true, and_true, ne_eq] at h2); (simp only [List.contains_cons, List.contains_nil, Bool.or_false, Bool.or_eq_false_iff, beq_eq_false_iff_ne, ne_eq] at h3); (simp [h2, h3]; done))); (case kp => first | exact norm_dash | exact norm_empty | exact norm_sub (by assumption) | exact norm_nosub (by assumption))))
local macro_rules | `(tactic| walk_at "PostC") => `(tactic| ((rename News _ _ _ _ => eN); (rename Fr _ _ _ _ => eF); (refine' PostC.next () eF eN ?kn ?kk ?kr ?kp); (case kk => exact List.forall_mem_nil _); (case kn => kst_inAny); (case kr => (intro z h2 h3; (simp only [List.contains_cons, List.contains_nil, Bool.or_false, Bool.or_eq_false_iff, beq_eq_false_iff_ne, ne_eq] at h3); (simp [h3]; done))); (case kp => first | exact True.intro | assumption)))
local macro_rules | `(tactic| walk_at "subscriptTail") => `(tactic| (k_here; (with_reducible show wpAny _ _ (subscriptTail _ _ (Value.ref _) (Value.str _ _)) _ _ _); (with_unfolding_all refine' item_made ?k1 ?k2 ?k3 ?_; (case k1 => k_tabat); (case k2 => rfl); (case k3 => rfl); k_whole); intro h' e' x'))
local macro_rules | `(tactic| walk_at "noteFrame ref") => `(tactic| (k_here; (rename RaisedS _ _ _ _ _ _ _ _ _ => rsX); kts_caught; (rename News _ _ _ _ => nP); (obtain ⟨oe', ot', ws', nt', kN', g1', g2', g3', g4', g5'⟩ := got_news (by assumption) (by assumption) nP); clear nP))
local macro_rules | `(tactic| walk_at "getAttr ref") => `(tactic| (k_here; (with_reducible show wpAny _ _ (getAttr (Value.ref _) (Str.ofString "args") _) _ _ _); (refine' args_key (by assumption) (by assumption) (by assumption) ?N ?m ?_; (case N => k_asm); (case m => k_mem); k_whole)))
local macro_rules | `(tactic| walk_at "call type:list") => `(tactic| (k_here; (with_reducible show wpAny _ _ (call (Value.type "list") [Value.ref _]) _ _ _); (refine' list_args (by assumption) (by assumption) ?F ?N ?m ?_ ?z; (case F => k_asm); (case N => k_asm); (case m => k_mem); (case z => size_fits); k_whole); intro D' c' h' F' N' l1; (try k_lt l1); (try k_sweep)))
local macro_rules | `(tactic| walk_at "compareOp NotEq str str") => `(tactic| (with_reducible refine ne_same ?_))
local macro_rules | `(tactic| walk_at "ite") => `(tactic| ((with_reducible show (if (List.any _ _) = true then wpAny _ _ (eval _ _) _ _ _ else wpAny _ _ (eval _ _) _ _ _)); refine Stop.out ?_))
local macro_rules | `(tactic| walk_at "eval ListComp") => `(tactic| ((with_reducible apply ListComp_rowsP); (case hfree => decide); (case hcell => decide); (case hkind => with_unfolding_all rfl); (case hnames => decide); (case hx => with_unfolding_all rfl); (case hs => intro _; with_unfolding_all rfl)))
local macro_rules | `(tactic| walk_at "subscriptTail Call") => `(tactic| (k_here; (with_reducible show wpAny _ _ (subscriptTail (PySem.Expr.Call _ _ _ _) _ _ _) _ _ _); k_dflt (refine kba_turn (value' := PySem.Expr.Name (PySem.Str.ofString "_") ⟨0, 0, 0, 0⟩) (fun _ => rfl) ?_)))
local macro_rules | `(tactic| walk_at "callWith") => `(tactic| ((with_reducible show wpAny _ _ (callWith _ (Value.builtin _) (_ :: _) (backTo _ (starEach (_ :: _) _)) []) _ _ _); refine callWith_method1 ?_))

set_option maxRecDepth 100000 in
set_option maxHeartbeats 16000000 in
theorem PySem.Challenge.cw_kn0006_01_holds : PySem.Challenge.rw_kn0006_01.Holds := by
  w_on; o_law; k_head
  case hw => w_witness2
  w_strict k_go0
  all_goals try k_fold
  k_steps
  delta Stop
  k_dat (fun pre flags => flags.length = pre.length ∧ ∀ d ∈ flags, ∃ b v, d = Dat.list [Dat.bool b, v] ∧ gv b v) "flags*"
  · k_steps
  · k_steps
    delta Stop
    rename DatAll _ _ _ => K
    rename News _ _ _ _ => N
    rename Fr _ _ _ _ => F
    refine cut_led N K ?_
    clear N K
    intro dl N K
    refine loop_c (σ := Unit) (fun _ => []) [Str.ofString "first", Str.ofString "kept", Str.ofString "met", Str.ofString "way", Str.ofString "counts", Str.ofString "flag", Str.ofString "spec", Str.ofString "told"]
      (fun vs _ => ∀ v ∈ vs, ∃ x t, v = Value.str x t) () rfl F N (.head _) (List.forall_mem_nil _) ?hp ?turn ?done
    case hp =>
      intro v hv
      simp only [List.mem_cons, List.not_mem_nil, or_false] at hv
      rcases hv with rfl | rfl | rfl | rfl | rfl | rfl | rfl <;> exact ⟨_, _, rfl⟩
    case done =>
      clear F N
      intro _ u h tk _ F N
      have hfl := flags_of K (by assumption)
      clear K
      dsimp only [kstB] at F
      try k_fold
      k_steps
      delta Stop
      rename News _ _ _ _ => N
      rename Fr _ _ _ _ => F
      refine loop_c (σ := Unit) (fun _ => []) [Str.ofString "counts", Str.ofString "flag"] (fun _ _ => True) () rfl F N (.tail _ (.head _)) ?hk3 ?hp3 ?turn3 ?done3
      case hk3 => exact List.forall_mem_nil _
      case hp3 => trivial
      case done3 =>
        clear F N
        intro _ u h tk _ F N
        dsimp only [kstB] at F
        k_steps
      case turn3 =>
        clear F N
        rintro v r _ u h tk I oI hv _ hI F N
        obtain ⟨a, n, b, fv, e, rfl, hm, hd, hg⟩ := hfl v hv
        clear hv
        dsimp only [kstB] at F
        k_lt hI
        replace N := news_put N hm (by kst_inAny)
        clear hm hfl
        cases b
        · try k_fold
          k_steps
        · try k_fold
          k_steps
    clear F N
    intro v r c u h tk I oI hv hP hI F N
    obtain ⟨x, t, rfl⟩ := hP v (.head _)
    replace hP : ∀ v ∈ r, ∃ x t, v = Value.str x t := fun v hv => hP v (.tail _ hv)
    clear hv c
    dsimp only [kstB] at F
    k_lt hI
    try k_fold
    have hfl := flags_of K (by assumption)
    k_steps
    delta Stop
    refine kept_join ?kja ?kjb ?kjh
    case kja =>
      intro hy
      k_steps
      exact KeptIs.yes hy
    case kjb =>
      intro hn
      k_steps
      exact KeptIs.no hn
    case kjh =>
      intro k kt kt' hk
      k_steps
      delta Stop
      rename News _ _ _ _ => N
      rename Fr _ _ _ _ => F
      refine loop_c (σ := Bool × Str × Tok) (fun c => [(Str.ofString "met", Value.bool c.1), (Str.ofString "way", Value.str c.2.1 c.2.2)]) [Str.ofString "counts", Str.ofString "flag", Str.ofString "spec", Str.ofString "told"]
        (fun _ c => norm c.2.1 = if c.1 then Str.ofString "" else k) (false, x, t) rfl F N (.tail _ (.tail _ (.tail _ (.head _)))) ?hk2 ?hp2 ?turn2 ?done2
      case hk2 => kst_all
      case hp2 => exact hk
      case turn2 =>
        clear F N hk hP
        rintro v r ⟨met, way, tw⟩ u h tk I oI hv hP hI F N
        obtain ⟨a, n, b, fv, e, rfl, hm, hd, hg⟩ := hfl v hv
        clear hv
        dsimp only [kstB] at F
        dsimp only at hP
        k_lt hI
        replace N := news_put N hm (by kst_inAny)
        clear hm hfl K
        cases b
        · cases hs : sub way
          · rw [norm_nosub hs] at hP
            cases met
            · have hP' : Str.ofString "" = k := hP
              subst hP'
              clear hP
              try k_fold
              k_steps
            · clear hP
              try k_fold
              k_steps
          · rw [norm_sub hs] at hP
            cases met
            · have hP' : way = k := hP
              subst hP'
              clear hP
              try k_fold
              k_steps
            · have hP' : way = Str.ofString "" := hP
              subst hP'
              clear hP
              try k_fold
              k_steps
        · clear hP
          cases met
          · try k_fold
            k_steps
          · try k_fold
            k_steps
      case done2 =>
        clear F N K hfl
        rintro ⟨met, way, tw⟩ u h tk _ F N
        dsimp only [kstB] at F
        k_steps
