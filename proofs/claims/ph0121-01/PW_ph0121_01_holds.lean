import PyProof.Rows.All
import Wide.All
import OpenK.AllK
import Wide.FinOn
import Lean
import PySem.Challenge.RW_ph0121_01
set_option Elab.async false
section
open PySem PySem.W PyProof.Rows
set_option maxRecDepth 100000
set_option maxHeartbeats 8000000
namespace Mine
open_top hd for PySem.Challenge.rw_ph0121_01
/-- the walk of the parts goes without the top's lines -/
theorem walk_off : True := by
  w_top off
  trivial
end Mine
end
section
open PySem PySem.W PySem.Calls PyProof.Rows
set_option maxRecDepth 100000
set_option autoImplicit false
namespace Mine

abbrev prg : Program := PySem.Challenge.rw_ph0121_01.row.prog

/-- nothing of h is lost -/
abbrev Ext (h h' : Heap) : Prop := ∀ b o, h.get? b = some o → h'.get? b = some o

/-- a list of texts -/
def Wds (h : Heap) (a : Addr) (ss : List Str) : Prop := ∃ vs : List Value, h.IsList a vs.toArray ∧ StrsAre vs ss
theorem Wds.ext {h h' : Heap} {a : Addr} {ss : List Str} (W : Wds h a ss) (k : Ext h h') : Wds h' a ss :=
  let ⟨vs, ⟨o, ho, r⟩, i⟩ := W; ⟨vs, ⟨o, k _ _ ho, r⟩, i⟩

/-- entering a plain def of the text, from any state; g: the part that is to stay -/
theorem enter_fn {prog : Program} {w : World} {A : Around} {E Q : Value → Shared → Prop} {s : Shared} {g : Heap} {K : Frag} {p : Program} {loose : List Str} {mean : ExcName → Option Value} {mg mb : Str → Option Value}
    {name qual : Str} {params : Arguments} {body : List Stmt} {scope : Scope} {dV kV doc pm cdv ct oc : Value} {an od : Option Addr} {osl : Array (Option Value)} {f : Addr} {vals : List Value} {binds : List (Str × Value)}
    (X : K.In g) (T : Top p loose mean mg mb g) (hg : Ext g s.heap) (hz : g.objs.size ≤ s.heap.objs.size)
    (ho : K.lookup f = some ⟨oc, od, .func (fnOf name qual params body scope dV kV doc pm an cdv ct), osl⟩) (hcd : codeIn K cdv qual = true) (hroom : A.depth < recursionLimit)
    (hbind : BindsTo s (fnOf name qual params body scope dV kV doc pm an cdv ct) ⟨vals, []⟩ binds) (hloc : ∀ y ∈ binds, scope.names.lookup y.1 = some .local)
    (h : ∀ h₁, Fr g s.heap.objs.size h₁ (fun y => binds.reverse.lookup y) → Ext s.heap h₁ →
      wpAny (model prog w) (A.deeper (envOf qual scope s.heap.objs.size f cdv)) (execs body (envOf qual scope s.heap.objs.size f cdv))
        (fun fl s' => Q (match fl with | .ret v => v | _ => .none) s') (fun _ _ => False)
        { s with heap := h₁, toks := s.toks + binds.length })
    (hcell : ∀ x ∈ scope.names, x.2 ≠ .cell) (hco : scope.isCoroutine = false := by rfl) (hgen : scope.isGenerator = false := by rfl) (hk : scope.kind = .function := by rfl) :
    wpAny (model prog w) A (call (.ref f) vals) Q E s := by
  refine wpAny_call (codeAny_call_def (fd := fnOf name qual params body scope dV kV doc pm an cdv ct) (body := body) (binds := binds) hroom ((X.keeps hg) _ _ ho) rfl (T.nolimit.keeps hg) (codeRec_of (X.keeps hg) hcd) rfl hbind hcell hloc (fun h₁ hns hk₁ => ?_) hco hgen hk)
  exact wpAny_mono (h h₁ ⟨hns, fun b o e => hk₁ b o (hg b o e), hz⟩ hk₁) (fun fl s' hl => hl) fun _ _ y => y.elim

end Mine
end
section
open PySem PySem.W PySem.Calls PyProof.Rows
set_option maxRecDepth 100000
set_option autoImplicit false
namespace Mine

theorem sa_take : ∀ {vs : List Value} {ss : List Str}, StrsAre vs ss → ∀ k : Nat, StrsAre (vs.take k) (ss.take k)
  | _, _, _, 0 => .nil
  | _, _, .nil, _ + 1 => .nil
  | _, _, .cons n t h, k + 1 => .cons n t (sa_take h k)
theorem sa_drop : ∀ {vs : List Value} {ss : List Str}, StrsAre vs ss → ∀ k : Nat, StrsAre (vs.drop k) (ss.drop k)
  | _, _, h, 0 => h
  | _, _, .nil, _ + 1 => .nil
  | _, _, .cons _ _ h, k + 1 => sa_drop h k
theorem sa_append : ∀ {vs us : List Value} {ss rs : List Str}, StrsAre vs ss → StrsAre us rs → StrsAre (vs ++ us) (ss ++ rs)
  | _, _, _, _, .nil, g => g
  | _, _, _, _, .cons n t h, g => .cons n t (sa_append h g)
theorem sa_length : ∀ {vs : List Value} {ss : List Str}, StrsAre vs ss → vs.length = ss.length
  | _, _, .nil => rfl
  | _, _, .cons _ _ h => by simp [sa_length h]
theorem sa_toks : ∀ {vs : List Value} {ss : List Str}, StrsAre vs ss → ∃ l : List (Str × Tok), vs = strValues l ∧ l.map (·.1) = ss
  | _, _, .nil => ⟨[], rfl, rfl⟩
  | _, _, .cons n t h => let ⟨l, a, b⟩ := sa_toks h; ⟨(n, t) :: l, by rw [a]; rfl, by rw [← b]; rfl⟩

/-- the texts that the law makes -/
def Al : List Str := [Str.ofString "", Str.ofString "a", Str.ofString "a!", Str.ofString "b", Str.ofString "g", Str.ofString "h"]
theorem al_len : ∀ x ∈ Al, x.length ≤ 2 := by decide
theorem al_ok : ∀ x ∈ Al, PyData.strOk x = true := by decide +kernel
/-- few of them -/
def Few (ss : List Str) : Prop := ss.length ≤ 40 ∧ ∀ x ∈ ss, x ∈ Al
theorem Few.joinOk {ss : List Str} (h : Few ss) : JoinOk (Str.ofString "/") ss = true := by
  unfold JoinOk
  rw [StrLaws.joinFits (B := 2) (fun y hy => al_len y (h.2 y hy)) (by have := h.1; have : (Str.ofString "/").length = 1 := by decide
                                                                      rw [this]; omega)]
  rfl

section
variable {prog : Program} {w : World} {A : Around} {E : Value → Shared → Prop} {s : Shared} {h₀ : Heap} {L : Addr} {m : Str → Option Value} {news : List (Addr × Obj)}

theorem join_w {l : Addr} {t : Tok} {vs : List Value} {ss : List Str} {Q : Value → Shared → Prop} (hl : s.heap.IsList l vs.toArray) (hs : StrsAre vs ss) (hf : Few ss)
    (h : ∀ t' k, Q (.str (Txt.join (Str.ofString "/") ss) t') { s with toks := k }) : wpAny (model prog w) A (call (.builtin "str.join") [.str (Str.ofString "/") t, .ref l]) Q E s := by
  obtain ⟨l', rfl, e⟩ := sa_toks hs
  exact SC.join hl e hf.joinOk h

theorem slice_w {value slice : Expr} {l : Addr} {vs : List Value} {vl vu : Value} {lo hi : Option Int} {Q : Value → Shared → Prop}
    (F : Fr h₀ L s.heap m) (N : News h₀ L s.heap news) (hl : s.heap.IsList l vs.toArray) (pl : IsPart vl lo) (pu : IsPart vu hi) {us : List Value} (e : slicePick vs.toArray lo hi none = us.toArray)
    (h : ∀ l' h', Fr h₀ L h' m → News h₀ L h' ((l', listOf us.toArray 0) :: news) → (∀ p ∈ news, p.1 < l') → Q (.ref l') { s with heap := h' })
    (hs : subscripted slice false (.ref l) (.ref s.heap.objs.size) = operate [.ref s.heap.objs.size, .ref l] (getItem (.ref l) (.ref s.heap.objs.size)) := by with_unfolding_all rfl)
    (ht : ∀ r, letTemporaryGo value (.ref l) r = pure () := by intro _; with_unfolding_all rfl)
    (hsz : vs.length ≤ 1000) :
    wpAny (model prog w) A (subscriptTail value slice (.ref l) (.ref s.heap.objs.size)) Q E { s with heap := s.heap.push { cls := .type "slice", data := .fields #[vl, vu, .none] } } :=
  slice_list F N hl pl pu (fun h' F' N' => h _ h' F' (by rw [e] at N'; exact N') fun p hp => Nat.lt_succ_of_lt (Heap.lt_size (N p hp).1)) hs ht (by rw [List.size_toArray, sizeLine_eq]; omega)

theorem pick_from (vs : List Value) (a : Nat) : slicePick vs.toArray (some (a : Int)) none none = (vs.drop a).toArray := by rw [slicePick_from']
theorem pick_upto (vs : List Value) (a : Nat) : slicePick vs.toArray none (some (a : Int)) none = (vs.take a).toArray := by rw [slicePick_upto']
theorem pick_from_i (vs : List Value) {k : Int} (hk : 0 ≤ k) : slicePick vs.toArray (some k) none none = (vs.drop k.toNat).toArray := by obtain ⟨n, rfl⟩ := Int.eq_ofNat_of_zero_le hk; exact pick_from vs n
theorem pick_upto_i (vs : List Value) {k : Int} (hk : 0 ≤ k) : slicePick vs.toArray none (some k) none = (vs.take k.toNat).toArray := by obtain ⟨n, rfl⟩ := Int.eq_ofNat_of_zero_le hk; exact pick_upto vs n
theorem pick_but1 (vs : List Value) : slicePick vs.toArray none (some (-1)) none = (vs.take (vs.length - 1)).toArray := by
  have := slicePick_butLast vs.toArray 1 (by decide); simpa using this
theorem pick_last1 (vs : List Value) : slicePick vs.toArray (some (-1)) none none = (vs.drop (vs.length - 1)).toArray := by
  have := slicePick_last vs.toArray 1 (by decide); simpa using this

theorem slice_from {value slice : Expr} {l : Addr} {vs : List Value} {ss : List Str} {k : Int} {t : Tok} {Q : Value → Shared → Prop}
    (F : Fr h₀ L s.heap m) (N : News h₀ L s.heap news) (hl : s.heap.IsList l vs.toArray) (hs : StrsAre vs ss) (hk : 0 ≤ k) (hz : ss.length ≤ 1000)
    (h : ∀ l' h' us, Fr h₀ L h' m → News h₀ L h' ((l', listOf (List.toArray us) 0) :: news) → (∀ p ∈ news, p.1 < l') → StrsAre us (ss.drop k.toNat) → Q (.ref l') { s with heap := h' })
    (he : subscripted slice false (.ref l) (.ref s.heap.objs.size) = operate [.ref s.heap.objs.size, .ref l] (getItem (.ref l) (.ref s.heap.objs.size)))
    (ht : ∀ r, letTemporaryGo value (.ref l) r = pure ()) :
    wpAny (model prog w) A (subscriptTail value slice (.ref l) (.ref s.heap.objs.size)) Q E { s with heap := s.heap.push { cls := .type "slice", data := .fields #[.int k t, .none, .none] } } :=
  slice_w F N hl (.int _ _) .none (us := vs.drop k.toNat) (pick_from_i vs hk)
    (fun l' h' F' N' hlt => h l' h' _ F' N' hlt (sa_drop hs _)) he ht (by rw [sa_length hs]; exact hz)
theorem slice_upto {value slice : Expr} {l : Addr} {vs : List Value} {ss : List Str} {k : Int} {t : Tok} {Q : Value → Shared → Prop}
    (F : Fr h₀ L s.heap m) (N : News h₀ L s.heap news) (hl : s.heap.IsList l vs.toArray) (hs : StrsAre vs ss) (hk : 0 ≤ k) (hz : ss.length ≤ 1000)
    (h : ∀ l' h' us, Fr h₀ L h' m → News h₀ L h' ((l', listOf (List.toArray us) 0) :: news) → (∀ p ∈ news, p.1 < l') → StrsAre us (ss.take k.toNat) → Q (.ref l') { s with heap := h' })
    (he : subscripted slice false (.ref l) (.ref s.heap.objs.size) = operate [.ref s.heap.objs.size, .ref l] (getItem (.ref l) (.ref s.heap.objs.size)))
    (ht : ∀ r, letTemporaryGo value (.ref l) r = pure ()) :
    wpAny (model prog w) A (subscriptTail value slice (.ref l) (.ref s.heap.objs.size)) Q E { s with heap := s.heap.push { cls := .type "slice", data := .fields #[.none, .int k t, .none] } } :=
  slice_w F N hl .none (.int _ _) (us := vs.take k.toNat) (pick_upto_i vs hk)
    (fun l' h' F' N' hlt => h l' h' _ F' N' hlt (sa_take hs _)) he ht (by rw [sa_length hs]; exact hz)
theorem slice_but1 {value slice : Expr} {l : Addr} {vs : List Value} {ss : List Str} {t : Tok} {Q : Value → Shared → Prop}
    (F : Fr h₀ L s.heap m) (N : News h₀ L s.heap news) (hl : s.heap.IsList l vs.toArray) (hs : StrsAre vs ss) (hz : ss.length ≤ 1000)
    (h : ∀ l' h' us, Fr h₀ L h' m → News h₀ L h' ((l', listOf (List.toArray us) 0) :: news) → (∀ p ∈ news, p.1 < l') → StrsAre us ss.dropLast → Q (.ref l') { s with heap := h' })
    (he : subscripted slice false (.ref l) (.ref s.heap.objs.size) = operate [.ref s.heap.objs.size, .ref l] (getItem (.ref l) (.ref s.heap.objs.size)))
    (ht : ∀ r, letTemporaryGo value (.ref l) r = pure ()) :
    wpAny (model prog w) A (subscriptTail value slice (.ref l) (.ref s.heap.objs.size)) Q E { s with heap := s.heap.push { cls := .type "slice", data := .fields #[.none, .int (-1) t, .none] } } :=
  slice_w F N hl .none (.int _ _) (us := vs.take (vs.length - 1)) (pick_but1 vs)
    (fun l' h' F' N' hlt => h l' h' _ F' N' hlt (by rw [List.dropLast_eq_take, ← sa_length hs]; exact sa_take hs _)) he ht (by rw [sa_length hs]; exact hz)
theorem add_w {l b : Addr} {vs us : List Value} {ss rs : List Str} {Q : Value → Shared → Prop} (F : Fr h₀ L s.heap m) (N : News h₀ L s.heap news) (hl : s.heap.IsList l vs.toArray) (hs : StrsAre vs ss)
    (hb : s.heap.IsList b us.toArray) (hr : StrsAre us rs) (hz : ss.length + rs.length ≤ 1000)
    (h : ∀ l' h' ws, Fr h₀ L h' m → News h₀ L h' ((l', listOf (List.toArray ws) 0) :: news) → (∀ p ∈ news, p.1 < l') → StrsAre ws (ss ++ rs) → Q (.ref l') { s with heap := h' }) :
    wpAny (model prog w) A (binaryOp .Add (.ref l) (.ref b)) Q E s :=
  add_lists F N hl hb (fun h' F' N' => h _ h' _ F' N' (fun p hp => Heap.lt_size (N p hp).1) (sa_append hs hr)) (by rw [sa_length hs, sa_length hr, sizeLine_eq]; omega)
end

/-- the sizes in reach -/
theorem few_le {ss : List Str} (h : Few ss) : ss.length ≤ 1000 := Nat.le_trans h.1 (by decide)
theorem Few.take {ss : List Str} (h : Few ss) (k : Nat) : Few (ss.take k) := ⟨by have := h.1; simp; omega, fun x hx => h.2 x (List.mem_of_mem_take hx)⟩
theorem Few.drop {ss : List Str} (h : Few ss) (k : Nat) : Few (ss.drop k) := ⟨by have := h.1; simp; omega, fun x hx => h.2 x (List.mem_of_mem_drop hx)⟩
theorem Few.dropLast {ss : List Str} (h : Few ss) : Few ss.dropLast := by rw [List.dropLast_eq_take]; exact h.take _
theorem Few.tail {x : Str} {ss : List Str} (h : Few (x :: ss)) : Few ss := ⟨by have := h.1; simp at this; omega, fun y hy => h.2 y (.tail _ hy)⟩
/-- the state kept, said at an end -/
theorem keeps_of {s : Shared} {h' : Heap} {tk : Nat} (k : Ext s.heap h') : Keeps s { s with heap := h', toks := tk } := ⟨h', tk, rfl, k⟩
/-- what a def of the text gives back: nothing is lost, and P of the value -/
structure Post (s : Shared) (P : Value → Heap → Prop) (v : Value) (s' : Shared) : Prop where
  keeps : Keeps s s'
  post : P v s'.heap
theorem Post.mk' {s : Shared} {P : Value → Heap → Prop} {v : Value} {h' : Heap} {tk : Nat} (k : Ext s.heap h') (h : P v h') : Post s P v { s with heap := h', toks := tk } := ⟨⟨h', tk, rfl, k⟩, h⟩
/-- a contract at its place of use -/
theorem use_post {M : Model} {A : Around} {E : Value → Shared → Prop} {t : Sem Value} {s : Shared} {P : Value → Heap → Prop} {Q : Value → Shared → Prop} (c : ∀ E', wpAny M A t (Post s P) E' s)
    (h : ∀ v h' tk, Ext s.heap h' → P v h' → Q v { s with heap := h', toks := tk }) : wpAny M A t Q E s :=
  wpAny_mono (c E) (fun v s' q => by obtain ⟨⟨h', tk, rfl, k⟩, hp⟩ := q; exact h v h' tk k hp) fun _ _ e => e
/-- the walk stops here -/
def Hold (P : Prop) : Prop := P
theorem hold {P : Prop} (h : Hold P) : P := h
theorem passes_false {M : Model} {A : Around} {env : Env} : PassesOwn M A env fun _ _ => False := fun _ _ h => h.elim
/-- the same for a def that changes one object: g stays -/
structure PostM (s : Shared) (g : Heap) (P : Value → Heap → Prop) (v : Value) (s' : Shared) : Prop where
  keeps : ∃ h' tk, s' = { s with heap := h', toks := tk } ∧ Ext g h'
  post : P v s'.heap
theorem PostM.mk' {s : Shared} {g : Heap} {P : Value → Heap → Prop} {v : Value} {h' : Heap} {tk : Nat} (k : Ext g h') (h : P v h') : PostM s g P v { s with heap := h', toks := tk } := ⟨⟨h', tk, rfl, k⟩, h⟩
theorem use_postM {M : Model} {A : Around} {E : Value → Shared → Prop} {t : Sem Value} {s : Shared} {g : Heap} {P : Value → Heap → Prop} {Q : Value → Shared → Prop} (c : ∀ E', wpAny M A t (PostM s g P) E' s)
    (h : ∀ v h' tk, Ext g h' → P v h' → Q v { s with heap := h', toks := tk }) : wpAny M A t Q E s :=
  wpAny_mono (c E) (fun v s' q => by obtain ⟨⟨h', tk, rfl, k⟩, hp⟩ := q; exact h v h' tk k hp) fun _ _ e => e
end Mine
end
section
open PySem PySem.W PySem.Calls PyProof.Rows PySem.SeqAt
set_option maxRecDepth 100000
set_option autoImplicit false
namespace Mine

/-- the datum of a list of texts -/
def dW (ss : List Str) : PyData := .list (ss.map .str)
theorem sa_reads {h : Heap} : ∀ {vs : List Value} {ss : List Str}, StrsAre vs ss → ReadsAll h vs (ss.map .str) []
  | _, _, .nil => .nil
  | _, _, .cons n t r => by
    have := ReadsAll.cons (Reads.str (h := h) n t) (sa_reads (h := h) r)
    simpa using this
theorem reads_list {h : Heap} {a : Addr} {vs : List Value} {ds : List PyData} {as : List Addr} (hl : h.IsList a vs.toArray) (r : ReadsAll h vs ds as) : Reads h (.ref a) (.list ds) (a :: as) := by
  obtain ⟨o, ho, hc, n, hd⟩ := hl
  exact .list ho hc hd (by simpa using r)
theorem reads_w {h : Heap} {a : Addr} {vs : List Value} {ss : List Str} (hl : h.IsList a vs.toArray) (hs : StrsAre vs ss) : Reads h (.ref a) (dW ss) [a] := reads_list hl (sa_reads hs)
theorem Wds.reads {h : Heap} {a : Addr} {ss : List Str} (W : Wds h a ss) : Reads h (.ref a) (dW ss) [a] := let ⟨_, hl, hs⟩ := W; reads_w hl hs
theorem lay_strs : ∀ {ss : List Str}, (∀ x ∈ ss, x ∈ Al) → PyData.canLayAll0 (ss.map .str) = true
  | [], _ => rfl
  | x :: ss, h => by
    rw [List.map_cons, PyData.canLayAll0, PyData.canLay0, al_ok x (h x (.head _)), Bool.true_and]
    exact lay_strs fun y hy => h y (.tail _ hy)
theorem depth_strs : ∀ ss : List Str, PyData.depthAll (ss.map .str) = 0
  | [] => rfl
  | _ :: ss => by show max 0 _ = 0; rw [depth_strs ss]; rfl
theorem eqv_strs : ∀ ss rs : List Str, PyData.eqvAll (ss.map .str) (rs.map .str) = decide (ss = rs)
  | [], [] => rfl
  | [], _ :: _ => rfl
  | _ :: _, [] => rfl
  | x :: ss, y :: rs => by
    show ((x == y) && PyData.eqvAll (ss.map .str) (rs.map .str)) = _
    rw [eqv_strs ss rs]
    by_cases h : x = y
    · subst h; by_cases h2 : ss = rs <;> simp [h2]
    · simp [h]
theorem eqv_w (ss rs : List Str) : PyData.eqv (dW ss) (dW rs) = decide (ss = rs) := eqv_strs ss rs
theorem lay_w {ss : List Str} (h : Few ss) : (dW ss).canLay0 = true := lay_strs h.2
theorem depth_w (ss : List Str) : (dW ss).depth = 1 := by show PyData.depthAll _ + 1 = 1; rw [depth_strs]

/-- the datum of a list of such lists -/
def dR (rs : List (List Str)) : PyData := .list (rs.map dW)
theorem lay_rows : ∀ {rs : List (List Str)}, (∀ x ∈ rs, Few x) → PyData.canLayAll0 (rs.map dW) = true
  | [], _ => rfl
  | x :: ss, h => by
    rw [List.map_cons, PyData.canLayAll0, lay_w (h x (.head _)), Bool.true_and]
    exact lay_rows fun y hy => h y (.tail _ hy)
theorem depth_rows : ∀ ss : List (List Str), PyData.depthAll (ss.map dW) ≤ 1
  | [] => Nat.zero_le _
  | x :: ss => by show max (dW x).depth _ ≤ 1; rw [depth_w]; have := depth_rows ss; omega
theorem eqv_rows : ∀ ss rs : List (List Str), PyData.eqvAll (ss.map dW) (rs.map dW) = decide (ss = rs)
  | [], [] => rfl
  | [], _ :: _ => rfl
  | _ :: _, [] => rfl
  | x :: ss, y :: rs => by
    show (PyData.eqv (dW x) (dW y) && PyData.eqvAll (ss.map dW) (rs.map dW)) = _
    rw [eqv_rows ss rs, eqv_w]
    by_cases h : x = y
    · subst h; by_cases h2 : ss = rs <;> simp [h2]
    · simp [h]

/-- rows of lists of texts: their places, told one by one -/
inductive RowsAre (h : Heap) : List Value → List (List Str) → Prop
  | nil : RowsAre h [] []
  | cons {a : Addr} {x : List Str} {vs : List Value} {rs : List (List Str)} : Wds h a x → Few x → RowsAre h vs rs → RowsAre h (.ref a :: vs) (x :: rs)
theorem RowsAre.ext {h h' : Heap} (k : Ext h h') : ∀ {vs : List Value} {rs : List (List Str)}, RowsAre h vs rs → RowsAre h' vs rs
  | _, _, .nil => .nil
  | _, _, .cons W f r => .cons (W.ext k) f (r.ext k)
theorem RowsAre.reads {h : Heap} : ∀ {vs : List Value} {rs : List (List Str)}, RowsAre h vs rs → ∃ as, ReadsAll h vs (rs.map dW) as
  | _, _, .nil => ⟨_, .nil⟩
  | _, _, .cons W _ r => let ⟨_, q⟩ := r.reads; ⟨_, .cons W.reads q⟩
theorem RowsAre.few {h : Heap} : ∀ {vs : List Value} {rs : List (List Str)}, RowsAre h vs rs → ∀ x ∈ rs, Few x
  | _, _, .cons _ f _, _, .head _ => f
  | _, _, .cons _ _ r, x, .tail _ hx => r.few x hx
theorem RowsAre.length {h : Heap} : ∀ {vs : List Value} {rs : List (List Str)}, RowsAre h vs rs → vs.length = rs.length
  | _, _, .nil => rfl
  | _, _, .cons _ _ r => by simp [r.length]
theorem RowsAre.get {h : Heap} : ∀ {vs : List Value} {rs : List (List Str)}, RowsAre h vs rs → ∀ (i : Nat) (x : List Str), rs[i]? = some x → ∃ a, vs[i]? = some (.ref a) ∧ Wds h a x ∧ Few x
  | _, _, .cons W f _, 0, _, e => by cases e; exact ⟨_, rfl, W, f⟩
  | _, _, .cons _ _ r, i + 1, x, e => by simpa using r.get i x (by simpa using e)
theorem RowsAre.append {h : Heap} : ∀ {vs us : List Value} {rs qs : List (List Str)}, RowsAre h vs rs → RowsAre h us qs → RowsAre h (vs ++ us) (rs ++ qs)
  | _, _, _, _, .nil, q => q
  | _, _, _, _, .cons W f r, q => .cons W f (r.append q)
theorem RowsAre.take {h : Heap} : ∀ {vs : List Value} {rs : List (List Str)}, RowsAre h vs rs → ∀ k, RowsAre h (vs.take k) (rs.take k)
  | _, _, .nil, _ => by simpa using .nil
  | _, _, .cons _ _ _, 0 => .nil
  | _, _, .cons W f r, k + 1 => .cons W f (r.take k)
theorem RowsAre.drop {h : Heap} : ∀ {vs : List Value} {rs : List (List Str)}, RowsAre h vs rs → ∀ k, RowsAre h (vs.drop k) (rs.drop k)
  | _, _, .nil, _ => by simpa using .nil
  | _, _, .cons W f r, 0 => .cons W f r
  | _, _, .cons _ _ r, k + 1 => r.drop k

section
variable {prog : Program} {w : World} {A : Around} {E : Value → Shared → Prop} {s : Shared} {Q : Value → Shared → Prop}
theorem eq_w {a b : Addr} {vs us : List Value} {ss rs : List Str} (hl : s.heap.IsList a vs.toArray) (hs : StrsAre vs ss) (hb : s.heap.IsList b us.toArray) (hr : StrsAre us rs) (f1 : Few ss) (f2 : Few rs)
    (hu : A.units + 64 < cLine) (h : Q (.bool (decide (ss = rs))) s) : wpAny (model prog w) A (compareOp .Eq (.ref a) (.ref b)) Q E s :=
  compareEq_reads (reads_w hl hs) (reads_w hb hr) (lay_w f1) (lay_w f2) (by rw [depth_w, depth_w]; omega) (by rw [eqv_w]; exact h)
theorem ne_w {a b : Addr} {vs us : List Value} {ss rs : List Str} (hl : s.heap.IsList a vs.toArray) (hs : StrsAre vs ss) (hb : s.heap.IsList b us.toArray) (hr : StrsAre us rs) (f1 : Few ss) (f2 : Few rs)
    (hu : A.units + 64 < cLine) (h : Q (.bool (!decide (ss = rs))) s) : wpAny (model prog w) A (compareOp .NotEq (.ref a) (.ref b)) Q E s :=
  compareNe_reads (reads_w hl hs) (reads_w hb hr) (lay_w f1) (lay_w f2) (by rw [depth_w, depth_w]; omega) (by rw [eqv_w]; exact h)
theorem eq_rows {a b : Addr} {vs us : List Value} {ss rs : List (List Str)} (hl : s.heap.IsList a vs.toArray) (hs : RowsAre s.heap vs ss) (hb : s.heap.IsList b us.toArray) (hr : RowsAre s.heap us rs)
    (hu : A.units + 64 < cLine) (h : Q (.bool (decide (ss = rs))) s) : wpAny (model prog w) A (compareOp .Eq (.ref a) (.ref b)) Q E s := by
  obtain ⟨as, r1⟩ := hs.reads
  obtain ⟨bs, r2⟩ := hr.reads
  refine compareEq_reads (reads_list hl r1) (reads_list hb r2) (lay_rows hs.few) (lay_rows hr.few) ?_ ?_
  · show A.units + min (PyData.depthAll _ + 1) _ < cLine
    have := depth_rows ss; omega
  · show Q (.bool (PyData.eqvAll _ _)) s
    rw [eqv_rows]; exact h
theorem ne_rows {a b : Addr} {vs us : List Value} {ss rs : List (List Str)} (hl : s.heap.IsList a vs.toArray) (hs : RowsAre s.heap vs ss) (hb : s.heap.IsList b us.toArray) (hr : RowsAre s.heap us rs)
    (hu : A.units + 64 < cLine) (h : Q (.bool (!decide (ss = rs))) s) : wpAny (model prog w) A (compareOp .NotEq (.ref a) (.ref b)) Q E s := by
  obtain ⟨as, r1⟩ := hs.reads
  obtain ⟨bs, r2⟩ := hr.reads
  refine compareNe_reads (reads_list hl r1) (reads_list hb r2) (lay_rows hs.few) (lay_rows hr.few) ?_ ?_
  · show A.units + min (PyData.depthAll _ + 1) _ < cLine
    have := depth_rows ss; omega
  · show Q (.bool (!PyData.eqvAll _ _)) s
    rw [eqv_rows]; exact h
theorem in_rows {a b : Addr} {vs us : List Value} {ss : List Str} {rs : List (List Str)} (hl : s.heap.IsList a vs.toArray) (hs : StrsAre vs ss) (f1 : Few ss) (hb : s.heap.IsList b us.toArray) (hr : RowsAre s.heap us rs)
    (hu : A.units + 64 < cLine) (h : Q (.bool (decide (ss ∈ rs))) s) : wpAny (model prog w) A (compareOp .In (.ref a) (.ref b)) Q E s := by
  obtain ⟨bs, r2⟩ := hr.reads
  refine in_list_reads (reads_list hb r2) (reads_w hl hs) (lay_rows hr.few) (lay_w f1) (by rw [depth_w]; omega) ?_
  have e : ((rs.map dW).any fun y => PyData.eqv y (dW ss)) = decide (ss ∈ rs) := by
    clear r2 hr hb h
    induction rs with
    | nil => rfl
    | cons x rs ih =>
      rw [List.map_cons, List.any_cons, ih, eqv_w]
      by_cases h : x = ss
      · subst h; simp
      · have : ss ≠ x := fun q => h q.symm
        simp [h, this]
  rw [e]; exact h
theorem eq_pair {a b : Addr} {x y u z : Str} {t1 t2 t3 t4 : Tok} (hl : IsTup s.heap a #[.str x t1, .str y t2]) (hb : IsTup s.heap b #[.str u t3, .str z t4]) (o1 : PyData.strOk x = true) (o2 : PyData.strOk y = true) (o3 : PyData.strOk u = true) (o4 : PyData.strOk z = true)
    (hu : A.units + 64 < cLine) (h : Q (.bool (decide (x = u ∧ y = z))) s) : wpAny (model prog w) A (compareOp .Eq (.ref a) (.ref b)) Q E s := by
  have rd : ∀ {a : Addr} {x y : Str} {t1 t2 : Tok}, IsTup s.heap a #[.str x t1, .str y t2] → Reads s.heap (.ref a) (.tuple [.str x, .str y]) [] := by
    intro a x y t1 t2 hl
    obtain ⟨o, ho, hc, n, hd⟩ := hl
    exact .tuple ho hc hd (.cons (.str _ _) (.cons (.str _ _) .nil))
  refine compareEq_reads (rd hl) (rd hb) (by simp [PyData.canLay0, PyData.canLayAll0, o1, o2]) (by simp [PyData.canLay0, PyData.canLayAll0, o3, o4]) ?_ ?_
  · show A.units + min (max 0 (max 0 0) + 1) (max 0 (max 0 0) + 1) < cLine; simp; omega
  · show Q (.bool ((x == u) && ((y == z) && true))) s
    have e : ((x == u) && ((y == z) && true)) = decide (x = u ∧ y = z) := by by_cases h1 : x = u <;> by_cases h2 : y = z <;> simp [h1, h2]
    rw [e]; exact h
theorem sa_get : ∀ {vs : List Value} {ss : List Str}, StrsAre vs ss → ∀ (i : Nat), i < ss.length → ∃ t, vs[i]? = some (.str (ss.getD i Str.empty) t)
  | _, _, .cons x t _, 0, _ => ⟨t, rfl⟩
  | _, _, .cons _ _ r, i + 1, h => by simpa using sa_get r i (by simpa using h)
theorem item_last {value slice : Expr} {l : Addr} {u : Tok} {vs : List Value} {ss : List Str} (hl : s.heap.IsList l vs.toArray) (hs : StrsAre vs ss) (hne : ss ≠ []) (h : ∀ t, Q (.str (ss.getD (ss.length - 1) Str.empty) t) s)
    (he : subscripted slice false (.ref l) (.int (-1) u) = operate [.ref l, .int (-1) u] (getItem (.ref l) (.int (-1) u))) (hg : ∀ r, letTemporaryGo value (.ref l) r = pure ()) :
    wpAny (model prog w) A (subscriptTail value slice (.ref l) (.int (-1) u)) Q E s := by
  have hp : 0 < ss.length := List.length_pos_iff.mpr hne
  obtain ⟨t, ht⟩ := sa_get hs (ss.length - 1) (by omega)
  have hz := sa_length hs
  exact subscriptTail_builtin hl.typeIs slot_list_getitem.lookup (wpAny_getItem_list_neg hl (by decide) (by simp; omega) (by decide) (by
    have e : ((-1 : Int) + (vs.toArray.size : Int)).toNat = ss.length - 1 := by simp; omega
    rw [e]; simpa using ht) (h t)) he hg
theorem len_w {l : Addr} {vs : List Value} {ss : List Str} (hl : s.heap.IsList l vs.toArray) (hs : StrsAre vs ss) (hf : ss.length ≤ 1000) (h : ∀ t k, Q (.int ss.length t) { s with toks := k }) : wpAny (model prog w) A (call (.builtin "len") [.ref l]) Q E s := by
  have hz := sa_length hs
  have := h (s.toks + 1) (s.toks + 1 + 1)
  refine len_list hl (by simp; omega) ?_
  simpa [hz] using this
theorem item_row {value slice : Expr} {l : Addr} {k : Int} {u : Tok} {vs : List Value} {rs : List (List Str)} (hl : s.heap.IsList l vs.toArray) (hs : RowsAre s.heap vs rs) (h0 : 0 ≤ k) (hk : k < rs.length) (hz : rs.length ≤ 1000)
    (h : ∀ a us, s.heap.IsList a (List.toArray us) → StrsAre us (rs.getD k.toNat []) → Few (rs.getD k.toNat []) → Q (.ref a) s)
    (he : subscripted slice false (.ref l) (.int k u) = operate [.ref l, .int k u] (getItem (.ref l) (.int k u))) (hg : ∀ r, letTemporaryGo value (.ref l) r = pure ()) :
    wpAny (model prog w) A (subscriptTail value slice (.ref l) (.int k u)) Q E s := by
  have hlt : k.toNat < rs.length := by omega
  have e : rs[k.toNat]? = some (rs.getD k.toNat []) := by rw [List.getD_eq_getElem?_getD]; simp [hlt]
  obtain ⟨a, ha, ⟨us, h1, h2⟩, f⟩ := hs.get _ _ e
  exact item_listL hl h0 (by omega) ha (h a us h1 h2 f) he hg
theorem len_rows {l : Addr} {vs : List Value} {rs : List (List Str)} (hl : s.heap.IsList l vs.toArray) (hs : RowsAre s.heap vs rs) (hf : rs.length ≤ 1000) (h : ∀ t k, Q (.int rs.length t) { s with toks := k }) : wpAny (model prog w) A (call (.builtin "len") [.ref l]) Q E s := by
  have hz := hs.length
  have := h (s.toks + 1) (s.toks + 1 + 1)
  refine len_list hl (by simp; omega) ?_
  simpa [hz] using this
end
end Mine
end
section
open PySem PySem.W PySem.Calls PyProof.Rows PySem.SeqAt
open AutoSeq1 (wpAny_loadPart')
open MeetsSeq MeetsSeq2 MeetsSeq3 SeqRoads2
set_option maxRecDepth 100000
set_option autoImplicit false
namespace Mine

def slt (x y : Str) : Bool := decide (x.cps.toList < y.cps.toList)
def wlt : List Str → List Str → Bool
  | [], [] => false
  | [], _ :: _ => true
  | _ :: _, [] => false
  | x :: xs, y :: ys => if x = y then wlt xs ys else slt x y

theorem wlt_nil_left (ys : List Str) : wlt [] ys = decide (0 < ys.length) := by cases ys <;> simp [wlt]
theorem wlt_nil_right (xs : List Str) : wlt xs [] = false := by cases xs <;> rfl

theorem lt_loopAt (l b : Addr) (items items2 : Array Value) (n n2 : Nat) (dd dd2 : Option Addr) (sl sl2 : Array (Option Value)) (ss rs : List Str) (hs : StrsAre items.toList ss) (hr : StrsAre items2.toList rs) (k : Nat) :
    ∀ i : Nat, items.size - i = k → i ≤ items.size → i ≤ items2.size → Meets (Builtin.«list.__eq__.loop» ⟨[.ref l, .ref b, rawInt i, rawInt 0], []⟩)
      (fun A R s => s.heap.get? l = some { cls := .type "list", dict := dd, data := .seq items n, slots := sl } ∧ s.heap.get? b = some { cls := .type "list", dict := dd2, data := .seq items2 n2, slots := sl2 } ∧
        R (.ok (.ret (.bool (wlt (ss.drop i) (rs.drop i))))) s) := by
  have z1 : items.size = ss.length := by have := sa_length hs; simpa using this
  have z2 : items2.size = rs.length := by have := sa_length hr; simpa using this
  induction k with
  | zero =>
    intro i hk hi1 hi2 prog w A R s h
    obtain ⟨hp, g, d, tk, os⟩ := s; obtain ⟨hl, hb, h⟩ := h
    wp_walk using wpAny_loadPart' hl, wpAny_loadPart' hb
    have e1 : items[((i : Nat) : Int).toNat]? = none := by simp; omega
    rw [e1]
    wp_walk using wpAny_loadPart' hl, wpAny_loadPart' hb
    have hd : ss.drop i = [] := by simp; omega
    rw [hd, wlt_nil_left, List.length_drop] at h
    show R (.ok (.ret (.bool (decide (items.size < items2.size))))) _
    have e : decide (items.size < items2.size) = decide (0 < rs.length - i) := by rw [decide_eq_decide]; omega
    rw [e]; exact h
  | succ k ih =>
    intro i hk hi1 hi2 prog w A R s h
    obtain ⟨hp, g, d, tk, os⟩ := s; obtain ⟨hl, hb, h⟩ := h
    have hlt : i < items.size := by omega
    wp_walk using wpAny_loadPart' hl, wpAny_loadPart' hb
    have hi1 : items[((i : Nat) : Int).toNat]? = some items[i] := by simp [hlt]
    rw [hi1]
    by_cases hlt2 : i < items2.size
    · have hi2 : items2[((i : Nat) : Int).toNat]? = some items2[i] := by simp [hlt2]
      have hc : ((i : Int) + 1) = ((i + 1 : Nat) : Int) := by push_cast; rfl
      have q1 := sa_drop hs i
      have q2 := sa_drop hr i
      have d1 : items.toList.drop i = items[i] :: items.toList.drop (i + 1) := by simp [List.drop_eq_getElem_cons, hlt]
      have d2 : items2.toList.drop i = items2[i] :: items2.toList.drop (i + 1) := by simp [List.drop_eq_getElem_cons, hlt2]
      rw [d1] at q1
      rw [d2] at q2
      rw [hi2]
      generalize hx : items[i] = x at *
      generalize hy : items2[i] = y at *
      generalize hss : ss.drop i = s1 at *
      generalize hrr : rs.drop i = r1 at *
      cases q1 with
      | cons x t q1' =>
        cases q2 with
        | cons y u q2' =>
          rename_i s1' r1'
          have g1 : ss.drop (i + 1) = s1' := by rw [← List.drop_drop, hss]; rfl
          have g2 : rs.drop (i + 1) = r1' := by rw [← List.drop_drop, hrr]; rfl
          refine wpAny_bind (eqBool_str ?_)
          rw [wlt] at h
          by_cases hxy : x = y
          · rw [if_pos hxy] at h
            have hb' : (x == y) = true := by simp [hxy]
            rw [hb']
            wp_walk
            rw [hc]
            exact ⟨plainId_quiet plain_eq_loop _, codeAny_builtin entry_eq_loop (by
              rw [Around.under_plainId plain_eq_loop _]
              exact ih (i + 1) (by omega) (by omega) (by omega) prog w A R _ ⟨hl, hb, by rw [g1, g2]; exact h⟩)⟩
          · rw [if_neg hxy] at h
            have hb' : (x == y) = false := by simp [hxy]
            rw [hb']
            wp_walk using wpAny_loadPart' hl, wpAny_loadPart' hb
            rw [hi1, hi2]
            refine wpAny_bind ?_
            refine (lt_str (Q := _) ?_ : wpAny _ _ (compareOp .Lt _ _) _ _ _)
            wp_walk
            exact h
    · have hi2 : items2[((i : Nat) : Int).toNat]? = none := by simp; omega
      rw [hi2]
      wp_walk using wpAny_loadPart' hl, wpAny_loadPart' hb
      have hd : rs.drop i = [] := by simp; omega
      rw [hd, wlt_nil_right] at h
      show R (.ok (.ret (.bool (decide (items.size < items2.size))))) _
      have e : decide (items.size < items2.size) = false := by simp; omega
      rw [e]; exact h

theorem list_ltAt (l b : Addr) (items items2 : Array Value) (n n2 : Nat) (dd dd2 : Option Addr) (sl sl2 : Array (Option Value)) (ss rs : List Str) (hs : StrsAre items.toList ss) (hr : StrsAre items2.toList rs) :
    Meets (Builtin.«list.__lt__» ⟨[.ref l, .ref b], []⟩)
      (fun A R s => s.heap.get? l = some { cls := .type "list", dict := dd, data := .seq items n, slots := sl } ∧ s.heap.get? b = some { cls := .type "list", dict := dd2, data := .seq items2 n2, slots := sl2 } ∧
        R (.ok (.ret (.bool (wlt ss rs)))) s) := by
  intro prog w A R s h
  obtain ⟨hp, g, d, tk, os⟩ := s; obtain ⟨hl, hb, h⟩ := h
  have f3 := AutoSeq1.sub_list_list
  wp_walk using wpAny_loadPart' hl, wpAny_loadPart' hb
  exact ⟨plainId_quiet plain_eq_loop _, codeAny_builtin entry_eq_loop (by
    rw [Around.under_plainId plain_eq_loop _]
    exact lt_loopAt l b items items2 n n2 dd dd2 sl sl2 ss rs hs hr _ 0 rfl (Nat.zero_le _) (Nat.zero_le _) prog w A R _ ⟨hl, hb, by simpa using h⟩)⟩

theorem lt_w {prog : Program} {w : World} {A : Around} {E : Value → Shared → Prop} {s : Shared} {Q : Value → Shared → Prop} {a b : Addr} {vs us : List Value} {ss rs : List Str}
    (hl : s.heap.IsList a vs.toArray) (hs : StrsAre vs ss) (hb : s.heap.IsList b us.toArray) (hr : StrsAre us rs)
    (hu : A.units < cLine) (h : Q (.bool (wlt ss rs)) s) : wpAny (model prog w) A (compareOp .Lt (.ref a) (.ref b)) Q E s := by
  obtain ⟨⟨cls, dd, data, sl⟩, ho, hc, n, hd⟩ := id hl
  obtain ⟨⟨cls2, dd2, data2, sl2⟩, ho2, hc2, n2, hd2⟩ := id hb
  simp only at hc hd hc2 hd2
  subst hc hd hc2 hd2
  exact richCompare_meets_room (op := .Lt) ⟨_, ho, rfl⟩ ⟨_, ho2, rfl⟩ F.slot_list_lt F.entry_list_lt (F.args_list_lt_2 _ _) (list_ltAt a b vs.toArray us.toArray n n2 dd dd2 sl sl2 ss rs hs hr)
    ⟨ho, ho2, show Value.bool (wlt ss rs) ≠ Value.notImplemented ∧ Q (.bool (wlt ss rs)) s from ⟨(fun x => nomatch x), h⟩⟩ hu
end Mine
end
section
open PySem PySem.W PySem.Calls PyProof.Rows
set_option autoImplicit false
namespace Mine
/-! the order of texts and of lists of texts -/
theorem slt_irrefl (x : Str) : slt x x = false := by unfold slt; simp [List.lt_irrefl]
theorem slt_trans {x y z : Str} (h1 : slt x y = true) (h2 : slt y z = true) : slt x z = true := by
  unfold slt at *; simp only [decide_eq_true_eq] at *; exact List.lt_trans h1 h2
theorem slt_total {x y : Str} (h1 : slt x y = false) (h2 : slt y x = false) : x = y := by
  unfold slt at *; simp only [decide_eq_false_iff_not] at *
  have h : x.cps.toList = y.cps.toList := List.le_antisymm (List.not_lt.mp h2) (List.not_lt.mp h1)
  obtain ⟨a⟩ := x; obtain ⟨b⟩ := y
  simpa using h
theorem slt_asymm {x y : Str} (h : slt x y = true) : slt y x = false := by
  cases q : slt y x with
  | false => rfl
  | true => have := slt_trans h q; rw [slt_irrefl] at this; cases this
theorem slt_ne {x y : Str} (h : slt x y = true) : x ≠ y := by rintro rfl; rw [slt_irrefl] at h; cases h

theorem wlt_irrefl : ∀ x : List Str, wlt x x = false
  | [] => rfl
  | x :: xs => by rw [wlt, if_pos rfl]; exact wlt_irrefl xs
theorem wlt_trans : ∀ {x y z : List Str}, wlt x y = true → wlt y z = true → wlt x z = true
  | [], [], _, h, _ => by cases h
  | [], _ :: _, [], _, h => by cases h
  | [], _ :: _, _ :: _, _, _ => rfl
  | _ :: _, [], _, h, _ => by cases h
  | _ :: _, _ :: _, [], _, h => by cases h
  | a :: x, b :: y, c :: z, h1, h2 => by
    rw [wlt] at h1 h2 ⊢
    by_cases e1 : a = b
    · subst e1
      rw [if_pos rfl] at h1
      by_cases e2 : a = c
      · subst e2; rw [if_pos rfl] at h2 ⊢; exact wlt_trans h1 h2
      · rw [if_neg e2] at h2 ⊢; exact h2
    · rw [if_neg e1] at h1
      by_cases e2 : b = c
      · subst e2; rw [if_neg e1]; exact h1
      · rw [if_neg e2] at h2
        have h3 := slt_trans h1 h2
        rw [if_neg (slt_ne h3)]; exact h3
theorem wlt_total : ∀ {x y : List Str}, wlt x y = false → wlt y x = false → x = y
  | [], [], _, _ => rfl
  | [], _ :: _, h, _ => by cases h
  | _ :: _, [], _, h => by cases h
  | a :: x, b :: y, h1, h2 => by
    rw [wlt] at h1 h2
    by_cases e : a = b
    · subst e
      rw [if_pos rfl] at h1 h2
      rw [wlt_total h1 h2]
    · rw [if_neg e] at h1
      rw [if_neg (fun q => e q.symm)] at h2
      exact absurd (slt_total h1 h2) e
theorem wlt_asymm {x y : List Str} (h : wlt x y = true) : wlt y x = false := by
  cases q : wlt y x with
  | false => rfl
  | true => have := wlt_trans h q; rw [wlt_irrefl] at this; cases this
theorem wlt_ne {x y : List Str} (h : wlt x y = true) : x ≠ y := by rintro rfl; rw [wlt_irrefl] at h; cases h

/-- rising, no two alike -/
def SSorted (rs : List (List Str)) : Prop := rs.Pairwise fun a b => wlt a b = true

theorem SSorted.get {rs : List (List Str)} (h : SSorted rs) {i j : Nat} (hij : i < j) (hj : j < rs.length) : wlt (rs.getD i []) (rs.getD j []) = true := by
  have := List.pairwise_iff_getElem.mp h i j (by omega) hj hij
  simpa [List.getD_eq_getElem?_getD, hj, Nat.lt_trans hij hj] using this
theorem SSorted.monoR {rs : List (List Str)} (h : SSorted rs) (x : List Str) : ∀ i j, i ≤ j → j < rs.length → wlt x (rs.getD i []) = true → wlt x (rs.getD j []) = true := by
  intro i j hij hj q
  rcases Nat.lt_or_eq_of_le hij with h1 | h1
  · exact wlt_trans q (h.get h1 hj)
  · subst h1; exact q
theorem SSorted.monoL {rs : List (List Str)} (h : SSorted rs) (x : List Str) : ∀ i j, i ≤ j → j < rs.length → wlt (rs.getD j []) x = true → wlt (rs.getD i []) x = true := by
  intro i j hij hj q
  rcases Nat.lt_or_eq_of_le hij with h1 | h1
  · exact wlt_trans (h.get h1 hj) q
  · subst h1; exact q
theorem getD_mem {rs : List (List Str)} {i : Nat} (h : i < rs.length) : rs.getD i [] ∈ rs := by
  rw [List.getD_eq_getElem?_getD, List.getElem?_eq_getElem h]; exact List.getElem_mem h
theorem mem_getD {rs : List (List Str)} {y : List Str} (h : y ∈ rs) : ∃ i, i < rs.length ∧ rs.getD i [] = y := by
  obtain ⟨i, hi, e⟩ := List.getElem_of_mem h
  exact ⟨i, hi, by rw [List.getD_eq_getElem?_getD, List.getElem?_eq_getElem hi]; exact e⟩

/-- the two places of a text in a rising row -/
theorem places {rs : List (List Str)} {x : List Str} {kl kr : Nat} (h : SSorted rs) (l1 : kl ≤ rs.length) (l2 : ∀ i, i < kl → wlt (rs.getD i []) x = true) (l3 : ∀ i, kl ≤ i → i < rs.length → wlt (rs.getD i []) x = false)
    (r1 : kr ≤ rs.length) (r2 : ∀ i, i < kr → wlt x (rs.getD i []) = false) (r3 : ∀ i, kr ≤ i → i < rs.length → wlt x (rs.getD i []) = true) :
    (kl = kr ∧ x ∉ rs) ∨ (kr = kl + 1 ∧ kl < rs.length ∧ rs.getD kl [] = x) := by
  have hle : kl ≤ kr := by
    rcases Nat.lt_or_ge kr kl with q | q
    · have a := l2 kr q
      have b := r3 kr (Nat.le_refl _) (by omega)
      rw [wlt_asymm a] at b; cases b
    · exact q
  rcases Nat.lt_or_eq_of_le hle with q | q
  · right
    have hlt : kl < rs.length := by omega
    have e : rs.getD kl [] = x := wlt_total (l3 kl (Nat.le_refl _) hlt) (r2 kl q)
    refine ⟨?_, hlt, e⟩
    rcases Nat.lt_or_ge (kl + 1) kr with q2 | q2
    · have a := r2 (kl + 1) q2
      have b := h.get (Nat.lt_succ_self kl) (by omega : kl + 1 < rs.length)
      rw [e, a] at b; cases b
    · omega
  · left
    refine ⟨q, fun hx => ?_⟩
    obtain ⟨i, hi, e⟩ := mem_getD hx
    rcases Nat.lt_or_ge i kl with q1 | q1
    · have := l2 i q1; rw [e, wlt_irrefl] at this; cases this
    · have := r3 i (by omega) hi; rw [e, wlt_irrefl] at this; cases this

theorem take_lt {rs : List (List Str)} {k : Nat} {P : List Str → Prop} (h : ∀ i, i < k → i < rs.length → P (rs.getD i [])) : ∀ y ∈ rs.take k, P y := by
  intro y hy
  obtain ⟨i, hi, e⟩ := List.getElem_of_mem hy
  have hi' : i < k ∧ i < rs.length := by simp at hi; omega
  have := h i hi'.1 hi'.2
  rw [List.getElem_take] at e
  rwa [List.getD_eq_getElem?_getD, List.getElem?_eq_getElem hi'.2, Option.getD_some, e] at this
theorem drop_ge {rs : List (List Str)} {k : Nat} {P : List Str → Prop} (h : ∀ i, k ≤ i → i < rs.length → P (rs.getD i [])) : ∀ y ∈ rs.drop k, P y := by
  intro y hy
  obtain ⟨i, hi, e⟩ := List.getElem_of_mem hy
  have hi' : k + i < rs.length := by simp at hi; omega
  have := h (k + i) (by omega) hi'
  rw [List.getElem_drop] at e
  rwa [List.getD_eq_getElem?_getD, List.getElem?_eq_getElem hi', Option.getD_some, e] at this

theorem ins_sorted {rs : List (List Str)} {x : List Str} {k : Nat} (h : SSorted rs) (l2 : ∀ i, i < k → wlt (rs.getD i []) x = true) (r3 : ∀ i, k ≤ i → i < rs.length → wlt x (rs.getD i []) = true) : SSorted (rs.take k ++ x :: rs.drop k) := by
  unfold SSorted at *
  have ht : ∀ y ∈ rs.take k, wlt y x = true := take_lt fun i a _ => l2 i a
  have hd : ∀ y ∈ rs.drop k, wlt x y = true := drop_ge r3
  rw [List.pairwise_append]
  refine ⟨h.sublist (List.take_sublist ..), List.pairwise_cons.mpr ⟨hd, h.sublist (List.drop_sublist ..)⟩, ?_⟩
  intro a ha b hb
  rcases List.mem_cons.mp hb with rfl | hb
  · exact ht a ha
  · exact wlt_trans (ht a ha) (hd b hb)
theorem ins_mem {rs : List (List Str)} {x : List Str} (k : Nat) (y : List Str) : y ∈ rs.take k ++ x :: rs.drop k ↔ y = x ∨ y ∈ rs := by
  conv => rhs; rw [← List.take_append_drop k rs]
  simp only [List.mem_append, List.mem_cons]
  constructor
  · rintro (h | h | h)
    · exact .inr (.inl h)
    · exact .inl h
    · exact .inr (.inr h)
  · rintro (h | h | h)
    · exact .inr (.inl h)
    · exact .inl h
    · exact .inr (.inr h)
theorem del_sorted {rs : List (List Str)} {k : Nat} (h : SSorted rs) : SSorted (rs.take k ++ rs.drop (k + 1)) := by
  rw [← List.eraseIdx_eq_take_drop_succ]
  exact h.sublist (List.eraseIdx_sublist ..)
theorem del_mem {rs : List (List Str)} {k : Nat} (h : SSorted rs) (hk : k < rs.length) (y : List Str) : y ∈ rs.take k ++ rs.drop (k + 1) ↔ y ≠ rs.getD k [] ∧ y ∈ rs := by
  have e : rs.take k ++ rs.getD k [] :: rs.drop (k + 1) = rs := by
    rw [List.getD_eq_getElem?_getD, List.getElem?_eq_getElem hk, Option.getD_some, ← List.drop_eq_getElem_cons hk, List.take_append_drop]
  have ht : ∀ y ∈ rs.take k, wlt y (rs.getD k []) = true := take_lt fun i a _ => h.get a hk
  have hd : ∀ y ∈ rs.drop (k + 1), wlt (rs.getD k []) y = true := drop_ge fun i a b => h.get a b
  constructor
  · intro hy
    refine ⟨?_, by rw [← e]; simp only [List.mem_append, List.mem_cons] at hy ⊢; rcases hy with h | h; exact .inl h; exact .inr (.inr h)⟩
    rintro rfl
    rcases List.mem_append.mp hy with q | q
    · have := ht _ q; rw [wlt_irrefl] at this; cases this
    · have := hd _ q; rw [wlt_irrefl] at this; cases this
  · rintro ⟨hne, hy⟩
    rw [← e] at hy
    simp only [List.mem_append, List.mem_cons] at hy ⊢
    rcases hy with h | h | h
    · exact .inl h
    · exact absurd h hne
    · exact .inr h
/-- a rising row is told by what it holds -/
theorem sorted_ext : ∀ {rs qs : List (List Str)}, SSorted rs → SSorted qs → (∀ y, y ∈ rs ↔ y ∈ qs) → rs = qs
  | [], [], _, _, _ => rfl
  | [], q :: _, _, _, h => by have := (h q).mpr (.head _); cases this
  | r :: _, [], _, _, h => by have := (h r).mp (.head _); cases this
  | r :: rs, q :: qs, h1, h2, h => by
    unfold SSorted at h1 h2
    rw [List.pairwise_cons] at h1 h2
    have e : r = q := by
      rcases List.mem_cons.mp ((h r).mp (.head _)) with e | a
      · exact e
      · rcases List.mem_cons.mp ((h q).mpr (.head _)) with e | b
        · exact e.symm
        · have c := wlt_trans (h2.1 r a) (h1.1 q b); rw [wlt_irrefl] at c; cases c
    subst e
    have : rs = qs := sorted_ext h1.2 h2.2 fun y => by
      constructor
      · intro hy
        rcases List.mem_cons.mp ((h y).mp (.tail _ hy)) with e | a
        · subst e; have := h1.1 y hy; rw [wlt_irrefl] at this; cases this
        · exact a
      · intro hy
        rcases List.mem_cons.mp ((h y).mpr (.tail _ hy)) with e | a
        · subst e; have := h2.1 y hy; rw [wlt_irrefl] at this; cases this
        · exact a
    rw [this]
end Mine
end
section
open PySem PySem.W PySem.Calls PyProof.Rows
set_option maxRecDepth 100000
set_option autoImplicit false
namespace Mine
/-- entering a def of the text some of whose names are cells -/
theorem enter_fnC {prog : Program} {w : World} {A : Around} {E Q : Value → Shared → Prop} {s : Shared} {g : Heap} {K : Frag} {p : Program} {loose : List Str} {mean : ExcName → Option Value} {mg mb : Str → Option Value}
    {name qual : Str} {params : Arguments} {body : List Stmt} {scope : Scope} {dV kV doc pm cdv ct oc : Value} {an od : Option Addr} {osl : Array (Option Value)} {f : Addr} {vals : List Value} {binds : List (Str × Value)}
    (X : K.In g) (T : Top p loose mean mg mb g) (hg : Ext g s.heap) (hz : g.objs.size ≤ s.heap.objs.size)
    (ho : K.lookup f = some ⟨oc, od, .func (fnOf name qual params body scope dV kV doc pm an cdv ct), osl⟩) (hcd : codeIn K cdv qual = true) (hroom : A.depth < recursionLimit)
    (hbind : BindsTo s (fnOf name qual params body scope dV kV doc pm an cdv ct) ⟨vals, []⟩ binds)
    (hkind : (binds.all fun y => scope.names.lookup y.1 == some .local || scope.names.lookup y.1 == some .cell) = true) (hnd : ((cellsFrom 0 scope.names []).map (·.1)).Nodup)
    (h : ∀ h₁ tk cells, Fr g s.heap.objs.size h₁ (bindL (envOfC qual scope s.heap.objs.size f cdv).kindOf binds fun _ => none) → News g s.heap.objs.size h₁ cells →
      CellsAre (bindC (envOfC qual scope s.heap.objs.size f cdv).kindOf binds fun _ => none) (cellsFrom (s.heap.objs.size + 1) scope.names []) cells → Ext s.heap h₁ →
      wpAny (model prog w) (A.deeper (envOfC qual scope s.heap.objs.size f cdv)) (execs body (envOfC qual scope s.heap.objs.size f cdv))
        (fun fl s' => Q (match fl with | .ret v => v | _ => .none) s') (fun _ _ => False) { s with heap := h₁, toks := tk })
    (hco : scope.isCoroutine = false := by rfl) (hgen : scope.isGenerator = false := by rfl) (hk : scope.kind = .function := by rfl) :
    wpAny (model prog w) A (call (.ref f) vals) Q E s := by
  refine wpAny_call (codeAny_call_function (fd := fnOf name qual params body scope dV kV doc pm an cdv ct) (body := body) hroom ((X.keeps hg) _ _ ho) rfl hco hgen rfl (codeRec_of (X.keeps hg) hcd) (hbind _ _ _ _ ?_))
  refine wpAny_newFunctionEnv_cells hk (kindsX hkind _) fun env' he s' x => ?_
  subst he
  refine ⟨(T.nolimit.keeps hg).keeps x.toInCall.keep, codeAny_func ?_⟩
  obtain ⟨h₁, tk, rfl, _⟩ := x.done
  have hk₁ := x.toInCall.keep
  obtain ⟨cells, NC, Y⟩ := Cl.news (h₀ := s.heap) (Nat.le_refl _) fun n c hm => ⟨x.cell n c (lookup_of_mem_nodup (cellsFrom_names scope.names 0 (s.heap.objs.size + 1) [] [] rfl ▸ hnd) hm), x.above n c hm⟩
  refine wpAny_mono (h h₁ tk cells ⟨x.toInCall.ns, fun b o e => hk₁ b o (hg b o e), hz⟩ (fun p hp => ⟨(NC p hp).1, (NC p hp).2.1, ?_⟩) Y hk₁) (fun fl s' hl => hl) fun _ _ y => y.elim
  cases q : g.get? p.1 with
  | none => rfl
  | some o => have := hg _ _ q; rw [(NC p hp).2.2] at this; cases this
end Mine
end
section
open PySem PySem.W PySem.Calls PyProof.Rows
set_option maxRecDepth 100000
set_option autoImplicit false
namespace Mine
theorem no_news {h₀ h : Heap} {L : Addr} {m : Str → Option Value} (_F : Fr h₀ L h m) : News h₀ L h [] := News.nil
section
variable {prog : Program} {w : World} {A : Around} {E : Value → Shared → Prop} {s : Shared} {h₀ : Heap} {L : Addr} {env : Env}

/-- one test of a comprehension -/
theorem tests_one {c : Expr} {cenv : Env} {P : Bool → Shared → Prop} (h : wpAny (model prog w) A (isTrue c cenv (eval c cenv)) P E s) :
    wpAny (model prog w) A (forIn [c] true fun c r => if r = true then do let ok ← isTrue c cenv (eval c cenv); pure (ForInStep.yield ok) else pure (ForInStep.yield r)) P E s := by
  rw [List.forIn_cons]
  refine wpAny_bind ?_
  rw [if_pos rfl]
  exact wpAny_bind (wpAny_mono h (fun b s' hb => wpAny_pure (by dsimp only; rw [List.forIn_nil]; exact wpAny_pure hb)) fun _ _ e => e)
theorem tests_nil {cenv : Env} {P : Bool → Shared → Prop} (h : P true s) :
    wpAny (model prog w) A (forIn ([] : List Expr) true fun c r => if r = true then do let ok ← isTrue c cenv (eval c cenv); pure (ForInStep.yield ok) else pure (ForInStep.yield r)) P E s := by
  rw [List.forIn_nil]; exact wpAny_pure h

/-- what is to be shown of a comprehension's tests and element, upon a list's items -/
structure CompOn (prog : Program) (w : World) (A : Around) (env : Env) (scope : Scope) (cl : List (Str × Addr)) (x : Str) (ifs : List Expr) (elt : Expr) (V : Value → Prop) (p : Value → Bool) (R : Value → Value → Prop) (s₁ : Shared) : Prop where
  tests : ∀ C v s₂ m₂, Fr s₁.heap C s₂.heap m₂ → V v → m₂ x = some v →
    wpAny (model prog w) A (forIn ifs true fun c r => if r = true then do let ok ← isTrue c (compEnvC scope cl C env) (eval c (compEnvC scope cl C env)); pure (ForInStep.yield ok) else pure (ForInStep.yield r))
      (fun ok s₃ => ok = p v ∧ Keeps s₂ s₃) (fun _ _ => False) s₂
  elt : ∀ C v s₂ m₂, Fr s₁.heap C s₂.heap m₂ → V v → p v = true → m₂ x = some v →
    wpAny (model prog w) A (eval elt (compEnvC scope cl C env)) (fun y s₃ => R v y ∧ Keeps s₂ s₃) (fun _ _ => False) s₂

theorem quiet_of {scope : Scope} {cl : List (Str × Addr)} {x : Str} {ifs : List Expr} {elt : Expr} {V : Value → Prop} {p : Value → Bool} {R : Value → Value → Prop} {s₁ : Shared} {ob : Obj} {P : Nat → Value → Prop}
    (hP : ∀ i v, P i v → V v) (c : CompOn prog w A env scope cl x ifs elt V p R s₁) :
    QuietOnC prog w A env scope cl x ifs elt [s₁.heap.objs.size] P p R { s₁ with heap := s₁.heap.push ob } := by
  have up : ∀ (s₃ : Shared), (∀ b o, b ∉ [s₁.heap.objs.size] → (s₁.heap.push ob).get? b = some o → s₃.heap.get? b = some o) → Ext s₁.heap s₃.heap := fun s₃ hk b o e =>
    hk b o (fun hm => by rcases List.mem_cons.mp hm with rfl | hm; exact Nat.lt_irrefl _ (Heap.lt_size e); cases hm) (Heap.get?_push_of_some _ e)
  refine ⟨fun C i v s₃ m₃ E' hC hp hn hm hk _ => ?_, fun C i v s₃ m₃ E' hC hp hpv hn hm hk _ => ?_⟩
  · exact wpAny_mono (c.tests C v s₃ m₃ ⟨hn, up s₃ hk, Nat.le_of_succ_le (by simpa [Heap.size_push] using hC)⟩ (hP i v hp) hm) (fun _ _ q => q) fun _ _ f => f.elim
  · exact wpAny_mono (c.elt C v s₃ m₃ ⟨hn, up s₃ hk, Nat.le_of_succ_le (by simpa [Heap.size_push] using hC)⟩ (hP i v hp) hpv hm) (fun _ _ q => q) fun _ _ f => f.elim

theorem items_eq {items : List Value} : ∀ {vs : List Value}, vs.length = items.length → (∀ (j : Nat) v, vs[j]? = some v → items.toArray[j]? = some v) → vs = items := by
  intro vs hl h
  apply List.ext_getElem?
  intro j
  rcases Nat.lt_or_ge j vs.length with q | q
  · rw [List.getElem?_eq_getElem q]
    have := h j _ (List.getElem?_eq_getElem q)
    simpa using this.symm
  · rw [List.getElem?_eq_none q, List.getElem?_eq_none (by omega)]

/-- a comprehension over a list, assigned to a name -/
theorem comp_list_asg {elt iter : Expr} {x y : Str} {px py : Pos} {ifs : List Expr} {scope : Scope} {cl : List (Str × Addr)} {pos spos : Pos} {Q : Flow → Shared → Prop} (p : Value → Bool) (R : Value → Value → Prop)
    (hsw : swapsWith (.ListComp elt [⟨.Name x px, iter, ifs, 0⟩] scope pos) (some (.Name y py)) spos.line env = pure true) (hL : env.locals = L) (hh : A.handled = none)
    (hclos : closureFor scope env = pure cl) (hcell : ∀ z ∈ scope.names, z.2 ≠ .cell) (hkind : scope.kind = .function)
    (hnames : ∀ z ∈ scope.names, z.2 = .local → scope.names.lookup z.1 = some .local) (hx : scope.names.lookup x = some .local)
    (hy : env.kindOf y = some .local) (hp : (env.scope.kind == .class || (env.scope.kind == .module && env.locals != env.globals)) = false)
    (h : wpAny (model prog w) A (eval iter env) (fun xv s₁ => Hold (∃ l items m news, xv = .ref l ∧ s₁.heap.IsList l (List.toArray items) ∧ items.length ≤ 1000 ∧ Fr h₀ L s₁.heap m ∧ News h₀ L s₁.heap news ∧
      CompOn prog w A env scope cl x ifs elt (· ∈ items) p R s₁ ∧
      (∀ D ys n h' tk, Fr h₀ L h' (fun z => if z = y then some (.ref D) else m z) → News h₀ L h' ((D, listOf (List.toArray ys) n) :: news) → (∀ p ∈ news, p.1 ≠ D) → Paired R (items.filter p) ys → Q .next { s₁ with heap := h', toks := tk }))) E s)
    (hs : ∀ x, foldedSetIterable iter env x = pure x) :
    wpAny (model prog w) A (exec (.Assign [.Name y py] (.ListComp elt [⟨.Name x px, iter, ifs, 0⟩] scope pos) spos) env) Q E s := by
  subst hL
  refine wpAny_Assign_ListComp_free p R hsw hclos hcell hkind hnames hx hy hp (wpAny_mono h (fun xv s₁ h₁ => ?_) fun _ _ e => e) hs
  obtain ⟨l, items, m, news, rfl, hl, hz, F, N, hc, hQ⟩ := h₁
  obtain ⟨ol, hol, _⟩ := id hl
  have hli : l ≠ s₁.heap.objs.size := Nat.ne_of_lt (Heap.lt_size hol)
  refine wpAny_pyIter_list hl ⟨s₁.heap.objs.size, [s₁.heap.objs.size, l], [s₁.heap.objs.size], items.toArray.size, _, _, m, rfl, Walks.list hh _ l hli items.toArray, by rw [List.size_toArray, sizeLine_eq]; omega,
    ⟨⟨_, Heap.get?_push_size _ rfl, rfl, rfl⟩, hl.push _⟩, ?_, ?_, F.ns.push _, quiet_of (fun i v hv => List.mem_of_getElem? (by simpa using hv)) hc, ?_⟩
  · intro b hb
    show b < (s₁.heap.push _).objs.size
    rw [Heap.size_push]
    rcases List.mem_cons.mp hb with rfl | hb
    · exact Nat.lt_succ_self _
    · rcases List.mem_cons.mp hb with rfl | hb
      · exact Nat.lt_succ_of_lt (Heap.lt_size hol)
      · cases hb
  · intro hm
    rcases List.mem_cons.mp hm with e | hm
    · exact Nat.lt_irrefl _ (e ▸ F.ns.lt)
    · cases hm
  · intro D h' tk ys vs hnew hlD hplD hlen hP hF hn'' hk
    have keep : ∀ b o, b ≠ env.locals → s₁.heap.get? b = some o → h'.get? b = some o := fun b o hb e =>
      hk b o hb (fun hm => by rcases List.mem_cons.mp hm with rfl | hm; exact Nat.lt_irrefl _ (Heap.lt_size e); cases hm) (Heap.get?_push_of_some _ e)
    obtain ⟨n, eD⟩ := hplD
    obtain rfl : vs = items := items_eq (by simpa using hlen) hP
    refine hQ D ys.toList n h' tk ⟨hn'', fun b o e => keep b o (Nat.ne_of_lt (Nat.lt_of_lt_of_le (Heap.lt_size e) F.above)) (F.keep b o e), F.above⟩ (fun q hq => ?_) (fun p hp e => by rw [← e, Heap.get?_push_of_some _ (N p hp).1] at hnew; cases hnew) hF
    rcases List.mem_cons.mp hq with rfl | hq
    · refine ⟨by rw [Array.toArray_toList]; exact eD, ?_, ?_⟩
      · rintro rfl
        obtain ⟨o, es, ep, ho, hd, _⟩ := hn''
        rw [eD] at ho; cases ho; cases hd
      · cases e : h₀.get? D with
        | none => rfl
        | some o' => rw [Heap.get?_push_of_some _ (F.keep _ _ e)] at hnew; cases hnew
    · exact ⟨keep _ _ (N q hq).2.1 (N q hq).1, (N q hq).2⟩

/-- the same where it stands as an expression -/
theorem comp_list {elt iter : Expr} {x : Str} {px : Pos} {ifs : List Expr} {scope : Scope} {cl : List (Str × Addr)} {pos : Pos} {Q : Value → Shared → Prop} (p : Value → Bool) (R : Value → Value → Prop) (hh : A.handled = none)
    (hclos : closureFor scope env = pure cl) (hcell : ∀ z ∈ scope.names, z.2 ≠ .cell) (hkind : scope.kind = .function)
    (hnames : ∀ z ∈ scope.names, z.2 = .local → scope.names.lookup z.1 = some .local) (hx : scope.names.lookup x = some .local)
    (h : wpAny (model prog w) A (eval iter env) (fun xv s₁ => Hold (∃ l items m news, xv = .ref l ∧ s₁.heap.IsList l (List.toArray items) ∧ items.length ≤ 1000 ∧ Fr h₀ L s₁.heap m ∧ News h₀ L s₁.heap news ∧
      CompOn prog w A env scope cl x ifs elt (· ∈ items) p R s₁ ∧
      (∀ D ys n h' tk, Fr h₀ L h' m → News h₀ L h' ((D, listOf (List.toArray ys) n) :: news) → (∀ p ∈ news, p.1 ≠ D) → Paired R (items.filter p) ys → Q (.ref D) { s₁ with heap := h', toks := tk }))) E s)
    (hs : ∀ x, foldedSetIterable iter env x = pure x) :
    wpAny (model prog w) A (eval (.ListComp elt [⟨.Name x px, iter, ifs, 0⟩] scope pos) env) Q E s := by
  refine wpAny_ListComp_free p R hclos hcell hkind hnames hx (wpAny_mono h (fun xv s₁ h₁ => ?_) fun _ _ e => e) hs
  obtain ⟨l, items, m, news, rfl, hl, hz, F, N, hc, hQ⟩ := h₁
  obtain ⟨ol, hol, _⟩ := id hl
  have hli : l ≠ s₁.heap.objs.size := Nat.ne_of_lt (Heap.lt_size hol)
  refine wpAny_pyIter_list hl ⟨s₁.heap.objs.size, [s₁.heap.objs.size, l], [s₁.heap.objs.size], items.toArray.size, _, _, rfl, Walks.list hh _ l hli items.toArray, by rw [List.size_toArray, sizeLine_eq]; omega,
    ⟨⟨_, Heap.get?_push_size _ rfl, rfl, rfl⟩, hl.push _⟩, ?_, quiet_of (fun i v hv => List.mem_of_getElem? (by simpa using hv)) hc, ?_⟩
  · intro b hb
    show b < (s₁.heap.push _).objs.size
    rw [Heap.size_push]
    rcases List.mem_cons.mp hb with rfl | hb
    · exact Nat.lt_succ_self _
    · rcases List.mem_cons.mp hb with rfl | hb
      · exact Nat.lt_succ_of_lt (Heap.lt_size hol)
      · cases hb
  · intro D h' tk ys vs hnew hlD hplD hlen hP hF hk
    have keep : ∀ b o, s₁.heap.get? b = some o → h'.get? b = some o := fun b o e =>
      hk b o (fun hm => by rcases List.mem_cons.mp hm with rfl | hm; exact Nat.lt_irrefl _ (Heap.lt_size e); cases hm) (Heap.get?_push_of_some _ e)
    obtain ⟨n, eD⟩ := hplD
    obtain rfl : vs = items := items_eq (by simpa using hlen) hP
    have F' := F.keeps keep
    refine hQ D ys.toList n h' tk F' (fun q hq => ?_) (fun p hp e => by rw [← e, Heap.get?_push_of_some _ (N p hp).1] at hnew; cases hnew) hF
    rcases List.mem_cons.mp hq with rfl | hq
    · refine ⟨by rw [Array.toArray_toList]; exact eD, ?_, ?_⟩
      · rintro rfl
        obtain ⟨o, es, ep, ho, hd, _⟩ := F'.ns
        rw [eD] at ho; cases ho; cases hd
      · cases e : h₀.get? D with
        | none => rfl
        | some o' => rw [Heap.get?_push_of_some _ (F.keep _ _ e)] at hnew; cases hnew
    · exact ⟨keep _ _ (N q hq).1, (N q hq).2⟩

/-- the ints that a range hands out -/
def RangeVals (a : Int) (n : Nat) (vs : List Value) : Prop := vs.length = n ∧ ∀ (j : Nat) v, vs[j]? = some v → ∃ t, v = .int (a + j) t
/-- a comprehension over a range, assigned to a name -/
theorem comp_range_asg {elt iter : Expr} {x y : Str} {px py : Pos} {ifs : List Expr} {scope : Scope} {cl : List (Str × Addr)} {pos spos : Pos} {Q : Flow → Shared → Prop} (p : Value → Bool) (R : Value → Value → Prop)
    (hsw : swapsWith (.ListComp elt [⟨.Name x px, iter, ifs, 0⟩] scope pos) (some (.Name y py)) spos.line env = pure true) (hL : env.locals = L) (hh : A.handled = none)
    (hclos : closureFor scope env = pure cl) (hcell : ∀ z ∈ scope.names, z.2 ≠ .cell) (hkind : scope.kind = .function)
    (hnames : ∀ z ∈ scope.names, z.2 = .local → scope.names.lookup z.1 = some .local) (hx : scope.names.lookup x = some .local)
    (hy : env.kindOf y = some .local) (hp : (env.scope.kind == .class || (env.scope.kind == .module && env.locals != env.globals)) = false)
    (h : wpAny (model prog w) A (eval iter env) (fun xv s₁ => Hold (∃ r a₀ b₀ t₀ u₀ v₀, ∃ n : Nat, ∃ m news, xv = .ref r ∧ IsRange s₁.heap r a₀ b₀ 1 t₀ u₀ v₀ ∧ Builtin.Range.small a₀ b₀ 1 = true ∧ Builtin.Range.rangeSize a₀ b₀ 1 = (n : Int) ∧ n ≤ 1000 ∧ Fr h₀ L s₁.heap m ∧ News h₀ L s₁.heap news ∧
      CompOn prog w A env scope cl x ifs elt (fun v => ∃ (i : Nat) (t : Tok), i < n ∧ v = .int (a₀ + i) t) p R s₁ ∧
      (∀ D ys k h' tk vs, Fr h₀ L h' (fun z => if z = y then some (.ref D) else m z) → News h₀ L h' ((D, listOf (List.toArray ys) k) :: news) → (∀ p ∈ news, p.1 ≠ D) → RangeVals a₀ n vs → Paired R (vs.filter p) ys → Q .next { s₁ with heap := h', toks := tk }))) E s)
    (hs : ∀ x, foldedSetIterable iter env x = pure x) :
    wpAny (model prog w) A (exec (.Assign [.Name y py] (.ListComp elt [⟨.Name x px, iter, ifs, 0⟩] scope pos) spos) env) Q E s := by
  subst hL
  refine wpAny_Assign_ListComp_free p R hsw hclos hcell hkind hnames hx hy hp (wpAny_mono h (fun xv s₁ h₁ => ?_) fun _ _ e => e) hs
  obtain ⟨r, a₀, b₀, t₀, u₀, v₀, n, m, news, rfl, hr, hsmall, hn, hz, F, N, hc, hQ⟩ := h₁
  refine wpAny_pyIter_range hr hsmall ⟨s₁.heap.objs.size, [s₁.heap.objs.size], [s₁.heap.objs.size], n, _, _, m, rfl, (Walks.range hh _ a₀ 1 n).bound, by rw [sizeLine_eq]; omega,
    (by show IsRangeIter _ _ _ _ _; rw [hn]; simpa using Heap.get?_push_size _ rfl), ?_, ?_, F.ns.push _, quiet_of (fun i v hv => ?_) hc, ?_⟩
  · intro b hb
    show b < (s₁.heap.push _).objs.size
    rw [Heap.size_push]
    rcases List.mem_cons.mp hb with rfl | hb
    · exact Nat.lt_succ_self _
    · cases hb
  · intro hm
    rcases List.mem_cons.mp hm with e | hm
    · exact Nat.lt_irrefl _ (e ▸ F.ns.lt)
    · cases hm
  · obtain ⟨hi, t, e⟩ := hv
    exact ⟨i, t, hi, by simpa using e⟩
  · intro D h' tk ys vs hnew hlD hplD hlen hP hF hn'' hk
    have keep : ∀ b o, b ≠ env.locals → s₁.heap.get? b = some o → h'.get? b = some o := fun b o hb e =>
      hk b o hb (fun hm => by rcases List.mem_cons.mp hm with rfl | hm; exact Nat.lt_irrefl _ (Heap.lt_size e); cases hm) (Heap.get?_push_of_some _ e)
    obtain ⟨k, eD⟩ := hplD
    refine hQ D ys.toList k h' tk vs ⟨hn'', fun b o e => keep b o (Nat.ne_of_lt (Nat.lt_of_lt_of_le (Heap.lt_size e) F.above)) (F.keep b o e), F.above⟩ (fun q hq => ?_) (fun p hp e => by rw [← e, Heap.get?_push_of_some _ (N p hp).1] at hnew; cases hnew)
      ⟨hlen, fun j v hv => let ⟨_, t, e⟩ := hP j v hv; ⟨t, by simpa using e⟩⟩ hF
    rcases List.mem_cons.mp hq with rfl | hq
    · refine ⟨by rw [Array.toArray_toList]; exact eD, ?_, ?_⟩
      · rintro rfl
        obtain ⟨o, es, ep, ho, hd, _⟩ := hn''
        rw [eD] at ho; cases ho; cases hd
      · cases e : h₀.get? D with
        | none => rfl
        | some o' => rw [Heap.get?_push_of_some _ (F.keep _ _ e)] at hnew; cases hnew
    · exact ⟨keep _ _ (N q hq).2.1 (N q hq).1, (N q hq).2⟩

/-- names within a comprehension: its own, a cell of the frame around it, the text's -/
theorem nm_local {C : Addr} {m : Str → Option Value} {x : Str} {pos : Pos} {v : Value} {Q : Value → Shared → Prop} (F : Fr h₀ C s.heap m) (hv : m x = some v) (h : Q v s) (hC : env.locals = C) (hk : env.scope.kind = .function)
    (hx : env.kindOf x = some .local) (hd : (x == ("__debug__" : Str)) = false) : wpAny (model prog w) A (eval (.Name x pos) env) Q E s := wpAny_Name (wpAny_loadName_local hk hx (hC ▸ F.ns) hv h) hd
theorem nm_cell {x : Str} {pos : Pos} {v : Value} {c : Addr} {o : Obj} {Q : Value → Shared → Prop} (hc : env.cells.lookup x = some c) (ho : s.heap.get? c = some o) (hd : o.data = .cell (some v)) (h : Q v s) (hk : env.scope.kind = .function)
    (hx : env.kindOf x = some .cell) (hb : (x == ("__debug__" : Str)) = false) : wpAny (model prog w) A (eval (.Name x pos) env) Q E s := wpAny_Name (wpAny_loadName_cell hk hx hc ⟨o, ho, hd⟩ h) hb
end

/-- what has grown out of what, kept along a comprehension's turn -/
structure Gr (a b : Heap) : Prop where
  ext : Ext a b
theorem Gr.refl (a : Heap) : Gr a a := ⟨fun _ _ e => e⟩
theorem Gr.trans {a b c : Heap} (g : Gr a b) (k : Ext b c) : Gr a c := ⟨fun x o e => k x o (g.ext x o e)⟩
section
variable {prog : Program} {w : World} {A : Around} {E : Value → Shared → Prop} {s : Shared} {h₀ : Heap} {L : Addr} {m : Str → Option Value} {news : List (Addr × Obj)}
theorem newList_g {vs : List Value} {Q : Value → Shared → Prop} (F : Fr h₀ L s.heap m) (N : News h₀ L s.heap news)
    (h : ∀ l' h', Fr h₀ L h' m → News h₀ L h' ((l', listOf vs.toArray 0) :: news) → (∀ p ∈ news, p.1 < l') → Ext s.heap h' → Q (.ref l') { s with heap := h' }) (hsz : vs.length ≤ 1000) :
    wpAny (model prog w) A (newList vs) Q E s :=
  wpAny_newObj_type (h _ _ (F.push _) (N.push F _) (fun p hp => Heap.lt_size (N p hp).1) fun _ _ e => Heap.get?_push_of_some _ e) (by show vs.toArray.size ≤ sizeLine; rw [List.size_toArray, sizeLine_eq]; omega)
theorem slice_g {value slice : Expr} {l : Addr} {vs us : List Value} {vl vu : Value} {lo hi : Option Int} {Q : Value → Shared → Prop}
    (F : Fr h₀ L s.heap m) (N : News h₀ L s.heap news) (hl : s.heap.IsList l vs.toArray) (pl : IsPart vl lo) (pu : IsPart vu hi) (e : slicePick vs.toArray lo hi none = us.toArray)
    (h : ∀ l' h', Fr h₀ L h' m → News h₀ L h' ((l', listOf us.toArray 0) :: news) → (∀ p ∈ news, p.1 < l') → Ext s.heap h' → Q (.ref l') { s with heap := h' })
    (hs : subscripted slice false (.ref l) (.ref s.heap.objs.size) = operate [.ref s.heap.objs.size, .ref l] (getItem (.ref l) (.ref s.heap.objs.size)))
    (ht : ∀ r, letTemporaryGo value (.ref l) r = pure ()) (hsz : vs.length ≤ 1000) :
    wpAny (model prog w) A (subscriptTail value slice (.ref l) (.ref s.heap.objs.size)) Q E { s with heap := s.heap.push { cls := .type "slice", data := .fields #[vl, vu, .none] } } := by
  refine subscriptTail_ops (Heap.IsList.typeIs (s := { s with heap := s.heap.push { cls := .type "slice", data := .fields #[vl, vu, .none] } }) (hl.push _)) list_getitem_lookup
    (wpAny_getItem_list_slice (hl.push _) (Heap.IsSliceOf.new ..) pl pu .none (by simp) ?_ (by rw [List.size_toArray, sizeLine_eq]; omega)) hs ht
  rw [e]
  exact h _ _ ((F.push _).push _) (News.push (F.push _) (N.grown fun _ _ e => Heap.get?_push_of_some _ e) _) (fun p hp => by rw [Heap.size_push]; exact Nat.lt_succ_of_lt (Heap.lt_size (N p hp).1)) fun _ _ e => Heap.get?_push_of_some _ (Heap.get?_push_of_some _ e)
theorem slice_upto_g {value slice : Expr} {l : Addr} {vs : List Value} {ss : List Str} {k : Int} {t : Tok} {Q : Value → Shared → Prop}
    (F : Fr h₀ L s.heap m) (N : News h₀ L s.heap news) (hl : s.heap.IsList l vs.toArray) (hs : StrsAre vs ss) (hk : 0 ≤ k) (hz : ss.length ≤ 1000)
    (h : ∀ l' h' us, Fr h₀ L h' m → News h₀ L h' ((l', listOf (List.toArray us) 0) :: news) → (∀ p ∈ news, p.1 < l') → StrsAre us (ss.take k.toNat) → Ext s.heap h' → Q (.ref l') { s with heap := h' })
    (he : subscripted slice false (.ref l) (.ref s.heap.objs.size) = operate [.ref s.heap.objs.size, .ref l] (getItem (.ref l) (.ref s.heap.objs.size)))
    (ht : ∀ r, letTemporaryGo value (.ref l) r = pure ()) :
    wpAny (model prog w) A (subscriptTail value slice (.ref l) (.ref s.heap.objs.size)) Q E { s with heap := s.heap.push { cls := .type "slice", data := .fields #[.none, .int k t, .none] } } :=
  slice_g F N hl .none (.int _ _) (pick_upto_i vs hk) (fun l' h' F' N' hlt k' => h l' h' _ F' N' hlt (sa_take hs _) k') he ht (by rw [sa_length hs]; exact hz)
end
theorem item_row_b {prog : Program} {w : World} {A : Around} {E : Value → Shared → Prop} {s : Shared} {Q : Value → Shared → Prop} {h₀ : Heap} {L : Addr} {m : Str → Option Value} {value slice : Expr} {l : Addr} {k : Int} {u : Tok} {vs : List Value} {rs : List (List Str)}
    (F : Fr h₀ L s.heap m) (hl : s.heap.IsList l vs.toArray) (hs : RowsAre h₀ vs rs) (h0 : 0 ≤ k) (hk : k < rs.length) (hz : rs.length ≤ 1000)
    (h : ∀ a us, h₀.IsList a (List.toArray us) → StrsAre us (rs.getD k.toNat []) → Few (rs.getD k.toNat []) → Q (.ref a) s)
    (he : subscripted slice false (.ref l) (.int k u) = operate [.ref l, .int k u] (getItem (.ref l) (.int k u))) (hg : ∀ r, letTemporaryGo value (.ref l) r = pure ()) :
    wpAny (model prog w) A (subscriptTail value slice (.ref l) (.int k u)) Q E s := by
  have hlt : k.toNat < rs.length := by omega
  have e : rs[k.toNat]? = some (rs.getD k.toNat []) := by rw [List.getD_eq_getElem?_getD]; simp [hlt]
  obtain ⟨a, ha, ⟨us, h1, h2⟩, f⟩ := hs.get _ _ e
  exact item_listL hl h0 (by omega) ha (h a us h1 h2 f) he hg
end Mine
end
section
open PySem PySem.W PySem.Calls PyProof.Rows
set_option maxRecDepth 100000
set_option autoImplicit false
namespace Mine
/-- how a turn of a for ends -/
def ForEnd (h₀ : Heap) (L I : Addr) (it : Obj) (fix : List (Addr × Obj)) (J : (Str → Option Value) → List (Addr × Obj) → Prop) (Q : Flow → Shared → Prop) (s₁ : Shared) (f : Flow) (s₂ : Shared) : Prop :=
  match f with
  | .next | .cont => ∃ h' tk m₂ news₂, s₂ = { s₁ with heap := h', toks := tk } ∧ Fr h₀ L h' m₂ ∧ News h₀ L h' ((I, it) :: (fix ++ news₂)) ∧ (∀ p ∈ fix ++ news₂, p.1 ≠ I) ∧ J m₂ news₂
  | .brk => Q .next s₂
  | .ret v => Q (.ret v) s₂

theorem for_list {prog : Program} {w : World} {A : Around} {s : Shared} {h₀ : Heap} {L : Addr} {env : Env} {target iter : Expr} {body : List Stmt} {pos : Pos} {Q : Flow → Shared → Prop}
    (J : Nat → (Str → Option Value) → List (Addr × Obj) → Prop) (hL : env.locals = L) (hh : A.handled = none) (ht : ∀ it v, letOwnedTupleGo target it v = pure ())
    (h : wpAny (model prog w) A (eval iter env) (fun xv s₁ => Hold (∃ (l : Addr) (items : List Value) (m₀ : Str → Option Value) (fix news₀ : List (Addr × Obj)), xv = .ref l ∧ Fr h₀ L s₁.heap m₀ ∧ News h₀ L s₁.heap (fix ++ news₀) ∧
      (∀ h m, Fr h₀ L h m → News h₀ L h fix → h.IsList l items.toArray) ∧ J 0 m₀ news₀ ∧
      (∀ I it i v m₁ news₁ h₁ tk₁, items[i]? = some v → (∀ p ∈ fix ++ news₁, p.1 ≠ I) → Fr h₀ L h₁ m₁ → News h₀ L h₁ ((I, it) :: (fix ++ news₁)) → J i m₁ news₁ →
        wpAny (model prog w) A (assign target env v) (fun _ s₂ => wpAny (model prog w) A (execs body env) (ForEnd h₀ L I it fix (J (i + 1)) Q s₁) (fun _ _ => False) s₂) (fun _ _ => False) { s₁ with heap := h₁, toks := tk₁ }) ∧
      (∀ m₁ news₁ h₁ tk₁, J items.length m₁ news₁ → Fr h₀ L h₁ m₁ → News h₀ L h₁ (fix ++ news₁) → Q .next { s₁ with heap := h₁, toks := tk₁ }))) (fun _ _ => False) s)
    (hs : ∀ x, foldedSetIterable iter env x = pure x) :
    wpAny (model prog w) A (exec (.For target iter body [] pos) env) Q (fun _ _ => False) s := by
  subst hL
  refine wpAny_For (wpAny_mono h (fun xv s₁ h₁ => ?_) fun _ _ e => e) hs
  obtain ⟨l, items, m₀, fix, news₀, rfl, F, N, hl, hj, turn, done⟩ := h₁
  have hfix : ∀ {h : Heap} {ns : List (Addr × Obj)}, News h₀ env.locals h (fix ++ ns) → News h₀ env.locals h fix := fun N p hp => N p (List.mem_append_left _ hp)
  have hl₁ := hl _ _ F (hfix N)
  refine wpAny_pyIter_list hl₁ ?_
  have F₁ := F.push { cls := .type "list_iterator", data := .fields #[.ref l, .int 0 0] }
  have N₁ := N.push F { cls := .type "list_iterator", data := .fields #[.ref l, .int 0 0] }
  have hp : PassesOwn (model prog w) A env fun _ _ => False := passes_false
  refine codeAny_forLoop (ht := ht _) (fun n s' => ∃ h' tk m₁ news₁ i it, s' = { s₁ with heap := h', toks := tk } ∧ Fr h₀ env.locals h' m₁ ∧ News h₀ env.locals h' ((s₁.heap.objs.size, it) :: (fix ++ news₁)) ∧ (∀ p ∈ fix ++ news₁, p.1 ≠ s₁.heap.objs.size) ∧
      it.cls = .type "list_iterator" ∧ it.data = .fields #[.ref l, .int (i : Nat) 0] ∧ J i m₁ news₁ ∧ i ≤ items.length ∧ n = items.length + 1 - i) ?_ (items.length + 1) ⟨_, _, m₀, news₀, 0, _, rfl, F₁, N₁, fun p hp => Nat.ne_of_lt (Heap.lt_size (N p hp).1), rfl, rfl, hj, Nat.zero_le _, rfl⟩
  rintro n s' ⟨h', tk, m₁, news₁, i, it, rfl, F', N', hne, hc, hd, hJ, hi, rfl⟩
  have hI := N' _ (.head _)
  have Nf : News h₀ env.locals h' fix := fun p hp => N' p (.tail _ (List.mem_append_left _ hp))
  have hit : h'.IsListIter s₁.heap.objs.size l i := ⟨it, hI.1, hc, hd⟩
  have hls := hl _ _ F' Nf
  cases hv : items.toArray[i]? with
  | none =>
    have hsz : i = items.length := Nat.le_antisymm hi (by simpa using hv)
    refine wpAny_pyNext_list_end hh hit hls hv fun h₂ he₂ => wpAny_execs_nil ?_
    have up : ∀ b o, b ≠ s₁.heap.objs.size → h'.get? b = some o → h₂.get? b = some o := fun b o hb e => he₂ b o hb e
    subst hsz
    refine done m₁ news₁ h₂ tk hJ ⟨?_, ?_, F'.above⟩ ?_
    · obtain ⟨o, es, ep, ho, r⟩ := F'.ns
      exact ⟨o, es, ep, up _ _ (fun e => hI.2.1 e.symm) ho, r⟩
    · intro b o e
      exact up b o (fun q => by rw [q, hI.2.2] at e; cases e) (F'.keep b o e)
    · exact fun p hp => ⟨up _ _ (hne p hp) (N' p (.tail _ hp)).1, (N' p (.tail _ hp)).2⟩
  | some v =>
    have hlt : i < items.length := by have := (Array.getElem?_eq_some_iff.mp hv).1; simpa using this
    refine wpAny_pyNext_list_item hit hls hv fun h₂ hit₂ hs₂ => ?_
    obtain ⟨it₂, ho₂, hc₂, hd₂⟩ := hit₂
    have F₂ : Fr h₀ env.locals h₂ m₁ := F'.change hs₂ hI.2.1 hI.2.2
    have N₂ : News h₀ env.locals h₂ ((s₁.heap.objs.size, it₂) :: (fix ++ news₁)) := fun p hp => by
      rcases List.mem_cons.mp hp with rfl | hp
      · exact ⟨ho₂, hI.2⟩
      · exact ⟨(hs₂.2 _ (hne p hp)).trans (N' p (.tail _ hp)).1, (N' p (.tail _ hp)).2⟩
    refine wpAny_mono (turn s₁.heap.objs.size it₂ i v m₁ news₁ h₂ tk (by simpa using hv) hne F₂ N₂ hJ) (fun _ s₃ h₃ => wpAny_mono h₃ (fun f s₄ h₄ => ?_) fun _ _ e => e.elim) fun _ _ e => e.elim
    cases f with
    | next =>
      obtain ⟨h₅, tk₅, m₅, news₅, rfl, F₅, N₅, hne₅, hJ₅⟩ := h₄
      exact ⟨items.length + 1 - (i + 1), by omega, h₅, tk₅, m₅, news₅, i + 1, it₂, rfl, F₅, N₅, hne₅, hc₂, hd₂, hJ₅, hlt, rfl⟩
    | cont =>
      obtain ⟨h₅, tk₅, m₅, news₅, rfl, F₅, N₅, hne₅, hJ₅⟩ := h₄
      exact ⟨items.length + 1 - (i + 1), by omega, h₅, tk₅, m₅, news₅, i + 1, it₂, rfl, F₅, N₅, hne₅, hc₂, hd₂, hJ₅, hlt, rfl⟩
    | brk => exact h₄
    | ret v => exact h₄
end Mine
end
section
open PySem PySem.W PySem.Calls PyProof.Rows
set_option maxRecDepth 100000
set_option maxHeartbeats 4000000
set_option autoImplicit false
namespace Mine
local macro_rules | `(tactic| walk_at "subscriptTail Name Slice ref ref") => `(tactic| (k_here; (with_reducible show wpAny _ _ (subscriptTail _ (PySem.Expr.Slice (some _) none none _) (Value.ref _) (Value.ref _)) _ _ _); k_dflt (refine' slice_from (s := ⟨_, _, _, _, _⟩) ?F ?N ?l ?S ?k ?z ?_ ?e ?t; (case F => k_asm); (case N => k_asm); (case l => is_list); (case S => assumption); (case k => first | decide | omega); (case z => first | omega | exact few_le (by assumption)); (case e => with_unfolding_all rfl); (case t => (intro _; with_unfolding_all rfl))); intro l' h' us' F' N' l1 S'; (try dsimp only)))
local macro_rules | `(tactic| walk_at "call builtin:str.join") => `(tactic| (k_here; (with_reducible show wpAny _ _ (call (Value.builtin "str.join") [Value.str _ _, Value.ref _]) _ _ _); k_dflt (refine' join_w ?l ?S ?f ?_; (case l => is_list); (case S => assumption); (case f => first | assumption | exact Few.drop (by assumption) _ | exact Few.take (by assumption) _)); intro t' k'; (try dsimp only)))
theorem pair_c {w : World} {A : Around} {E : Value → Shared → Prop} {s : Shared} {p : Program} {loose : List Str} {mean : ExcName → Option Value} {mg mb : Str → Option Value}
    {a : Addr} {x : Str} {ss : List Str} (X : (hd.heap_39 w.params).In s.heap) (T : Top p loose mean mg mb s.heap) (hr : A.depth + 10 < recursionLimit)
    (W : Wds s.heap a (x :: ss)) (hf : Few (x :: ss)) :
    wpAny (model prg w) A (call (.ref 110) [.ref a]) (Post s fun v h => ∃ t t1 t2, v = .ref t ∧ IsTup h t #[.str x t1, .str (Txt.join (Str.ofString "/") ss) t2]) E s := by
  refine enter_fn X T (fun _ _ e => e) (Nat.le_refl _) (K := hd.heap_39 w.params) (by k_is) (by k_is) (by omega) (BindsTo.of_eq (binds := [("parts", .ref a)]) rfl) (locs rfl) (fun h₁ F k₁ => ?_) (by decide)
  obtain ⟨vs, hl, hs⟩ := W
  have N : News s.heap s.heap.objs.size h₁ [] := News.nil
  repeat' walk1
  rename News _ _ _ _ => N'
  rename Fr _ _ _ _ => F'
  exact Post.mk' F'.keep ⟨_, _, _, rfl, News.isTup N' (.head _)⟩

local macro_rules | `(tactic| walk_at "compareOp Eq ref ref") => `(tactic| (k_here; (with_reducible show wpAny _ _ (compareOp CmpOp.Eq (Value.ref _) (Value.ref _)) _ _ _); k_dflt (refine' eq_pair ?l ?b ?o1 ?o2 ?o3 ?o4 ?u ?_; (case l => exact Fr.tup (by assumption) (by assumption)); (case b => exact Fr.tup (by assumption) (by assumption)); (case o1 => assumption); (case o2 => assumption); (case o3 => assumption); (case o4 => assumption); (case u => (simp only [Around.deeper_units]; omega)))))

/-- what is_suburi reckons -/
def sub4 (x y u z : Str) : Bool := if x = u ∧ y = z then true else if (x != u) = true then false else if (Txt.slice y (some (-1)) none != Str.ofString "/") = true then Txt.startswith z (y ++ Str.ofString "/") else Txt.startswith z y

theorem suburi_c {w : World} {A : Around} {E : Value → Shared → Prop} {s : Shared} {p : Program} {loose : List Str} {mean : ExcName → Option Value} {mg mb : Str → Option Value}
    {b t : Addr} {v : Value} {x y u z : Str} {t1 t2 t3 t4 : Tok} (X : (hd.heap_39 w.params).In s.heap) (T : Top p loose mean mg mb s.heap) (hr : A.depth + 10 < recursionLimit) (hu : A.units + 500 < cLine)
    (W : IsTup s.heap b #[.str x t1, .str y t2]) (W2 : IsTup s.heap t #[.str u t3, .str z t4]) (o1 : PyData.strOk x = true) (o2 : PyData.strOk y = true) (o3 : PyData.strOk u = true) (o4 : PyData.strOk z = true) (z1 : y.length ≤ 200) (z2 : z.length ≤ 200) :
    wpAny (model prg w) A (call (.ref 64) [v, .ref b, .ref t]) (Post s fun v _ => v = .bool (sub4 x y u z)) E s := by
  refine enter_fn X T (fun _ _ e => e) (Nat.le_refl _) (K := hd.heap_39 w.params) (by k_is) (by k_is) (by omega) (BindsTo.of_eq (binds := [("self", v), ("base", .ref b), ("test", .ref t)]) rfl) (locs rfl) (fun h₁ F k₁ => ?_) (by decide)
  have N : News s.heap s.heap.objs.size h₁ [] := News.nil
  repeat' walk1
  all_goals (rename Fr _ _ _ _ => F'; exact Post.mk' F'.keep (by simp only [sub4, *]; simp))

local macro_rules | `(tactic| walk_at "compareOp Eq ref ref") => `(tactic| (k_here; (with_reducible show wpAny _ _ (compareOp CmpOp.Eq (Value.ref _) (Value.ref _)) _ _ _); k_dflt (refine' eq_w ?l ?s1 ?b ?s2 ?f1 ?f2 ?u ?_; (case l => is_list); (case s1 => assumption); (case b => is_list); (case s2 => assumption); (case f1 => first | assumption | exact Few.take (by assumption) _ | exact Few.dropLast (by assumption)); (case f2 => first | assumption | exact Few.take (by assumption) _ | exact Few.dropLast (by assumption)); (case u => (simp only [Around.deeper_units]; omega)))))

local macro_rules | `(tactic| walk_at "subscriptTail Name UnaryOp ref int") => `(tactic| (k_here; (with_reducible show wpAny _ _ (subscriptTail _ _ (Value.ref _) (Value.int (-1) _)) _ _ _); k_dflt (refine' item_last ?l ?S ?n ?_ ?e ?t; (case l => is_list); (case S => assumption); (case n => assumption); (case e => with_unfolding_all rfl); (case t => (intro _; with_unfolding_all rfl))); intro t'; (try dsimp only)))
local macro_rules | `(tactic| walk_at "call builtin:len") => `(tactic| (k_here; (with_reducible show wpAny _ _ (call (Value.builtin "len") [Value.ref _]) _ _ _); k_dflt (refine' len_w ?l ?S ?f ?_; (case l => is_list); (case S => assumption); (case f => first | exact few_le (by assumption) | exact few_le (Few.take (by assumption) _) | exact few_le (Few.dropLast (by assumption)))); intro t' k'; (try dsimp only)))
local macro_rules | `(tactic| walk_at "subscriptTail Name Slice ref ref") => `(tactic| (k_here; (with_reducible show wpAny _ _ (subscriptTail _ (PySem.Expr.Slice none (some _) none _) (Value.ref _) (Value.ref _)) _ _ _); k_dflt (refine' slice_upto (s := ⟨_, _, _, _, _⟩) ?F ?N ?l ?S ?k ?z ?_ ?e ?t; (case F => k_asm); (case N => k_asm); (case l => is_list); (case S => assumption); (case k => first | decide | omega); (case z => first | omega | exact few_le (by assumption)); (case e => with_unfolding_all rfl); (case t => (intro _; with_unfolding_all rfl))); intro l' h' us' F' N' l1 S'; (try dsimp only)))
local macro_rules | `(tactic| walk_at "subscriptTail Name Slice ref ref") => `(tactic| (k_here; (with_reducible show wpAny _ _ (subscriptTail _ (PySem.Expr.Slice none (some (PySem.Expr.UnaryOp _ _ _)) none _) (Value.ref _) (Value.ref _)) _ _ _); k_dflt (refine' slice_but1 (s := ⟨_, _, _, _, _⟩) ?F ?N ?l ?S ?z ?_ ?e ?t; (case F => k_asm); (case N => k_asm); (case l => is_list); (case S => assumption); (case z => first | omega | exact few_le (by assumption)); (case e => with_unfolding_all rfl); (case t => (intro _; with_unfolding_all rfl))); intro l' h' us' F' N' l1 S'; (try dsimp only)))
def stemOf (rule : List Str) : List Str := if (rule.getD (rule.length - 1) Str.empty == Str.ofString "") = true then rule.dropLast else rule
/-- what _law_covers reckons -/
def covers (rule parts : List Str) : Bool := decide (rule = parts) || (decide (parts.take (stemOf rule).length = stemOf rule) && decide ((stemOf rule).length < parts.length))

theorem covers_c {w : World} {A : Around} {E : Value → Shared → Prop} {s : Shared} {p : Program} {loose : List Str} {mean : ExcName → Option Value} {mg mb : Str → Option Value}
    {a b : Addr} {rule parts : List Str} (X : (hd.heap_39 w.params).In s.heap) (T : Top p loose mean mg mb s.heap) (hr : A.depth + 10 < recursionLimit) (hu : A.units + 500 < cLine)
    (W : Wds s.heap a rule) (W2 : Wds s.heap b parts) (f1 : Few rule) (f2 : Few parts) (hne : rule ≠ []) :
    wpAny (model prg w) A (call (.ref 117) [.ref a, .ref b]) (Post s fun v _ => v = .bool (covers rule parts)) E s := by
  refine enter_fn X T (fun _ _ e => e) (Nat.le_refl _) (K := hd.heap_39 w.params) (by k_is) (by k_is) (by omega) (BindsTo.of_eq (binds := [("rule", .ref a), ("parts", .ref b)]) rfl) (locs rfl) (fun h₁ F k₁ => ?_) (by decide)
  obtain ⟨vs, hl, hs⟩ := W
  obtain ⟨us, hl2, hs2⟩ := W2
  have N : News s.heap s.heap.objs.size h₁ [] := News.nil
  repeat' walk1
  all_goals (rename Fr _ _ _ _ => F'; exact Post.mk' F'.keep (by simp_all [covers, stemOf]))
end Mine
end
section
open PySem PySem.W PySem.Calls PyProof.Rows
set_option maxRecDepth 100000
set_option autoImplicit false
namespace Mine
theorem ltN {h : Heap} {a : Addr} {o : Obj} (e : h.get? a = some o) : @LT.lt Nat instLTNat a h.objs.size := Heap.lt_size e
theorem neN {a b : Addr} (h : @LT.lt Nat instLTNat a b) : a ≠ b := Nat.ne_of_lt h
/-- what zip of two lists leaves behind -/
structure Zipped (g h : Heap) (l1 l2 : Addr) (xs ys : Array Value) : Prop where
  zip : IsZip h (g.objs.size + 4) (g.objs.size + 2) (g.objs.size + 3) .none
  ti : IsPair h (g.objs.size + 2) (.ref g.objs.size) (.ref (g.objs.size + 1))
  to : IsPair h (g.objs.size + 3) .none .none
  i1 : h.IsListIter g.objs.size l1 0
  i2 : h.IsListIter (g.objs.size + 1) l2 0
  size : h.objs.size = g.objs.size + 5
  ext : Ext g h
  l1 : g.IsList l1 xs
  l2 : g.IsList l2 ys

/-- a comprehension over a zip of two lists, whose test never holds -/
theorem comp_zip_none {prog : Program} {w : World} {A : Around} {E : Value → Shared → Prop} {s : Shared} {h₀ : Heap} {L : Addr} {env : Env} {elt iter c : Expr} {a b : Str} {pa pb tp : Pos} {kk : Nat} {scope : Scope} {cl : List (Str × Addr)} {pos : Pos} {Q : Value → Shared → Prop} (hh : A.handled = none)
    (hclos : closureFor scope env = pure cl) (hcell : ∀ z ∈ scope.names, z.2 ≠ .cell) (hkind : scope.kind = .function)
    (hnames : ∀ z ∈ scope.names, z.2 = .local → scope.names.lookup z.1 = some .local) (hxa : scope.names.lookup a = some .local) (hxb : scope.names.lookup b = some .local) (hab : ¬ a = b)
    (h : wpAny (model prog w) A (eval iter env) (fun xv s₁ => Hold (∃ (g : Heap) (l1 l2 : Addr) (xs ys : Array Value) (m : Str → Option Value) (news : List (Addr × Obj)), xv = .ref (g.objs.size + 4) ∧ Zipped g s₁.heap l1 l2 xs ys ∧ Fr h₀ L g m ∧ News h₀ L g news ∧
      (∀ C v1 v2 s₂ m₂, Fr h₀ C s₂.heap m₂ → m₂ a = some v1 → m₂ b = some v2 → (∃ i : Nat, xs[i]? = some v1 ∧ ys[i]? = some v2) →
        wpAny (model prog w) A (isTrue c (compEnvC scope cl C env) (eval c (compEnvC scope cl C env))) (fun ok s₃ => ok = false ∧ Keeps s₂ s₃) (fun _ _ => False) s₂) ∧
      (∀ D h' tk, Fr h₀ L h' m → News h₀ L h' ((D, listOf (List.toArray []) 0) :: news) → (∀ p ∈ news, p.1 ≠ D) → Q (.ref D) { s₁ with heap := h', toks := tk }))) E s)
    (hs : ∀ x, foldedSetIterable iter env x = pure x) :
    wpAny (model prog w) A (eval (.ListComp elt [⟨.Tuple [.Name a pa, .Name b pb] kk tp, iter, [c], 0⟩] scope pos) env) Q E s := by
  rw [eval_ListComp]
  refine wpAny_comprehension_free (use := none) rfl hs hclos hkind hnames (wpAny_mono h (fun xv s₁ h₁ => ?_) fun _ _ e => e)
  obtain ⟨g, l1, l2, xs, ys, m, news, rfl, Z, F, N, tests, done⟩ := h₁
  refine wpAny_pyIter_zip Z.zip ?_
  have hD : ZipApart (g.objs.size + 4) (g.objs.size + 2) (g.objs.size + 3) g.objs.size (g.objs.size + 1) l1 l2 := zipApart_new (let ⟨_, e, _⟩ := Z.l1; Heap.lt_size e) (let ⟨_, e, _⟩ := Z.l2; Heap.lt_size e)
  have W := WalksT.zip2 (prog := prog) (w := w) (A := A) hh _ _ _ _ _ _ _ hD xs ys
  have hl1 : ∃ o, s₁.heap.get? l1 = some o := let ⟨o, e, _⟩ := Z.l1; ⟨o, Z.ext _ _ e⟩
  have fpl : ∀ b ∈ [g.objs.size + 4, g.objs.size + 2, g.objs.size + 3, g.objs.size, g.objs.size + 1, l1, l2], b < s₁.heap.objs.size := by
    have q1 := let ⟨_, e, _⟩ := Z.l1; ltN e
    have q2 := let ⟨_, e, _⟩ := Z.l2; ltN e
    have := Z.size
    intro b hb
    simp only [List.mem_cons, List.not_mem_nil, or_false] at hb
    rcases hb with rfl | rfl | rfl | rfl | rfl | rfl | rfl <;> (show @LT.lt Nat instLTNat _ _; omega)
  have wrg : ∀ b ∈ [g.objs.size + 4, g.objs.size + 3, g.objs.size, g.objs.size + 1], g.objs.size ≤ b := by
    intro b hb
    simp only [List.mem_cons, List.not_mem_nil, or_false] at hb
    rcases hb with rfl | rfl | rfl | rfl <;> omega
  refine wpAny_newObj_type (wpAny_newFunctionEnv hcell (by intro y hy; simp at hy) (fun h₁ hns₁ hsb₁ => ?_) hkind)
  dsimp only at hns₁ hsb₁ ⊢
  generalize hH2 : s₁.heap.push { cls := .type "list", dict := none, data := .seq ([] : List Value).toArray } = H2 at hns₁ hsb₁ ⊢
  have hC : H2.objs.size = s₁.heap.objs.size + 1 := by rw [← hH2, Heap.size_push]
  have hDC : s₁.heap.objs.size ≠ H2.objs.size := by rw [hC]; exact Nat.ne_of_lt (Nat.lt_succ_self _)
  have old : ∀ b o, s₁.heap.get? b = some o → h₁.get? b = some o := fun b o e => hsb₁.extBut b o (by rw [hC]; exact Nat.ne_of_lt (Nat.lt_succ_of_lt (Heap.lt_size e))) (Heap.get?_push_of_some _ (hH2 ▸ Heap.get?_push_of_some _ e))
  have hacc : h₁.get? s₁.heap.objs.size = some (listOf (List.toArray []) 0) := hsb₁.extBut _ _ hDC (Heap.get?_push_of_some _ (hH2 ▸ Heap.get?_push_size _ rfl))
  have hDw : s₁.heap.objs.size ∉ [g.objs.size + 4, g.objs.size + 3, g.objs.size, g.objs.size + 1] := fun hm => Nat.lt_irrefl _ (fpl _ (W.sub _ hm))
  have hCf : H2.objs.size ∉ [g.objs.size + 4, g.objs.size + 2, g.objs.size + 3, g.objs.size, g.objs.size + 1, l1, l2] := fun hm => by have := fpl _ hm; omega
  have hst₁ := W.frame 0 s₁.heap h₁ ⟨Z.zip, Z.ti, ⟨_, _, Z.to⟩, Z.i1, Z.i2, Z.l1.at fun o e => Z.ext _ o e, Z.l2.at fun o e => Z.ext _ o e⟩ fun b _ o e => old b o e
  have hsz := Z.size
  have gk : ∀ b o, g.get? b = some o → b ∉ [g.objs.size + 4, g.objs.size + 3, g.objs.size, g.objs.size + 1] ∧ b ≠ H2.objs.size ∧ b ≠ s₁.heap.objs.size ∧ h₁.get? b = some o := fun b o e => by
    have q := ltN e
    exact ⟨fun hm => Nat.lt_irrefl _ (Nat.lt_of_lt_of_le q (wrg b hm)), neN (by omega), neN (by omega), old b o (Z.ext b o e)⟩
  have F1 : ∀ h', (∀ b o, b ∉ [g.objs.size + 4, g.objs.size + 3, g.objs.size, g.objs.size + 1] → b ≠ H2.objs.size → h₁.get? b = some o → h'.get? b = some o) → Ext g h' := fun h' hk b o e => let ⟨a, b', _, d⟩ := gk b o e; hk b o a b' d
  have gs₀ : h₀.objs.size ≤ H2.objs.size := by have q1 : @LE.le Nat instLENat h₀.objs.size L := F.above; have q2 : @LT.lt Nat instLTNat L g.objs.size := F.ns.lt; omega
  have loop : ∀ s₃ : Shared, s₃ = { s₁ with heap := h₁, toks := s₁.toks + ([] : List (Str × Value)).length } →
      codeAny (model prog w) A (.compLoop (.ListComp elt [⟨.Tuple [.Name a pa, .Name b pb] kk tp, iter, [c], 0⟩] scope pos) 0 (.ref (g.objs.size + 4)) (.ref s₁.heap.objs.size) (compEnvC scope cl H2.objs.size env))
        (compPost (model prog w) A E none Q (.ref s₁.heap.objs.size) H2.objs.size) s₃ := by
    rintro s₃ rfl
    refine kct_loop (fun k s' => ∃ h' tk i m', s' = { s₁ with heap := h', toks := tk } ∧ i ≤ min xs.size ys.size ∧ k = min xs.size ys.size + 1 - i ∧
        (IsZip h' (g.objs.size + 4) (g.objs.size + 2) (g.objs.size + 3) .none ∧ IsPair h' (g.objs.size + 2) (.ref g.objs.size) (.ref (g.objs.size + 1)) ∧ (∃ a b, IsPair h' (g.objs.size + 3) a b) ∧ h'.IsListIter g.objs.size l1 i ∧ h'.IsListIter (g.objs.size + 1) l2 i ∧ h'.IsList l1 xs ∧ h'.IsList l2 ys) ∧
        h'.Ns H2.objs.size m' ∧ (∀ b o, b ∉ [g.objs.size + 4, g.objs.size + 3, g.objs.size, g.objs.size + 1] → b ≠ H2.objs.size → h₁.get? b = some o → h'.get? b = some o)) ?_ _
      ⟨h₁, _, 0, _, rfl, Nat.zero_le _, rfl, hst₁, hns₁, fun b o _ _ e => e⟩
    rintro k s' ⟨h', tk, i, m', rfl, hi, rfl, hst, hn', hk'⟩
    by_cases hlt : i < min xs.size ys.size
    · refine W.item i _ _ _ hlt hst fun T vals h₂ tk₂ hP _ hT hM hk₂ => ?_
      refine W.go _ _ _ i T _ _ _ hM fun h₃ hst₃ hk₃ => ?_
      obtain ⟨x, y, hx, hy, rfl⟩ := hP
      have hT₃ : h₃.IsTuple T #[x, y] := hT.at fun o e => hk₃ T o (W.apart _ _ _ hM) e
      have hCw : H2.objs.size ∉ [g.objs.size + 4, g.objs.size + 3, g.objs.size, g.objs.size + 1] := fun hm => hCf (W.sub _ hm)
      refine kcp_assign (env := compEnvC scope cl H2.objs.size env) hh hT₃ (lookup_relabel_local hxa) (lookup_relabel_local hxb) (by simp [compEnvC, relabel, hkind]) (hn'.at' fun o e => hk₃ _ o hCw (hk₂ _ o hCw e)) fun h₄ tk₄ hn₄ hs₄ => ?_
      have up : ∀ b o, b ∉ [g.objs.size + 4, g.objs.size + 3, g.objs.size, g.objs.size + 1] → b ≠ H2.objs.size → h₁.get? b = some o → h₄.get? b = some o := fun b o h1 h2 e => hs₄ b o h2 (hk₃ b o h1 (hk₂ b o h1 (hk' b o h1 h2 e)))
      refine wpAny_mono (tests H2.objs.size x y _ _ ⟨hn₄, fun b o e => F1 _ up b o (F.keep b o e), gs₀⟩ (by simp [hab]) (by simp) ⟨i, hx, hy⟩) (fun ok s₅ h₅ => ?_) fun _ _ e => e.elim
      obtain ⟨rfl, h₅, tk₅, rfl, k₅⟩ := h₅
      simp only [Bool.false_eq_true, if_false]
      refine ⟨min xs.size ys.size + 1 - (i + 1), by omega, h₅, tk₅, i + 1, _, rfl, hlt, rfl, W.frame _ h₃ h₅ hst₃ fun b hb o e => k₅ b o (hs₄ b o (fun q => by have q' : b = H2.objs.size := q; exact hCf (q' ▸ hb)) e), hn₄.at' fun o e => k₅ _ o e, fun b o h1 h2 e => k₅ b o (up b o h1 h2 e)⟩
    · obtain rfl : i = min xs.size ys.size := by omega
      refine W.done _ _ _ hst fun h₂ tk₂ hk₂ => ?_
      have hCw : H2.objs.size ∉ [g.objs.size + 4, g.objs.size + 3, g.objs.size, g.objs.size + 1] := fun hm => hCf (W.sub _ hm)
      refine ⟨m', hn'.at' fun o e => hk₂ _ o hCw e, fun h₃ hs₃ => ?_⟩
      have up : ∀ b o, b ∉ [g.objs.size + 4, g.objs.size + 3, g.objs.size, g.objs.size + 1] → b ≠ H2.objs.size → h₁.get? b = some o → h₃.get? b = some o := fun b o h1 h2 e => hs₃.extBut b o h2 (hk₂ b o h1 (hk' b o h1 h2 e))
      have eg := F1 _ up
      have fg : g.get? s₁.heap.objs.size = none := by
        cases e : g.get? s₁.heap.objs.size with
        | none => rfl
        | some o => have := ltN e; omega
      refine done s₁.heap.objs.size h₃ tk₂ (F.keeps eg) (fun q hq => ?_) fun p hp e => ?_
      · rcases List.mem_cons.mp hq with rfl | hq
        · refine ⟨up _ _ hDw hDC hacc, fun q => by have q2 : @LT.lt Nat instLTNat L g.objs.size := F.ns.lt; have q3 : @Eq Nat s₁.heap.objs.size L := q; omega, ?_⟩
          cases e : h₀.get? s₁.heap.objs.size with
          | none => rfl
          | some o => have := F.keep _ _ e; rw [fg] at this; cases this
        · exact ⟨eg _ _ (N q hq).1, (N q hq).2⟩
      · have := (N p hp).1; rw [e, fg] at this; cases this
  exact codeAny_compStart_list (loop _ rfl) (W.self 0 _ _ _ hst₁ (loop _ rfl))
end Mine
end
section
open PySem PySem.W PySem.Calls PyProof.Rows
set_option maxRecDepth 100000
set_option autoImplicit false
namespace Mine
/-- entering a lambda without cells -/
theorem enter_lam {prog : Program} {w : World} {A : Around} {E Q : Value → Shared → Prop} {s : Shared} {g : Heap} {p : Program} {loose : List Str} {mean : ExcName → Option Value} {mg mb : Str → Option Value}
    {name qual : Str} {params : Arguments} {body : Expr} {scope : Scope} {pm ctv : Value} {f c' : Addr} {vals : List Value} {binds : List (Str × Value)}
    (T : Top p loose mean mg mb g) (hg : Ext g s.heap) (hz : g.objs.size ≤ s.heap.objs.size)
    (ho : s.heap.get? f = some (kla_obj name qual params body scope [] pm c' ctv)) (hcd : s.heap.CodeRec (.ref c') qual) (hroom : A.depth < recursionLimit)
    (hbind : bindArgs (kla_fn name qual params body scope [] pm (.ref c') ctv) ⟨vals, []⟩ = pure binds) (hloc : ∀ y ∈ binds, scope.names.lookup y.1 = some .local)
    (h : ∀ h₁, Fr g s.heap.objs.size h₁ (fun y => binds.reverse.lookup y) → Ext s.heap h₁ →
      wpAny (model prog w) (A.deeper (envX qual scope s.heap.objs.size f (.ref c') [])) (eval body (envX qual scope s.heap.objs.size f (.ref c') [])) Q (fun _ _ => False) { s with heap := h₁, toks := s.toks + binds.length })
    (hcell : ∀ x ∈ scope.names, x.2 ≠ .cell) (hco : scope.isCoroutine = false := by rfl) (hgen : scope.isGenerator = false := by rfl) (hk : scope.kind = .function := by rfl) :
    wpAny (model prog w) A (call (.ref f) vals) Q E s := by
  refine wpAny_call (kla_callFunE hroom ho rfl hco hgen rfl hcd ?_)
  rw [hbind]
  refine wpAny_pure (wpAny_newFunctionEnv hcell hloc (fun h₁ hns hsb => ⟨((T.nolimit).keeps hg).fresh _ hsb, ?_⟩) hk)
  show codeAny _ _ (.expr body (envX qual scope s.heap.objs.size f (.ref c') [])) _ _
  have hk₁ : Ext s.heap h₁ := fun b o e => hsb.extBut b o (Nat.ne_of_lt (Heap.lt_size e)) (Heap.get?_push_of_some _ e)
  exact kla_codeExpr (wpAny_mono (h h₁ ⟨hns, fun b o e => hk₁ b o (hg b o e), hz⟩ hk₁) (fun v s' hl => hl) fun _ _ y => y.elim)

/-- law's code table: empty, or it holds the lambda's code -/
def TabSt (tab : Array Value) (cx : List (Addr × Obj)) : Prop :=
  (tab = #[] ∧ cx = []) ∨ ∃ c oc vs t, tab = #[rawInt 113, rawInt 82, .ref c] ∧ cx = [(c, oc)] ∧ oc.data = .fields vs ∧ vs[1]? = some (.str (Str.ofString "law.<locals>.<lambda>") t)

/-- what a call of the lambda gives -/
def LamOk (w : World) (f c' : Addr) (of oc : Obj) : Prop := ∀ (A : Around) (s : Shared) (a : Addr) (x : List Str) (p : Program) (loose : List Str) (mean : ExcName → Option Value) (mg mb : Str → Option Value) (E : Value → Shared → Prop),
  (hd.heap_39 w.params).In s.heap → Top p loose mean mg mb s.heap → A.depth + 10 < recursionLimit → s.heap.get? f = some of → s.heap.get? c' = some oc → Wds s.heap a x → Few x →
  wpAny (model prg w) A (call (.ref f) [.ref a]) (Post s fun v _ => ∃ t, v = .int (Txt.join (Str.ofString "/") x).length t) E s

/-- the lambda is made -/
theorem lam_mk {w : World} {A : Around} {E : Value → Shared → Prop} {s : Shared} {g₀ : Heap} {L a D : Addr} {m mg mb : Str → Option Value} {cn : Str} {cs : Scope} {cl : List (Str × Addr)} {cx FX : List (Addr × Obj)} {tab : Array Value} {o3 od : Obj}
    {p : Program} {loose : List Str} {mean : ExcName → Option Value} {name qual : Str} {params : Arguments} {body : Expr} {scope : Scope} {pos : Pos} {firstLine : Nat} {Q : Value → Shared → Prop}
    (F : Fr g₀ L s.heap m) (N : News g₀ L s.heap ((D, od) :: (131, tabObj tab) :: (L + 1 + 1 + 1, o3) :: (cx ++ FX))) (T : Top p loose mean mg mb g₀) (C : CodeHd g₀ 133 131)
    (htab : TabSt tab cx) (hD : ∀ q ∈ (131, tabObj tab) :: (L + 1 + 1 + 1, o3) :: (cx ++ FX), q.1 ≠ D) (hcx : ∀ p ∈ cx, p.1 ≠ 131 ∧ p.1 ≠ L + 1 + 1 + 1 ∧ ∀ q ∈ FX, p.1 ≠ q.1) (hF1 : ∀ q ∈ FX, q.1 ≠ 131 ∧ q.1 ≠ L + 1 + 1 + 1) (h3 : L + 1 + 1 + 1 ≠ 131)
    (hl : pos.line = 113) (hc : pos.col = 82) (hq : qual = Str.ofString "law.<locals>.<lambda>") (hcl : closureFor scope (envX cn cs L a (.ref 133) cl) = pure [])
    (hcall : ∀ f c' oc vs t pm ctv, oc.data = .fields vs → vs[1]? = some (.str (Str.ofString "law.<locals>.<lambda>") t) → LamOk w f c' (kla_obj name (Str.ofString "law.<locals>.<lambda>") params body scope [] pm c' ctv) oc)
    (h : ∀ f c' of oc h' tk tab', Fr g₀ L h' m → News g₀ L h' ((f, of) :: (D, od) :: (131, tabObj tab') :: (L + 1 + 1 + 1, o3) :: ([(c', oc)] ++ FX)) → TabSt tab' [(c', oc)] →
      (∀ p ∈ [(c', oc)], p.1 ≠ 131 ∧ p.1 ≠ L + 1 + 1 + 1 ∧ ∀ q ∈ FX, p.1 ≠ q.1) → LamOk w f c' of oc → Q (.ref f) { s with heap := h', toks := tk }) :
    wpAny (model prg w) A (makeFunction name qual params (.expr body) scope (envX cn cs L a (.ref 133) cl) [] [] [] pos firstLine) Q E s := by
  subst hq
  rcases htab with ⟨rfl, rfl⟩ | ⟨c, oc, vs, t, rfl, rfl, e1, e2⟩
  · refine kla_nest F N T C rfl (UpdF.tail (fun e => hD _ (.head _) e.symm) (UpdF.head (fun q hq => ?_))) trivial rfl hcl (fun f c' oc vs t ctv h' tk F' N' d1 d2 l1 l2 => ?_)
    · rcases List.mem_cons.mp hq with rfl | hq
      · exact h3
      · exact (hF1 q hq).1
    · refine h f c' _ oc h' tk #[rawInt pos.line, rawInt pos.col, .ref c'] F' (fun q hq => N' q ?_) (.inr ⟨c', oc, vs, t, by rw [hl, hc]; rfl, rfl, d1, d2⟩) (fun q hq => ?_) (hcall f c' oc vs t ((mg "__name__").getD .none) ctv d1 d2)
      · simp only [List.mem_cons, List.mem_append, List.not_mem_nil, or_false] at hq ⊢
        rcases hq with h | h | h | h | h | h
        · exact .inl h
        · exact .inr (.inr (.inl h))
        · exact .inr (.inr (.inr (.inl (by rw [h]; rfl))))
        · exact .inr (.inr (.inr (.inr (.inl h))))
        · exact .inr (.inl h)
        · exact .inr (.inr (.inr (.inr (.inr (.inr h)))))
      · rcases List.mem_cons.mp hq with rfl | hq
        · refine ⟨Nat.ne_of_gt (l1 (131, tabObj #[]) (.tail _ (.head _))), Nat.ne_of_gt (l1 (L + 1 + 1 + 1, o3) (.tail _ (.tail _ (.head _)))), fun q hq => Nat.ne_of_gt (l1 q (.tail _ (.tail _ (.tail _ hq))))⟩
        · cases hq
  · refine kla_hit (c' := c) F N T C rfl (.tail _ (.head _)) trivial ?_ hcl (fun f ctv h' tk F' N' l1 => ?_)
    · simp [codeAmong, rawInt, hl, hc]
    · exact h f c _ oc h' tk _ F' N' (.inr ⟨c, oc, vs, t, rfl, rfl, e1, e2⟩) hcx (hcall f c oc vs t ((mg "__name__").getD .none) ctv e1 e2)
end Mine
end
section
open PySem PySem.W PySem.Calls PyProof.Rows
set_option maxRecDepth 100000
set_option maxHeartbeats 4000000
set_option autoImplicit false
namespace Mine

local macro_rules | `(tactic| walk_at "call builtin:len") => `(tactic| (k_here; (with_reducible show wpAny _ _ (call (Value.builtin "len") [Value.ref _]) _ _ _); k_dflt (refine' len_rows ?l ?S ?f ?_; (case l => is_list); (case S => exact RowsAre.ext (Fr.keep (by assumption)) (by assumption)); (case f => first | omega)); intro t' k'; (try dsimp only)))

local macro_rules | `(tactic| walk_at "exec While Compare cons nil") => `(tactic| refine hold ?_)
local macro_rules | `(tactic| walk_at "eval Name") => `(tactic| (k_here; (refine ld (by k_asm) (by assumption) ?_)))
local macro_rules | `(tactic| walk_at "subscriptTail Name Name ref int") => `(tactic| (k_here; (with_reducible show wpAny _ _ (subscriptTail _ _ (Value.ref _) (Value.int _ _)) _ _ _); k_dflt (refine' item_row ?l ?S ?k0 ?k1 ?z ?_ ?e ?t; (case l => is_list); (case S => exact RowsAre.ext (Fr.keep (by assumption)) (by assumption)); (case k0 => first | omega | (rw [Int.fdiv_eq_ediv_of_nonneg _ (by decide)]; omega)); (case k1 => first | omega | (rw [Int.fdiv_eq_ediv_of_nonneg _ (by decide)]; omega)); (case z => omega); (case e => with_unfolding_all rfl); (case t => (intro _; with_unfolding_all rfl))); intro a' us' L' S' f'; (try dsimp only)))
local macro_rules | `(tactic| walk_at "compareOp Lt ref ref") => `(tactic| (k_here; (with_reducible show wpAny _ _ (compareOp CmpOp.Lt (Value.ref _) (Value.ref _)) _ _ _); k_dflt (refine' lt_w ?l ?s1 ?b ?s2 ?u ?_; (case l => is_list); (case s1 => assumption); (case b => is_list); (case s2 => assumption); (case u => (simp only [Around.deeper_units]; omega)))))

theorem bisR_b {w : World} {A : Around} {E : Value → Shared → Prop} {s : Shared} {p : Program} {loose : List Str} {mean : ExcName → Option Value} {mg mb : Str → Option Value}
    {r a : Addr} {vals : List Value} {t1 : Tok} {vs us : List Value} {rs : List (List Str)} {x : List Str} (X : (hd.heap_39 w.params).In s.heap) (T : Top p loose mean mg mb s.heap) (hr : A.depth + 10 < recursionLimit) (hu : A.units + 500 < cLine)
    (hb : ∀ fd oc od osl, (hd.heap_39 w.params).lookup 89 = some ⟨oc, od, .func fd, osl⟩ → BindsTo s fd ⟨vals, []⟩ [("a", .ref r), ("x", .ref a), ("lo", .int 0 t1), ("hi", .none), ("key", .none)])
    (hl : s.heap.IsList r vs.toArray) (hrow : RowsAre s.heap vs rs) (hl2 : s.heap.IsList a us.toArray) (hs2 : StrsAre us x) (f2 : Few x) (hz : rs.length ≤ 100)
    (hm : ∀ i j, i ≤ j → j < rs.length → wlt x (rs.getD i []) = true → wlt x (rs.getD j []) = true) :
    wpAny (model prg w) A (call (.ref 89) vals) (Post s fun v _ => ∃ (k : Nat) (t : Tok), v = .int k t ∧ k ≤ rs.length ∧ (∀ i, i < k → wlt x (rs.getD i []) = false) ∧ (∀ i, k ≤ i → i < rs.length → wlt x (rs.getD i []) = true)) E s := by
  refine enter_fn X T (fun _ _ e => e) (Nat.le_refl _) (K := hd.heap_39 w.params) (by k_is) (by k_is) (by omega) (hb _ _ _ _ (by k_is)) (locs rfl) (fun h₁ F k₁ => ?_) (by decide)
  have N : News s.heap s.heap.objs.size h₁ [] := News.nil
  repeat' walk1
  unfold Hold
  rename Fr _ _ _ _ => F'
  rename News _ _ _ _ => N'
  refine While_inv2 (fun n m news => news = [] ∧ m "a" = some (.ref r) ∧ m "x" = some (.ref a) ∧ ∃ (lo hi : Nat) (tl th : Tok), m "lo" = some (.int lo tl) ∧ m "hi" = some (.int hi th) ∧ lo ≤ hi ∧ hi ≤ rs.length ∧ n = hi - lo ∧
      (∀ i, i < lo → wlt x (rs.getD i []) = false) ∧ (∀ i, hi ≤ i → i < rs.length → wlt x (rs.getD i []) = true)) (n₀ := rs.length) F' N' ?_ ?_ passes_false
  · exact ⟨rfl, rfl, rfl, 0, rs.length, _, _, rfl, rfl, Nat.zero_le _, Nat.le_refl _, by omega, fun i h => absurd h (Nat.not_lt_zero _), fun i h1 h2 => absurd h2 (Nat.not_lt.mpr h1)⟩
  · rintro n m₁ news₁ h₂ tk₂ F₂ N₂ ⟨rfl, ma, mx, lo, hi, tl, th, ml, mh, g1, g2, g3, g4, g5⟩
    have hmid : ((lo : Int) + hi).fdiv 2 = (((lo + hi) / 2 : Nat) : Int) := by rw [Int.fdiv_eq_ediv_of_nonneg _ (by decide)]; omega
    have hmn : (((lo : Int) + hi).fdiv 2).toNat = (lo + hi) / 2 := by rw [hmid]; rfl
    have hm1 : ((lo : Int) + hi).fdiv 2 + 1 = (((lo + hi) / 2 + 1 : Nat) : Int) := by rw [hmid]; push_cast; rfl
    repeat' walk1
    · rename Fr _ _ _ _ => F'
      rename News _ _ _ _ => N'
      rename wlt _ _ = true => hc
      rw [hmn] at hc
      refine ⟨_, _, _, _, (lo + hi) / 2 - lo, rfl, F', N', by omega, rfl, ma, mx, lo, (lo + hi) / 2, tl, _, ml, by rw [← hmid]; rfl, by omega, by omega, rfl, g4, fun i h1 h2 => hm ((lo + hi) / 2) i h1 h2 hc⟩
    · rename Fr _ _ _ _ => F'
      rename News _ _ _ _ => N'
      rename wlt _ _ = false => hc
      rw [hmn] at hc
      refine ⟨_, _, _, _, hi - ((lo + hi) / 2 + 1), rfl, F', N', by omega, rfl, ma, mx, (lo + hi) / 2 + 1, hi, _, th, by rw [← hm1]; rfl, mh, by omega, by omega, rfl, fun i h1 => ?_, g5⟩
      cases q : wlt x (rs.getD i []) with
      | false => rfl
      | true => rw [hm i ((lo + hi) / 2) (by omega) (by omega) q] at hc; cases hc
    · exact Post.mk' F₂.keep ⟨lo, tl, rfl, by omega, g4, fun i h1 h2 => g5 i (by omega) h2⟩
theorem bisR_2 {w : World} {s : Shared} {r a : Addr} (X : (hd.heap_39 w.params).In s.heap) : 
    ∀ fd oc od osl, (hd.heap_39 w.params).lookup 89 = some ⟨oc, od, .func fd, osl⟩ → BindsTo s fd ⟨[.ref r, .ref a], []⟩ [("a", .ref r), ("x", .ref a), ("lo", .int 0 278), ("hi", .none), ("key", .none)] := by
  intro fd oc od osl e
  obtain ⟨rfl, rfl, h, rfl⟩ := Obj.mk.inj (Option.some.inj (e.symm.trans (by k_is)))
  obtain rfl := Data.func.inj h
  exact kp_binds X fun _ => rfl
theorem bisR_4 {w : World} {s : Shared} {r a : Addr} {t1 : Tok} (X : (hd.heap_39 w.params).In s.heap) : 
    ∀ fd oc od osl, (hd.heap_39 w.params).lookup 89 = some ⟨oc, od, .func fd, osl⟩ → BindsTo s fd ⟨[.ref r, .ref a, .int 0 t1, .none], []⟩ [("a", .ref r), ("x", .ref a), ("lo", .int 0 t1), ("hi", .none), ("key", .none)] := by
  intro fd oc od osl e
  obtain ⟨rfl, rfl, h, rfl⟩ := Obj.mk.inj (Option.some.inj (e.symm.trans (by k_is)))
  obtain rfl := Data.func.inj h
  exact kp_binds X fun _ => rfl
theorem bisL_b {w : World} {A : Around} {E : Value → Shared → Prop} {s : Shared} {p : Program} {loose : List Str} {mean : ExcName → Option Value} {mg mb : Str → Option Value}
    {r a : Addr} {vals : List Value} {t1 : Tok} {vs us : List Value} {rs : List (List Str)} {x : List Str} (X : (hd.heap_39 w.params).In s.heap) (T : Top p loose mean mg mb s.heap) (hr : A.depth + 10 < recursionLimit) (hu : A.units + 500 < cLine)
    (hb : ∀ fd oc od osl, (hd.heap_39 w.params).lookup 98 = some ⟨oc, od, .func fd, osl⟩ → BindsTo s fd ⟨vals, []⟩ [("a", .ref r), ("x", .ref a), ("lo", .int 0 t1), ("hi", .none), ("key", .none)])
    (hl : s.heap.IsList r vs.toArray) (hrow : RowsAre s.heap vs rs) (hl2 : s.heap.IsList a us.toArray) (hs2 : StrsAre us x) (f2 : Few x) (hz : rs.length ≤ 100)
    (hm : ∀ i j, i ≤ j → j < rs.length → wlt (rs.getD j []) x = true → wlt (rs.getD i []) x = true) :
    wpAny (model prg w) A (call (.ref 98) vals) (Post s fun v _ => ∃ (k : Nat) (t : Tok), v = .int k t ∧ k ≤ rs.length ∧ (∀ i, i < k → wlt (rs.getD i []) x = true) ∧ (∀ i, k ≤ i → i < rs.length → wlt (rs.getD i []) x = false)) E s := by
  refine enter_fn X T (fun _ _ e => e) (Nat.le_refl _) (K := hd.heap_39 w.params) (by k_is) (by k_is) (by omega) (hb _ _ _ _ (by k_is)) (locs rfl) (fun h₁ F k₁ => ?_) (by decide)
  have N : News s.heap s.heap.objs.size h₁ [] := News.nil
  repeat' walk1
  unfold Hold
  rename Fr _ _ _ _ => F'
  rename News _ _ _ _ => N'
  refine While_inv2 (fun n m news => news = [] ∧ m "a" = some (.ref r) ∧ m "x" = some (.ref a) ∧ ∃ (lo hi : Nat) (tl th : Tok), m "lo" = some (.int lo tl) ∧ m "hi" = some (.int hi th) ∧ lo ≤ hi ∧ hi ≤ rs.length ∧ n = hi - lo ∧
      (∀ i, i < lo → wlt (rs.getD i []) x = true) ∧ (∀ i, hi ≤ i → i < rs.length → wlt (rs.getD i []) x = false)) (n₀ := rs.length) F' N' ?_ ?_ passes_false
  · exact ⟨rfl, rfl, rfl, 0, rs.length, _, _, rfl, rfl, Nat.zero_le _, Nat.le_refl _, by omega, fun i h => absurd h (Nat.not_lt_zero _), fun i h1 h2 => absurd h2 (Nat.not_lt.mpr h1)⟩
  · rintro n m₁ news₁ h₂ tk₂ F₂ N₂ ⟨rfl, ma, mx, lo, hi, tl, th, ml, mh, g1, g2, g3, g4, g5⟩
    have hmid : ((lo : Int) + hi).fdiv 2 = (((lo + hi) / 2 : Nat) : Int) := by rw [Int.fdiv_eq_ediv_of_nonneg _ (by decide)]; omega
    have hmn : (((lo : Int) + hi).fdiv 2).toNat = (lo + hi) / 2 := by rw [hmid]; rfl
    have hm1 : ((lo : Int) + hi).fdiv 2 + 1 = (((lo + hi) / 2 + 1 : Nat) : Int) := by rw [hmid]; push_cast; rfl
    repeat' walk1
    · rename Fr _ _ _ _ => F'
      rename News _ _ _ _ => N'
      rename wlt _ _ = true => hc
      rw [hmn] at hc
      refine ⟨_, _, _, _, hi - ((lo + hi) / 2 + 1), rfl, F', N', by omega, rfl, ma, mx, (lo + hi) / 2 + 1, hi, _, th, by rw [← hm1]; rfl, mh, by omega, by omega, rfl, fun i h1 => hm i ((lo + hi) / 2) (by omega) (by omega) hc, g5⟩
    · rename Fr _ _ _ _ => F'
      rename News _ _ _ _ => N'
      rename wlt _ _ = false => hc
      rw [hmn] at hc
      refine ⟨_, _, _, _, (lo + hi) / 2 - lo, rfl, F', N', by omega, rfl, ma, mx, lo, (lo + hi) / 2, tl, _, ml, by rw [← hmid]; rfl, by omega, by omega, rfl, g4, fun i h1 h2 => ?_⟩
      cases q : wlt (rs.getD i []) x with
      | false => rfl
      | true => rw [hm ((lo + hi) / 2) i h1 h2 q] at hc; cases hc
    · exact Post.mk' F₂.keep ⟨lo, tl, rfl, by omega, g4, fun i h1 h2 => g5 i (by omega) h2⟩
theorem bisL_2 {w : World} {s : Shared} {r a : Addr} (X : (hd.heap_39 w.params).In s.heap) : 
    ∀ fd oc od osl, (hd.heap_39 w.params).lookup 98 = some ⟨oc, od, .func fd, osl⟩ → BindsTo s fd ⟨[.ref r, .ref a], []⟩ [("a", .ref r), ("x", .ref a), ("lo", .int 0 292), ("hi", .none), ("key", .none)] := by
  intro fd oc od osl e
  obtain ⟨rfl, rfl, h, rfl⟩ := Obj.mk.inj (Option.some.inj (e.symm.trans (by k_is)))
  obtain rfl := Data.func.inj h
  exact kp_binds X fun _ => rfl
end Mine
end
section
open PySem PySem.W PySem.Calls PyProof.Rows
set_option maxRecDepth 100000
set_option maxHeartbeats 4000000
set_option autoImplicit false
namespace Mine
local macro_rules | `(tactic| walk_at "call ref") => `(tactic| refine hold ?_)

theorem ext_hide {g h : Heap} {r : Addr} (e : Ext g h) (hr : g.get? r = none) : Ext g (h.hide r) := fun b o q => by
  rw [Heap.hide_ne h (fun z => by rw [z, hr] at q; cases q)]; exact e b o q
theorem Fr.hide {g h : Heap} {L r : Addr} {m : Str → Option Value} (F : Fr g L h m) (hr : g.get? r = none) (hL : r ≠ L) : Fr g L (h.hide r) m :=
  let ⟨o, es, ep, ho, q⟩ := F.ns
  ⟨⟨o, es, ep, by rw [Heap.hide_ne h (fun z => hL z.symm)]; exact ho, q⟩, ext_hide F.keep hr, F.above⟩

theorem insort_2 {w : World} {s : Shared} {r a : Addr} (X : (hd.heap_39 w.params).In s.heap) : 
    ∀ fd oc od osl, (hd.heap_39 w.params).lookup 80 = some ⟨oc, od, .func fd, osl⟩ → BindsTo s fd ⟨[.ref r, .ref a], []⟩ [("a", .ref r), ("x", .ref a), ("lo", .int 0 265), ("hi", .none), ("key", .none)] := by
  intro fd oc od osl e
  obtain ⟨rfl, rfl, h, rfl⟩ := Obj.mk.inj (Option.some.inj (e.symm.trans (by k_is)))
  obtain rfl := Data.func.inj h
  exact kp_binds X fun _ => rfl

theorem insort_c {w : World} {A : Around} {E : Value → Shared → Prop} {s : Shared} {g : Heap} {p : Program} {loose : List Str} {mean : ExcName → Option Value} {mg mb : Str → Option Value}
    {r a : Addr} {vs us : List Value} {n : Nat} {rs : List (List Str)} {x : List Str} (X : (hd.heap_39 w.params).In g) (T : Top p loose mean mg mb g) (hr : A.depth + 20 < recursionLimit) (hu : A.units + 600 < cLine)
    (hg : Ext g s.heap) (hsz : g.objs.size ≤ s.heap.objs.size) (hgr : g.get? r = none) (ho : s.heap.get? r = some (listOf vs.toArray n))
    (hrow : RowsAre g vs rs) (hl2 : g.IsList a us.toArray) (hs2 : StrsAre us x) (f2 : Few x) (hz : rs.length ≤ 100)
    (hm : ∀ i j, i ≤ j → j < rs.length → wlt x (rs.getD i []) = true → wlt x (rs.getD j []) = true) :
    wpAny (model prg w) A (call (.ref 80) [.ref r, .ref a]) (PostM s g fun _ h => ∃ (k n' : Nat), h.get? r = some (listOf (vs.take k ++ .ref a :: vs.drop k).toArray n') ∧ k ≤ rs.length ∧ (∀ i, i < k → wlt x (rs.getD i []) = false) ∧ (∀ i, k ≤ i → i < rs.length → wlt x (rs.getD i []) = true)) E s := by
  refine enter_fn X T hg hsz (K := hd.heap_39 w.params) (by k_is) (by k_is) (by omega) (insort_2 (X.keeps hg) _ _ _ _ (by k_is)) (locs rfl) (fun h₁ F k₁ => ?_) (by decide)
  have N : News g s.heap.objs.size h₁ [(r, listOf vs.toArray n)] := fun q hq => by
    cases hq with
    | head => exact ⟨k₁ _ _ ho, Nat.ne_of_lt (Heap.lt_size ho), hgr⟩
    | tail _ h => cases h
  repeat' walk1
  unfold Hold
  refine use_post (fun E' => bisR_b (X.keeps F.keep) (T.keeps F.keep) (by show _ + 1 + 10 < _; omega) (by show _ + 3 + 500 < _; omega) (bisR_4 (X.keeps F.keep)) (News.isList N (.head _)) (hrow.ext F.keep) (F.lst hl2) hs2 f2 hz hm) ?_
  rintro v h₂ tk₂ k₂ ⟨k, t, rfl, q1, q2, q3⟩
  replace F := F.keeps k₂
  replace N := N.grown k₂
  repeat' walk1
  rename Fr _ _ _ _ => F'
  rename News _ _ _ _ => N'
  have hlen := hrow.length
  refine kl_insert F' N' (by simp [Builtin.List.listFitsIndex]; omega) rfl (Upd.head (by intro p hp; cases hp)) (by simp [sizeLine_eq]; omega) (fun h₃ F₃ N₃ => ?_)
  repeat' walk1
  refine PostM.mk' F₃.keep ⟨k, n + 1, ?_, q1, q2, q3⟩
  have e := (N₃ _ (.head _)).1
  have e2 : kl_ins vs.toArray.toList (k : Int) (.ref a) = vs.take k ++ .ref a :: vs.drop k := by
    show kl_ins vs (k : Int) (.ref a) = _
    have hk : min (k : Int).toNat vs.length = k := by rw [Int.toNat_natCast]; omega
    unfold kl_ins
    rw [if_neg (by omega), hk]
  rw [e2] at e
  exact e

theorem take_erase {α : Type} (l : List α) (k : Nat) : l.eraseIdx k = l.take k ++ l.drop (k + 1) := List.eraseIdx_eq_take_drop_succ ..
theorem cut_at : ∀ (vs : List Value) (k : Nat) (v : Value), vs[k]? = some v → kl_cut vs k = some (vs.take k, v, vs.drop (k + 1))
  | [], _, _, h => by simp at h
  | x :: vs, 0, v, h => by simp at h; subst h; rfl
  | x :: vs, k + 1, v, h => by
    have := cut_at vs k v (by simpa using h)
    unfold kl_cut
    rw [this]; rfl

/-- what _law_turn makes of the row: the text goes if it is there, else it comes -/
def Turned (x : List Str) (rs rs' : List (List Str)) : Prop := SSorted rs' ∧ rs'.length ≤ rs.length + 1 ∧ ∀ y, y ∈ rs' ↔ if y = x then x ∉ rs else y ∈ rs

theorem turn_c {w : World} {A : Around} {E : Value → Shared → Prop} {s : Shared} {g : Heap} {p : Program} {loose : List Str} {mean : ExcName → Option Value} {mg mb : Str → Option Value}
    {r a : Addr} {vs us : List Value} {n : Nat} {rs : List (List Str)} {x : List Str} (X : (hd.heap_39 w.params).In g) (T : Top p loose mean mg mb g) (hr : A.depth + 30 < recursionLimit) (hu : A.units + 700 < cLine)
    (hg : Ext g s.heap) (hsz : g.objs.size ≤ s.heap.objs.size) (hgr : g.get? r = none) (ho : s.heap.get? r = some (listOf vs.toArray n))
    (hrow : RowsAre g vs rs) (hl2 : g.IsList a us.toArray) (hs2 : StrsAre us x) (f2 : Few x) (hz : rs.length ≤ 50) (hso : SSorted rs) :
    wpAny (model prg w) A (call (.ref 124) [.ref r, .ref a]) (PostM s g fun _ h => ∃ (vs' : List Value) (n' : Nat) (rs' : List (List Str)), h.get? r = some (listOf vs'.toArray n') ∧ (∀ h, RowsAre h vs rs → Wds h a x → RowsAre h vs' rs') ∧ Turned x rs rs') E s := by
  refine enter_fn X T hg hsz (K := hd.heap_39 w.params) (by k_is) (by k_is) (by omega) (BindsTo.of_eq (binds := [("row", .ref r), ("rule", .ref a)]) rfl) (locs rfl) (fun h₁ F k₁ => ?_) (by decide)
  have N : News g s.heap.objs.size h₁ [(r, listOf vs.toArray n)] := fun q hq => by
    cases hq with
    | head => exact ⟨k₁ _ _ ho, Nat.ne_of_lt (Heap.lt_size ho), hgr⟩
    | tail _ h => cases h
  repeat' walk1
  unfold Hold
  refine use_post (fun E' => bisL_b (X.keeps F.keep) (T.keeps F.keep) (by show _ + 1 + 10 < _; omega) (by show _ + 3 + 500 < _; omega) (bisL_2 (X.keeps F.keep)) (News.isList N (.head _)) (hrow.ext F.keep) (F.lst hl2) hs2 f2 (by omega) (hso.monoL x)) ?_
  rintro v h₂ tk₂ k₂ ⟨kl, tl, rfl, q1, q2, q3⟩
  replace F := F.keeps k₂
  replace N := N.grown k₂
  dsimp only at F N ⊢
  repeat' walk1
  unfold Hold
  refine use_post (fun E' => bisR_b (X.keeps F.keep) (T.keeps F.keep) (by show _ + 1 + 10 < _; omega) (by show _ + 3 + 500 < _; omega) (bisR_2 (X.keeps F.keep)) (News.isList N (.head _)) (hrow.ext F.keep) (F.lst hl2) hs2 f2 (by omega) (hso.monoR x)) ?_
  rintro v h₃ tk₃ k₃ ⟨kr, tr, rfl, q4, q5, q6⟩
  replace F := F.keeps k₃
  replace N := N.grown k₃
  dsimp only at F N ⊢
  repeat' walk1
  · unfold Hold
    rename (kl : Int) ≠ kr => hne
    refine use_post (fun E' => bisL_b (X.keeps F.keep) (T.keeps F.keep) (by show _ + 1 + 10 < _; omega) (by show _ + 3 + 500 < _; omega) (bisL_2 (X.keeps F.keep)) (News.isList N (.head _)) (hrow.ext F.keep) (F.lst hl2) hs2 f2 (by omega) (hso.monoL x)) ?_
    rintro v h₄ tk₄ k₄ ⟨k, t, rfl, q7, q8, q9⟩
    replace F := F.keeps k₄
    replace N := N.grown k₄
    dsimp only at F N ⊢
    have hin : kr = k + 1 ∧ k < rs.length ∧ rs.getD k [] = x := by
      rcases places hso q7 q8 q9 q4 q5 q6 with h | h
      · rcases places hso q1 q2 q3 q4 q5 q6 with h' | h'
        · exact absurd (congrArg Int.ofNat h'.1) hne
        · exact absurd (h'.2.2 ▸ getD_mem h'.2.1) h.2
      · exact h
    obtain ⟨_, hk, hx⟩ := hin
    have hlen := hrow.length
    repeat' walk1
    have hv : ∃ v, vs[k]? = some v := ⟨_, List.getElem?_eq_getElem (by omega)⟩
    obtain ⟨v, hv⟩ := hv
    refine kl_popAt F N (by simp [Builtin.List.listFitsIndex]; omega) (k := k) (by simp [seqIndex?]; omega) (cut_at vs k v hv) (Upd.head (by intro p hp; cases hp)) (by simp [sizeLine_eq]; omega) (fun h₅ F₅ N₅ => ?_)
    repeat' walk1
    refine PostM.mk' F₅.keep ⟨_, _, _, (N₅ _ (.head _)).1, fun h R _ => (R.take k).append (R.drop (k + 1)), del_sorted hso, by simp; omega, fun y => ?_⟩
    rw [del_mem hso hk, hx]
    by_cases e : y = x
    · subst e; simp [hx ▸ getD_mem hk]
    · simp [e]
  · unfold Hold
    rename (kl : Int) = kr => hne
    have hgh : Ext g (h₃.hide r) := ext_hide F.keep hgr
    refine use_postM (fun E' => insort_c (g := h₃.hide r) (X.keeps hgh) (T.keeps hgh) (by show _ + 1 + 20 < _; omega) (by show _ + 3 + 600 < _; omega) (fun _ _ e => Heap.of_hide e) (Nat.le_of_eq (Heap.hide_size ..)) (Heap.hide_self ..) (N _ (.head _)).1 (hrow.ext hgh) (let ⟨o, ho, q⟩ := hl2; ⟨o, hgh _ _ ho, q⟩) hs2 f2 (by omega) (hso.monoR x)) ?_
    rintro v h₄ tk₄ k₄ ⟨k, n', e4, q7, q8, q9⟩
    have hin : kl = kr ∧ x ∉ rs := by
      rcases places hso q1 q2 q3 q4 q5 q6 with h | h
      · exact h
      · exfalso; have := h.1; omega
    have hkk : k = kl := by
      rcases places hso q1 q2 q3 q7 q8 q9 with h | h
      · exact h.1.symm
      · exact absurd (h.2.2 ▸ getD_mem h.2.1) hin.2
    subst hkk
    replace F := (Fr.hide F hgr (N _ (.head _)).2.1).keeps k₄
    dsimp only at F ⊢
    have N' : News g s.heap.objs.size h₄ [] := News.nil
    clear N
    repeat' walk1
    refine PostM.mk' F.keep ⟨_, _, _, e4, fun h R W => (R.take k).append (.cons W f2 (R.drop k)), ins_sorted hso q2 q9, by simp; omega, fun y => ?_⟩
    rw [ins_mem]
    by_cases e : y = x
    · subst e; simp [hin.2]
    · simp [e]
end Mine
end
section
open PySem PySem.W PySem.Calls PyProof.Rows
set_option maxRecDepth 100000
set_option maxHeartbeats 4000000
set_option autoImplicit false
namespace Mine
local macro_rules | `(tactic| walk_at "exec Assign cons ListComp") => `(tactic| refine hold ?_)

local macro_rules | `(tactic| walk_at "eval Name") => `(tactic| (k_here; first | (refine nm_local (by assumption) (by assumption) ?_ rfl rfl rfl rfl) | (refine nm_cell rfl (Fr.keep (by assumption) _ _ (by assumption)) (by assumption) ?_ rfl rfl rfl)))

local macro_rules | `(tactic| walk_at "newList") => `(tactic| (k_here; (rename Gr _ _ => Gx); k_dflt (refine' newList_g ?k1 ?k2 ?_ ?z; (case k1 => k_asm); (case k2 => k_asm); (case z => exact Nat.le_of_ble_eq_true rfl); k_whole); intro l' h' F' N' l1 kx; (have G' := Gr.trans Gx kx); (try k_lt l1); (try dsimp only)))

def Pcs : List Str := [Str.ofString "", Str.ofString "a", Str.ofString "a!", Str.ofString "b"]
/-- the shape of what _law_parts gives back -/
def Shape (ss : List Str) : Prop := ∃ host ps, ss = host :: Str.ofString "" :: ps ∧ host ∈ [Str.ofString "g", Str.ofString "h"] ∧ ps.length ≤ 3 ∧ ∀ q ∈ ps, q ∈ Pcs

theorem pcs_of : ∀ {us ys : List Value}, Paired (fun _ y => ∃ q u, y = Value.str q u ∧ q ∈ Pcs) us ys → ∃ ps, StrsAre ys ps ∧ (∀ q ∈ ps, q ∈ Pcs) ∧ ps.length = us.length
  | _, _, .nil => ⟨[], .nil, fun _ h => (nomatch h), rfl⟩
  | _, _, .cons ⟨q, u, e, hq⟩ r => by
    obtain ⟨ps, a, b, c⟩ := pcs_of r
    subst e
    refine ⟨q :: ps, .cons q u a, fun z hz => ?_, by simp [c]⟩
    rcases List.mem_cons.mp hz with rfl | hz
    · exact hq
    · exact b z hz

local macro_rules | `(tactic| walk_at "binaryOp Add ref ref") => `(tactic| refine hold ?_)
theorem parts_c {w : World} {A : Around} {E : Value → Shared → Prop} {s : Shared} {p : Program} {loose : List Str} {mean : ExcName → Option Value} {mg mb : Str → Option Value}
    {x : Int} {t : Tok} (X : (hd.heap_39 w.params).In s.heap) (T : Top p loose mean mg mb s.heap) (hr : A.depth + 10 < recursionLimit) (hu : A.units + 500 < cLine) (hh : A.handled = none) :
    wpAny (model prg w) A (call (.ref 103) [.int x t]) (Post s fun v h => ∃ l ss, v = .ref l ∧ Wds h l ss ∧ Shape ss ∧ s.heap.get? l = none) E s := by
  refine enter_fnC X T (fun _ _ e => e) (Nat.le_refl _) (K := hd.heap_39 w.params) (by k_is) (by k_is) (by omega) (BindsTo.of_eq (binds := [("x", .int x t)]) rfl) rfl (by decide +kernel) (fun h₁ tk cells F N Y k₁ => ?_)
  k_cells Y
  repeat' walk1
  unfold Hold
  rename Fr _ _ _ _ => F'
  rename News _ _ _ _ => N'
  rename Obj => oc
  rename oc.data = _ => hoc
  refine comp_range_asg (h₀ := s.heap) (L := s.heap.objs.size) (fun _ => true) (fun _ y => ∃ q u, y = .str q u ∧ q ∈ Pcs) rfl rfl hh (cl := [("digits", s.heap.objs.size + 1)]) rfl (by decide) rfl (by decide) rfl rfl rfl ?_ (fun _ => rfl)
  repeat' walk1
  unfold Hold
  rename Fr _ _ _ _ => F'
  rename News _ _ _ _ => N'
  rename IsRange _ _ _ _ _ _ _ _ => R'
  have e4 : (x.fdiv 2).fmod 4 = ((x.fdiv 2).fmod 4).toNat ∧ ((x.fdiv 2).fmod 4).toNat ≤ 3 := by rw [Int.fmod_eq_emod_of_nonneg _ (by decide)]; omega
  refine ⟨_, _, _, _, _, _, ((x.fdiv 2).fmod 4).toNat, _, _, rfl, R', ?_, ?_, by omega, F', N', ⟨?_, ?_⟩, ?_⟩
  · exact small_one (by decide) (by decide) (by omega) (by omega)
  · rw [rangeSize_nat]; simp
  · intro C v s₂ m₂ Fc hv hm
    exact tests_nil ⟨rfl, _, _, rfl, fun _ _ e => e⟩
  · rintro C v s₂ m₂ Fc ⟨i, ti, hi, rfl⟩ - hm
    dsimp only at Fc hoc
    have hc := (N' _ (.head _)).1
    have Nc := no_news Fc
    have G := Gr.refl s₂.heap
    clear F' N' R'
    have hi3 : i = 0 ∨ i = 1 ∨ i = 2 := by omega
    rcases hi3 with rfl | rfl | rfl
    all_goals (repeat' walk1)
    all_goals (first | decide | (rename Gr _ _ => Gz; exact ⟨_, _, rfl, Gz.ext⟩))
  · rintro D ys k h' tk' vs F₃ N₃ hne hvs hP
    obtain ⟨ps, hps, hmem, hlen⟩ := pcs_of hP
    have hlen2 : (List.filter (fun _ => true) vs).length ≤ vs.length := List.length_filter_le _ _
    have hlen3 : ps.length ≤ 3 := by have := hvs.1; omega
    repeat' walk1
    unfold Hold
    rename Fr _ _ _ _ => F₅
    rename News _ _ _ _ => N₅
    dsimp only
    have hho : Txt.item (Str.ofString "gh") (x.fmod 2) ∈ [Str.ofString "g", Str.ofString "h"] := by
      have e2 : x.fmod 2 = 0 ∨ x.fmod 2 = 1 := by rw [Int.fmod_eq_emod_of_nonneg _ (by decide)]; omega
      rcases e2 with e | e <;> rw [e] <;> decide +kernel
    refine add_w F₅ N₅ (News.isList N₅ (.head _)) (.cons _ _ (.cons _ _ .nil)) (News.isList N₅ (.tail _ (.head _))) hps (by simp; omega) (fun l' h'' ws F₄ N₄ _ S₄ => ?_)
    exact Post.mk' F₄.keep ⟨l', _, rfl, ⟨ws, News.isList N₄ (.head _), S₄⟩, ⟨_, ps, rfl, hho, hlen3, hmem⟩, (N₄ _ (.head _)).2.2⟩
end Mine
end
section
open PySem PySem.W PySem.Calls PyProof.Rows
set_option autoImplicit false
namespace Mine
theorem ok_append {x y : Str} (h1 : PyData.strOk x = true) (h2 : PyData.strOk y = true) : PyData.strOk (x ++ y) = true := by
  unfold PyData.strOk at *
  rw [Str.cps_append, Array.all_append, h1, h2]; rfl
theorem join_ok0 : ∀ {ss : List Str}, (∀ x ∈ ss, x ∈ Al) → PyData.strOk (Str.join (Str.ofString "/") ss) = true
  | [], _ => by decide +kernel
  | [x], h => al_ok x (h x (.head _))
  | x :: y :: r, h => ok_append (ok_append (al_ok x (h x (.head _))) (by decide +kernel)) (join_ok0 fun z hz => h z (.tail _ hz))
theorem sum_le {ss : List Str} (h : ∀ x ∈ ss, x ∈ Al) : (ss.map (·.length)).sum ≤ 2 * ss.length := by
  induction ss with
  | nil => simp
  | cons x r ih =>
    have a := ih fun z hz => h z (.tail _ hz)
    have b := al_len x (h x (.head _))
    simp only [List.map_cons, List.sum_cons, List.length_cons]; omega
theorem join_ok {ss : List Str} (h : Few ss) : PyData.strOk (Txt.join (Str.ofString "/") ss) = true ∧ (Txt.join (Str.ofString "/") ss).length ≤ 200 := by
  unfold Txt.join
  rw [StrLaws.glued_eq_join]
  refine ⟨join_ok0 h.2, ?_⟩
  have a := StrLaws.join_length_le (Str.ofString "/") ss
  have b := sum_le h.2
  have c := h.1
  have d : (Str.ofString "/").length = 1 := by decide
  rw [d] at a; omega
end Mine
end
section
open PySem PySem.W PySem.Calls PyProof.Rows
set_option autoImplicit false
namespace Mine
/-! the order and the empty piece -/
abbrev e0 : Str := Str.ofString ""
theorem e0_nil : e0.cps.toList = [] := by decide +kernel
theorem slt_e0 (x : Str) : slt x e0 = false := by unfold slt; rw [e0_nil]; simp
theorem slt_e0l {x : Str} (h : x ≠ e0) : slt e0 x = true := by
  cases q : slt e0 x with
  | true => rfl
  | false => exact absurd (slt_total (slt_e0 x) q) h
theorem wlt_app : ∀ (p a b : List Str), wlt (p ++ a) (p ++ b) = wlt a b
  | [], _, _ => rfl
  | x :: p, a, b => by show wlt (x :: (p ++ a)) (x :: (p ++ b)) = _; rw [wlt, if_pos rfl]; exact wlt_app p a b
theorem wlt_ext (p a : List Str) : wlt (p ++ a) p = false := by
  have := wlt_app p a []
  rw [List.append_nil] at this
  rw [this, wlt_nil_right]
theorem wlt_one (x : Str) (xs : List Str) : wlt (x :: xs) [e0] = false := by
  rw [wlt]
  by_cases h : x = e0
  · rw [if_pos h, wlt_nil_right]
  · rw [if_neg h, slt_e0]
theorem wlt_one' (t : List Str) : wlt (t ++ [e0]) [e0] = false := by cases t <;> exact wlt_one _ _
theorem wlt_onel {x : Str} {xs : List Str} (h : wlt [e0] (x :: xs) = false) : x = e0 ∧ xs = [] := by
  rw [wlt] at h
  by_cases e : e0 = x
  · rw [if_pos e] at h
    refine ⟨e.symm, ?_⟩
    cases xs with
    | nil => rfl
    | cons y ys => cases h
  · rw [if_neg e, slt_e0l (fun q => e q.symm)] at h; cases h

/-! covers -/
theorem stem_cases (r : List Str) : r = stemOf r ∨ r = stemOf r ++ [e0] := by
  unfold stemOf
  by_cases h : (r.getD (r.length - 1) Str.empty == Str.ofString "") = true
  · rw [if_pos h]
    rcases List.eq_nil_or_concat r with rfl | ⟨d, l, rfl⟩
    · left; rfl
    · right
      have e : (d ++ [l]).getD ((d ++ [l]).length - 1) Str.empty = l := by simp
      simp only [List.concat_eq_append] at h ⊢
      rw [e] at h
      have : l = e0 := by simpa using h
      subst this
      simp
  · rw [if_neg h]; left; rfl
theorem stem_app (st : List Str) : stemOf (st ++ [e0]) = st := by
  unfold stemOf
  have e : (st ++ [e0]).getD ((st ++ [e0]).length - 1) Str.empty = e0 := by simp
  rw [e, if_pos (by decide)]
  simp
theorem cov_of {r P : List Str} {c : Str} {u : List Str} (h : P = stemOf r ++ c :: u) : covers r P = true := by
  unfold covers
  have e1 : P.take (stemOf r).length = stemOf r := by rw [h]; simp
  have e2 : (stemOf r).length < P.length := by rw [h]; simp
  rw [decide_eq_true e1, decide_eq_true e2]; simp
theorem cov_st {st u : List Str} {c : Str} : covers st (st ++ c :: u) = true := by
  rcases stem_cases st with h | h
  · exact cov_of (c := c) (u := u) (by rw [← h])
  · have e : st ++ c :: u = stemOf st ++ e0 :: c :: u := by
      conv => lhs; rw [h]
      simp
    exact cov_of e
theorem cov_st0 {st u : List Str} {c : Str} : covers (st ++ [e0]) (st ++ c :: u) = true := cov_of (c := c) (u := u) (by rw [stem_app])
theorem cov_self (r : List Str) : covers r r = true := by unfold covers; simp
theorem cov_char {r P : List Str} (h : covers r P = true) : r = P ∨ ∃ st c u, P = st ++ c :: u ∧ (r = st ∨ r = st ++ [e0]) := by
  unfold covers at h
  rw [Bool.or_eq_true, Bool.and_eq_true] at h
  rcases h with h | ⟨h1, h2⟩
  · left; simpa using h
  · right
    have h1 : P.take (stemOf r).length = stemOf r := by simpa using h1
    have h2 : (stemOf r).length < P.length := by simpa using h2
    have e : P = stemOf r ++ P.drop (stemOf r).length := by conv => lhs; rw [← List.take_append_drop (stemOf r).length P, h1]
    cases q : P.drop (stemOf r).length with
    | nil => have := List.drop_eq_nil_iff.mp q; omega
    | cons c u => exact ⟨stemOf r, c, u, by rw [← q]; exact e, stem_cases r⟩

/-! the leaps -/
/-- what _law_leaps is to give back -/
def LeapOk (rs : List (List Str)) (parts : List Str) (res : List (List Str)) : Prop :=
  (res = [] ∧ ∀ r ∈ rs, covers r parts = false) ∨ (∃ near, near ∈ rs ∧ res = [near] ∧ covers near parts = true ∧ ∀ r ∈ rs, covers r parts = true → r = near ∨ wlt r near = true)
/-- an address -/
def Shp (ss : List Str) : Prop := ∃ host ps, ss = host :: Str.ofString "" :: ps ∧ host ∈ [Str.ofString "g", Str.ofString "h"] ∧ ps.length ≤ 4 ∧ ∀ q ∈ ps, q ∈ Pcs

/-- what holds ahead of each turn of the leaps -/
def LeapInv (rs : List (List Str)) (parts : List Str) (i : Nat) (R : List Str) : Prop :=
  ((i = 0 ∧ R = parts) ∨ (1 ≤ i ∧ ∃ k, k + i ≤ parts.length ∧ R = parts.take k ++ [Str.ofString ""])) ∧ ∀ r ∈ rs, covers r parts = true → wlt R r = false
theorem leap_start (rs : List (List Str)) (parts : List Str) : LeapInv rs parts 0 parts := by
  refine ⟨.inl ⟨rfl, rfl⟩, fun r _ hc => ?_⟩
  rcases cov_char hc with rfl | ⟨st, c, u, rfl, rfl | rfl⟩
  · exact wlt_irrefl _
  · exact wlt_ext _ _
  · rw [wlt_app]; exact wlt_one _ _
theorem leap_none {rs : List (List Str)} {parts : List Str} {i : Nat} {R : List Str} {pl : Nat} (h : LeapInv rs parts i R) (h0 : pl = 0) (q3 : ∀ i, pl ≤ i → i < rs.length → wlt R (rs.getD i []) = true) : ∀ r ∈ rs, covers r parts = false := by
  intro r hr
  obtain ⟨j, hj, rfl⟩ := mem_getD hr
  cases q : covers (rs.getD j []) parts with
  | false => rfl
  | true => have a := h.2 _ hr q; rw [q3 j (by omega) hj] at a; cases a
theorem leap_best {rs : List (List Str)} {parts near : List Str} {i : Nat} {R : List Str} {pl : Nat} (h : LeapInv rs parts i R) (hso : SSorted rs) (hn : near = rs.getD (pl - 1) []) (hp : pl ≤ rs.length) (h0 : pl ≠ 0)
    (q3 : ∀ i, pl ≤ i → i < rs.length → wlt R (rs.getD i []) = true) : ∀ r ∈ rs, covers r parts = true → r = near ∨ wlt r near = true := by
  intro r hr hc
  obtain ⟨j, hj, rfl⟩ := mem_getD hr
  have hlt : j < pl := by
    rcases Nat.lt_or_ge j pl with q | q
    · exact q
    · have a := h.2 _ hr hc; rw [q3 j q hj] at a; cases a
  subst hn
  rcases Nat.lt_or_eq_of_le (show j ≤ pl - 1 by omega) with q | q
  · exact .inr (hso.get q (by omega))
  · subst q; exact .inl rfl
theorem leap_end {rs : List (List Str)} {parts : List Str} {R : List Str} (h : LeapInv rs parts parts.length R) (hrs : ∀ y ∈ rs, Shape y) (hsh : Shp parts) : ∀ r ∈ rs, covers r parts = false := by
  intro r hr
  cases q : covers r parts with
  | false => rfl
  | true =>
    have a := h.2 r hr q
    have hR : R = [e0] := by
      rcases h.1 with ⟨h0, _⟩ | ⟨_, k, hk, rfl⟩
      · obtain ⟨host, ps, rfl, _⟩ := hsh; cases h0
      · have : k = 0 := by omega
        subst this; rfl
    obtain ⟨host, ps, rfl, hh, _⟩ := hrs r hr
    rw [hR] at a
    have b := (wlt_onel a).2
    cases b
/-- how much two rows of pieces share -/
theorem lcp : ∀ (near parts : List Str), ∃ pre n p, near = pre ++ n ∧ parts = pre ++ p ∧ ((List.range parts.length).filter fun j => decide (near.take (j + 1) = parts.take (j + 1))).length = pre.length ∧
    (n = [] ∨ p = [] ∨ ∃ d n' e p', n = d :: n' ∧ p = e :: p' ∧ d ≠ e)
  | near, [] => ⟨[], near, [], rfl, rfl, rfl, .inr (.inl rfl)⟩
  | [], y :: ys => by
    refine ⟨[], [], y :: ys, rfl, rfl, ?_, .inl rfl⟩
    simp
  | x :: xs, y :: ys => by
    by_cases h : x = y
    · subst h
      obtain ⟨pre, n, p, e1, e2, e3, e4⟩ := lcp xs ys
      refine ⟨x :: pre, n, p, by rw [e1]; rfl, by rw [e2]; rfl, ?_, e4⟩
      show _ = pre.length + 1
      rw [← e3, List.length_cons, List.range_succ_eq_map, List.filter_cons_of_pos (by simp), List.filter_map, List.length_cons, List.length_map]
      congr 2
      apply List.filter_congr
      intro j _
      simp
    · refine ⟨[], x :: xs, y :: ys, rfl, rfl, ?_, .inr (.inr ⟨x, xs, y, ys, rfl, rfl, h⟩)⟩
      simp [h]
theorem leap_next {rs : List (List Str)} {parts near : List Str} {i : Nat} {R : List Str} {pl c : Nat} (h : LeapInv rs parts i R) (hso : SSorted rs) (hi : i < parts.length) (hn : near = rs.getD (pl - 1) []) (hp : pl ≤ rs.length) (h0 : pl ≠ 0)
    (q2 : ∀ i, i < pl → wlt R (rs.getD i []) = false) (q3 : ∀ i, pl ≤ i → i < rs.length → wlt R (rs.getD i []) = true) (hc : covers near parts = false)
    (hcnt : c = ((List.range parts.length).filter fun j => decide (near.take (j + 1) = parts.take (j + 1))).length) : LeapInv rs parts (i + 1) (parts.take c ++ [Str.ofString ""]) := by
  have best := leap_best h hso hn hp h0 q3
  have hRn : wlt R near = false := by rw [hn]; exact q2 _ (by omega)
  have hpR : wlt parts R = false := by
    rcases h.1 with ⟨_, rfl⟩ | ⟨h1, k, hk, rfl⟩
    · exact wlt_irrefl _
    · have hlt : k < parts.length := by omega
      have e : parts = parts.take k ++ (parts[k] :: parts.drop (k + 1)) := by rw [← List.drop_eq_getElem_cons hlt, List.take_append_drop]
      have := wlt_app (parts.take k) (parts[k] :: parts.drop (k + 1)) [e0]
      rw [← e, wlt_one] at this
      exact this
  have hpn : wlt parts near = false := by
    cases q : wlt parts near with
    | false => rfl
    | true =>
      cases q' : wlt R parts with
      | true => rw [wlt_trans q' q] at hRn; cases hRn
      | false => rw [wlt_total q' hpR, q] at hRn; cases hRn
  obtain ⟨pre, n, p, e1, e2, e3, e4⟩ := lcp near parts
  rw [e3] at hcnt
  subst hcnt
  clear hn q2 q3 e3
  subst e1 e2
  rw [List.take_left' rfl]
  rcases e4 with rfl | rfl | ⟨d, n', e, p', rfl, rfl, hde⟩
  · exfalso
    cases p with
    | nil => rw [cov_self] at hc; cases hc
    | cons x p => rw [List.append_nil, cov_st] at hc; cases hc
  · exfalso
    cases n with
    | nil => rw [cov_self] at hc; cases hc
    | cons x n => rw [wlt_app] at hpn; cases hpn
  · have hed : slt e d = false := by rw [wlt_app, wlt, if_neg (fun q => hde q.symm)] at hpn; exact hpn
    refine ⟨.inr ⟨by omega, pre.length, ?_, by rw [List.take_left' rfl]⟩, fun r hr hcr => ?_⟩
    · rcases h.1 with ⟨rfl, _⟩ | ⟨h1, k, hk, rfl⟩
      · simp
      · have hck : pre.length < k := by
          rcases Nat.lt_or_ge pre.length k with q | q
          · exact q
          · exfalso
            have ek : (pre ++ e :: p').take k = pre.take k := List.take_append_of_le_length q
            have en : pre ++ d :: n' = pre.take k ++ (pre.drop k ++ d :: n') := by rw [← List.append_assoc, List.take_append_drop]
            rw [ek, en, wlt_app] at hRn
            cases hq : pre.drop k with
            | nil =>
              rw [hq] at hRn
              obtain ⟨rfl, rfl⟩ := wlt_onel hRn
              rw [cov_st0] at hc; cases hc
            | cons y ys =>
              rw [hq] at hRn
              have := (wlt_onel hRn).2
              simp at this
        omega
    · rcases best r hr hcr with rfl | hlt
      · rw [hcr] at hc; cases hc
      · have key : ∀ t, wlt (pre ++ e :: t) (pre ++ d :: n') = false := fun t => by rw [wlt_app, wlt, if_neg (fun q => hde q.symm)]; exact hed
        rcases cov_char hcr with rfl | ⟨st, x, u, eq, hr'⟩
        · rw [hpn] at hlt; cases hlt
        · have fin : ∀ t, pre = st ++ t → wlt (pre ++ [e0]) r = false := by
            rintro t rfl
            rw [List.append_assoc]
            rcases hr' with rfl | rfl
            · exact wlt_ext _ _
            · rw [wlt_app]; exact wlt_one' _
          rcases List.append_eq_append_iff.mp eq with ⟨t, e5, e6⟩ | ⟨t, e5, e6⟩
          · cases t with
            | nil => exact fin [] (by rw [e5]; simp)
            | cons y ys =>
              exfalso
              obtain ⟨rfl, _⟩ := List.cons.inj e6
              subst e5
              rcases hr' with rfl | rfl
              · rw [key] at hlt; cases hlt
              · rw [List.append_assoc] at hlt
                have := key (ys ++ [e0])
                rw [show (e :: ys) ++ [e0] = e :: (ys ++ [e0]) from rfl, this] at hlt; cases hlt
          · exact fin t e5
end Mine
end
section
open PySem PySem.W PySem.Calls PyProof.Rows
set_option autoImplicit false
namespace Mine
/-! the path of the pieces, as code points -/
def J (ps : List Str) : List Nat := ps.flatMap fun p => 47 :: p.cps.toList
theorem J_cons (p : Str) (ps : List Str) : J (p :: ps) = 47 :: (p.cps.toList ++ J ps) := by simp [J]
theorem J_app (ps qs : List Str) : J (ps ++ qs) = J ps ++ J qs := by simp [J]
theorem J_e0 : J [e0] = [47] := by decide +kernel
theorem sl_cps : (Str.ofString "/").cps.toList = [47] := by decide +kernel
theorem tl_app (a b : Str) : (a ++ b).cps.toList = a.cps.toList ++ b.cps.toList := by rw [Str.cps_append]; simp
theorem join_J (x : Str) : ∀ ps : List Str, (Str.join (Str.ofString "/") (x :: ps)).cps.toList = x.cps.toList ++ J ps := by
  intro ps
  induction ps generalizing x with
  | nil => simp [Str.join, J]
  | cons y ps ih =>
    show ((x ++ Str.ofString "/") ++ Str.join (Str.ofString "/") (y :: ps)).cps.toList = _
    rw [tl_app, tl_app, ih, sl_cps, J_cons]; simp
theorem path_J (ps : List Str) : (Txt.join (Str.ofString "/") (Str.ofString "" :: ps)).cps.toList = J ps := by
  unfold Txt.join
  rw [StrLaws.glued_eq_join, join_J, e0_nil]; rfl
theorem str_ext {a b : Str} (h : a.cps.toList = b.cps.toList) : a = b := by
  obtain ⟨a⟩ := a; obtain ⟨b⟩ := b
  simpa using h
theorem starts_iff (z y : Str) : Txt.startswith z y = true ↔ y.cps.toList <+: z.cps.toList := by
  unfold Txt.startswith
  rw [StrLaws.subAt_eq, Bool.and_eq_true]
  simp only [List.drop_zero, beq_iff_eq, decide_eq_true_eq]
  have hl : ∀ x : Str, x.length = x.cps.toList.length := fun x => by simp [Str.length]
  rw [hl, hl]
  constructor
  · rintro ⟨_, h⟩; rw [← h]; exact List.take_prefix _ _
  · intro h
    exact ⟨by have := h.length_le; omega, (List.prefix_iff_eq_take.mp h).symm⟩
theorem pcs_no : ∀ q ∈ Pcs, 47 ∉ q.cps.toList := by decide +kernel
/-- two pieces without a slash, something behind each -/
theorem pq_iff : ∀ {p q a b : List Nat}, 47 ∉ p → 47 ∉ q → (∀ r, r ++ a ≠ r → True) → (∃ a', a = 47 :: a') → (b = [] ∨ ∃ b', b = 47 :: b') → (p ++ a <+: q ++ b ↔ p = q ∧ a <+: b)
  | [], [], a, b, _, _, _, _, _ => by simp
  | [], y :: q, a, b, _, h2, _, ⟨a', e⟩, _ => by
    subst e
    have : (47 : Nat) ≠ y := fun e => h2 (by rw [e]; exact .head _)
    simp [List.cons_prefix_cons, this]
  | x :: p, [], a, b, h1, _, _, _, hb => by
    have hx : x ≠ 47 := fun e => h1 (by rw [← e]; exact .head _)
    rcases hb with rfl | ⟨b', rfl⟩
    · simp
    · simp [List.cons_prefix_cons, hx]
  | x :: p, y :: q, a, b, h1, h2, _, ha, hb => by
    have ih := pq_iff (p := p) (q := q) (a := a) (b := b) (fun e => h1 (.tail _ e)) (fun e => h2 (.tail _ e)) (fun _ _ => trivial) ha hb
    simp only [List.cons_append, List.cons_prefix_cons, ih, List.cons.injEq]
    constructor
    · rintro ⟨a, b, c⟩; exact ⟨⟨a, b⟩, c⟩
    · rintro ⟨⟨a, b⟩, c⟩; exact ⟨a, b, c⟩
theorem J_head (ps : List Str) : J ps = [] ∨ ∃ b', J ps = 47 :: b' := by
  cases ps with
  | nil => exact .inl rfl
  | cons p ps => exact .inr ⟨_, J_cons p ps⟩
theorem J_head1 (ps : List Str) (t : List Nat) : ∃ b', J ps ++ 47 :: t = 47 :: b' := by
  cases ps with
  | nil => exact ⟨_, rfl⟩
  | cons p ps => exact ⟨_, by rw [J_cons]; rfl⟩
/-- a path with a slash behind it begins another just where its pieces begin the other's, which are more -/
theorem J_pre : ∀ {ns ps : List Str}, (∀ q ∈ ns, q ∈ Pcs) → (∀ q ∈ ps, q ∈ Pcs) → (J ns ++ [47] <+: J ps ↔ ns <+: ps ∧ ns.length < ps.length)
  | [], [], _, _ => by simp [J]
  | [], p :: ps, _, _ => by rw [J_cons]; simp [J, List.cons_prefix_cons]
  | n :: ns, [], _, _ => by rw [J_cons]; simp [J]
  | n :: ns, p :: ps, h1, h2 => by
    have ih := J_pre (ns := ns) (ps := ps) (fun q hq => h1 q (.tail _ hq)) (fun q hq => h2 q (.tail _ hq))
    rw [J_cons, J_cons, List.cons_append, List.cons_prefix_cons, List.append_assoc,
      pq_iff (pcs_no n (h1 n (.head _))) (pcs_no p (h2 p (.head _))) (fun _ _ => trivial) (J_head1 ns []) (J_head ps), ih, List.cons_prefix_cons]
    constructor
    · rintro ⟨_, e, h, l⟩
      exact ⟨⟨str_ext e, h⟩, by simpa using l⟩
    · rintro ⟨⟨rfl, h⟩, l⟩
      exact ⟨rfl, rfl, h, by simpa using l⟩
theorem J_inj {ns ps : List Str} (h1 : ∀ q ∈ ns, q ∈ Pcs) (h2 : ∀ q ∈ ps, q ∈ Pcs) (h : J ns = J ps) : ns = ps := by
  have e0p : e0 ∈ Pcs := by decide
  have up : ∀ {l : List Str}, (∀ q ∈ l, q ∈ Pcs) → ∀ q ∈ l ++ [e0], q ∈ Pcs := fun hl q hq => by
    rcases List.mem_append.mp hq with q' | q'
    · exact hl q q'
    · rw [List.mem_singleton.mp q']; exact e0p
  have a := (J_pre h1 (up h2)).mp (by rw [J_app, J_e0, h]; exact List.prefix_rfl)
  have b := (J_pre h2 (up h1)).mp (by rw [J_app, J_e0, h]; exact List.prefix_rfl)
  have l1 := a.2; have l2 := b.2
  rw [List.length_append] at l1 l2
  simp only [List.length_cons, List.length_nil] at l1 l2
  have hl : ns.length = ps.length := by omega
  obtain ⟨t, ht⟩ := a.1
  exact (List.append_inj ht hl).1
theorem last_slash (y : Str) : (Txt.slice y (some (-1)) none != Str.ofString "/") = !(y.cps.toList.drop (y.cps.toList.length - 1) == [47]) := by
  have e : Txt.slice y (some (-1)) none = ⟨(y.cps.toList.drop (y.cps.toList.length - 1)).toArray⟩ := by
    by_cases h : y.cps.toList.length = 0
    · have : y = Str.empty := str_ext (by rw [List.eq_nil_of_length_eq_zero h]; rfl)
      subst this; decide +kernel
    · have hl : y.length = y.cps.toList.length := by simp [Str.length]
      have := StrLaws.sliceText_from_neg (x := y) (i := -1) (by decide) (by omega)
      have e2 : Txt.slice y (some (-1)) none = StrLaws.sliceText y (some (-1)) none := rfl
      rw [e2, this, hl]
      have e3 : (-1 + (y.cps.toList.length : Int)).toNat = y.cps.toList.length - 1 := by omega
      rw [e3, List.take_of_length_le (by rw [List.length_drop]; omega)]
  rw [e]
  have : ((⟨(y.cps.toList.drop (y.cps.toList.length - 1)).toArray⟩ : Str) == Str.ofString "/") = (y.cps.toList.drop (y.cps.toList.length - 1) == [47]) := by
    rw [Bool.eq_iff_iff]
    simp only [beq_iff_eq]
    constructor
    · intro q; have := congrArg (fun z : Str => z.cps.toList) q; simpa [sl_cps] using this
    · intro q; exact str_ext (by rw [sl_cps, ← q])
  rw [← this]; rfl
end Mine
end
section
open PySem PySem.W PySem.Calls PyProof.Rows
set_option autoImplicit false
namespace Mine
theorem pre_take {ns ps : List Str} : (ns <+: ps ∧ ns.length < ps.length) ↔ (ps.take ns.length = ns ∧ ns.length < ps.length) := by
  rw [List.prefix_iff_eq_take]
  constructor
  · rintro ⟨a, b⟩; exact ⟨a.symm, b⟩
  · rintro ⟨a, b⟩; exact ⟨a.symm, b⟩
theorem sub_same (h : Str) (y z : Str) : sub4 h y h z = true ↔ (y = z ∨ (if (y.cps.toList.drop (y.cps.toList.length - 1) == [47]) = true then y.cps.toList <+: z.cps.toList else y.cps.toList ++ [47] <+: z.cps.toList)) := by
  unfold sub4
  rw [last_slash]
  by_cases e : y = z
  · simp [e]
  · simp only [e, and_false, if_false, bne_self_eq_false, Bool.false_eq_true, false_or]
    cases q : (y.cps.toList.drop (y.cps.toList.length - 1) == [47]) with
    | true => simp only [Bool.not_true, Bool.false_eq_true, if_false, if_true]; exact starts_iff z y
    | false =>
      simp only [Bool.not_false, if_true, Bool.false_eq_true, if_false]
      rw [starts_iff, tl_app, sl_cps]
theorem cov_iff (r P : List Str) : covers r P = true ↔ (r = P ∨ (P.take (stemOf r).length = stemOf r ∧ (stemOf r).length < P.length)) := by
  unfold covers; simp
theorem stem_no {st : List Str} {q : Str} (h : q ≠ e0) : stemOf (st ++ [q]) = st ++ [q] := by
  unfold stemOf
  have e : (st ++ [q]).getD ((st ++ [q]).length - 1) Str.empty = q := by simp
  rw [e, if_neg (by simpa using h)]
theorem pcs_last : ∀ q ∈ Pcs, q ≠ e0 → ∃ i c, q.cps.toList = i ++ [c] ∧ c ≠ 47 := by
  intro q hq hne
  rcases List.eq_nil_or_concat q.cps.toList with h | ⟨i, c, h⟩
  · exact absurd (str_ext (by rw [h, e0_nil])) hne
  · rw [List.concat_eq_append] at h
    exact ⟨i, c, h, fun e => pcs_no q hq (by rw [h, e]; simp)⟩
/-- is_suburi of the pairs tells what the parts tell -/
theorem cov_sub {nh ph : Str} {nps pps : List Str} (h1 : ∀ q ∈ nps, q ∈ Pcs) (h2 : ∀ q ∈ pps, q ∈ Pcs) :
    sub4 nh (Txt.join (Str.ofString "/") (Str.ofString "" :: nps)) ph (Txt.join (Str.ofString "/") (Str.ofString "" :: pps)) = covers (nh :: Str.ofString "" :: nps) (ph :: Str.ofString "" :: pps) := by
  by_cases hh : nh = ph
  · subst hh
    rw [Bool.eq_iff_iff, sub_same, cov_iff, path_J, path_J]
    have hyz : Txt.join (Str.ofString "/") (Str.ofString "" :: nps) = Txt.join (Str.ofString "/") (Str.ofString "" :: pps) ↔ nps = pps := by
      constructor
      · intro e
        have := congrArg (fun z : Str => z.cps.toList) e
        simp only [path_J] at this
        exact J_inj h1 h2 this
      · rintro rfl; rfl
    rw [hyz]
    have hrp : (nh :: Str.ofString "" :: nps = nh :: Str.ofString "" :: pps) ↔ nps = pps := by simp
    rw [hrp]
    rcases List.eq_nil_or_concat nps with rfl | ⟨n', q, hq⟩
    · have e : stemOf [nh, Str.ofString ""] = [nh] := stem_app [nh]
      rw [e]
      simp only [J, List.flatMap_nil, List.length_nil, List.drop_nil, List.nil_append]
      have e2 : (([] : List Nat) == [47]) = false := by decide
      simp only [e2, Bool.false_eq_true, if_false]
      constructor
      · intro _; right; simp
      · intro _
        cases pps with
        | nil => left; rfl
        | cons p pps => right; simp
    · rw [List.concat_eq_append] at hq
      subst hq
      have hq := h1 q (by simp)
      have h1' : ∀ z ∈ n', z ∈ Pcs := fun z hz => h1 z (by simp [hz])
      by_cases hqe : q = e0
      · subst hqe
        have e : stemOf (nh :: Str.ofString "" :: (n' ++ [e0])) = nh :: Str.ofString "" :: n' := stem_app (nh :: Str.ofString "" :: n')
        rw [e, J_app, J_e0]
        have e2 : ((J n' ++ [47]).drop ((J n' ++ [47]).length - 1) == [47]) = true := by simp
        rw [if_pos e2, J_pre h1' h2, pre_take]
        simp
      · have e : stemOf (nh :: Str.ofString "" :: (n' ++ [q])) = nh :: Str.ofString "" :: (n' ++ [q]) := stem_no (st := nh :: Str.ofString "" :: n') hqe
        obtain ⟨i, c, hc, hne⟩ := pcs_last q hq hqe
        have e3 : J (n' ++ [q]) = (J n' ++ 47 :: i) ++ [c] := by rw [J_app]; simp [J, hc]
        have e2 : ((J (n' ++ [q])).drop ((J (n' ++ [q])).length - 1) == [47]) = false := by
          rw [e3]; simp [hne]
        rw [e, e2, if_neg (by simp), J_pre h1 h2, pre_take]
        simp
  · have a : sub4 nh (Txt.join (Str.ofString "/") (Str.ofString "" :: nps)) ph (Txt.join (Str.ofString "/") (Str.ofString "" :: pps)) = false := by
      unfold sub4; simp [hh]
    rw [a]
    cases q : covers (nh :: Str.ofString "" :: nps) (ph :: Str.ofString "" :: pps) with
    | false => rfl
    | true =>
      exfalso
      rcases cov_char q with e | ⟨st, c, u, e, hr⟩
      · exact hh (List.cons.inj e).1
      · cases st with
        | nil => rcases hr with h | h <;> simp at h
        | cons x st =>
          have ex : ph = x := (List.cons.inj e).1
          rcases hr with h | h
          · exact hh ((List.cons.inj h).1.trans ex.symm)
          · exact hh ((List.cons.inj h).1.trans ex.symm)

/-! the longest -/
def keyLen (x : List Str) : Int := ((Txt.join (Str.ofString "/") x).length : Int)
def SL (x : List Str) : Nat := (x.map fun p => p.length + 1).sum
theorem SL_app (a b : List Str) : SL (a ++ b) = SL a + SL b := by simp [SL]
theorem SL_cons (a : Str) (b : List Str) : SL (a :: b) = a.length + 1 + SL b := by simp [SL]
theorem e0_len : e0.length = 0 := by decide +kernel
theorem SL_e0 : SL [e0] = 1 := by rw [SL_cons, e0_len]; rfl
theorem join_SL (x : Str) : ∀ ps : List Str, (Str.join (Str.ofString "/") (x :: ps)).length + 1 = SL (x :: ps) := by
  intro ps
  induction ps generalizing x with
  | nil => simp [Str.join, SL]
  | cons y ps ih =>
    show ((x ++ Str.ofString "/") ++ Str.join (Str.ofString "/") (y :: ps)).length + 1 = _
    have d : (Str.ofString "/").length = 1 := by decide
    rw [Str.length_append, Str.length_append, SL_cons, ← ih, d]; omega
theorem key_SL {x : List Str} (h : x ≠ []) : keyLen x + 1 = SL x := by
  cases x with
  | nil => exact absurd rfl h
  | cons x ps =>
    unfold keyLen Txt.join
    rw [StrLaws.glued_eq_join, ← join_SL]; push_cast; rfl
theorem SL_pos {x : List Str} (h : x ≠ []) : 0 < SL x := by
  cases x with
  | nil => exact absurd rfl h
  | cons x ps => rw [SL_cons]; omega
theorem len_pos {y : Str} (h : y ≠ e0) : 0 < y.length := by
  rcases Nat.eq_zero_or_pos y.length with q | q
  · exact absurd (str_ext (by rw [e0_nil]; exact List.eq_nil_of_length_eq_zero (by simpa [Str.length] using q))) h
  · exact q
theorem cov_two {r P : List Str} (h : covers r P = true) : (∃ t, P = r ++ t) ∨ ∃ st x u, r = st ++ [e0] ∧ P = st ++ x :: u := by
  rcases cov_char h with rfl | ⟨st, c, u, rfl, rfl | rfl⟩
  · exact .inl ⟨[], by simp⟩
  · exact .inl ⟨_, rfl⟩
  · exact .inr ⟨_, _, _, rfl, rfl⟩
/-- of two that cover an address the lower is the shorter -/
theorem cov_SL {a b P : List Str} (ha : covers a P = true) (hb : covers b P = true) (h : wlt a b = true) : SL a < SL b := by
  rcases cov_two ha with ⟨t, e1⟩ | ⟨st, x, u, rfl, e1⟩
  · rcases cov_two hb with ⟨t', e2⟩ | ⟨st', x', u', rfl, e2⟩
    · rw [e1] at e2
      rcases List.append_eq_append_iff.mp e2 with ⟨v, rfl, _⟩ | ⟨v, rfl, _⟩
      · have hv : v ≠ [] := by rintro rfl; rw [List.append_nil, wlt_irrefl] at h; cases h
        rw [SL_app]; have := SL_pos hv; omega
      · rw [wlt_ext] at h; cases h
    · rw [e1] at e2
      rcases List.append_eq_append_iff.mp e2 with ⟨v, rfl, _⟩ | ⟨v, rfl, _⟩
      · rw [SL_app, SL_app, SL_e0]; omega
      · cases v with
        | nil => rw [List.append_nil, SL_app, SL_e0]; omega
        | cons y ys => rw [wlt_app, wlt_one] at h; cases h
  · rcases cov_two hb with ⟨t', e2⟩ | ⟨st', x', u', rfl, e2⟩
    · rw [e1] at e2
      rcases List.append_eq_append_iff.mp e2 with ⟨v, rfl, _⟩ | ⟨v, rfl, _⟩
      · cases v with
        | nil => rw [List.append_nil, wlt_ext] at h; cases h
        | cons y ys =>
          rw [wlt_app] at h
          rw [SL_app, SL_app, SL_e0, SL_cons]
          by_cases hy : y = e0
          · subst hy
            cases ys with
            | nil => rw [wlt_irrefl] at h; cases h
            | cons z zs => rw [SL_cons]; omega
          · have := len_pos hy; omega
      · rw [List.append_assoc, wlt_ext] at h; cases h
    · rw [e1] at e2
      rcases List.append_eq_append_iff.mp e2 with ⟨v, rfl, _⟩ | ⟨v, rfl, _⟩
      · cases v with
        | nil => rw [List.append_nil, wlt_irrefl] at h; cases h
        | cons y ys => rw [SL_app, SL_app, SL_app, SL_e0, SL_cons]; omega
      · rw [List.append_assoc, wlt_app, wlt_one'] at h; cases h
theorem cov_key {a b P : List Str} (ha : covers a P = true) (hb : covers b P = true) (h : wlt a b = true) (na : a ≠ []) (nb : b ≠ []) : keyLen a < keyLen b := by
  have := cov_SL ha hb h
  have := key_SL na
  have := key_SL nb
  omega
/-- the last of the covering rules, put in order by length, is what the leaps find -/
theorem last_ok {rs ls fls fo res : List (List Str)} {P : List Str} (hok : LeapOk rs P res) (hse : ∀ y, y ∈ rs ↔ y ∈ ls) (hne : ∀ y ∈ ls, y ≠ []) (hfl : ls.filter (fun x => covers x P) = fls)
    (hlen : fo.length = fls.length) (h1 : ∀ x ∈ fo, x ∈ fls) (h2 : ∀ x ∈ fls, ∃ y ∈ fo, keyLen y = keyLen x) (h3 : fo.Pairwise fun a b => keyLen a ≤ keyLen b) : res = fo.drop (fo.length - 1) := by
  have mem : ∀ x, x ∈ fls ↔ x ∈ ls ∧ covers x P = true := fun x => by rw [← hfl, List.mem_filter]
  rcases hok with ⟨rfl, h⟩ | ⟨near, hn, rfl, hc, hb⟩
  · have : fls = [] := by
      cases hq : fls with
      | nil => rfl
      | cons x t =>
        have := (mem x).mp (by rw [hq]; exact .head _)
        rw [h x ((hse x).mpr this.1)] at this; cases this.2
    have : fo = [] := List.eq_nil_of_length_eq_zero (by rw [hlen, this]; rfl)
    rw [this]; rfl
  · have hnf : near ∈ fls := (mem near).mpr ⟨(hse near).mp hn, hc⟩
    rcases List.eq_nil_or_concat fo with rfl | ⟨i, l, e⟩
    · obtain ⟨y, hy, _⟩ := h2 near hnf; cases hy
    · rw [List.concat_eq_append] at e
      subst e
      have hl : l ∈ fls := h1 l (by simp)
      have hl' := (mem l).mp hl
      have hk : keyLen near ≤ keyLen l := by
        obtain ⟨y, hy, ey⟩ := h2 near hnf
        rcases List.mem_append.mp hy with q | q
        · rw [← ey]; exact (List.pairwise_append.mp h3).2.2 y q l (by simp)
        · rw [← ey, List.mem_singleton.mp q]; exact Int.le_refl _
      have : l = near := by
        rcases hb l ((hse l).mpr hl'.1) hl'.2 with q | q
        · exact q
        · have := cov_key hl'.2 hc q (hne l hl'.1) (hne near ((hse near).mp hn)); omega
      simp [this]
end Mine
end
section
open PySem PySem.W PySem.Calls PyProof.Rows
set_option maxRecDepth 100000
set_option maxHeartbeats 4000000
set_option autoImplicit false
namespace Mine
local macro_rules | `(tactic| walk_at "exec Assign cons ListComp") => `(tactic| refine hold ?_)
local macro_rules | `(tactic| walk_at "exec For") => `(tactic| refine hold ?_)
local macro_rules | `(tactic| walk_at "exec For Name Name cons nil") => `(tactic| refine hold ?_)
local macro_rules | `(tactic| walk_at "call ref") => `(tactic| refine hold ?_)
local macro_rules | `(tactic| walk_at "getMethod ref") => `(tactic| refine hold ?_)
local macro_rules | `(tactic| walk_at "binaryOp Add ref ref") => `(tactic| refine hold ?_)

/-- the manager, as the law makes it -/
def Mgr (h : Heap) (mo : Addr) : Prop := ∃ dx es n, h.get? mo = some (instObj 67 dx) ∧ h.get? dx = some (dictOf es n) ∧ getL (Str.ofString "is_suburi") es = some none
theorem Mgr.ext {h h' : Heap} {mo : Addr} (M : Mgr h mo) (k : Ext h h') : Mgr h' mo := let ⟨dx, es, n, a, b, c⟩ := M; ⟨dx, es, n, k _ _ a, k _ _ b, c⟩

theorem shared_count (near parts : List Str) {vs ys : List Value} (hv : RangeVals 1 parts.length vs)
    (hP : Paired (fun _ _ => True) (vs.filter fun v => match v with | .int k _ => decide (near.take k.toNat = parts.take k.toNat) | _ => false) ys) :
    ys.length = ((List.range parts.length).filter fun j => decide (near.take (j + 1) = parts.take (j + 1))).length := by
  rw [← hP.length]
  have key : vs.map (fun v => match v with | .int k _ => decide (near.take k.toNat = parts.take k.toNat) | _ => false) = (List.range parts.length).map fun j => decide (near.take (j + 1) = parts.take (j + 1)) := by
    apply List.ext_getElem
    · simp [hv.1]
    · intro j h1 h2
      have hj : j < vs.length := by simpa using h1
      obtain ⟨t, e⟩ := hv.2 j _ (List.getElem?_eq_getElem hj)
      simp only [List.getElem_map, List.getElem_range, e]
      have : (1 + (j : Int)).toNat = j + 1 := by omega
      rw [this]
  rw [← List.countP_eq_length_filter, ← List.countP_eq_length_filter]
  have a : ∀ {α : Type} (p : α → Bool) (l : List α), l.countP p = (l.map p).countP id := fun p l => by rw [List.countP_map]; rfl
  exact (a _ vs).trans (by rw [key]; exact (a _ _).symm)
theorem pcs_al : ∀ x ∈ Pcs, x ∈ Al := by decide
theorem host_al : ∀ x ∈ [Str.ofString "g", Str.ofString "h"], x ∈ Al := by decide
theorem Shp.few {ss : List Str} (h : Shp ss) : Few ss := by
  obtain ⟨host, ps, rfl, h1, h2, h3⟩ := h
  refine ⟨by simp; omega, fun x hx => ?_⟩
  rcases List.mem_cons.mp hx with rfl | hx
  · exact host_al _ h1
  · rcases List.mem_cons.mp hx with rfl | hx
    · decide
    · exact pcs_al _ (h3 _ hx)
theorem Shape.shp {ss : List Str} (h : Shape ss) : Shp ss := let ⟨a, b, c, d, e, f⟩ := h; ⟨a, b, c, d, by omega, f⟩

local macro_rules | `(tactic| walk_at "storeName") => `(tactic| (k_here; (with_reducible show wpAny _ _ (storeName _ (PySem.Str.ofString "near") _) _ _ _); refine hold ?_))
local macro_rules | `(tactic| walk_at "eval Name") => `(tactic| (k_here; (refine nm_local (by assumption) (by assumption) ?_ rfl rfl rfl rfl)))
local macro_rules | `(tactic| walk_at "subscriptTail Name BinOp ref int") => `(tactic| (k_here; (with_reducible show wpAny _ _ (subscriptTail _ _ (Value.ref _) (Value.int _ _)) _ _ _); k_dflt (refine' item_row_b ?F ?l ?S ?k0 ?k1 ?z ?_ ?e ?t; (case F => k_asm); (case l => is_list); (case S => assumption); (case k0 => omega); (case k1 => omega); (case z => omega); (case e => with_unfolding_all rfl); (case t => (intro _; with_unfolding_all rfl))); intro a' us' L' S' f'; (try dsimp only)))
local macro_rules | `(tactic| walk_at "call builtin:len") => `(tactic| (k_here; (with_reducible show wpAny _ _ (call (Value.builtin "len") [Value.ref _]) _ _ _); k_dflt (refine' len_w ?l ?S ?f ?_; (case l => is_list); (case S => assumption); (case f => exact few_le (by assumption))); intro t' k'; (try dsimp only)))
local macro_rules | `(tactic| walk_at "eval Name") => `(tactic| (k_here; (rename Gr _ _ => Gx); (refine nm_cell rfl (Fr.keep (by assumption) _ _ (by assumption)) (by assumption) ?_ rfl rfl rfl)))
local macro_rules | `(tactic| walk_at "subscriptTail Name Slice ref ref") => `(tactic| (k_here; (with_reducible show wpAny _ _ (subscriptTail _ (PySem.Expr.Slice none (some _) none _) (Value.ref _) (Value.ref _)) _ _ _); k_dflt (refine' slice_upto (s := ⟨_, _, _, _, _⟩) ?F ?N ?l ?S ?k ?z ?_ ?e ?t; (case F => k_asm); (case N => k_asm); (case l => is_list); (case S => assumption); (case k => first | decide | omega); (case z => first | omega | exact few_le (by assumption)); (case e => with_unfolding_all rfl); (case t => (intro _; with_unfolding_all rfl))); intro l' h' us' F' N' l1 S'; (try dsimp only)))
local macro_rules | `(tactic| walk_at "subscriptTail Name Slice ref ref") => `(tactic| (k_here; (rename Gr _ _ => Gx); (with_reducible show wpAny _ _ (subscriptTail _ (PySem.Expr.Slice none (some _) none _) (Value.ref _) (Value.ref _)) _ _ _); k_dflt (refine' slice_upto_g (s := ⟨_, _, _, _, _⟩) ?F ?N ?l ?S ?k ?z ?_ ?e ?t; (case F => k_asm); (case N => k_asm); (case l => is_list); (case S => assumption); (case k => first | decide | omega); (case z => first | omega | exact few_le (by assumption)); (case e => with_unfolding_all rfl); (case t => (intro _; with_unfolding_all rfl))); intro l' h' us' F' N' l1 S' kx; (have G' := Gr.trans Gx kx); (try dsimp only)))
local macro_rules | `(tactic| walk_at "compareOp Eq ref ref") => `(tactic| (k_here; (with_reducible show wpAny _ _ (compareOp CmpOp.Eq (Value.ref _) (Value.ref _)) _ _ _); k_dflt (refine' eq_w ?l ?s1 ?b ?s2 ?f1 ?f2 ?u ?_; (case l => is_list); (case s1 => assumption); (case b => is_list); (case s2 => assumption); (case f1 => first | assumption | exact Few.take (by assumption) _ | exact Few.dropLast (by assumption)); (case f2 => first | assumption | exact Few.take (by assumption) _ | exact Few.dropLast (by assumption)); (case u => (simp only [Around.deeper_units]; omega)))))
theorem leaps_c {w : World} {A : Around} {E : Value → Shared → Prop} {s : Shared} {p : Program} {loose : List Str} {mean : ExcName → Option Value} {mg mb : Str → Option Value}
    {mo r a : Addr} {vs us : List Value} {rs : List (List Str)} {parts : List Str} (X : (hd.heap_39 w.params).In s.heap) (T : Top p loose mean mg mb s.heap) (hr : A.depth + 20 < recursionLimit) (hu : A.units + 600 < cLine) (hh : A.handled = none)
    (hmo : Mgr s.heap mo) (hl : s.heap.IsList r vs.toArray) (hrow : RowsAre s.heap vs rs) (hl2 : s.heap.IsList a us.toArray) (hs2 : StrsAre us parts) (hsh : Shp parts) (hrs : ∀ y ∈ rs, Shape y) (hz : rs.length ≤ 50) (hso : SSorted rs) :
    wpAny (model prg w) A (call (.ref 129) [.ref mo, .ref r, .ref a]) (Post s fun v h => ∃ l zs res, v = .ref l ∧ h.IsList l (List.toArray zs) ∧ RowsAre h zs res ∧ LeapOk rs parts res) E s := by
  refine enter_fnC X T (fun _ _ e => e) (Nat.le_refl _) (K := hd.heap_39 w.params) (by k_is) (by k_is) (by omega) (BindsTo.of_eq (binds := [("manager", .ref mo), ("row", .ref r), ("parts", .ref a)]) rfl) rfl (by decide +kernel) (fun h₁ tk cells F N Y k₁ => ?_)
  k_cells Y
  repeat' walk1
  unfold Hold
  rename News _ _ _ _ => N'
  rename Fr _ _ _ _ => F'
  have fp := Shp.few hsh
  refine for_list (h₀ := s.heap) (L := s.heap.objs.size) (fun i m news => ∃ R ra rvs o1 o2 nv ex, news = (s.heap.objs.size + 1 + 1, o1) :: (s.heap.objs.size + 1, o2) :: ex ∧ m "manager" = some (.ref mo) ∧ m "row" = some (.ref r) ∧ m "reach" = some (.ref ra) ∧
      StrsAre rvs R ∧ Few R ∧ LeapInv rs parts i R ∧ o1.data = .cell nv ∧ o2.data = .cell (some (.ref a)) ∧ (∀ h m', Fr s.heap s.heap.objs.size h m' → News s.heap s.heap.objs.size h ex → h.IsList ra (List.toArray rvs)) ∧
      (∀ p ∈ ex, p.1 ≠ s.heap.objs.size + 1 + 1 ∧ p.1 ≠ s.heap.objs.size + 1)) rfl hh (fun _ _ => rfl) ?_ (fun _ => rfl)
  repeat' walk1
  unfold Hold
  refine ⟨a, us, _, [], _, rfl, F', N', fun h m F _ => F.lst hl2, ⟨parts, a, us, _, _, _, [], rfl, rfl, rfl, rfl, hs2, fp, leap_start rs parts, by assumption, by assumption, fun h m F _ => F.lst hl2, fun _ h => nomatch h⟩, ?_, ?_⟩
  · rintro I it i v m₁ news₁ h₂ tk₂ hv hne F₂ N₂ ⟨R, ra, rvs, o1, o2, nv, ex, rfl, mm, mr, mre, hrv, fR, hinv, ho1, ho2, hra, hex⟩
    clear N' F'
    repeat' walk1
    unfold Hold
    rename News _ _ _ _ => N3
    rename Fr _ _ _ _ => F3
    simp only [List.nil_append] at N3 hne
    have Nex : News s.heap s.heap.objs.size _ ex := fun q hq => N3 q (.tail _ (.tail _ (.tail _ hq)))
    refine use_post (fun E' => bisR_b (X.keeps F3.keep) (T.keeps F3.keep) (by show _ + 1 + 10 < _; omega) (by show _ + 3 + 500 < _; omega) (bisR_2 (X.keeps F3.keep)) (F3.lst hl) (hrow.ext F3.keep) (hra _ _ F3 Nex) hrv fR (by omega) (hso.monoR R)) ?_
    rintro v3 h₃ tk₃ k₃ ⟨pl, tp, rfl, q1, q2, q3⟩
    replace F3 := F3.keeps k₃
    replace N3 := N3.grown k₃
    clear Nex
    dsimp only at F3 N3 ⊢
    repeat' walk1
    · rename News _ _ _ _ => N4
      rename Fr _ _ _ _ => F4
      rename (pl : Int) = 0 => hp0
      exact Post.mk' F4.keep ⟨_, [], [], rfl, News.isList N4 (.head _), .nil, .inl ⟨rfl, leap_none hinv (by omega) q3⟩⟩
    · unfold Hold
      rename News _ _ _ _ => N4
      rename Fr _ _ _ _ => F4
      rename (pl : Int) ≠ 0 => hp0
      rename Heap.IsList _ _ _ => hln
      rename StrsAre _ (List.getD _ _ _) => hsn
      rename Few (List.getD _ _ _) => fn
      have e1 : ((pl : Int) - 1).toNat = pl - 1 := by omega
      rw [e1] at hsn fn
      have hnm : rs.getD (pl - 1) [] ∈ rs := getD_mem (by omega)
      generalize hnear : rs.getD (pl - 1) [] = near at hsn fn hnm
      refine storeX_C F4 N4 rfl (UpdF.tail (fun e => hne _ (.head _) e.symm) (UpdF.head (fun q hq => ?_))) ho1 (fun h5 o5 F5 N5 d5 => ?_) rfl rfl
      · rcases List.mem_cons.mp hq with rfl | hq
        · exact Nat.ne_of_lt (Nat.lt_succ_self _)
        · exact (hex q hq).1
      clear N4 F4
      obtain ⟨nh, nps, hnq, hn1, hn2, hn3⟩ := hrs near hnm
      obtain ⟨ph, pps, hpq, hp1, hp2, hp3⟩ := id hsh
      obtain ⟨dx, mes, mn, hm1, hm2, hm3⟩ := id hmo
      repeat' walk1
      unfold Hold
      refine method_inst (K := hd.heap_39 w.params) (C := 67) (ox := instObj 67 dx) (es := mes) (n := mn) F5 X ⟨F5.keep _ _ hm1, rfl, rfl, F5.keep _ _ hm2⟩ (by k_is) (by k_is) (by k_is) hm3 ?_
      repeat' walk1
      unfold Hold
      refine use_post (fun E' => pair_c (x := nh) (ss := Str.ofString "" :: nps) (X.keeps F5.keep) (T.keeps F5.keep) (by show _ + 1 + 10 < _; omega) ⟨_, F5.lst hln, hnq ▸ hsn⟩ (hnq ▸ fn)) ?_
      rintro v6 h6 tk6 k6 ⟨t6, u1, u2, rfl, hT1⟩
      replace F5 := F5.keeps k6
      replace N5 := N5.grown k6
      dsimp only at F5 N5 ⊢
      repeat' walk1
      unfold Hold
      refine use_post (fun E' => pair_c (x := ph) (ss := Str.ofString "" :: pps) (X.keeps F5.keep) (T.keeps F5.keep) (by show _ + 1 + 10 < _; omega) ⟨_, F5.lst hl2, hpq ▸ hs2⟩ (hpq ▸ fp)) ?_
      rintro v7 h7 tk7 k7 ⟨t7, u3, u4, rfl, hT2⟩
      replace F5 := F5.keeps k7
      replace N5 := N5.grown k7
      replace hT1 := IsTup.keeps hT1 k7
      dsimp only at F5 N5 hT1 ⊢
      repeat' walk1
      unfold Hold
      have fn' : Few (nh :: Str.ofString "" :: nps) := hnq ▸ fn
      have fp' : Few (ph :: Str.ofString "" :: pps) := hpq ▸ fp
      refine use_post (fun E' => suburi_c (X.keeps F5.keep) (T.keeps F5.keep) (by show _ + 1 + 10 < _; omega) (by show _ + 3 + 500 < _; omega) hT1 hT2 (al_ok _ (host_al _ hn1)) (join_ok fn'.tail).1 (al_ok _ (host_al _ hp1)) (join_ok fp'.tail).1 (join_ok fn'.tail).2 (join_ok fp'.tail).2) ?_
      rintro v8 h8 tk8 k8 rfl
      replace F5 := F5.keeps k8
      replace N5 := N5.grown k8
      have hcov : sub4 nh (Txt.join (Str.ofString "/") (Str.ofString "" :: nps)) ph (Txt.join (Str.ofString "/") (Str.ofString "" :: pps)) = covers near parts := by rw [cov_sub hn3 hp3, hnq, hpq]
      rw [hcov]
      dsimp only at F5 N5 ⊢
      repeat' walk1
      · rename News _ _ _ _ => N9
        rename Fr _ _ _ _ => F9
        rename covers near parts = true => hc
        exact Post.mk' F9.keep ⟨_, _, [near], rfl, News.isList N9 (.head _), .cons ⟨_, F9.lst hln, hsn⟩ fn .nil, .inr ⟨near, hnm, rfl, hc, leap_best hinv hso (hnear ▸ rfl) q1 (by omega) q3⟩⟩
      · unfold Hold
        rename covers near parts = false => hc
        refine comp_range_asg (h₀ := s.heap) (L := s.heap.objs.size) (fun v => match v with | .int k _ => decide (near.take k.toNat = parts.take k.toNat) | _ => false) (fun _ _ => True) rfl rfl hh (cl := [("parts", s.heap.objs.size + 1), ("near", s.heap.objs.size + 1 + 1)]) rfl (by decide) rfl (by decide) rfl rfl rfl ?_ (fun _ => rfl)
        repeat' walk1
        unfold Hold
        rename News _ _ _ _ => N9
        rename Fr _ _ _ _ => F9
        rename IsRange _ _ _ _ _ _ _ _ => R9
        have hnB := F9.lst hln
        have hpB := F9.lst hl2
        have hc1 := (N9 _ (.tail _ (.head _))).1
        have hc2 := (N9 _ (.tail _ (.tail _ (.head _)))).1
        dsimp only at hnB hpB hc1 hc2
        have hpl : parts.length ≤ 6 := by rw [hpq]; simp; omega
        refine ⟨_, _, _, _, _, _, parts.length, _, _, rfl, R9, small_one (by decide) (by decide) (by omega) (by omega), ?_, by omega, F9, N9, ⟨?_, ?_⟩, ?_⟩
        · rw [rangeSize_nat]; simp
        · rintro C v s₂ m₂ Fc ⟨j, tj, hj, rfl⟩ hm
          dsimp only at Fc
          clear F9 N9 R9
          have Nc := no_news Fc
          have G := Gr.refl s₂.heap
          refine tests_one ?_
          repeat' walk1
          rename Gr _ _ => Gz
          exact ⟨_, _, rfl, Gz.ext⟩
        · rintro C v s₂ m₂ Fc ⟨j, tj, hj, rfl⟩ - hm
          dsimp only at Fc
          have Nc := no_news Fc
          repeat' walk1
          all_goals first | trivial | exact ⟨_, _, rfl, fun _ _ e => e⟩
        · rintro D ys k h10 tk10 vs10 F10 N10 hne10 hvs10 hP10
          clear F9 N9 R9 hnB hpB hc1 hc2
          have hcnt := shared_count near parts hvs10 hP10
          have hcl : ys.length ≤ parts.length := by rw [hcnt]; exact Nat.le_trans (List.length_filter_le _ _) (by simp)
          repeat' walk1
          refine len_list (News.isList N10 (.head _)) (by simp; omega) ?_
          simp only [List.size_toArray]
          repeat' walk1
          unfold Hold
          rename News _ _ _ _ => N11
          rename Fr _ _ _ _ => F11
          rename StrsAre _ (List.take _ parts) => S11
          dsimp only
          refine add_w F11 N11 (News.isList N11 (.tail _ (.head _))) S11 (News.isList N11 (.head _)) (.cons _ _ .nil) (by simp; omega) (fun l12 h12 ws F12 N12 hlt S12 => ?_)
          repeat' walk1
          rename News _ _ _ _ => N13
          rename Fr _ _ _ _ => F13
          have hI : I < l12 := hlt _ (.tail _ (.tail _ (.tail _ (.head _))))
          have hL2 : s.heap.objs.size + 1 + 1 < l12 := hlt _ (.tail _ (.tail _ (.tail _ (.tail _ (.head _)))))
          have hL1 : s.heap.objs.size + 1 < l12 := hlt _ (.tail _ (.tail _ (.tail _ (.tail _ (.tail _ (.head _))))))
          have etn : ((ys.length : Int)).toNat = ys.length := rfl
          rw [etn] at S12
          have hil : i < parts.length := by have h1 := (List.getElem?_eq_some_iff.mp hv).1; rw [sa_length hs2] at h1; exact h1
          refine ⟨_, _, _, [(s.heap.objs.size + 1 + 1, o5), (s.heap.objs.size + 1, o2), (l12, listOf ws.toArray 0)], rfl, F13, ?_, ?_, ⟨_, l12, ws, o5, o2, _, [(l12, listOf ws.toArray 0)], rfl, mm, mr, rfl, S12, ?_, leap_next hinv hso hil (hnear ▸ rfl) q1 (by omega) q2 q3 hc hcnt, d5, ho2, fun h m _ N => News.isList N (.head _), ?_⟩⟩
          · intro q hq
            simp only [List.nil_append, List.mem_cons, List.not_mem_nil, or_false] at hq
            rcases hq with rfl | rfl | rfl | rfl
            · exact N13 _ (.tail _ (.tail _ (.tail _ (.tail _ (.head _)))))
            · exact N13 _ (.tail _ (.tail _ (.tail _ (.tail _ (.tail _ (.head _))))))
            · exact N13 _ (.tail _ (.tail _ (.tail _ (.tail _ (.tail _ (.tail _ (.head _)))))))
            · exact N13 _ (.head _)
          · intro q hq
            simp only [List.nil_append, List.mem_cons, List.not_mem_nil, or_false] at hq
            rcases hq with rfl | rfl | rfl
            · exact hne (_, o1) (.head _)
            · exact hne (_, o2) (.tail _ (.head _))
            · exact Nat.ne_of_gt hI
          · refine ⟨by simp; omega, fun z hz => ?_⟩
            rcases List.mem_append.mp hz with q | q
            · exact fp.2 z (List.mem_of_mem_take q)
            · rcases List.mem_cons.mp q with rfl | q
              · decide
              · cases q
          · intro q hq
            simp only [List.mem_cons, List.not_mem_nil, or_false] at hq
            subst hq
            exact ⟨Nat.ne_of_gt hL2, Nat.ne_of_gt hL1⟩
  · rintro m₁ news₁ h₂ tk₂ ⟨R, ra, rvs, o1, o2, nv, ex, rfl, mm, mr, mre, hrv, fR, hinv, ho1, ho2, hra, hex⟩ F₂ N₂
    repeat' walk1
    rename News _ _ _ _ => N4
    rename Fr _ _ _ _ => F4
    rw [sa_length hs2] at hinv
    exact Post.mk' F4.keep ⟨_, [], [], rfl, News.isList N4 (.head _), .nil, .inl ⟨rfl, leap_end hinv hrs hsh⟩⟩
end Mine
end
section
open PySem PySem.W PySem.Calls PyProof.Rows
set_option maxRecDepth 100000
set_option maxHeartbeats 8000000
set_option autoImplicit false
namespace Mine
local macro_rules | `(tactic| walk_at "exec For") => `(tactic| refine hold ?_)
local macro_rules | `(tactic| walk_at "exec Assign cons ListComp") => `(tactic| refine hold ?_)
local macro_rules | `(tactic| walk_at "eval ListComp") => `(tactic| refine hold ?_)
local macro_rules | `(tactic| walk_at "getMethod ref") => `(tactic| refine hold ?_)
local macro_rules | `(tactic| walk_at "call type:zip") => `(tactic| refine hold ?_)
local macro_rules | `(tactic| walk_at "eval Lambda") => `(tactic| refine hold ?_)
local macro_rules | `(tactic| walk_at "call ref") => `(tactic| refine hold ?_)
local macro_rules | `(tactic| walk_at "call builtin:sorted") => `(tactic| refine hold ?_)
local macro_rules | `(tactic| walk_at "binaryOp Add ref ref") => `(tactic| refine hold ?_)
local macro_rules | `(tactic| walk_at "compareOp NotEq ref ref") => `(tactic| refine hold ?_)
local macro_rules | `(tactic| walk_at "eval Name") => `(tactic| (k_here; (refine nm_local (by assumption) (by assumption) ?_ rfl rfl rfl rfl)))

def forBody : Stmt → List Stmt
  | .For _ _ b _ _ => b
  | _ => []

/-- what stands on the heap while an address is asked -/
structure Stands (h : Heap) (L mo r qa pa : Addr) (rvs qvs : List Value) (rs ls : List (List Str)) (P : List Str) : Prop where
  man : Mgr h mo
  cell : ∃ o, h.get? (L + 1) = some o ∧ o.data = .cell (some (.ref mo))
  row : h.IsList r (List.toArray rvs)
  rows : RowsAre h rvs rs
  rules : h.IsList qa (List.toArray qvs)
  ruless : RowsAre h qvs ls
  parts : Wds h pa P

theorem RowsAre.mem {h : Heap} : ∀ {vs : List Value} {rs : List (List Str)}, RowsAre h vs rs → ∀ {v : Value}, v ∈ vs → ∃ a x, v = .ref a ∧ Wds h a x ∧ Few x ∧ x ∈ rs
  | _, _, .cons W f _, _, .head _ => ⟨_, _, rfl, W, f, .head _⟩
  | _, _, .cons _ _ r, _, .tail _ hv => let ⟨a, x, e, W, f, hx⟩ := r.mem hv; ⟨a, x, e, W, f, .tail _ hx⟩
local macro_rules | `(tactic| walk_at "eval Name") => `(tactic| (k_here; (rename Gr _ _ => Gx); (refine nm_cell rfl (Fr.keep (by assumption) _ _ (by assumption)) (by assumption) ?_ rfl rfl rfl)))

theorem sa_inj : ∀ {vs : List Value} {ss rs : List Str}, StrsAre vs ss → StrsAre vs rs → ss = rs
  | _, _, _, .nil, .nil => rfl
  | _, _, _, .cons _ _ h, .cons _ _ g => by rw [sa_inj h g]
theorem list_inj {h : Heap} {a : Addr} {vs us : List Value} (h1 : h.IsList a vs.toArray) (h2 : h.IsList a us.toArray) : vs = us := by
  obtain ⟨o, e, _, n, d⟩ := h1
  obtain ⟨o', e', _, n', d'⟩ := h2
  rw [e] at e'; cases e'
  rw [d] at d'
  injection d' with d1 d2
  exact congrArg Array.toList d1
theorem Wds.inj {h : Heap} {a : Addr} {x y : List Str} (h1 : Wds h a x) (h2 : Wds h a y) : x = y := by
  obtain ⟨vs, l1, s1⟩ := h1
  obtain ⟨us, l2, s2⟩ := h2
  obtain rfl := list_inj l1 l2
  exact sa_inj s1 s2
theorem shape_ne {x : List Str} (h : Shape x) : x ≠ [] := by obtain ⟨_, _, rfl, _⟩ := h; exact List.cons_ne_nil _ _
theorem bools_of {h : Heap} {ls LS : List (List Str)} {P : List Str} : ∀ {qvs ys : List Value}, RowsAre h qvs ls → (∀ x ∈ ls, x ∈ LS) →
    Paired (fun v y => ∀ a ss, v = .ref a → Wds h a ss → ss ∈ LS → y = .bool (covers ss P)) qvs ys → ys = ls.map fun x => .bool (covers x P) := by
  induction ls with
  | nil => intro qvs ys r _ q; cases r; cases q; rfl
  | cons x ls ih =>
    intro qvs ys r hm q
    cases r with
    | cons W f r =>
      cases q with
      | cons e q =>
        rw [e _ _ rfl W (hm x (.head _)), ih r (fun y hy => hm y (.tail _ hy)) q]
        rfl
theorem RowsAre.filter {h : Heap} {p : Value → Bool} {f : List Str → Bool} : ∀ {vs : List Value} {rs : List (List Str)}, RowsAre h vs rs → (∀ a x, Wds h a x → p (.ref a) = f x) → RowsAre h (vs.filter p) (rs.filter f)
  | _, _, .nil, _ => .nil
  | _, _, .cons (a := a) (x := x) W g r, q => by
    rw [List.filter_cons, List.filter_cons, q a x W]
    cases f x with
    | true => exact .cons W g (r.filter q)
    | false => exact r.filter q
theorem RowsAre.filter2 {h h' : Heap} {p : Value → Bool} {f : List Str → Bool} : ∀ {vs : List Value} {rs : List (List Str)}, RowsAre h vs rs → RowsAre h' vs rs → (∀ a x, Wds h' a x → p (.ref a) = f x) → RowsAre h (vs.filter p) (rs.filter f)
  | _, _, .nil, _, _ => .nil
  | _, _, .cons (a := a) (x := x) W g r, .cons W' _ r', q => by
    rw [List.filter_cons, List.filter_cons, q a x W']
    cases f x with
    | true => exact .cons W g (r.filter2 r' q)
    | false => exact r.filter2 r' q
theorem paired_eq : ∀ {vs ys : List Value}, Paired (fun v y => y = v) vs ys → ys = vs
  | _, _, .nil => rfl
  | _, _, .cons e r => by rw [e, paired_eq r]
open Classical in
noncomputable def covP (h : Heap) (P : List Str) (v : Value) : Bool := decide (∃ a x, v = .ref a ∧ Wds h a x ∧ covers x P = true)
open Classical in
theorem covP_eq {h : Heap} {P : List Str} {a : Addr} {x : List Str} (W : Wds h a x) : covP h P (.ref a) = covers x P := by
  unfold covP
  cases q : covers x P with
  | true => exact decide_eq_true ⟨a, x, rfl, W, q⟩
  | false =>
    refine decide_eq_false ?_
    rintro ⟨a', x', e, W', q'⟩
    cases e
    rw [W.inj W', q'] at q; cases q
end Mine
end
section
open PySem PySem.W PySem.Calls PyProof.Rows
set_option maxRecDepth 100000
set_option maxHeartbeats 4000000
set_option autoImplicit false
namespace Mine
local macro_rules | `(tactic| walk_at "call ref") => `(tactic| refine hold ?_)
local macro_rules | `(tactic| walk_at "compareOp NotEq ref ref") => `(tactic| refine hold ?_)
local macro_rules | `(tactic| walk_at "subscriptTail Name Slice ref ref") => `(tactic| refine hold ?_)
local macro_rules | `(tactic| walk_at "eval Name") => `(tactic| (k_here; (refine nm_local (by assumption) (by assumption) ?_ rfl rfl rfl rfl)))
local macro_rules | `(tactic| walk_at "eval Name") => `(tactic| (k_here; (rename Gr _ _ => Gx); (refine nm_cell rfl (by assumption) (by assumption) ?_ rfl rfl rfl)))

theorem last_turn {w : World} {A : Around} {s : Shared} {g₀ : Heap} {p : Program} {loose : List Str} {mean : ExcName → Option Value} {mg mb : Str → Option Value}
    {name qual : Str} {params : Arguments} {body : List Stmt} {scope : Scope} {dV kV doc pm cdv ct oc : Value} {an od : Option Addr} {osl : Array (Option Value)} {fa L mo r qa pa D : Addr} {rvs qvs out : List Value} {rs ls fo : List (List Str)} {P : List Str}
    {m : Str → Option Value} {nw : List (Addr × Obj)} {o3 : Obj}
    (ho : (hd.heap_39 w.params).lookup 134 = some ⟨oc, od, .func (fnOf name qual params body scope dV kV doc pm an cdv ct), osl⟩)
    (X : (hd.heap_39 w.params).In g₀) (T : Top p loose mean mg mb g₀) (hr : A.depth + 40 < recursionLimit) (hu : A.units + 900 < cLine) (hh : A.handled = none)
    (F : Fr g₀ L s.heap m) (N : News g₀ L s.heap nw) (hst : Stands s.heap L mo r qa pa rvs qvs rs ls P) (hD : s.heap.IsList D out.toArray) (hfo : RowsAre s.heap out fo) (hz : fo.length ≤ 20)
    (hc3 : s.heap.get? (L + 1 + 1 + 1) = some o3) (ho3 : o3.data = .cell (some (.ref pa)))
    (mrow : m (Str.ofString "row") = some (.ref r)) (mfound : m (Str.ofString "found") = some (.ref D))
    (hso : SSorted rs) (hse : ∀ y, y ∈ rs ↔ y ∈ ls) (hsh : ∀ y ∈ ls, Shape y) (hP : Shp P) (hz1 : rs.length ≤ 20)
    (hlast : ∀ res, LeapOk rs P res → res = fo.drop (fo.length - 1)) :
    wpAny (model prg w) (A.deeper (envOfC qual scope L fa cdv)) (execs ((forBody ((forBody (body.getD 1 (.Pass ⟨0, 0, 0, 0⟩))).getD 3 (.Pass ⟨0, 0, 0, 0⟩))).drop 4) (envOfC qual scope L fa cdv))
      (fun f s₂ => f = .next ∧ ∃ h' tk, s₂ = { s with heap := h', toks := tk } ∧ Fr g₀ L h' m ∧ News g₀ L h' nw) (fun _ _ => False) s := by
  obtain ⟨rfl, rfl, hfd, rfl⟩ := Obj.mk.inj (Option.some.inj (ho.symm.trans (by k_is)))
  cases hfd
  clear ho
  show wpAny _ _ (execs [_] _) _ _ _
  obtain ⟨o1, hc1, hd1⟩ := hst.cell
  have Gx := Gr.refl s.heap
  repeat' walk1
  unfold Hold
  obtain ⟨pvs, hpl, hps⟩ := hst.parts
  refine use_post (fun E' => leaps_c (X.keeps F.keep) (T.keeps F.keep) (by show _ + 1 + 20 < _; omega) (by show _ + 3 + 600 < _; omega) hh hst.man hst.row hst.rows hpl hps hP (fun y hy => hsh y ((hse y).1 hy)) (by omega) hso) ?_
  rintro v3 h3 tk3 k3 ⟨l, zs, res, rfl, hl, hrz, hok⟩
  replace F := F.keeps k3
  replace N := N.grown k3
  have hD3 : h3.IsList D out.toArray := let ⟨o, e, q⟩ := hD; ⟨o, k3 _ _ e, q⟩
  have hfo3 := hfo.ext k3
  try dsimp only at F N hl hrz
  try dsimp only
  repeat' walk1
  unfold Hold
  refine slice_g (s := ⟨_, _, _, _, _⟩) F N hD3 (.int _ _) .none (pick_last1 out) ?_ (by with_unfolding_all rfl) (by intro _; with_unfolding_all rfl) (by have := hfo.length; omega)
  intro l4 h4 F4 N4 hlt4 k4
  have hlen := hfo.length
  have hl4 : h4.IsList l zs.toArray := let ⟨o, e, q⟩ := hl; ⟨o, k4 _ _ e, q⟩
  have hrz4 := hrz.ext k4
  have hfo4 := (hfo3.ext k4).drop (out.length - 1)
  have hres := hlast res hok
  rw [hlen, ← hres] at hfo4
  have hd4 := News.isList N4 (.head _)
  rw [hlen] at hd4
  clear F N
  try dsimp only
  repeat' walk1
  unfold Hold
  refine ne_rows hl4 hrz4 hd4 hfo4 (by show _ + 3 + 64 < _; omega) ?_
  have e : (!decide (res = res)) = false := by simp
  rw [e]
  repeat' walk1
  all_goals first | exact F4 | exact ⟨_, _, rfl, F4, fun q hq => N4 q (.tail _ hq)⟩ | exact fun q hq => N4 q (.tail _ hq)
end Mine
end
section
open PySem PySem.W PySem.Calls PyProof.Rows
set_option autoImplicit false
namespace Mine
/-- rows, each with its length -/
inductive PRows (h : Heap) : List (Int × Value) → List (List Str) → Prop
  | nil : PRows h [] []
  | cons {a : Addr} {x : List Str} {ps : List (Int × Value)} {rs : List (List Str)} : Wds h a x → Few x → PRows h ps rs → PRows h ((keyLen x, .ref a) :: ps) (x :: rs)
theorem PRows.of {h : Heap} : ∀ {vs : List Value} {rs : List (List Str)}, RowsAre h vs rs → PRows h ((rs.map keyLen).zip vs) rs
  | _, _, .nil => .nil
  | _, _, .cons W f r => .cons W f (PRows.of r)
theorem PRows.rows {h : Heap} : ∀ {ps : List (Int × Value)} {rs : List (List Str)}, PRows h ps rs → RowsAre h (ps.map Prod.snd) rs ∧ ps.map Prod.fst = rs.map keyLen
  | _, _, .nil => ⟨.nil, rfl⟩
  | _, _, .cons W f r => ⟨.cons W f r.rows.1, by rw [List.map_cons, r.rows.2, List.map_cons]⟩
theorem PRows.perm {h : Heap} {ps qs : List (Int × Value)} (p : ps.Perm qs) : ∀ {rs : List (List Str)}, PRows h ps rs → ∃ rs', PRows h qs rs' ∧ rs.Perm rs' := by
  induction p with
  | nil => intro rs r; exact ⟨rs, r, .refl _⟩
  | cons x _ ih =>
    intro rs r
    cases r with
    | cons W f r =>
      obtain ⟨rs', r', p'⟩ := ih r
      exact ⟨_, .cons W f r', p'.cons _⟩
  | swap x y l =>
    intro rs r
    cases r with
    | cons W f r =>
      cases r with
      | cons W' f' r => exact ⟨_, .cons W' f' (.cons W f r), .swap _ _ _⟩
  | trans _ _ ih1 ih2 =>
    intro rs r
    obtain ⟨r1, a1, p1⟩ := ih1 r
    obtain ⟨r2, a2, p2⟩ := ih2 a1
    exact ⟨r2, a2, p1.trans p2⟩
/-- what sorted by length gives back -/
theorem sorted_rows {h : Heap} {vs out : List Value} {rs : List (List Str)} (r : RowsAre h vs rs) (k : KskOut false (rs.map keyLen) vs out) :
    ∃ fo, RowsAre h out fo ∧ rs.Perm fo ∧ fo.Pairwise fun a b => keyLen a ≤ keyLen b := by
  obtain ⟨ps, p, rfl, o⟩ := k
  obtain ⟨fo, q, p'⟩ := (PRows.of r).perm p.symm
  obtain ⟨q1, q2⟩ := q.rows
  refine ⟨fo, q1, p', ?_⟩
  have : (fo.map keyLen).Pairwise (· ≤ ·) := by
    rw [← q2, List.pairwise_map]
    exact o.imp fun h => by simpa using h
  rwa [List.pairwise_map] at this
end Mine
end
section
open PySem PySem.W PySem.Calls PyProof.Rows
set_option maxRecDepth 100000
set_option maxHeartbeats 8000000
set_option autoImplicit false
namespace Mine
local macro_rules | `(tactic| walk_at "exec For") => `(tactic| refine hold ?_)
local macro_rules | `(tactic| walk_at "exec Assign cons ListComp") => `(tactic| refine hold ?_)
local macro_rules | `(tactic| walk_at "eval ListComp") => `(tactic| refine hold ?_)
local macro_rules | `(tactic| walk_at "getMethod ref") => `(tactic| refine hold ?_)
local macro_rules | `(tactic| walk_at "call type:zip") => `(tactic| refine hold ?_)
local macro_rules | `(tactic| walk_at "eval Lambda") => `(tactic| refine hold ?_)
local macro_rules | `(tactic| walk_at "call ref") => `(tactic| refine hold ?_)
local macro_rules | `(tactic| walk_at "call builtin:sorted") => `(tactic| refine hold ?_)
local macro_rules | `(tactic| walk_at "binaryOp Add ref ref") => `(tactic| refine hold ?_)
local macro_rules | `(tactic| walk_at "compareOp NotEq ref ref") => `(tactic| refine hold ?_)
local macro_rules | `(tactic| walk_at "eval Name") => `(tactic| (k_here; (refine nm_local (by assumption) (by assumption) ?_ rfl rfl rfl rfl)))
local macro_rules | `(tactic| walk_at "eval Name") => `(tactic| (k_here; (rename Gr _ _ => Gx); (refine nm_cell rfl (Fr.keep (by assumption) _ _ (by assumption)) (by assumption) ?_ rfl rfl rfl)))
local macro_rules | `(tactic| walk_at "execs cons") => `(tactic| (k_here; (with_reducible show wpAny _ _ (execs [_] _) _ _ _); refine hold ?_))
theorem inner_turn {w : World} {A : Around} {s : Shared} {g₀ : Heap} {p : Program} {loose : List Str} {mean : ExcName → Option Value} {mg mb : Str → Option Value}
    {name qual : Str} {params : Arguments} {body : List Stmt} {scope : Scope} {dV kV doc pm cdv ct oc : Value} {an od : Option Addr} {osl : Array (Option Value)} {fa L mo r qa pa : Addr} {rvs qvs : List Value} {rs ls : List (List Str)} {P : List Str}
    {m : Str → Option Value} {tab : Array Value} {cx FX : List (Addr × Obj)} {o3 : Obj}
    (ho : (hd.heap_39 w.params).lookup 134 = some ⟨oc, od, .func (fnOf name qual params body scope dV kV doc pm an cdv ct), osl⟩)
    (X : (hd.heap_39 w.params).In g₀) (T : Top p loose mean mg mb g₀) (C : CodeHd g₀ 133 131) (hr : A.depth + 40 < recursionLimit) (hu : A.units + 900 < cLine) (hh : A.handled = none)
    (F : Fr g₀ L s.heap m) (N : News g₀ L s.heap ((131, tabObj tab) :: (L + 1 + 1 + 1, o3) :: (cx ++ FX))) (hfx : ∀ h m', Fr g₀ L h m' → News g₀ L h FX → Stands h L mo r qa pa rvs qvs rs ls P)
    (htab : TabSt tab cx) (ho3 : o3.data = .cell (some (.ref pa))) (hcx : ∀ p ∈ cx, p.1 ≠ 131 ∧ p.1 ≠ L + 1 + 1 + 1 ∧ ∀ q ∈ FX, p.1 ≠ q.1) (hF1 : ∀ q ∈ FX, q.1 ≠ 131 ∧ q.1 ≠ L + 1 + 1 + 1) (h3n : L + 1 + 1 + 1 ≠ 131)
    (mrow : m (Str.ofString "row") = some (.ref r)) (mrules : m (Str.ofString "rules") = some (.ref qa))
    (hso : SSorted rs) (hnd : ls.Nodup) (hse : ∀ y, y ∈ rs ↔ y ∈ ls) (hsh : ∀ y ∈ ls, Shape y) (hP : Shp P) (hz1 : rs.length ≤ 20) (hz2 : ls.length ≤ 20) :
    wpAny (model prg w) (A.deeper (envOfC qual scope L fa cdv)) (execs (forBody ((forBody (body.getD 1 (.Pass ⟨0, 0, 0, 0⟩))).getD 3 (.Pass ⟨0, 0, 0, 0⟩))) (envOfC qual scope L fa cdv))
      (fun f s₂ => f = .next ∧ ∃ h' tk m₂ tab' cx', s₂ = { s with heap := h', toks := tk } ∧ Fr g₀ L h' m₂ ∧ News g₀ L h' ((131, tabObj tab') :: (L + 1 + 1 + 1, o3) :: (cx' ++ FX)) ∧ TabSt tab' cx' ∧
        (∀ p ∈ cx', p.1 ≠ 131 ∧ p.1 ≠ L + 1 + 1 + 1 ∧ ∀ q ∈ FX, p.1 ≠ q.1) ∧ m₂ (Str.ofString "row") = some (.ref r) ∧ m₂ (Str.ofString "rules") = some (.ref qa) ∧ m₂ (Str.ofString "asked") = m (Str.ofString "asked")) (fun _ _ => False) s := by
  obtain ⟨rfl, rfl, hfd, rfl⟩ := Obj.mk.inj (Option.some.inj (ho.symm.trans (by k_is)))
  cases hfd
  have ho' := ho
  clear ho
  show wpAny _ _ (execs [_, _, _, _, _] _) _ _ _
  have Nfx : ∀ {h : Heap} {q1 q2 : Addr × Obj} {cy : List (Addr × Obj)}, News g₀ L h (q1 :: q2 :: (cy ++ FX)) → News g₀ L h FX := fun N p hp => N p (.tail _ (.tail _ (List.mem_append_right _ hp)))
  have fP := Shp.few hP
  repeat' walk1
  unfold Hold
  -- due
  have st := hfx _ _ F (Nfx N)
  refine comp_list_asg (h₀ := g₀) (L := L) (fun _ => true) (fun v y => ∀ a ss, v = .ref a → Wds s.heap a ss → ss ∈ ls → y = .bool (covers ss P)) rfl rfl hh (cl := [("parts", L + 1 + 1 + 1)]) rfl (by decide) rfl (by decide) rfl rfl rfl ?_ (fun _ => rfl)
  repeat' walk1
  unfold Hold
  refine ⟨qa, qvs, m, _, rfl, st.rules, by have := st.ruless.length; omega, F, N, ⟨?_, ?_⟩, ?_⟩
  · intro C' v s₂ m₂ Fc hv hm
    exact tests_nil ⟨rfl, _, _, rfl, fun _ _ e => e⟩
  · intro C' v s₂ m₂ Fc hv _ hm
    obtain ⟨a, x, rfl, Wx, fx, hx⟩ := st.ruless.mem hv
    have Xs := X.keeps F.keep
    have Ts := T.keeps F.keep
    have hc3 := (N _ (.tail _ (.head _))).1
    have hpa := st.parts
    dsimp only at hc3
    have Nc := no_news Fc
    have Gx := Gr.refl s₂.heap
    clear F N
    repeat' walk1
    unfold Hold
    refine use_post (fun E' => covers_c (Xs.keeps Fc.keep) (Ts.keeps Fc.keep) (by show _ + 1 + 10 < _; omega) (by show _ + 3 + 500 < _; omega) (Wx.ext Fc.keep) (hpa.ext Fc.keep) fx fP (shape_ne (hsh x hx))) ?_
    rintro v3 h₃ tk₃ k₃ rfl
    exact ⟨fun a' ss' e W' _ => by cases e; rw [Wds.inj Wx W'], _, _, rfl, k₃⟩
  · intro D1 ys1 n1 h1 tk1 F1 N1 hne1 hP1
    rw [List.filter_eq_self.mpr (fun _ _ => rfl)] at hP1
    have hy1 := bools_of st.ruless (fun _ h => h) hP1
    subst hy1
    clear st F N
    have st := hfx _ _ F1 (Nfx (fun p hp => N1 p (.tail _ hp)))
    repeat' walk1
    unfold Hold
    -- told
    refine comp_list_asg (h₀ := g₀) (L := L) (fun _ => true) (fun v y => ∀ a ss, v = .ref a → Wds h1 a ss → ss ∈ ls → y = .bool (covers ss P)) rfl rfl hh (cl := [("parts", L + 1 + 1 + 1), ("manager", L + 1)]) rfl (by decide) rfl (by decide) rfl rfl rfl ?_ (fun _ => rfl)
    repeat' walk1
    unfold Hold
    refine ⟨qa, qvs, _, _, rfl, st.rules, by have := st.ruless.length; omega, F1, N1, ⟨?_, ?_⟩, ?_⟩
    · intro C' v s₂ m₂ Fc hv hm
      exact tests_nil ⟨rfl, _, _, rfl, fun _ _ e => e⟩
    · intro C' v s₂ m₂ Fc hv _ hm
      obtain ⟨a, x, rfl, Wx, fx, hx⟩ := st.ruless.mem hv
      have Xs := X.keeps F1.keep
      have Ts := T.keeps F1.keep
      have hc3 := (N1 _ (.tail _ (.tail _ (.head _)))).1
      obtain ⟨o1, hc1, hd1⟩ := st.cell
      obtain ⟨dx, mes, mn, hm1, hm2, hm3⟩ := id st.man
      obtain ⟨nh, nps, hnq, hn1, hn2, hn3⟩ := id (hsh x hx)
      obtain ⟨ph, pps, hpq, hp1, hp2, hp3⟩ := id hP
      have hpa := st.parts
      dsimp only at hc3
      have Nc := no_news Fc
      have Gx := Gr.refl s₂.heap
      clear F1 N1
      repeat' walk1
      unfold Hold
      refine method_inst (K := hd.heap_39 w.params) (C := 67) (ox := instObj 67 dx) (es := mes) (n := mn) Fc Xs ⟨Fc.keep _ _ hm1, rfl, rfl, Fc.keep _ _ hm2⟩ (by k_is) (by k_is) (by k_is) hm3 ?_
      repeat' walk1
      unfold Hold
      refine use_post (fun E' => pair_c (x := nh) (ss := Str.ofString "" :: nps) (Xs.keeps Fc.keep) (Ts.keeps Fc.keep) (by show _ + 1 + 10 < _; omega) (hnq ▸ Wx.ext Fc.keep) (hnq ▸ fx)) ?_
      rintro v6 h6 tk6 k6 ⟨t6, u1, u2, rfl, hT1⟩
      replace Fc := Fc.keeps k6
      replace Nc := Nc.grown k6
      rename Gr _ _ => Gx
      replace Gx := Gx.trans k6
      dsimp only at Fc Nc Gx ⊢
      repeat' walk1
      unfold Hold
      refine use_post (fun E' => pair_c (x := ph) (ss := Str.ofString "" :: pps) (Xs.keeps Fc.keep) (Ts.keeps Fc.keep) (by show _ + 1 + 10 < _; omega) (hpq ▸ hpa.ext Fc.keep) (hpq ▸ fP)) ?_
      rintro v7 h7 tk7 k7 ⟨t7, u3, u4, rfl, hT2⟩
      replace Fc := Fc.keeps k7
      replace Nc := Nc.grown k7
      rename Gr _ _ => Gx
      replace Gx := Gx.trans k7
      replace hT1 := IsTup.keeps hT1 k7
      dsimp only at Fc Nc Gx hT1 ⊢
      repeat' walk1
      unfold Hold
      have fn' : Few (nh :: Str.ofString "" :: nps) := hnq ▸ fx
      have fp' : Few (ph :: Str.ofString "" :: pps) := hpq ▸ fP
      refine use_post (fun E' => suburi_c (Xs.keeps Fc.keep) (Ts.keeps Fc.keep) (by show _ + 1 + 10 < _; omega) (by show _ + 3 + 500 < _; omega) hT1 hT2 (al_ok _ (host_al _ hn1)) (join_ok fn'.tail).1 (al_ok _ (host_al _ hp1)) (join_ok fp'.tail).1 (join_ok fn'.tail).2 (join_ok fp'.tail).2) ?_
      rintro v8 h8 tk8 k8 rfl
      rename Gr _ _ => Gx
      replace Gx := Gx.trans k8
      rw [cov_sub hn3 hp3, ← hnq, ← hpq]
      exact ⟨fun a' ss' e W' _ => by cases e; rw [Wds.inj Wx W'], _, _, rfl, Gx.ext⟩
    · intro D2 ys2 n2 h2 tk2 F2 N2 hne2 hP2
      rw [List.filter_eq_self.mpr (fun _ _ => rfl)] at hP2
      have hy2 := bools_of st.ruless (fun _ h => h) hP2
      subst hy2
      clear st F1 N1
      have st := hfx _ _ F2 (Nfx (fun p hp => N2 p (.tail _ (.tail _ hp))))
      repeat' walk1
      unfold Hold
      refine comp_zip_none (h₀ := g₀) (L := L) hh (cl := []) rfl (by decide) rfl (by decide) rfl rfl (by decide +kernel) ?_ (fun _ => rfl)
      have hD1 := News.isList N2 (.tail _ (.head _))
      have hD2 := News.isList N2 (.head _)
      repeat' walk1
      unfold Hold
      refine call_zip_2 hD2 hD1 (fun h3 z1 z2 z3 z4 z5 z6 z7 => ?_)
      refine hold ?_
      unfold Hold
      refine ⟨h2, D2, D1, _, _, _, _, rfl, ⟨z1, z2, z3, z4, z5, z6, z7, hD2, hD1⟩, F2, N2, ?_, ?_⟩
      · rintro C' v1 v2 s₂ m₂ Fc h1a h1b ⟨i, e1, e2⟩
        obtain rfl : v1 = v2 := Option.some.inj (e1.symm.trans e2)
        have hb : ∃ b, v1 = .bool b := by
          obtain ⟨x, _, q⟩ : ∃ x, ls[i]? = some x ∧ Value.bool (covers x P) = v1 := by simpa using e1
          exact ⟨_, q.symm⟩
        obtain ⟨b, rfl⟩ := hb
        have Nc := no_news Fc
        clear F2 N2 hne2
        cases b <;> (repeat' walk1)
        all_goals exact ⟨_, _, rfl, fun _ _ e => e⟩
      · intro D3 h3 tk3 F3 N3 hne3
        clear F2 N2 st z1 z2 z3 z4 z5 z6 z7
        repeat' walk1
        unfold Hold
        rename News _ _ _ _ => N4
        rename Fr _ _ _ _ => F4
        refine ne_rows (ss := []) (rs := []) (vs := []) (us := []) (News.isList N4 (.tail _ (.head _))) .nil (News.isList N4 (.head _)) .nil (by show _ + 3 + 64 < _; omega) ?_
        replace N4 : News _ _ _ _ := fun p hp => N4 p (.tail _ (.tail _ (.tail _ (.tail _ hp))))
        clear hne1 hne2 hne3 hD1 hD2 hP1 hP2
        repeat' walk1
        unfold Hold
        rename News _ _ _ _ => N4
        rename Fr _ _ _ _ => F4
        rename_i h4 l14
        clear l14
        have st := hfx _ _ F4 (Nfx N4)
        refine comp_list (h₀ := g₀) (L := L) (covP h4 P) (fun v y => y = v) hh (cl := [("parts", L + 1 + 1 + 1)]) rfl (by decide) rfl (by decide) rfl ?_ (fun _ => rfl)
        repeat' walk1
        unfold Hold
        refine ⟨qa, qvs, _, _, rfl, st.rules, by have := st.ruless.length; omega, F4, N4, ⟨?_, ?_⟩, ?_⟩
        · intro C' v s₂ m₂ Fc hv hm
          obtain ⟨a, x, rfl, Wx, fx, hx⟩ := st.ruless.mem hv
          have Xs := X.keeps F4.keep
          have Ts := T.keeps F4.keep
          have hc3 := (N4 _ (.tail _ (.head _))).1
          have hpa := st.parts
          dsimp only at hc3
          have Nc := no_news Fc
          have Gx := Gr.refl s₂.heap
          clear F4 N4
          refine tests_one ?_
          repeat' walk1
          unfold Hold
          refine use_post (fun E' => covers_c (Xs.keeps Fc.keep) (Ts.keeps Fc.keep) (by show _ + 1 + 10 < _; omega) (by show _ + 3 + 500 < _; omega) (Wx.ext Fc.keep) (hpa.ext Fc.keep) fx fP (shape_ne (hsh x hx))) ?_
          rintro v3 h₃ tk₃ k₃ rfl
          repeat' walk1
          · exact (covP_eq Wx).symm
          · exact ⟨_, _, rfl, k₃⟩
        · intro C' v s₂ m₂ Fc hv hp hm
          have Nc := no_news Fc
          clear F4 N4
          repeat' walk1
          exact ⟨_, _, rfl, fun _ _ e => e⟩
        · intro D5 ys5 n5 h5 tk5 F5 N5 hne5 hP5
          obtain rfl := paired_eq hP5
          clear hP5
          have hR5 := (hfx _ _ F5 (Nfx (fun p hp => N5 p (.tail _ hp)))).ruless.filter2 st.ruless (f := fun x => covers x P) fun a x W => covP_eq (P := P) W
          have hst := st.ruless
          clear F4 N4 st
          have hR : ∀ h m', Fr g₀ L h m' → News g₀ L h FX → RowsAre h (List.filter (covP h4 P) qvs) (ls.filter fun x => covers x P) := fun h m' F' N' =>
            (hfx h m' F' N').ruless.filter2 hst (f := fun x => covers x P) fun a x W => covP_eq (P := P) W
          clear hst hR5
          generalize List.filter (covP h4 P) qvs = fvs at N5 hR
          generalize hfl : (ls.filter fun x => covers x P) = fls at hR
          repeat' walk1
          unfold Hold
          refine kla_eval rfl ?_
          refine lam_mk F5 N5 T C htab hne5 hcx hF1 h3n rfl rfl (by show (Str.ofString "law" ++ Str.ofString ".<locals>.") ++ Str.ofString "<lambda>" = _; decide +kernel) rfl ?_ ?_
          · intro f c' oc vs t pm ctv hoc hvs
            clear hfx htab hcx N5 hR
            intro A s a x p loose mean mg mb E X T hr hf hc' W fx
            obtain ⟨xvs, hxl, hxs⟩ := W
            refine enter_lam T (fun _ _ e => e) (Nat.le_refl _) hf ⟨c', oc, vs, t, rfl, hc', hoc, hvs⟩ (by omega) (binds := [("one", .ref a)]) rfl (locs rfl) (fun h8 F8 k8 => ?_) (by decide)
            have N8 : News s.heap s.heap.objs.size h8 [] := News.nil
            clear hf
            set_option maxHeartbeats 400000 in
            repeat' walk1
            refine join_w (F8.lst hxl) hxs fx (fun t' k' => ?_)
            repeat' walk1
            refine len_str (by have := (join_ok fx).2; omega) ?_
            exact Post.mk' F8.keep ⟨_, rfl⟩
          intro f c' of oc h6 tk6 tab' F6 N6 htab' hcx' hlam
          clear F5 N5 htab hne5 hcx
          repeat' walk1
          unfold Hold
          show wpAny _ _ (call (.builtin "sorted") [.ref D5] [(Str.ofString "key", Value.ref f)]) _ _ _
          have Nfx2 : ∀ {h : Heap} {q1 q2 q3 q4 : Addr × Obj} {cy : List (Addr × Obj)}, News g₀ L h (q1 :: q2 :: q3 :: q4 :: (cy ++ FX)) → News g₀ L h FX := fun N p hp => N p (.tail _ (.tail _ (.tail _ (.tail _ (List.mem_append_right _ hp)))))
          have hlen := (hR _ _ F6 (Nfx2 N6)).length
          have hfz : fls.length ≤ 20 := by rw [← hfl]; exact Nat.le_trans (List.length_filter_le _ _) hz2
          refine ksk_sorted (b := false) (kz := fls.map fun x => ((Txt.join (Str.ofString "/") x).length : Int)) F6 N6 (News.isList N6 (.tail _ (.head _))) (by simp [hlen]) (by omega) (ksk_s1 _ _) (fun x => ksk_l1 _ _) (fun x => ksk_t1 _ _) ?_ ?_
          · intro i v k hv hk h7 tk7 own F7 N7
            have N7' : News g₀ L h7 ((f, of) :: (D5, W.listOf fvs.toArray n5) :: (131, tabObj tab') :: (L + 1 + 1 + 1, o3) :: ([(c', oc)] ++ FX)) := fun q hq => N7 q (List.mem_append_left _ hq)
            obtain ⟨x, hx, rfl⟩ : ∃ x, fls[i]? = some x ∧ ((Txt.join (Str.ofString "/") x).length : Int) = k := by simpa using hk
            obtain ⟨a, ha, Wx, fx⟩ := (hR _ _ F7 (Nfx2 N7')).get i x hx
            obtain rfl : v = .ref a := Option.some.inj (hv.symm.trans ha)
            refine use_post (fun E' => hlam _ _ a x _ _ _ _ _ E' (X.keeps F7.keep) (T.keeps F7.keep) (by show _ + 1 + 10 < _; omega) (N7' _ (.head _)).1 (N7' _ (.tail _ (.tail _ (.tail _ (.tail _ (.head _)))))).1 Wx fx) ?_
            rintro v8 h8 tk8 k8 ⟨t8, rfl⟩
            exact ⟨h8, tk8, t8, rfl, rfl, F7.keeps k8, N7.grown k8⟩
          · intro D7 h7 tk7 out n7 F7 N7 hlt7 ho7
            replace ho7 := (show Hold _ from ho7)
            clear F6 N6 hlt7 hlam
            try dsimp only
            repeat' walk1
            unfold Hold at ho7 ⊢
            rename News _ _ _ _ => N8
            rename Fr _ _ _ _ => F8
            have Nf8 := Nfx2 (fun p hp => N8 p (.tail _ hp))
            obtain ⟨fo, hfo, hpm, hpw⟩ := sorted_rows (hR _ _ F8 Nf8) ho7
            have hfol : fo.length ≤ 20 := by rw [← hpm.length_eq]; exact hfz
            have hlast : ∀ res, LeapOk rs P res → res = fo.drop (fo.length - 1) := fun res hok =>
              last_ok hok hse (fun y hy => shape_ne (hsh y hy)) hfl hpm.length_eq.symm (fun x hx => hpm.mem_iff.mpr hx) (fun x hx => ⟨x, hpm.mem_iff.mp hx, rfl⟩) hpw
            refine wpAny_mono (last_turn ho' X T hr hu hh F8 N8 (hfx _ _ F8 Nf8) (News.isList N8 (.head _)) hfo hfol (N8 _ (.tail _ (.tail _ (.tail _ (.tail _ (.head _)))))).1 ho3 mrow rfl hso hse hsh hP hz1 hlast) ?_ (fun _ _ e => e)
            rintro fl s₂ ⟨rfl, h9, tk9, rfl, F9, N9⟩
            exact ⟨rfl, h9, tk9, _, tab', [(c', oc)], rfl, F9, fun p hp => N9 p (.tail _ (.tail _ (.tail _ hp))), htab', hcx', mrow, mrules, rfl⟩
end Mine
end
section
open PySem PySem.W PySem.Calls PyProof.Rows
set_option autoImplicit false
namespace Mine
/-! the sort that asks: a strict order, no two alike -/
structure Lin (n : Nat) (lt : Nat → Nat → Bool) : Prop where
  trans : ∀ i j k, i < n → j < n → k < n → lt i j = true → lt j k = true → lt i k = true
  total : ∀ i j, i < n → j < n → i ≠ j → lt i j = false → lt j i = true
  asym : ∀ i j, i < n → j < n → lt i j = true → lt j i = false
def pat (p : Array Nat) (k : Nat) : Nat := p.getD k 0
structure POk (n : Nat) (p : Array Nat) : Prop where
  perm : p.toList.Perm (List.range n)
theorem POk.size {n : Nat} {p : Array Nat} (h : POk n p) : p.size = n := by have := h.perm.length_eq; simpa using this
theorem pat_eq {p : Array Nat} {k : Nat} (h : k < p.size) : pat p k = p[k] := by simp [pat, Array.getD, h]
theorem pat_opt (p : Array Nat) (k : Nat) : pat p k = (p[k]?).getD 0 := by
  by_cases h : k < p.size
  · rw [pat_eq h]; simp [h]
  · simp [pat, Array.getD, h]
theorem POk.lt {n : Nat} {p : Array Nat} (h : POk n p) {k : Nat} (hk : k < n) : pat p k < n := by
  have hs := h.size
  have : pat p k ∈ p.toList := by rw [pat_eq (by omega)]; simp
  simpa using h.perm.mem_iff.mp this
theorem POk.inj {n : Nat} {p : Array Nat} (h : POk n p) {i j : Nat} (hi : i < n) (hj : j < n) (hij : i ≠ j) : pat p i ≠ pat p j := by
  have hs := h.size
  have nd : p.toList.Nodup := h.perm.nodup_iff.mpr List.nodup_range
  rw [pat_eq (by omega), pat_eq (by omega)]
  intro e
  have := (List.getElem_inj (i := i) (j := j) (h₀ := by simpa using (by omega : i < p.size)) (h₁ := by simpa using (by omega : j < p.size)) nd).mp (by simpa using e)
  exact hij this
theorem POk.of_perm {n : Nat} {p q : Array Nat} (h : POk n p) (hq : q.Perm p) : POk n q := ⟨(Array.perm_iff_toList_perm.mp hq).trans h.perm⟩
def Asc (lt : Nat → Nat → Bool) (p : Array Nat) (m : Nat) : Prop := ∀ i j, i < j → j < m → lt (pat p i) (pat p j) = true
def Dsc (lt : Nat → Nat → Bool) (p : Array Nat) (m : Nat) : Prop := ∀ i j, i < j → j < m → lt (pat p j) (pat p i) = true
section
variable {n : Nat} {lt : Nat → Nat → Bool} {cmp : Nat → Nat → (Bool → Shared → Prop) → Shared → Prop} {s : Shared}

theorem asc_more (O : Lin n lt) {p : Array Nat} (hp : POk n p) {m : Nat} (h1 : 1 ≤ m) (hm : m < n) (h : Asc lt p m) (hl : lt (pat p m) (pat p (m - 1)) = false) : Asc lt p (m + 1) := by
  have hl' := O.total _ _ (hp.lt hm) (hp.lt (by omega : m - 1 < n)) (hp.inj hm (by omega) (by omega)) hl
  intro i j hij hj
  rcases Nat.lt_or_eq_of_le (Nat.lt_succ_iff.mp hj) with q | q
  · exact h i j hij q
  · subst q
    rcases Nat.lt_or_eq_of_le (show i ≤ j - 1 by omega) with q | q
    · exact O.trans _ _ _ (hp.lt (by omega)) (hp.lt (by omega)) (hp.lt (by omega)) (h i (j - 1) q (by omega)) hl'
    · subst q; exact hl'
theorem dsc_more (O : Lin n lt) {p : Array Nat} (hp : POk n p) {m : Nat} (h1 : 1 ≤ m) (hm : m < n) (h : Dsc lt p m) (hl : lt (pat p m) (pat p (m - 1)) = true) : Dsc lt p (m + 1) := by
  intro i j hij hj
  rcases Nat.lt_or_eq_of_le (Nat.lt_succ_iff.mp hj) with q | q
  · exact h i j hij q
  · subst q
    rcases Nat.lt_or_eq_of_le (show i ≤ j - 1 by omega) with q | q
    · exact O.trans _ _ _ (hp.lt (by omega)) (hp.lt (by omega)) (hp.lt (by omega)) hl (h i (j - 1) q (by omega))
    · subst q; exact hl

variable (H : ∀ i j C, i < n → j < n → C (lt i j) s → cmp i j C s)
include H

theorem asc_wp (O : Lin n lt) {p : Array Nat} (hp : POk n p) {Q : Nat → Shared → Prop} : ∀ (f m : Nat), 1 ≤ m → m + f = n → Asc lt p m →
    (∀ m', m ≤ m' → m' ≤ n → Asc lt p m' → (m' < n → lt (pat p m') (pat p (m' - 1)) = true) → Q m' s) → (kas_asc p f m).kasWp cmp Q s
  | 0, m, h1, h2, h, hQ => hQ m (Nat.le_refl _) (by omega) h (fun q => by omega)
  | f + 1, m, h1, h2, h, hQ => by
    show cmp (pat p m) (pat p (m - 1)) (fun c s' => (if c = true then KasT.ret m else kas_asc p f (m + 1)).kasWp cmp Q s') s
    refine H _ _ _ (hp.lt (by omega)) (hp.lt (by omega)) ?_
    cases q : lt (pat p m) (pat p (m - 1)) with
    | true => rw [if_pos rfl]; exact hQ m (Nat.le_refl _) (by omega) h (fun _ => q)
    | false =>
      rw [if_neg (by simp)]
      exact asc_wp O hp f (m + 1) (by omega) (by omega) (asc_more O hp h1 (by omega) h q) fun m' a b c d => hQ m' (by omega) b c d
theorem dsc_wp (O : Lin n lt) {p : Array Nat} (hp : POk n p) {Q : Array Nat × Nat × Nat → Shared → Prop} : ∀ (f m : Nat), 1 ≤ m → m + f = n → Dsc lt p m →
    (∀ m', m ≤ m' → m' ≤ n → Dsc lt p m' → Q (p, m', 0) s) → (kas_desc f p m 0).kasWp cmp Q s
  | 0, m, h1, h2, h, hQ => hQ m (Nat.le_refl _) (by omega) h
  | f + 1, m, h1, h2, h, hQ => by
    show cmp (pat p m) (pat p (m - 1)) (fun c s' => (if c = true then (if 0 > 0 then kas_desc f (kas_rev p (m - (0 + 1)) m) (m + 1) 0 else kas_desc f p (m + 1) 0)
      else KasT.ask (pat p (m - 1)) (pat p m) fun d => if d = true then KasT.ret (p, m, 0) else kas_desc f p (m + 1) (0 + 1)).kasWp cmp Q s') s
    refine H _ _ _ (hp.lt (by omega)) (hp.lt (by omega)) ?_
    cases q : lt (pat p m) (pat p (m - 1)) with
    | true =>
      rw [if_pos rfl, if_neg (by omega)]
      exact dsc_wp O hp f (m + 1) (by omega) (by omega) (dsc_more O hp h1 (by omega) h q) fun m' a b c => hQ m' (by omega) b c
    | false =>
      rw [if_neg (by simp)]
      show cmp (pat p (m - 1)) (pat p m) (fun d s' => (if d = true then KasT.ret (p, m, 0) else kas_desc f p (m + 1) (0 + 1)).kasWp cmp Q s') s
      refine H _ _ _ (hp.lt (by omega)) (hp.lt (by omega)) ?_
      rw [O.total _ _ (hp.lt (by omega)) (hp.lt (by omega)) (hp.inj (by omega) (by omega) (by omega)) q, if_pos rfl]
      exact hQ m (Nat.le_refl _) (by omega) h
omit H in
theorem rev_asc (O : Lin n lt) {p : Array Nat} (hp : POk n p) {m : Nat} (hm : m ≤ n) (h : Dsc lt p m) : POk n (kas_rev p 0 m) ∧ Asc lt (kas_rev p 0 m) m := by
  refine ⟨hp.of_perm (mirror_perm _ _ _ _), fun i j hij hj => ?_⟩
  have hs := hp.size
  have e : ∀ k, k < m → pat (kas_rev p 0 m) k = pat p (0 + m - 1 - k) := fun k hk => by
    rw [pat_opt, kas_rev, getElem?_mirror_all (by omega), if_pos ⟨Nat.zero_le _, hk⟩, ← pat_opt]
  rw [e i (by omega), e j hj]
  exact h _ _ (by omega) (by omega)
theorem count_wp (O : Lin n lt) {p : Array Nat} (hp : POk n p) (h2 : 2 ≤ n) {Q : Nat × Array Nat → Shared → Prop} (hQ : ∀ m p', 1 ≤ m → m ≤ n → POk n p' → Asc lt p' m → Q (m, p') s) : (kas_count n p).kasWp cmp Q s := by
  unfold kas_count
  rw [KasT.kasWp_bind]
  refine asc_wp H O hp (n - 1) 1 (Nat.le_refl _) (by omega) (fun i j a b => by omega) fun m hm1 hm2 ha hl => ?_
  by_cases e1 : (m == n) = true
  · rw [if_pos e1]; exact hQ m p hm1 hm2 hp ha
  · rw [if_neg e1]
    have hne : m ≠ n := fun q => e1 (by simp [q])
    by_cases e2 : m > 1
    · rw [if_pos e2]
      show cmp (pat p 0) (pat p (m - 1)) (fun c s' => (if c = true then KasT.ret (m, p) else kas_descPart m n (kas_rev p 0 m)).kasWp cmp Q s') s
      refine H _ _ _ (hp.lt (by omega)) (hp.lt (by omega)) ?_
      rw [ha 0 (m - 1) (by omega) (by omega), if_pos rfl]
      exact hQ m p hm1 hm2 hp ha
    · rw [if_neg e2]
      obtain rfl : m = 1 := by omega
      have hl := hl (by omega)
      unfold kas_descPart
      rw [KasT.kasWp_bind]
      refine dsc_wp H O hp (n - (1 + 1)) (1 + 1) (by omega) (by omega) (fun i j a b => ?_) fun m' a b c => ?_
      · obtain rfl : i = 0 := by omega
        obtain rfl : j = 1 := by omega
        exact hl
      · dsimp only
        rw [if_neg (by omega)]
        unfold kas_tail3
        rw [KasT.kasWp_bind]
        obtain ⟨hp', ha'⟩ := rev_asc O hp b c
        exact asc_wp H O hp' (n - m') m' (by omega) (by omega) ha' fun m'' a' b' c' _ => hQ m'' _ (by omega) b' hp' c'
theorem place_wp {p : Array Nat} (hp : POk n p) {k : Nat} (hk : k < n) {Q : Nat → Shared → Prop} (mono : ∀ i j, i ≤ j → j < k → lt (pat p k) (pat p i) = true → lt (pat p k) (pat p j) = true)
    (hQ : ∀ l, l ≤ k → (∀ i, i < l → lt (pat p k) (pat p i) = false) → (∀ i, l ≤ i → i < k → lt (pat p k) (pat p i) = true) → Q l s) : ∀ (f l r : Nat), l ≤ r → r ≤ k → r - l ≤ f →
    (∀ i, i < l → lt (pat p k) (pat p i) = false) → (∀ i, r ≤ i → i < k → lt (pat p k) (pat p i) = true) → (kas_place p k f l r).kasWp cmp Q s
  | 0, l, r, h1, h2, h3, h4, h5 => hQ l (by omega) h4 fun i a b => h5 i (by omega) b
  | f + 1, l, r, h1, h2, h3, h4, h5 => by
    unfold kas_place
    by_cases e : l ≥ r
    · rw [if_pos e]; exact hQ l (by omega) h4 fun i a b => h5 i (by omega) b
    · rw [if_neg e]
      show cmp (pat p k) (pat p ((l + r) / 2)) (fun c s' => (if c = true then kas_place p k f l ((l + r) / 2) else kas_place p k f ((l + r) / 2 + 1) r).kasWp cmp Q s') s
      refine H _ _ _ (hp.lt hk) (hp.lt (by omega)) ?_
      cases q : lt (pat p k) (pat p ((l + r) / 2)) with
      | true =>
        rw [if_pos rfl]
        exact place_wp hp hk mono hQ f l ((l + r) / 2) (by omega) (by omega) (by omega) h4 fun i a b => mono _ i a b q
      | false =>
        rw [if_neg (by simp)]
        refine place_wp hp hk mono hQ f ((l + r) / 2 + 1) r (by omega) h2 (by omega) (fun i hi => ?_) h5
        cases q' : lt (pat p k) (pat p i) with
        | false => rfl
        | true => rw [mono i ((l + r) / 2) (by omega) (by omega) q'] at q; cases q
omit H in
theorem ins_asc (O : Lin n lt) {p : Array Nat} (hp : POk n p) {k l : Nat} (hk : k < n) (ha : Asc lt p k) (hl : l ≤ k) (h4 : ∀ i, i < l → lt (pat p k) (pat p i) = false) (h5 : ∀ i, l ≤ i → i < k → lt (pat p k) (pat p i) = true) :
    POk n (bubble p k (k - l)) ∧ Asc lt (bubble p k (k - l)) (k + 1) := by
  refine ⟨hp.of_perm (bubble_perm _ _ _), ?_⟩
  have hs := hp.size
  have e : ∀ i, pat (bubble p k (k - l)) i = if i = l then pat p k else if l < i ∧ i ≤ k then pat p (i - 1) else pat p i := fun i => by
    have e0 : k - (k - l) = l := by omega
    rw [pat_opt, getElem?_bubble (by omega) _ (by omega), e0]
    by_cases h1 : i = l
    · rw [if_pos h1, if_pos h1, ← pat_opt]
    · rw [if_neg h1, if_neg h1]
      by_cases h2 : l < i ∧ i ≤ k
      · rw [if_pos h2, if_pos h2, ← pat_opt]
      · rw [if_neg h2, if_neg h2, ← pat_opt]
  intro i j hij hj
  rw [e i, e j]
  by_cases j1 : j = l
  · subst j1
    rw [if_pos rfl, if_neg (by omega), if_neg (by omega)]
    exact O.total _ _ (hp.lt hk) (hp.lt (by omega)) (hp.inj hk (by omega) (by omega)) (h4 i hij)
  · rw [if_neg j1]
    by_cases j2 : l < j ∧ j ≤ k
    · rw [if_pos j2]
      by_cases i1 : i = l
      · subst i1; rw [if_pos rfl]; exact h5 _ (by omega) (by omega)
      · rw [if_neg i1]
        by_cases i2 : l < i ∧ i ≤ k
        · rw [if_pos i2]; exact ha _ _ (by omega) (by omega)
        · rw [if_neg i2]; exact ha _ _ (by omega) (by omega)
    · rw [if_neg j2]
      rw [if_neg (by omega), if_neg (by omega)]
      exact ha _ _ hij (by omega)
theorem bin_wp (O : Lin n lt) {Q : Array Nat → Shared → Prop} (hQ : ∀ p, POk n p → Asc lt p n → Q p s) : ∀ (f k : Nat) (p : Array Nat), POk n p → 1 ≤ k → k + f = n → Asc lt p k → (kas_bin f p k).kasWp cmp Q s
  | 0, k, p, hp, h1, h2, ha => hQ p hp (by have : k = n := by omega
                                           rw [← this]; exact ha)
  | f + 1, k, p, hp, h1, h2, ha => by
    show ((kas_place p k k 0 k).bind fun l => kas_bin f (bubble p k (k - l)) (k + 1)).kasWp cmp Q s
    rw [KasT.kasWp_bind]
    refine place_wp H hp (by omega) (fun i j hij hj q => ?_) (fun l hl h4 h5 => ?_) k 0 k (Nat.zero_le _) (Nat.le_refl _) (by omega) (fun i h => by omega) (fun i a b => by omega)
    · rcases Nat.lt_or_eq_of_le hij with q1 | q1
      · exact O.trans _ _ _ (hp.lt (by omega)) (hp.lt (by omega)) (hp.lt (by omega)) q (ha i j q1 hj)
      · subst q1; exact q
    · obtain ⟨hp', ha'⟩ := ins_asc O hp (by omega) ha hl h4 h5
      exact bin_wp O hQ f (k + 1) _ hp' (by omega) (by omega) ha'
theorem sort_wp (O : Lin n lt) (h2 : 2 ≤ n) {Q : Array Nat → Shared → Prop} (hQ : ∀ p, POk n p → Asc lt p n → Q p s) : (kas_sort n).kasWp cmp Q s := by
  unfold kas_sort
  rw [KasT.kasWp_bind]
  refine count_wp H O ⟨by simp⟩ h2 fun m p' h1 hm hp ha => ?_
  dsimp only
  by_cases e : m < n
  · rw [if_pos e]
    have e1 : max m 1 = m := by omega
    rw [e1]
    exact bin_wp H O hQ (n - m) m p' hp h1 (by omega) ha
  · rw [if_neg e]
    obtain rfl : m = n := by omega
    exact hQ p' hp ha
end
end Mine
end
section
open PySem PySem.W PySem.Calls PyProof.Rows PySem.SeqAt
set_option maxRecDepth 100000
set_option maxHeartbeats 4000000
set_option autoImplicit false
namespace Mine
section
variable {prog : Program} {w : World} {A : Around} {E : Value → Shared → Prop} {s : Shared} {h₀ : Heap} {L : Addr} {m : Str → Option Value} {news : List (Addr × Obj)}

/-- sort asks two rows -/
theorem key_lt_w {Q : Bool → Shared → Prop} {a b : Addr} {vs us : List Value} {ss rs : List Str}
    (hl : s.heap.IsList a vs.toArray) (hs : StrsAre vs ss) (hb : s.heap.IsList b us.toArray) (hr : StrsAre us rs)
    (hu : A.units < cLine) (h : Q (wlt ss rs) s) : wpAny (model prog w) A (keyLt' oneType' (.ref a) (.ref b)) Q E s := by
  obtain ⟨⟨cls, dd, data, sl⟩, ho, hc, n, hd⟩ := id hl
  obtain ⟨⟨cls2, dd2, data2, sl2⟩, ho2, hc2, n2, hd2⟩ := id hb
  simp only at hc hd hc2 hd2
  subst hc hd hc2 hd2
  rw [keyLt'_oneType, oneLt'_eq]
  simp only [if_true]
  refine wpAny_bind (wpAny_cRoomFor hu ?_)
  refine wpAny_bind (wpAny_callSpecialIfBound?_slot (T := "list") ⟨_, ho, rfl⟩ F.slot_list_lt ?_)
  refine call_meets F.slot_list_lt ⟨_, ho, rfl⟩ F.entry_list_lt (F.args_list_lt_2 _ _) (list_ltAt a b vs.toArray us.toArray n n2 dd dd2 sl sl2 ss rs hs hr) ⟨ho, ho2, ?_⟩
  exact wpAny_truthy_bool h

/-- sorting none or one -/
theorem small_list_sort {a : Addr} {vs : List Value} {n : Nat} {P : PySem.Fin → Shared → Prop} (F : Fr h₀ L s.heap m) (N : News h₀ L s.heap news) (ho : s.heap.get? a = some (seqObj "list" vs.toArray n)) (haL : a ≠ L) (ha0 : h₀.get? a = none) (hna : ∀ p ∈ news, p.1 ≠ a)
    (h2 : vs.length < 2) (h : ∀ h' c, Fr h₀ L h' m → News h₀ L h' ((a, listOf vs.toArray c) :: news) → P (.done (.ret .none)) { s with heap := h' }) :
    wpAny (model prog w) A (Builtin.«list.sort» ⟨[.ref a], []⟩) P E s := by
  have ha : a < s.heap.objs.size := Heap.lt_size ho
  have s1 := Heap.SameBut.update s.heap a (Obj.mapSeq fun _ => (#[] : Array Value))
  obtain ⟨e1, ho1⟩ : ∃ e1, (s.heap.update a (Obj.mapSeq fun _ => (#[] : Array Value))).get? a = some (seqObj "list" #[] e1) := ⟨_, get?_update_seq ho fun _ => #[]⟩
  have F3 : Fr h₀ L (((s.heap.update a (Obj.mapSeq fun _ => (#[] : Array Value))).push (seqObj "tuple" vs.toArray 0)).push (seqObj "list" #[] 0)) m := ((kas_fr F s1 haL ha0).push _).push _
  have N2 : News h₀ L (((s.heap.update a (Obj.mapSeq fun _ => (#[] : Array Value))).push (seqObj "tuple" vs.toArray 0)).push (seqObj "list" #[] 0)) news :=
    (kas_news N s1 hna).grown fun b x e => Heap.get?_push_of_some _ (Heap.get?_push_of_some _ e)
  have ho6 : (((s.heap.update a (Obj.mapSeq fun _ => (#[] : Array Value))).push (seqObj "tuple" vs.toArray 0)).push (seqObj "list" #[] 0)).get? a = some (seqObj "list" #[] e1) := Heap.get?_push_of_some _ (Heap.get?_push_of_some _ ho1)
  have hz : vs.toArray.size < 2 := by simpa using h2
  rw [list_sort_plain]
  refine wpAny_bind (listItems_at ho rfl ?_)
  refine wpAny_bind (listUpdate_at ho rfl ?_ (by rw [sizeLine_eq]; omega) (Nat.zero_le _))
  refine wpAny_bind (seqEpoch_at ho1 rfl ?_)
  refine wpAny_bind (wpAny_newTuple ?_ (by show vs.length ≤ _; rw [sizeLine_eq]; omega))
  refine wpAny_bind (wpAny_newList ?_ (Nat.zero_le _))
  refine wpAny_holding ?_
  show wpAny (model prog w) A _ P E { s with heap := ((s.heap.update a (Obj.mapSeq fun _ => (#[] : Array Value))).push (seqObj "tuple" vs.toArray 0)).push (seqObj "list" #[] 0) }
  dsimp only
  rw [if_pos hz, if_pos hz]
  refine wpAny_bind (wpAny_pure ?_)
  rw [StateT.run_pure]
  refine wpAny_bind (wpAny_pure ?_)
  have har : (arrOf (SortSt.mk' general' (vs.toArray.zip vs.toArray) #[] 7 none)).map (·.2) = vs.toArray := by
    show (vs.toArray.zip vs.toArray).map (·.2) = vs.toArray
    apply Array.toList_inj.mp
    rw [Array.toList_map, Array.toList_zip]
    exact List.map_snd_zip (Nat.le_refl _)
  dsimp only
  rw [har]
  have s2 := Heap.SameBut.update (((s.heap.update a (Obj.mapSeq fun _ => (#[] : Array Value))).push (seqObj "tuple" vs.toArray 0)).push (seqObj "list" #[] 0)) a (Obj.mapSeq fun _ => vs.toArray)
  obtain ⟨c2, hc2⟩ : ∃ c2, ((((s.heap.update a (Obj.mapSeq fun _ => (#[] : Array Value))).push (seqObj "tuple" vs.toArray 0)).push (seqObj "list" #[] 0)).update a (Obj.mapSeq fun _ => vs.toArray)).get? a = some (seqObj "list" vs.toArray c2) := ⟨_, get?_update_seq ho6 fun _ => vs.toArray⟩
  refine wpAny_bind (seqEpoch_at ho6 rfl ?_)
  refine wpAny_bind (listUpdate_at ho6 rfl ?_ (Nat.zero_le _) (by rw [sizeLine_eq]; omega))
  simp only [bne_self_eq_false, Bool.false_eq_true, if_false]
  refine wpAny_pure (h _ c2 (kas_fr F3 s2 haL ha0) fun p hp => ?_)
  rcases List.mem_cons.mp hp with rfl | hp
  · exact ⟨hc2, haL, ha0⟩
  · exact kas_news N2 s2 hna p hp
theorem small_sorted {l : Addr} {vs : List Value} {Q : Value → Shared → Prop} (F : Fr h₀ L s.heap m) (N : News h₀ L s.heap news) (hl : s.heap.IsList l vs.toArray) (h2 : vs.length < 2)
    (h : ∀ D c h', Fr h₀ L h' m → News h₀ L h' ((D, listOf vs.toArray c) :: news) → Q (.ref D) { s with heap := h' }) :
    wpAny (model prog w) A (call (.builtin "sorted") [.ref l]) Q E s := by
  refine Calls.call_function_entry kind_sorted plain_sorted entry_sorted (args_sorted1 _) ?_
  unfold Builtin.«sorted»
  refine wpAny_bind (m := checkCount "sorted" 1 1 _) (wpAny_pure ?_)
  refine wpAny_bind (collect_list hl ?_ (by rw [sizeLine_eq]; omega))
  refine wpAny_bind (wpAny_newList ?_ (by rw [sizeLine_eq]; omega))
  have hsz : ((s.heap.push (seqObj "list" #[] 0)).update s.heap.objs.size (Obj.mapSeq (· ++ vs.toArray))).objs.size = s.heap.objs.size + 1 := by
    rw [Heap.size_update, size_push']
  have hoL : (((s.heap.push (seqObj "list" #[] 0)).update s.heap.objs.size (Obj.mapSeq (· ++ vs.toArray))).push (seqObj "list" vs.toArray 0)).get? (s.heap.objs.size + 1) = some (seqObj "list" vs.toArray 0) := by
    rw [← hsz]; exact Heap.get?_push_size _ rfl
  have keep : ∀ b o, s.heap.get? b = some o → (((s.heap.push (seqObj "list" #[] 0)).update s.heap.objs.size (Obj.mapSeq (· ++ vs.toArray))).push (seqObj "list" vs.toArray 0)).get? b = some o := fun b o q => by
    have hlt : b < s.heap.objs.size := Heap.lt_size q
    rw [Heap.get?_push_ne _ _ _ (by rw [hsz]; exact Nat.ne_of_lt (Nat.lt_succ_of_lt hlt)), Heap.get?_update_ne _ _ _ _ (Nat.ne_of_lt hlt), Heap.get?_push_ne _ _ _ (Nat.ne_of_lt hlt)]
    exact q
  have hL : L < s.heap.objs.size := F.ns.lt
  show wpAny _ _ _ _ _ { s with heap := ((s.heap.push (seqObj "list" #[] 0)).update s.heap.objs.size (Obj.mapSeq (· ++ vs.toArray))).push (seqObj "list" vs.toArray 0) }
  rw [hsz]
  refine wpAny_bind (wpAny_holding (wpAny_call_entry slot_list_sort ⟨_, hoL, rfl⟩ entry_list_sort ?body (args_list_sort _)))
  case body =>
    refine small_list_sort (s := { s with heap := ((s.heap.push (seqObj "list" #[] 0)).update s.heap.objs.size (Obj.mapSeq (· ++ vs.toArray))).push (seqObj "list" vs.toArray 0) })
      (F.kept keep) (N.grown keep) hoL (Nat.ne_of_gt (Nat.lt_succ_of_lt hL)) (Heap.get?_none_of_le (Nat.le_trans F.above (Nat.le_succ_of_le (Nat.le_of_lt hL))))
      (fun p hp => Nat.ne_of_lt (Nat.lt_succ_of_lt (Heap.lt_size (N p hp).1))) h2 fun h' c F' N' => ⟨_, rfl, wpAny_pure ⟨_, rfl, h _ c h' F' N'⟩⟩

theorem rows_look {h : Heap} {M : Model} {vs : List Value} {rs : List (List Str)} (r : RowsAre h vs rs) : ∀ v ∈ vs, Looks M h (typeOf v) (.type "list") := by
  induction r with
  | nil => intro v hv; cases hv
  | cons W f r ih =>
    intro v hv
    rcases List.mem_cons.mp hv with rfl | hv
    · obtain ⟨us, ⟨o, ho, hc, _⟩, _⟩ := W
      have := (Looks.ld (M := M) ho (part := none)).andThen (f := fun o => pure o.cls) (b := o.cls) .now
      rw [hc] at this
      exact this
    · exact ih v hv
theorem rows_getD {h : Heap} {vs : List Value} {rs : List (List Str)} (r : RowsAre h vs rs) {i : Nat} (hi : i < rs.length) : ∃ a, vs.getD i .none = .ref a ∧ Wds h a (rs.getD i []) ∧ Few (rs.getD i []) := by
  obtain ⟨a, ha, W, f⟩ := r.get i (rs.getD i []) (by rw [List.getD_eq_getElem?_getD]; simp [hi])
  exact ⟨a, by rw [List.getD_eq_getElem?_getD, ha]; rfl, W, f⟩
theorem rows_pick {h : Heap} {vs : List Value} {rs : List (List Str)} (r : RowsAre h vs rs) : ∀ (l : List Nat), (∀ i ∈ l, i < rs.length) → RowsAre h (l.map fun i => vs.getD i .none) (l.map fun i => rs.getD i [])
  | [], _ => .nil
  | i :: l, hl => by
    obtain ⟨a, e, W, f⟩ := rows_getD r (hl i (.head _))
    rw [List.map_cons, List.map_cons, e]
    exact .cons W f (rows_pick r l fun j hj => hl j (.tail _ hj))

/-- sorted of rows, no two alike -/
theorem sorted_w {l : Addr} {vs : List Value} {rs : List (List Str)} {Q : Value → Shared → Prop} (F : Fr h₀ L s.heap m) (N : News h₀ L s.heap news) (hl : s.heap.IsList l vs.toArray) (hr : ∀ h, Fr h₀ L h m → News h₀ L h news → RowsAre h vs rs)
    (hnd : rs.Nodup) (hz : rs.length < 64) (hu : A.units + 100 < cLine)
    (h : ∀ D out fo c h', Fr h₀ L h' m → News h₀ L h' ((D, listOf (List.toArray out) c) :: news) → RowsAre h' out fo → SSorted fo → (∀ y, y ∈ fo ↔ y ∈ rs) → Q (.ref D) { s with heap := h' }) :
    wpAny (model prog w) A (call (.builtin "sorted") [.ref l]) Q E s := by
  have hlen := (hr _ F N).length
  rcases Nat.lt_or_ge vs.length 2 with h2 | h2
  · refine small_sorted F N hl h2 fun D c h' F' N' => h D vs rs c h' F' N' (hr _ F' fun p hp => N' p (.tail _ hp)) ?_ fun y => Iff.rfl
    match rs, hlen with
    | [], _ => exact .nil
    | [x], _ => exact List.pairwise_singleton ..
    | _ :: _ :: _, e => simp at e; omega
  · refine kas_sorted (T := .type "list") F N hl h2 (by omega) (fun h F' N' => rows_look (hr h F' N')) (by decide) fun D e1 h' F' N' hlt => ?_
    have R' := hr _ F' fun p hp => N' p (.tail _ hp)
    have getD_inj : ∀ i j, i < vs.length → j < vs.length → rs.getD i [] = rs.getD j [] → i = j := fun i j hi hj e => by
      rw [List.getD_eq_getElem?_getD, List.getD_eq_getElem?_getD] at e
      rw [hlen] at hi hj
      simp only [List.getElem?_eq_getElem hi, List.getElem?_eq_getElem hj, Option.getD_some] at e
      exact (List.getElem_inj hnd).mp e
    refine sort_wp (lt := fun i j => wlt (rs.getD i []) (rs.getD j [])) ?_ ⟨fun i j k _ _ _ a b => wlt_trans a b, fun i j hi hj hij a => ?_, fun i j _ _ a => wlt_asymm a⟩ h2 fun p hp ha => ?_
    · intro i j C hi hj hC
      obtain ⟨a, e, ⟨us, q1, q2⟩, _⟩ := rows_getD R' (i := i) (by omega)
      obtain ⟨b, e', ⟨us', q3, q4⟩, _⟩ := rows_getD R' (i := j) (by omega)
      unfold kas_ask
      rw [e, e']
      exact key_lt_w q1 q2 q3 q4 (by show _ + 1 + 1 < _; omega) hC
    · cases q : wlt (rs.getD j []) (rs.getD i []) with
      | true => rfl
      | false => exact absurd (getD_inj i j hi hj (wlt_total a q)) hij
    · refine KasFin.intro F' N' (UpdF.head fun q hq => Nat.ne_of_lt (hlt q hq)) fun h'' c F'' N'' => ?_
      have R2 := hr _ F'' fun q hq => N'' q (.tail _ hq)
      have pl : ∀ i ∈ p.toList, i < rs.length := fun i hi => by have := hp.perm.mem_iff.mp hi; rw [← hlen]; simpa using this
      have hps := hp.size
      refine h D _ (p.toList.map fun i => rs.getD i []) c h'' F'' N'' (rows_pick R2 p.toList pl) ?_ fun y => ?_
      · unfold SSorted
        rw [List.pairwise_map, List.pairwise_iff_getElem]
        intro i j hi hj hij
        have := ha i j hij (by simpa [hps] using hj)
        rw [pat_eq (by simpa using hi), pat_eq (by simpa using hj)] at this
        simpa using this
      · rw [List.mem_map]
        constructor
        · rintro ⟨i, hi, rfl⟩; exact getD_mem (pl i hi)
        · intro hy
          obtain ⟨i, hi, e⟩ := mem_getD hy
          exact ⟨i, hp.perm.mem_iff.mpr (by rw [hlen]; simpa using hi), e⟩
end
end Mine
end
section
open PySem PySem.W PySem.Calls PyProof.Rows
set_option maxRecDepth 100000
set_option maxHeartbeats 4000000
set_option autoImplicit false
namespace Mine
theorem unhold {P : Prop} (h : P) : Hold P := h
/-- no two places alike -/
def Dst (l : List (Addr × Obj)) : Prop := (l.map Prod.fst).Nodup
theorem Dst.cons_ne {l : List (Addr × Obj)} {a : Addr} {o : Obj} (D : Dst l) (h : ∀ p ∈ l, p.1 ≠ a) : Dst ((a, o) :: l) := by
  unfold Dst at *
  rw [List.map_cons, List.nodup_cons]
  exact ⟨fun hm => by obtain ⟨p, hp, e⟩ := List.mem_map.mp hm; exact h p hp e, D⟩
theorem Dst.cons_lt {l : List (Addr × Obj)} {a : Addr} {o : Obj} (D : Dst l) (h : ∀ p ∈ l, p.1 < a) : Dst ((a, o) :: l) := D.cons_ne fun p hp => Nat.ne_of_lt (h p hp)
theorem Dst.cons_new {l : List (Addr × Obj)} {a L : Addr} {o : Obj} {g h : Heap} (D : Dst l) (N : News g L h l) (hn : h.get? a = none) : Dst ((a, o) :: l) :=
  D.cons_ne fun p hp e => by have := (N p hp).1; rw [e, hn] at this; cases this
theorem Dst.perm {l l' : List (Addr × Obj)} (D : Dst l) (p : l.Perm l') : Dst l' := (p.map Prod.fst).nodup_iff.mp D
theorem news_perm {l l' : List (Addr × Obj)} {g h : Heap} {L : Addr} (N : News g L h l) (p : l.Perm l') : News g L h l' := fun q hq => N q (p.mem_iff.mpr hq)
theorem Dst.tail {l : List (Addr × Obj)} {x : Addr × Obj} (D : Dst (x :: l)) : Dst l := by unfold Dst at *; rw [List.map_cons, List.nodup_cons] at D; exact D.2
theorem Dst.head {l : List (Addr × Obj)} {x : Addr × Obj} (D : Dst (x :: l)) : ∀ q ∈ l, x.1 ≠ q.1 := fun q hq e => by
  unfold Dst at D; rw [List.map_cons, List.nodup_cons] at D; exact D.1 (List.mem_map.mpr ⟨q, hq, e.symm⟩)
theorem Dst.head' {l : List (Addr × Obj)} {x : Addr × Obj} (D : Dst (x :: l)) : ∀ q ∈ l, q.1 ≠ x.1 := fun q hq e => D.head q hq e.symm
theorem Dst.cons {l : List (Addr × Obj)} {x : Addr × Obj} (h : ∀ q ∈ l, x.1 ≠ q.1) (D : Dst l) : Dst (x :: l) := D.cons_ne fun q hq e => h q hq e.symm
theorem Dst.app_r {l l' : List (Addr × Obj)} (D : Dst (l ++ l')) : Dst l' := by unfold Dst at *; rw [List.map_append, List.nodup_append] at D; exact D.2.1
theorem Dst.app_l {l l' : List (Addr × Obj)} (D : Dst (l ++ l')) : Dst l := by unfold Dst at *; rw [List.map_append, List.nodup_append] at D; exact D.1
theorem Dst.app_ne {l l' : List (Addr × Obj)} (D : Dst (l ++ l')) : ∀ p ∈ l, ∀ q ∈ l', p.1 ≠ q.1 := fun p hp q hq e => by
  unfold Dst at D; rw [List.map_append, List.nodup_append] at D; exact D.2.2 _ (List.mem_map.mpr ⟨p, hp, rfl⟩) _ (List.mem_map.mpr ⟨q, hq, rfl⟩) e
theorem Dst.app {l l' : List (Addr × Obj)} (D : Dst l) (D' : Dst l') (h : ∀ p ∈ l, ∀ q ∈ l', p.1 ≠ q.1) : Dst (l ++ l') := by
  unfold Dst at *
  rw [List.map_append, List.nodup_append]
  refine ⟨D, D', fun a ha b hb e => ?_⟩
  obtain ⟨p, hp, rfl⟩ := List.mem_map.mp ha
  obtain ⟨q, hq, rfl⟩ := List.mem_map.mp hb
  exact h p hp q hq e
theorem newList_n {prog : Program} {w : World} {A : Around} {E : Value → Shared → Prop} {s : Shared} {h₀ : Heap} {L : Addr} {m : Str → Option Value} {news : List (Addr × Obj)} {vs : List Value} {Q : Value → Shared → Prop} (F : Fr h₀ L s.heap m) (N : News h₀ L s.heap news)
    (h : ∀ l' h', Fr h₀ L h' m → News h₀ L h' ((l', listOf vs.toArray 0) :: news) → (∀ p ∈ news, p.1 < l') → Q (.ref l') { s with heap := h' }) (hsz : vs.length ≤ 1000) :
    wpAny (model prog w) A (newList vs) Q E s := newList_g F N (fun l' h' F' N' l _ => h l' h' F' N' l) hsz
/-- an object of a contract, onto the ledger -/
theorem wds_new {g s h : Heap} {L l : Addr} {m : Str → Option Value} {nw : List (Addr × Obj)} {ss : List Str} (F : Fr g L s m) (N : News g L s nw) (k : Ext s h) (hn : s.get? l = none) (W : Wds h l ss) :
    ∃ o, News g L h ((l, o) :: nw) ∧ (∀ h' m', Fr g L h' m' → News g L h' [(l, o)] → Wds h' l ss) ∧ ∀ p ∈ nw, p.1 ≠ l := by
  obtain ⟨vs, ⟨o, ho, q⟩, hs⟩ := W
  refine ⟨o, fun p hp => ?_, fun h' m' _ N' => ⟨vs, ⟨o, (N' _ (.head _)).1, q⟩, hs⟩, fun p hp e => ?_⟩
  · rcases List.mem_cons.mp hp with rfl | hp
    · refine ⟨ho, ?_, ?_⟩
      · rintro rfl
        obtain ⟨o', _, _, e, _⟩ := F.ns
        rw [hn] at e; cases e
      · cases e : g.get? l with
        | none => rfl
        | some o' => rw [F.keep _ _ e] at hn; cases hn
    · exact ⟨k _ _ (N p hp).1, (N p hp).2⟩
  · have := (N p hp).1; rw [e, hn] at this; cases this
/-! a choice among rows, told by their words -/
open Classical in
noncomputable def selP (h : Heap) (f : List Str → Bool) (v : Value) : Bool := decide (∃ a x, v = .ref a ∧ Wds h a x ∧ f x = true)
open Classical in
theorem selP_eq {h : Heap} {f : List Str → Bool} {a : Addr} {x : List Str} (W : Wds h a x) : selP h f (.ref a) = f x := by
  unfold selP
  cases q : f x with
  | true => exact decide_eq_true ⟨a, x, rfl, W, q⟩
  | false =>
    refine decide_eq_false ?_
    rintro ⟨a', x', e, W', q'⟩
    cases e
    rw [W.inj W', q'] at q; cases q
theorem shp_app {ss : List Str} (h : Shape ss) {x : Str} (hx : x ∈ Pcs) : Shp (ss ++ [x]) := by
  obtain ⟨host, ps, rfl, h1, h2, h3⟩ := h
  refine ⟨host, ps ++ [x], rfl, h1, by simp; omega, fun q hq => ?_⟩
  rcases List.mem_append.mp hq with q' | q'
  · exact h3 _ q'
  · rw [List.mem_singleton.mp q']; exact hx
/-- a for over a list, its word chosen behind the list -/
theorem for_listJ {prog : Program} {w : World} {A : Around} {s : Shared} {h₀ : Heap} {L : Addr} {env : Env} {target iter : Expr} {body : List Stmt} {pos : Pos} {Q : Flow → Shared → Prop}
    (hL : env.locals = L) (hh : A.handled = none) (ht : ∀ it v, letOwnedTupleGo target it v = pure ())
    (h : wpAny (model prog w) A (eval iter env) (fun xv s₁ => Hold (∃ (J : Nat → (Str → Option Value) → List (Addr × Obj) → Prop) (l : Addr) (items : List Value) (m₀ : Str → Option Value) (fix news₀ : List (Addr × Obj)), xv = .ref l ∧ Fr h₀ L s₁.heap m₀ ∧ News h₀ L s₁.heap (fix ++ news₀) ∧
      (∀ h m, Fr h₀ L h m → News h₀ L h fix → h.IsList l items.toArray) ∧ J 0 m₀ news₀ ∧
      (∀ I it i v m₁ news₁ h₁ tk₁, items[i]? = some v → (∀ p ∈ fix ++ news₁, p.1 ≠ I) → Fr h₀ L h₁ m₁ → News h₀ L h₁ ((I, it) :: (fix ++ news₁)) → J i m₁ news₁ →
        wpAny (model prog w) A (assign target env v) (fun _ s₂ => wpAny (model prog w) A (execs body env) (ForEnd h₀ L I it fix (J (i + 1)) Q s₁) (fun _ _ => False) s₂) (fun _ _ => False) { s₁ with heap := h₁, toks := tk₁ }) ∧
      (∀ m₁ news₁ h₁ tk₁, J items.length m₁ news₁ → Fr h₀ L h₁ m₁ → News h₀ L h₁ (fix ++ news₁) → Q .next { s₁ with heap := h₁, toks := tk₁ }))) (fun _ _ => False) s)
    (hs : ∀ x, foldedSetIterable iter env x = pure x) :
    wpAny (model prog w) A (exec (.For target iter body [] pos) env) Q (fun _ _ => False) s := by
  subst hL
  refine wpAny_For (wpAny_mono h (fun xv s₁ h₁ => ?_) fun _ _ e => e) hs
  obtain ⟨J, l, items, m₀, fix, news₀, rfl, F, N, hl, hj, turn, done⟩ := h₁
  have hfix : ∀ {h : Heap} {ns : List (Addr × Obj)}, News h₀ env.locals h (fix ++ ns) → News h₀ env.locals h fix := fun N p hp => N p (List.mem_append_left _ hp)
  have hl₁ := hl _ _ F (hfix N)
  refine wpAny_pyIter_list hl₁ ?_
  have F₁ := F.push { cls := .type "list_iterator", data := .fields #[.ref l, .int 0 0] }
  have N₁ := N.push F { cls := .type "list_iterator", data := .fields #[.ref l, .int 0 0] }
  have hp : PassesOwn (model prog w) A env fun _ _ => False := passes_false
  refine codeAny_forLoop (ht := ht _) (fun n s' => ∃ h' tk m₁ news₁ i it, s' = { s₁ with heap := h', toks := tk } ∧ Fr h₀ env.locals h' m₁ ∧ News h₀ env.locals h' ((s₁.heap.objs.size, it) :: (fix ++ news₁)) ∧ (∀ p ∈ fix ++ news₁, p.1 ≠ s₁.heap.objs.size) ∧
      it.cls = .type "list_iterator" ∧ it.data = .fields #[.ref l, .int (i : Nat) 0] ∧ J i m₁ news₁ ∧ i ≤ items.length ∧ n = items.length + 1 - i) ?_ (items.length + 1) ⟨_, _, m₀, news₀, 0, _, rfl, F₁, N₁, fun p hp => Nat.ne_of_lt (Heap.lt_size (N p hp).1), rfl, rfl, hj, Nat.zero_le _, rfl⟩
  rintro n s' ⟨h', tk, m₁, news₁, i, it, rfl, F', N', hne, hc, hd, hJ, hi, rfl⟩
  have hI := N' _ (.head _)
  have Nf : News h₀ env.locals h' fix := fun p hp => N' p (.tail _ (List.mem_append_left _ hp))
  have hit : h'.IsListIter s₁.heap.objs.size l i := ⟨it, hI.1, hc, hd⟩
  have hls := hl _ _ F' Nf
  cases hv : items.toArray[i]? with
  | none =>
    have hsz : i = items.length := Nat.le_antisymm hi (by simpa using hv)
    refine wpAny_pyNext_list_end hh hit hls hv fun h₂ he₂ => wpAny_execs_nil ?_
    have up : ∀ b o, b ≠ s₁.heap.objs.size → h'.get? b = some o → h₂.get? b = some o := fun b o hb e => he₂ b o hb e
    subst hsz
    refine done m₁ news₁ h₂ tk hJ ⟨?_, ?_, F'.above⟩ ?_
    · obtain ⟨o, es, ep, ho, r⟩ := F'.ns
      exact ⟨o, es, ep, up _ _ (fun e => hI.2.1 e.symm) ho, r⟩
    · intro b o e
      exact up b o (fun q => by rw [q, hI.2.2] at e; cases e) (F'.keep b o e)
    · exact fun p hp => ⟨up _ _ (hne p hp) (N' p (.tail _ hp)).1, (N' p (.tail _ hp)).2⟩
  | some v =>
    have hlt : i < items.length := by have := (Array.getElem?_eq_some_iff.mp hv).1; simpa using this
    refine wpAny_pyNext_list_item hit hls hv fun h₂ hit₂ hs₂ => ?_
    obtain ⟨it₂, ho₂, hc₂, hd₂⟩ := hit₂
    have F₂ : Fr h₀ env.locals h₂ m₁ := F'.change hs₂ hI.2.1 hI.2.2
    have N₂ : News h₀ env.locals h₂ ((s₁.heap.objs.size, it₂) :: (fix ++ news₁)) := fun p hp => by
      rcases List.mem_cons.mp hp with rfl | hp
      · exact ⟨ho₂, hI.2⟩
      · exact ⟨(hs₂.2 _ (hne p hp)).trans (N' p (.tail _ hp)).1, (N' p (.tail _ hp)).2⟩
    refine wpAny_mono (turn s₁.heap.objs.size it₂ i v m₁ news₁ h₂ tk (by simpa using hv) hne F₂ N₂ hJ) (fun _ s₃ h₃ => wpAny_mono h₃ (fun f s₄ h₄ => ?_) fun _ _ e => e.elim) fun _ _ e => e.elim
    cases f with
    | next =>
      obtain ⟨h₅, tk₅, m₅, news₅, rfl, F₅, N₅, hne₅, hJ₅⟩ := h₄
      exact ⟨items.length + 1 - (i + 1), by omega, h₅, tk₅, m₅, news₅, i + 1, it₂, rfl, F₅, N₅, hne₅, hc₂, hd₂, hJ₅, hlt, rfl⟩
    | cont =>
      obtain ⟨h₅, tk₅, m₅, news₅, rfl, F₅, N₅, hne₅, hJ₅⟩ := h₄
      exact ⟨items.length + 1 - (i + 1), by omega, h₅, tk₅, m₅, news₅, i + 1, it₂, rfl, F₅, N₅, hne₅, hc₂, hd₂, hJ₅, hlt, rfl⟩
    | brk => exact h₄
    | ret v => exact h₄
end Mine
end
section
open PySem PySem.W PySem.Calls PyProof.Rows
set_option maxRecDepth 100000
set_option maxHeartbeats 8000000
set_option autoImplicit false
namespace Mine
local macro_rules | `(tactic| walk_at "exec For") => `(tactic| refine hold ?_)
local macro_rules | `(tactic| walk_at "binaryOp Add ref ref") => `(tactic| refine hold ?_)
local macro_rules | `(tactic| walk_at "execs cons") => `(tactic| (k_here; (with_reducible show wpAny _ _ (execs [_, _, _, _, _] _) _ _ _); refine hold ?_))
local macro_rules | `(tactic| walk_at "storeName") => `(tactic| (k_here; (with_reducible show wpAny _ _ (storeName _ (PySem.Str.ofString "parts") _) _ _ _); refine hold ?_))
local macro_rules | `(tactic| walk_at "eval Name") => `(tactic| (k_here; (refine nm_local (by assumption) (by assumption) ?_ rfl rfl rfl rfl)))
local macro_rules | `(tactic| walk_at "newList") => `(tactic| (k_here; k_dflt (refine' newList_n ?k1 ?k2 ?_ ?z; (case k1 => k_asm); (case k2 => k_asm); (case z => exact Nat.le_of_ble_eq_true rfl); k_whole); intro l' h' F' N' l1; (try dsimp only)))

/-- what stays while the three addresses are asked -/
structure Base (h : Heap) (L mo r qa ra aa : Addr) (rvs qvs : List Value) (rs ls : List (List Str)) (R S : List Str) : Prop where
  man : Mgr h mo
  cell : ∃ o, h.get? (L + 1) = some o ∧ o.data = .cell (some (.ref mo))
  row : h.IsList r (List.toArray rvs)
  rows : RowsAre h rvs rs
  rules : h.IsList qa (List.toArray qvs)
  ruless : RowsAre h qvs ls
  rule : Wds h ra R
  asked : Wds h aa S

theorem perm_a {α : Type} (a b c : α) (x y : List α) : (a :: b :: c :: (x ++ y)).Perm (c :: (y ++ (a :: b :: x))) :=
  (List.perm_middle (l₁ := [a, b])).trans ((List.perm_append_comm (l₁ := a :: b :: x) (l₂ := y)).cons _)
theorem TabSt.dst {tab : Array Value} {cx : List (Addr × Obj)} (h : TabSt tab cx) : Dst cx := by
  rcases h with ⟨_, rfl⟩ | ⟨c, oc, _, _, _, rfl, _⟩
  · exact List.nodup_nil
  · exact List.pairwise_singleton _ _
theorem outer_b {w : World} {A : Around} {s : Shared} {g₀ : Heap} {p : Program} {loose : List Str} {mean : ExcName → Option Value} {mg mb : Str → Option Value}
    {name qual : Str} {params : Arguments} {body : List Stmt} {scope : Scope} {dV kV doc pm cdv ct oc : Value} {an od : Option Addr} {osl : Array (Option Value)} {fa L mo r qa ra aa : Addr} {rvs qvs : List Value} {rs ls : List (List Str)} {R S : List Str}
    {m : Str → Option Value} {tab : Array Value} {cx FX : List (Addr × Obj)} {o2 o3 : Obj} {v3 : Option Value}
    (ho : (hd.heap_39 w.params).lookup 134 = some ⟨oc, od, .func (fnOf name qual params body scope dV kV doc pm an cdv ct), osl⟩)
    (X : (hd.heap_39 w.params).In g₀) (T : Top p loose mean mg mb g₀) (C : CodeHd g₀ 133 131) (hr : A.depth + 40 < recursionLimit) (hu : A.units + 900 < cLine) (hh : A.handled = none)
    (F : Fr g₀ L s.heap m) (N : News g₀ L s.heap ((131, tabObj tab) :: (L + 1 + 1 + 1, o3) :: (L + 1 + 1, o2) :: (cx ++ FX))) (D : Dst ((131, tabObj tab) :: (L + 1 + 1 + 1, o3) :: (L + 1 + 1, o2) :: (cx ++ FX)))
    (hfx : ∀ h m', Fr g₀ L h m' → News g₀ L h FX → Base h L mo r qa ra aa rvs qvs rs ls R S)
    (htab : TabSt tab cx) (hd3 : o3.data = .cell v3) (hd2 : o2.data = .cell (some (.ref ra)))
    (mrow : m (Str.ofString "row") = some (.ref r)) (mrules : m (Str.ofString "rules") = some (.ref qa)) (masked : m (Str.ofString "asked") = some (.ref aa))
    (hso : SSorted rs) (hnd : ls.Nodup) (hse : ∀ y, y ∈ rs ↔ y ∈ ls) (hsh : ∀ y ∈ ls, Shape y) (hR : Shape R) (hS : Shape S) (hz1 : rs.length ≤ 20) (hz2 : ls.length ≤ 20) :
    wpAny (model prg w) (A.deeper (envOfC qual scope L fa cdv)) (execs ((forBody (body.getD 1 (.Pass ⟨0, 0, 0, 0⟩))).drop 3) (envOfC qual scope L fa cdv))
      (fun f s₂ => f = .next ∧ ∃ h' tk m₂ tab' cx' o3' v3', s₂ = { s with heap := h', toks := tk } ∧ Fr g₀ L h' m₂ ∧ News g₀ L h' ((131, tabObj tab') :: (L + 1 + 1 + 1, o3') :: (L + 1 + 1, o2) :: (cx' ++ FX)) ∧
        Dst ((131, tabObj tab') :: (L + 1 + 1 + 1, o3') :: (L + 1 + 1, o2) :: (cx' ++ FX)) ∧ TabSt tab' cx' ∧ o3'.data = .cell v3' ∧
        m₂ (Str.ofString "row") = some (.ref r) ∧ m₂ (Str.ofString "rules") = some (.ref qa)) (fun _ _ => False) s := by
  obtain ⟨rfl, rfl, hfd, rfl⟩ := Obj.mk.inj (Option.some.inj (ho.symm.trans (by k_is)))
  cases hfd
  have ho' := ho
  clear ho
  show wpAny _ _ (execs [_] _) _ _ _
  have Nfx : ∀ {h : Heap} {q1 q2 q3 : Addr × Obj} {cy : List (Addr × Obj)}, News g₀ L h (q1 :: q2 :: q3 :: (cy ++ FX)) → News g₀ L h FX := fun N p hp => N p (.tail _ (.tail _ (.tail _ (List.mem_append_right _ hp))))
  have hRf := Shp.few (Shape.shp hR)
  have hSf := Shp.few (Shape.shp hS)
  repeat' walk1
  refine unhold ?_
  refine for_listJ (h₀ := g₀) (L := L) rfl hh (fun _ _ => rfl) ?_ (fun _ => rfl)
  repeat' walk1
  refine unhold ?_
  rename News _ _ _ _ => N1
  rename Fr _ _ _ _ => F1
  have st := hfx _ _ F1 (Nfx (fun p hp => N1 p (.tail _ hp)))
  obtain ⟨svs, hsl, hss⟩ := st.asked
  try dsimp only
  refine add_w (s := ⟨_, _, _, _, _⟩) F1 N1 hsl hss (News.isList N1 (.head _)) (.cons _ _ .nil) (by have := hSf.1; simp; omega) (fun l2 h2 ws2 F2 N2 hlt2 S2 => ?_)
  replace N2 : News g₀ L h2 ((l2, listOf ws2.toArray 0) :: (131, tabObj tab) :: (L + 1 + 1 + 1, o3) :: (L + 1 + 1, o2) :: (cx ++ FX)) := fun p hp => N2 p (by
    rcases List.mem_cons.mp hp with rfl | hp
    · exact .head _
    · exact .tail _ (.tail _ hp))
  have D2 := D.cons_lt (a := l2) (o := listOf ws2.toArray 0) (fun p hp => hlt2 p (.tail _ hp))
  clear N1 F1 N F st hsl hss hlt2
  repeat' walk1
  refine unhold ?_
  rename News _ _ _ _ => N3
  rename Fr _ _ _ _ => F3
  have st := hfx _ _ F3 (Nfx (fun p hp => N3 p (.tail _ (.tail _ hp))))
  obtain ⟨svs, hsl, hss⟩ := st.rule
  try dsimp only
  refine add_w (s := ⟨_, _, _, _, _⟩) F3 N3 hsl hss (News.isList N3 (.head _)) (.cons _ _ .nil) (by have := hRf.1; simp; omega) (fun l4 h4 ws4 F4 N4 hlt4 S4 => ?_)
  replace N4 : News g₀ L h4 ((l4, listOf ws4.toArray 0) :: (l2, listOf ws2.toArray 0) :: (131, tabObj tab) :: (L + 1 + 1 + 1, o3) :: (L + 1 + 1, o2) :: (cx ++ FX)) := fun p hp => N4 p (by
    rcases List.mem_cons.mp hp with rfl | hp
    · exact .head _
    · exact .tail _ (.tail _ hp))
  have D4 := D2.cons_lt (a := l4) (o := listOf ws4.toArray 0) (fun p hp => hlt4 p (.tail _ hp))
  clear N3 F3 N2 F2 st hsl hss hlt4
  repeat' walk1
  refine unhold ?_
  rename News _ _ _ _ => N5
  rename Fr _ _ _ _ => F5
  rename ∀ p ∈ _, _ < _ => hlt5
  rename_i l5 h5
  clear D
  have D5 := D4.cons_lt (o := listOf #[Value.ref aa, Value.ref l2, Value.ref l4] 0) hlt5
  clear hlt5 D4 D2
  have pm : ∀ (a b c d e f : Addr × Obj) (x y : List (Addr × Obj)), (a :: b :: c :: d :: e :: f :: (x ++ y)).Perm ((a :: b :: c :: f :: y) ++ (d :: e :: x)) := fun a b c d e f x y => (((perm_a d e f x y).cons _).cons _).cons _
  have N5' := news_perm N5 (pm _ _ _ _ _ _ _ _)
  have D5' := D5.perm (pm _ _ _ _ _ _ _ _)
  clear N5 D5 N4 F4
  generalize hfix : ((l5, listOf #[Value.ref aa, Value.ref l2, Value.ref l4] 0) :: (l4, listOf ws4.toArray 0) :: (l2, listOf ws2.toArray 0) :: (L + 1 + 1, o2) :: FX) = fix at N5' D5'
  have NF : ∀ {h : Heap}, News g₀ L h fix → News g₀ L h FX := fun N p hp => N p (by rw [← hfix]; exact .tail _ (.tail _ (.tail _ (.tail _ hp))))
  have hlist : ∀ h m', Fr g₀ L h m' → News g₀ L h fix → h.IsList l5 (List.toArray [Value.ref aa, Value.ref l2, Value.ref l4]) := fun h m' _ N => News.isList N (by rw [← hfix]; exact .head _)
  have hitem : ∀ (i : Nat) v, [Value.ref aa, Value.ref l2, Value.ref l4][i]? = some v → ∃ pa P, v = .ref pa ∧ Shp P ∧ ∀ h m', Fr g₀ L h m' → News g₀ L h fix → Wds h pa P := by
    intro i v hv
    match i, hv with
    | 0, e => cases e; exact ⟨aa, S, rfl, Shape.shp hS, fun h m' F N => (hfx h m' F (NF N)).asked⟩
    | 1, e => cases e; exact ⟨l2, _, rfl, shp_app hS (by decide), fun h m' F N => ⟨_, News.isList N (by rw [← hfix]; exact .tail _ (.tail _ (.head _))), S2⟩⟩
    | 2, e => cases e; exact ⟨l4, _, rfl, shp_app hR (by decide), fun h m' F N => ⟨_, News.isList N (by rw [← hfix]; exact .tail _ (.head _)), S4⟩⟩
    | i + 3, e => simp at e
  refine ⟨fun i m news => ∃ tab cx o3 v3, news = (131, tabObj tab) :: (L + 1 + 1 + 1, o3) :: cx ∧ TabSt tab cx ∧ o3.data = .cell v3 ∧ m (Str.ofString "row") = some (.ref r) ∧ m (Str.ofString "rules") = some (.ref qa) ∧ Dst (fix ++ news),
    l5, [.ref aa, .ref l2, .ref l4], _, fix, _, rfl, F5, N5', hlist, ⟨tab, cx, o3, v3, rfl, htab, hd3, mrow, mrules, D5'⟩, ?_, ?_⟩
  · rintro I it i v m₁ news₁ h₁ tk₁ hv hne F6 N6 ⟨tab6, cx6, o36, v36, rfl, ht6, hd36, mr6, mq6, D6⟩
    obtain ⟨pa, P, rfl, hP, hW⟩ := hitem i v hv
    clear N5' D5' F5
    have Dn := D6.app_r
    have h131 := Dn.head
    have h3 := Dn.tail.head
    have hfn := D6.app_ne
    have hne3 : L + 1 + 1 + 1 ≠ I := hne (_, o36) (List.mem_append_right _ (.tail _ (.head _)))
    have hne1 : 131 ≠ I := hne (_, tabObj tab6) (List.mem_append_right _ (.head _))
    have hnec : ∀ p ∈ cx6, p.1 ≠ I := fun p hp => hne p (List.mem_append_right _ (.tail _ (.tail _ hp)))
    have hnef : ∀ p ∈ fix, p.1 ≠ I := fun p hp => hne p (List.mem_append_left _ hp)
    have hf1 : ∀ q ∈ fix, q.1 ≠ 131 ∧ q.1 ≠ L + 1 + 1 + 1 := fun q hq => ⟨hfn q hq (_, tabObj tab6) (.head _), hfn q hq (_, o36) (.tail _ (.head _))⟩
    have N6' : News g₀ L h₁ ((L + 1 + 1 + 1, o36) :: (131, tabObj tab6) :: (cx6 ++ (I, it) :: fix)) := fun p hp => N6 p (by
      simp only [List.mem_cons, List.mem_append] at hp ⊢
      grind)
    clear N6
    repeat' walk1
    refine unhold ?_
    refine storeX_C F6 N6' rfl (UpdF.head (fun q hq => ?_)) hd36 (fun h7 o37 F7 N7 hd37 => ?_) rfl rfl
    · simp only [List.mem_cons, List.mem_append] at hq
      rcases hq with rfl | hq | rfl | hq
      · exact h131 _ (.head _)
      · exact fun e => h3 q hq e.symm
      · exact hne3.symm
      · exact (hf1 q hq).2
    have N7' : News g₀ L h7 ((131, tabObj tab6) :: (L + 1 + 1 + 1, o37) :: (cx6 ++ (I, it) :: fix)) := news_perm N7 (.swap _ _ _)
    clear N7 N6' F6
    repeat' walk1
    refine unhold ?_
    refine wpAny_mono (inner_turn (s := ⟨_, _, _, _, _⟩) (mo := mo) (r := r) (qa := qa) (pa := pa) (rvs := rvs) (qvs := qvs) (rs := rs) (ls := ls) (P := P) ho' X T C hr hu hh F7 N7'
      (fun h m' F N => ?_) ht6 hd37 (fun p hp => ?_) (fun q hq => ?_) (h131 _ (.head _)).symm mr6 mq6 hso hnd hse hsh hP hz1 hz2) ?_ (fun _ _ e => e)
    · have NN : News g₀ L h fix := fun p hp => N p (.tail _ hp)
      have b := hfx h m' F (NF NN)
      exact ⟨b.man, b.cell, b.row, b.rows, b.rules, b.ruless, hW h m' F NN⟩
    · refine ⟨fun e => h131 p (.tail _ hp) e.symm, fun e => h3 p hp e.symm, fun q hq => ?_⟩
      rcases List.mem_cons.mp hq with rfl | hq
      · exact hnec p hp
      · exact fun e => hfn q hq p (.tail _ (.tail _ hp)) e.symm
    · rcases List.mem_cons.mp hq with rfl | hq
      · exact ⟨hne1.symm, hne3.symm⟩
      · exact hf1 q hq
    · rintro fl s₂ ⟨rfl, h8, tk8, m8, tab8, cx8, rfl, F8, N8, ht8, hcx8, mr8, mq8, ma8⟩
      unfold ForEnd
      refine ⟨h8, tk8, m8, (131, tabObj tab8) :: (L + 1 + 1 + 1, o37) :: cx8, rfl, F8, fun p hp => N8 p ?_, fun p hp => ?_, tab8, cx8, o37, _, rfl, ht8, hd37, mr8, mq8, ?_⟩
      · simp only [List.mem_cons, List.mem_append] at hp ⊢
        grind
      · rcases List.mem_append.mp hp with hp | hp
        · exact hnef p hp
        · rcases List.mem_cons.mp hp with rfl | hp
          · exact hne1
          · rcases List.mem_cons.mp hp with rfl | hp
            · exact hne3
            · exact (hcx8 p hp).2.2 (I, it) (.head _)
      · refine D6.app_l.app (Dst.cons (fun q hq => ?_) (Dst.cons (fun q hq e => (hcx8 q hq).2.1 e.symm) ht8.dst)) fun p hp q hq => ?_
        · rcases List.mem_cons.mp hq with rfl | hq
          · exact h131 (_, o36) (.head _)
          · exact fun e => (hcx8 q hq).1 e.symm
        · rcases List.mem_cons.mp hq with rfl | hq
          · exact (hf1 p hp).1
          · rcases List.mem_cons.mp hq with rfl | hq
            · exact (hf1 p hp).2
            · exact fun e => (hcx8 q hq).2.2 p (.tail _ hp) e.symm
  · rintro m₁ news₁ h₁ tk₁ ⟨tab6, cx6, o36, v36, rfl, ht6, hd36, mr6, mq6, D6⟩ F6 N6
    clear N5' D5' F5
    subst hfix
    have pm' : ∀ (d e f : Addr × Obj) (x y : List (Addr × Obj)), ((f :: y) ++ (d :: e :: x)).Perm (d :: e :: f :: (x ++ y)) := fun d e f x y => (perm_a d e f x y).symm
    have N7 : News g₀ L h₁ ((131, tabObj tab6) :: (L + 1 + 1 + 1, o36) :: (L + 1 + 1, o2) :: (cx6 ++ FX)) := news_perm (fun p hp => N6 p (.tail _ (.tail _ (.tail _ hp)))) (pm' _ _ _ _ _)
    have D7 : Dst ((131, tabObj tab6) :: (L + 1 + 1 + 1, o36) :: (L + 1 + 1, o2) :: (cx6 ++ FX)) := Dst.perm (Dst.tail (Dst.tail (Dst.tail D6))) (pm' _ _ _ _ _)
    clear N6 D6
    walk1
    exact ⟨rfl, h₁, tk₁, m₁, tab6, cx6, o36, v36, rfl, F6, N7, D7, ht6, hd36, mr6, mq6⟩
end Mine
end
section
open PySem PySem.W PySem.Calls PyProof.Rows
set_option maxRecDepth 100000
set_option maxHeartbeats 8000000
set_option autoImplicit false
namespace Mine
local macro_rules | `(tactic| walk_at "binaryOp Add ref ref") => `(tactic| refine hold ?_)
local macro_rules | `(tactic| walk_at "compareOp In ref ref") => `(tactic| refine hold ?_)
local macro_rules | `(tactic| walk_at "compareOp NotEq ref ref") => `(tactic| refine hold ?_)
local macro_rules | `(tactic| walk_at "eval ListComp") => `(tactic| refine hold ?_)
local macro_rules | `(tactic| walk_at "eval Name") => `(tactic| (k_here; (refine nm_local (by assumption) (by assumption) ?_ rfl rfl rfl rfl)))
local macro_rules | `(tactic| walk_at "eval Name") => `(tactic| (k_here; (rename Gr _ _ => Gx); (refine nm_cell rfl (Fr.keep (by assumption) _ _ (by assumption)) (by assumption) ?_ rfl rfl rfl)))
local macro_rules | `(tactic| walk_at "newList") => `(tactic| (k_here; k_dflt (refine' newList_n ?k1 ?k2 ?_ ?z; (case k1 => k_asm); (case k2 => k_asm); (case z => exact Nat.le_of_ble_eq_true rfl); k_whole); intro l' h' F' N' l1; (try dsimp only)))

theorem add_r {prog : Program} {w : World} {A : Around} {E : Value → Shared → Prop} {s : Shared} {h₀ : Heap} {L : Addr} {m : Str → Option Value} {news : List (Addr × Obj)} {l b : Addr} {vs us : List Value} {Q : Value → Shared → Prop}
    (F : Fr h₀ L s.heap m) (N : News h₀ L s.heap news) (hl : s.heap.IsList l vs.toArray) (hb : s.heap.IsList b us.toArray) (hz : vs.length + us.length ≤ 1000)
    (h : ∀ l' h', Fr h₀ L h' m → News h₀ L h' ((l', listOf (List.toArray (vs ++ us)) 0) :: news) → (∀ p ∈ news, p.1 < l') → Q (.ref l') { s with heap := h' }) :
    wpAny (model prog w) A (binaryOp .Add (.ref l) (.ref b)) Q E s :=
  add_lists F N hl hb (fun h' F' N' => h _ h' F' N' fun p hp => Heap.lt_size (N p hp).1) (by rw [sizeLine_eq]; omega)
/-- what becomes of the rules -/
def ruled (R : List Str) (ls : List (List Str)) : List (List Str) := if R ∈ ls then ls.filter (fun x => decide (x ≠ R)) else ls ++ [R]

theorem rules_c {w : World} {A : Around} {s : Shared} {g₀ : Heap} {p : Program} {loose : List Str} {mean : ExcName → Option Value} {mg mb : Str → Option Value}
    {name qual : Str} {params : Arguments} {body : List Stmt} {scope : Scope} {dV kV doc pm cdv ct oc : Value} {an od : Option Addr} {osl : Array (Option Value)} {fa L qa ra : Addr} {qvs : List Value} {ls : List (List Str)} {R : List Str}
    {m : Str → Option Value} {nw : List (Addr × Obj)} {o2 : Obj}
    (ho : (hd.heap_39 w.params).lookup 134 = some ⟨oc, od, .func (fnOf name qual params body scope dV kV doc pm an cdv ct), osl⟩)
    (X : (hd.heap_39 w.params).In g₀) (T : Top p loose mean mg mb g₀) (hr : A.depth + 40 < recursionLimit) (hu : A.units + 900 < cLine) (hh : A.handled = none)
    (F : Fr g₀ L s.heap m) (N : News g₀ L s.heap ((L + 1 + 1, o2) :: nw)) (hd2 : o2.data = .cell (some (.ref ra)))
    (hst : ∀ h m', Fr g₀ L h m' → News g₀ L h nw → h.IsList qa (List.toArray qvs) ∧ RowsAre h qvs ls ∧ Wds h ra R)
    (mrules : m (Str.ofString "rules") = some (.ref qa)) (hR : Few R) (hz : ls.length ≤ 20) :
    wpAny (model prg w) (A.deeper (envOfC qual scope L fa cdv)) (exec ((forBody (body.getD 1 (.Pass ⟨0, 0, 0, 0⟩))).getD 2 (.Pass ⟨0, 0, 0, 0⟩)) (envOfC qual scope L fa cdv))
      (fun f s₂ => f = .next ∧ ∃ h' tk D qvs' n', s₂ = { s with heap := h', toks := tk } ∧ Fr g₀ L h' (fun y => if y = Str.ofString "rules" then some (.ref D) else m y) ∧ News g₀ L h' ((D, listOf (List.toArray qvs') n') :: (L + 1 + 1, o2) :: nw) ∧
        (∀ p ∈ (L + 1 + 1, o2) :: nw, p.1 ≠ D) ∧ ∀ h, RowsAre h qvs ls → Wds h ra R → RowsAre h qvs' (ruled R ls)) (fun _ _ => False) s := by
  obtain ⟨rfl, rfl, hfd, rfl⟩ := Obj.mk.inj (Option.some.inj (ho.symm.trans (by k_is)))
  cases hfd
  clear ho
  show wpAny _ _ (exec (.Assign _ _ _) _) _ _ _
  obtain ⟨st1, st2, rvs, st3, st4⟩ := hst _ _ F (fun p hp => N p (.tail _ hp))
  repeat' walk1
  refine unhold ?_
  refine in_rows st3 st4 hR st1 st2 (by show _ + 3 + 64 < _; omega) ?_
  by_cases hm : R ∈ ls
  · rw [decide_eq_true hm]
    clear st1 st2 st3 st4
    repeat' walk1
    refine unhold ?_
    refine comp_list (h₀ := g₀) (L := L) (selP s.heap fun x => decide (x ≠ R)) (fun v y => y = v) hh (cl := [("rule", L + 1 + 1)]) rfl (by decide) rfl (by decide) rfl ?_ (fun _ => rfl)
    obtain ⟨st1, st2, st3⟩ := hst _ _ F (fun p hp => N p (.tail _ hp))
    repeat' walk1
    refine unhold ?_
    have hc2 := (N _ (.head _)).1
    refine ⟨qa, qvs, m, _, rfl, st1, by have := st2.length; omega, F, N, ⟨?_, ?_⟩, ?_⟩
    · intro C' v s₂ m₂ Fc hv hm
      obtain ⟨a, x, rfl, Wx, fx, hx⟩ := st2.mem hv
      dsimp only at Fc hc2
      have Nc := no_news Fc
      have Gx := Gr.refl s₂.heap
      clear F N
      obtain ⟨xvs, hx1, hx2⟩ := Wx.ext Fc.keep
      obtain ⟨yvs, hy1, hy2⟩ := st3.ext Fc.keep
      refine tests_one ?_
      repeat' walk1
      refine unhold ?_
      refine ne_w hx1 hx2 hy1 hy2 fx hR (by show _ + 3 + 64 < _; omega) ?_
      have e := selP_eq (f := fun x => decide (x ≠ R)) Wx
      have e2 : (!decide (x = R)) = decide (x ≠ R) := by by_cases q : x = R <;> simp [q]
      rw [e2, ← e]
      repeat' walk1
      all_goals first | rfl | (rename Gr _ _ => Gz; exact ⟨_, _, rfl, Gz.ext⟩)
    · intro C' v s₂ m₂ Fc hv hp hm
      have Nc := no_news Fc
      clear F N
      repeat' walk1
      exact ⟨_, _, rfl, fun _ _ e => e⟩
    · intro D5 ys5 n5 h5 tk5 F5 N5 hne5 hP5
      obtain rfl := paired_eq hP5
      clear hP5
      walk1
      rename News _ _ _ _ => N6
      rename Fr _ _ _ _ => F6
      refine ⟨rfl, _, _, D5, _, n5, rfl, F6, N6, hne5, fun h r W => ?_⟩
      unfold ruled
      rw [if_pos hm]
      exact r.filter2 st2 fun a x W => selP_eq W
  · rw [decide_eq_false hm]
    clear st1 st2 st3 st4
    repeat' walk1
    refine unhold ?_
    rename News _ _ _ _ => N3
    rename Fr _ _ _ _ => F3
    obtain ⟨st1, st2, st3⟩ := hst _ _ F3 (fun p hp => N3 p (.tail _ (.tail _ hp)))
    have hlen := st2.length
    try dsimp only
    refine add_r (s := ⟨_, _, _, _, _⟩) F3 N3 st1 (News.isList N3 (.head _)) (by simp; omega) (fun l5 h5 F5 N5 hlt5 => ?_)
    walk1
    rename News _ _ _ _ => N6
    rename Fr _ _ _ _ => F6
    refine ⟨by first | rfl | trivial, _, _, l5, qvs ++ [.ref ra], 0, rfl, F6, fun p hp => N6 p ?_, fun p hp => Nat.ne_of_lt (hlt5 p (.tail _ hp)), fun h r W => ?_⟩
    · rcases List.mem_cons.mp hp with rfl | hp
      · exact .head _
      · exact .tail _ (.tail _ hp)
    · unfold ruled
      rw [if_neg hm]
      exact r.append (.cons W hR .nil)
end Mine
end
section
open PySem PySem.W PySem.Calls PyProof.Rows
set_option maxRecDepth 100000
set_option maxHeartbeats 8000000
set_option autoImplicit false
namespace Mine
/-- the two lists of rules, behind i deeds -/
structure Lists (rs ls : List (List Str)) (i : Nat) : Prop where
  so : SSorted rs
  nd : ls.Nodup
  se : ∀ y, y ∈ rs ↔ y ∈ ls
  sh : ∀ y ∈ ls, Shape y
  z1 : rs.length ≤ i
  z2 : ls.length ≤ i
theorem ruled_mem (R : List Str) (ls : List (List Str)) (y : List Str) : y ∈ ruled R ls ↔ if y = R then R ∉ ls else y ∈ ls := by
  unfold ruled
  by_cases h : R ∈ ls
  · rw [if_pos h, List.mem_filter]
    by_cases e : y = R
    · subst e; simp [h]
    · simp [e]
  · rw [if_neg h, List.mem_append, List.mem_singleton]
    by_cases e : y = R
    · subst e; simp [h]
    · simp [e]
theorem Lists.next {rs ls rs' : List (List Str)} {i : Nat} {R : List Str} (h : Lists rs ls i) (hR : Shape R) (t : Turned R rs rs') : Lists rs' (ruled R ls) (i + 1) := by
  obtain ⟨t1, t2, t3⟩ := t
  refine ⟨t1, ?_, fun y => ?_, fun y hy => ?_, by have := h.z1; omega, ?_⟩
  · unfold ruled
    by_cases q : R ∈ ls
    · rw [if_pos q]; exact h.nd.sublist List.filter_sublist
    · rw [if_neg q, List.nodup_append]
      refine ⟨h.nd, List.pairwise_singleton _ _, fun a ha b hb e => ?_⟩
      rw [List.mem_singleton] at hb
      subst hb e
      exact q ha
  · rw [t3, ruled_mem]
    by_cases e : y = R
    · rw [if_pos e, if_pos e, h.se]
    · rw [if_neg e, if_neg e, h.se]
  · rw [ruled_mem] at hy
    by_cases e : y = R
    · rw [e]; exact hR
    · rw [if_neg e] at hy; exact h.sh y hy
  · unfold ruled
    have := h.z2
    by_cases q : R ∈ ls
    · rw [if_pos q]; exact Nat.le_trans (List.length_filter_le _ _) (by omega)
    · rw [if_neg q]; simp; omega

local macro_rules | `(tactic| walk_at "call ref") => `(tactic| refine hold ?_)
local macro_rules | `(tactic| walk_at "storeName") => `(tactic| (k_here; (with_reducible show wpAny _ _ (storeName _ (PySem.Str.ofString "rule") _) _ _ _); refine hold ?_))
local macro_rules | `(tactic| walk_at "eval Name") => `(tactic| (k_here; (refine nm_local (by assumption) (by assumption) ?_ rfl rfl rfl rfl)))
local macro_rules | `(tactic| walk_at "exec Assign") => `(tactic| (k_here; (with_reducible show wpAny _ _ (exec (PySem.Stmt.Assign _ (PySem.Expr.IfExp _ _ _ _) _) _) _ _ _); refine hold ?_))
local macro_rules | `(tactic| walk_at "execs cons") => `(tactic| (k_here; (with_reducible show wpAny _ _ (execs [_] _) _ _ _); refine hold ?_))

theorem perm_b {α : Type} (d l2 r a b t l3 : α) (c e : List α) : (d :: l2 :: r :: a :: b :: t :: l3 :: (c ++ e)).Perm (t :: l3 :: l2 :: (c ++ (d :: r :: a :: b :: e))) := by
  classical
  rw [List.perm_iff_count]
  intro x
  simp only [List.count_cons, List.count_append]
  omega
theorem perm_e {α : Type} (t l3 l2 d r a b : α) (c e f : List α) : (t :: l3 :: l2 :: (c ++ (d :: r :: a :: b :: (e ++ f)))).Perm (a :: (f ++ (t :: l3 :: l2 :: r :: (c ++ (d :: b :: e))))) := by
  classical
  rw [List.perm_iff_count]
  intro x
  simp only [List.count_cons, List.count_append]
  omega
/-- what holds ahead of each deed -/
def OutInv (g₀ : Heap) (L r : Addr) (fx : List (Addr × Obj)) (i : Nat) (m : Str → Option Value) (news : List (Addr × Obj)) : Prop :=
  ∃ tab cx o2 o3 v2 v3 rvs n rs qa qvs ls ex, news = (131, tabObj tab) :: (L + 1 + 1 + 1, o3) :: (L + 1 + 1, o2) :: (r, listOf (List.toArray rvs) n) :: (cx ++ ex) ∧ TabSt tab cx ∧ o3.data = .cell v3 ∧ o2.data = .cell v2 ∧
    m (Str.ofString "row") = some (.ref r) ∧ m (Str.ofString "rules") = some (.ref qa) ∧
    (∀ h m', Fr g₀ L h m' → News g₀ L h ex → RowsAre h rvs rs ∧ h.IsList qa (List.toArray qvs) ∧ RowsAre h qvs ls) ∧ Dst (fx ++ news) ∧ Lists rs ls i

theorem outer_turn {w : World} {A : Around} {s : Shared} {g₀ : Heap} {p : Program} {loose : List Str} {mean : ExcName → Option Value} {mg mb : Str → Option Value}
    {name qual : Str} {params : Arguments} {body : List Stmt} {scope : Scope} {dV kV doc pm cdv ct oc : Value} {an od : Option Addr} {osl : Array (Option Value)} {fa L mo r : Addr}
    {m : Str → Option Value} {news fx : List (Addr × Obj)} {i : Nat} {x : Int} {t : Tok}
    (ho : (hd.heap_39 w.params).lookup 134 = some ⟨oc, od, .func (fnOf name qual params body scope dV kV doc pm an cdv ct), osl⟩)
    (X : (hd.heap_39 w.params).In g₀) (T : Top p loose mean mg mb g₀) (C : CodeHd g₀ 133 131) (hr : A.depth + 50 < recursionLimit) (hu : A.units + 1000 < cLine) (hh : A.handled = none)
    (F : Fr g₀ L s.heap m) (N : News g₀ L s.heap (fx ++ news)) (hO : OutInv g₀ L r fx i m news)
    (hk : ∀ h m', Fr g₀ L h m' → News g₀ L h fx → Mgr h mo ∧ ∃ o, h.get? (L + 1) = some o ∧ o.data = .cell (some (.ref mo)))
    (mx : m (Str.ofString "x") = some (.int x t)) (hi : i ≤ 15) :
    wpAny (model prg w) (A.deeper (envOfC qual scope L fa cdv)) (execs (forBody (body.getD 1 (.Pass ⟨0, 0, 0, 0⟩))) (envOfC qual scope L fa cdv))
      (fun f s₂ => f = .next ∧ ∃ h' tk m₂ news₂, s₂ = { s with heap := h', toks := tk } ∧ Fr g₀ L h' m₂ ∧ News g₀ L h' (fx ++ news₂) ∧ OutInv g₀ L r fx (i + 1) m₂ news₂) (fun _ _ => False) s := by
  obtain ⟨rfl, rfl, hfd, rfl⟩ := Obj.mk.inj (Option.some.inj (ho.symm.trans (by k_is)))
  cases hfd
  have ho' := ho
  clear ho
  show wpAny _ _ (execs [_, _, _, _] _) _ _ _
  obtain ⟨tab, cx, o2, o3, v2, v3, rvs, n, rs, qa, qvs, ls, ex, rfl, htab, hd3, hd2, mrow, mrules, hst, D, hL⟩ := hO
  have pm0 : ∀ (a b c d : Addr × Obj) (z y u : List (Addr × Obj)), (z ++ (a :: b :: c :: d :: (y ++ u))).Perm (a :: b :: c :: d :: (y ++ (u ++ z))) := fun a b c d z y u => by
    have := List.perm_append_comm (l₁ := z) (l₂ := a :: b :: c :: d :: (y ++ u))
    simpa using this
  replace N := news_perm N (pm0 _ _ _ _ _ _ _)
  replace D := D.perm (pm0 _ _ _ _ _ _ _)
  -- rule
  repeat' walk1
  refine unhold ?_
  refine use_post (fun E' => parts_c (X.keeps F.keep) (T.keeps F.keep) (by show _ + 1 + 10 < _; omega) (by show _ + 3 + 500 < _; omega) hh) ?_
  rintro v1 h1 tk1 k1 ⟨ra, R, rfl, W1, hR, hn1⟩
  obtain ⟨oa, N1, hWa, hne1⟩ := wds_new F N k1 hn1 W1
  have D1 := D.cons_ne (o := oa) hne1
  replace F := F.keeps k1
  clear N D k1 hn1 W1
  try dsimp only at F N1
  try dsimp only
  repeat' walk1
  refine unhold ?_
  -- asked
  refine use_post (fun E' => parts_c (X.keeps F.keep) (T.keeps F.keep) (by show _ + 1 + 10 < _; omega) (by show _ + 3 + 500 < _; omega) hh) ?_
  rintro v2 h2 tk2 k2 ⟨aa, S, rfl, W2, hS, hn2⟩
  obtain ⟨ob, N2, hWb, hne2⟩ := wds_new F N1 k2 hn2 W2
  have D2 := D1.cons_ne (o := ob) hne2
  replace F := F.keeps k2
  clear N1 D1 k2 hn2 W2
  try dsimp only at F N2
  try dsimp only
  repeat' walk1
  rename News _ _ _ _ => N3
  rename Fr _ _ _ _ => F3
  refine unpackN_ (s := ⟨_, _, _, _, _⟩) F3 N3 (News.isTup N3 (.head _)) hh rfl rfl (fun h4 F4 N4 => ?_)
  replace N4 : News g₀ L h4 ((L + 1 + 1, o2) :: (aa, ob) :: (ra, oa) :: (131, tabObj tab) :: (L + 1 + 1 + 1, o3) :: (r, listOf (List.toArray rvs) n) :: (cx ++ (ex ++ fx))) :=
    news_perm (fun p hp => N4 p (.tail _ hp)) (List.perm_middle (l₁ := [_, _, _, _]))
  have D4 : Dst ((L + 1 + 1, o2) :: (aa, ob) :: (ra, oa) :: (131, tabObj tab) :: (L + 1 + 1 + 1, o3) :: (r, listOf (List.toArray rvs) n) :: (cx ++ (ex ++ fx))) := D2.perm (List.perm_middle (l₁ := [_, _, _, _]))
  clear F3 N3 D2
  rename_i l3
  clear l3
  repeat' walk1
  refine unhold ?_
  try dsimp only
  refine storeX_C (s := ⟨_, _, _, _, _⟩) F4 N4 rfl (UpdF.head D4.head') hd2 (fun h5 o2' F5 N5 hd2' => ?_) rfl rfl
  have D5 : Dst ((L + 1 + 1, o2') :: (aa, ob) :: (ra, oa) :: (131, tabObj tab) :: (L + 1 + 1 + 1, o3) :: (r, listOf (List.toArray rvs) n) :: (cx ++ (ex ++ fx))) := D4
  clear N4 F4 D4
  repeat' walk1
  refine unhold ?_
  rename News _ _ _ _ => N5
  rename Fr _ _ _ _ => F6
  rename_i h6
  have N6 := news_perm N5 (List.perm_middle (l₁ := [_, _, _, _, _]))
  have D6 := D5.perm (List.perm_middle (l₁ := [_, _, _, _, _]))
  clear N5 D5
  try dsimp only [List.cons_append, List.nil_append] at N6 D6
  -- the deed
  have hrg0 := (N6 _ (.head _)).2.2
  have hrL := (N6 _ (.head _)).2.1
  have hrh := (N6 _ (.head _)).1
  have Fh := Fr.hide F6 hrg0 hrL
  have Nh : News g₀ L (h6.hide r) ((L + 1 + 1, o2') :: (aa, ob) :: (ra, oa) :: (131, tabObj tab) :: (L + 1 + 1 + 1, o3) :: (cx ++ (ex ++ fx))) := fun p hp =>
    ⟨by rw [Heap.hide_ne h6 (D6.head' p hp)]; exact (N6 p (.tail _ hp)).1, (N6 p (.tail _ hp)).2⟩
  have Nhx : News g₀ L (h6.hide r) ex := fun p hp => Nh p (.tail _ (.tail _ (.tail _ (.tail _ (.tail _ (List.mem_append_right _ (List.mem_append_left _ hp)))))))
  have hrow := (hst _ _ Fh Nhx).1
  have Nha : News g₀ L (h6.hide r) [(ra, oa)] := fun p hp => by
    rw [List.mem_singleton] at hp
    subst hp
    exact Nh _ (.tail _ (.tail _ (.head _)))
  obtain ⟨us, hl2, hs2⟩ := hWa _ _ Fh Nha
  have fR := Shp.few (Shape.shp hR)
  refine use_postM (fun E' => turn_c (g := h6.hide r) (X.keeps Fh.keep) (T.keeps Fh.keep) (by show _ + 1 + 30 < _; omega) (by show _ + 3 + 700 < _; omega) (fun _ _ e => Heap.of_hide e) (Nat.le_of_eq (Heap.hide_size ..)) (Heap.hide_self ..) hrh hrow hl2 hs2 fR (by have := hL.z1; omega) hL.so) ?_
  rintro v7 h7 tk7 k7 ⟨vs', n', rs', e7, hrows', ht⟩
  have F7 := Fh.keeps k7
  have N7 : News g₀ L h7 ((L + 1 + 1, o2') :: (r, listOf (List.toArray vs') n') :: (aa, ob) :: (ra, oa) :: (131, tabObj tab) :: (L + 1 + 1 + 1, o3) :: (cx ++ (ex ++ fx))) := by
    have a : News g₀ L h7 ((r, listOf (List.toArray vs') n') :: (L + 1 + 1, o2') :: (aa, ob) :: (ra, oa) :: (131, tabObj tab) :: (L + 1 + 1 + 1, o3) :: (cx ++ (ex ++ fx))) := fun p hp => by
      rcases List.mem_cons.mp hp with rfl | hp
      · exact ⟨e7, hrL, hrg0⟩
      · exact ⟨k7 _ _ (Nh p hp).1, (Nh p hp).2⟩
    exact news_perm a (.swap _ _ _)
  have D7 : Dst ((L + 1 + 1, o2') :: (r, listOf (List.toArray vs') n') :: (aa, ob) :: (ra, oa) :: (131, tabObj tab) :: (L + 1 + 1 + 1, o3) :: (cx ++ (ex ++ fx))) :=
    Dst.perm (show Dst ((r, listOf (List.toArray vs') n') :: (L + 1 + 1, o2') :: (aa, ob) :: (ra, oa) :: (131, tabObj tab) :: (L + 1 + 1 + 1, o3) :: (cx ++ (ex ++ fx))) from D6) (.swap _ _ _)
  have hL' := hL.next hR ht
  have hLz := hL.z2
  clear N6 D6 F6 Fh Nh Nha Nhx hrow hl2 hs2 hrh k7 e7
  try dsimp only at F7 N7
  try dsimp only
  repeat' walk1
  refine unhold ?_
  have Nex : ∀ {h : Heap} {a b c d e : Addr × Obj} {z : List (Addr × Obj)}, News g₀ L h (a :: b :: c :: d :: e :: (z ++ (ex ++ fx))) → News g₀ L h ex := fun N p hp => N p (.tail _ (.tail _ (.tail _ (.tail _ (.tail _ (List.mem_append_right _ (List.mem_append_left _ hp)))))))
  refine wpAny_mono (rules_c (s := ⟨_, _, _, _, _⟩) (qvs := qvs) (ls := ls) ho' X T (by omega) (by omega) hh F7 N7 hd2' (fun h m' F N => ⟨(hst h m' F (Nex N)).2.1, (hst h m' F (Nex N)).2.2, hWa h m' F (fun p hp => by
    rw [List.mem_singleton] at hp
    subst hp
    exact N _ (.tail _ (.tail _ (.head _))))⟩) mrules fR (by omega)) ?_ (fun _ _ e => e)
  rintro fl s₂ ⟨rfl, h9, tk9, D9, qvs', n9, rfl, F9, N9, hne9, hq⟩
  have D9' := D7.cons_ne (o := listOf (List.toArray qvs') n9) hne9
  clear N7 F7 D7 hne9
  replace N9 := news_perm N9 (perm_b ..)
  replace D9' := D9'.perm (perm_b ..)
  try dsimp only
  repeat' walk1
  refine unhold ?_
  have NFe : ∀ {h : Heap} {a b c d : Addr × Obj}, News g₀ L h (a :: b :: c :: d :: (ex ++ fx)) → News g₀ L h ex ∧ News g₀ L h fx := fun N =>
    ⟨fun p hp => N p (.tail _ (.tail _ (.tail _ (.tail _ (List.mem_append_left _ hp))))), fun p hp => N p (.tail _ (.tail _ (.tail _ (.tail _ (List.mem_append_right _ hp)))))⟩
  have hz1 := hL'.z1
  have hz2 := hL'.z2
  refine wpAny_mono (outer_b (s := ⟨_, _, _, _, _⟩) (mo := mo) (r := r) (qa := D9) (ra := ra) (aa := aa) (rvs := vs') (qvs := qvs') (rs := rs') (ls := ruled R ls) (R := R) (S := S) ho' X T C (by omega) (by omega) hh F9 N9 D9'
    (fun h m' F N => ?_) htab hd3 hd2' mrow rfl rfl hL'.so hL'.nd hL'.se hL'.sh hR hS (by omega) (by omega)) ?_ (fun _ _ e => e)
  · obtain ⟨Nx, Nf⟩ := NFe N
    obtain ⟨q1, q2, q3⟩ := hst h m' F Nx
    obtain ⟨q4, q5⟩ := hk h m' F Nf
    have q6 : Wds h ra R := hWa h m' F (fun p hp => by
      rw [List.mem_singleton] at hp
      subst hp
      exact N _ (.tail _ (.tail _ (.tail _ (.head _)))))
    have q7 : Wds h aa S := hWb h m' F (fun p hp => by
      rw [List.mem_singleton] at hp
      subst hp
      exact N _ (.tail _ (.tail _ (.head _))))
    exact ⟨q4, q5, News.isList N (.tail _ (.head _)), hrows' h q1 q6, News.isList N (.head _), hq h q3 q6, q6, q7⟩
  · rintro fl s₂ ⟨rfl, h8, tk8, m8, tab8, cx8, o38, v38, rfl, F8, N8, D8, ht8, hd38, mr8, mq8⟩
    have N8' := news_perm N8 (perm_e ..)
    have D8' := (D8.perm (perm_e ..)).tail
    refine ⟨rfl, h8, tk8, m8, _, rfl, F8, fun p hp => N8' p (.tail _ hp), tab8, cx8, o2', o38, _, v38, vs', n', rs', D9, qvs', ruled R ls, _, rfl, ht8, hd38, hd2', mr8, mq8, fun h m' F N => ?_, D8', hL'⟩
    obtain ⟨q1, q2, q3⟩ := hst h m' F (fun p hp => N p (.tail _ (.tail _ hp)))
    have q6 : Wds h ra R := hWa h m' F (fun p hp => by
      rw [List.mem_singleton] at hp
      subst hp
      exact N _ (.tail _ (.head _)))
    exact ⟨hrows' h q1 q6, News.isList N (.head _), hq h q3 q6⟩
end Mine
end
section
open PySem PySem.W PySem.Calls PyProof.Rows
set_option maxRecDepth 100000
set_option maxHeartbeats 8000000
set_option autoImplicit false
namespace Mine
local macro_rules | `(tactic| walk_at "exec For") => `(tactic| refine hold ?_)
local macro_rules | `(tactic| walk_at "execs cons") => `(tactic| (k_here; (with_reducible show wpAny _ _ (execs [_, _, _, _] _) _ _ _); refine hold ?_))
local macro_rules | `(tactic| walk_at "binaryOp Add ref ref") => `(tactic| refine hold ?_)
local macro_rules | `(tactic| walk_at "call builtin:sorted") => `(tactic| refine hold ?_)
local macro_rules | `(tactic| walk_at "compareOp Eq ref ref") => `(tactic| refine hold ?_)
local macro_rules | `(tactic| walk_at "eval Name") => `(tactic| (k_here; (refine nm_local (by assumption) (by assumption) ?_ rfl rfl rfl rfl)))
theorem ints_get : ∀ {vs : List Value} {ns : List Int}, IntsAre vs ns → ∀ (i : Nat) (v : Value), vs[i]? = some v → ∃ k t, v = .int k t
  | _, _, .nil, i, v, h => by simp at h
  | _, _, .cons n t r, 0, v, h => by cases h; exact ⟨_, _, rfl⟩
  | _, _, .cons n t r, i + 1, v, h => ints_get r i v (by simpa using h)
theorem perm_f {α : Type} (l5 d2 qa r dp mo dx l3 l2 l1 t : α) : [l5, d2, qa, r, dp, mo, dx, l3, l2, l1, t].Perm (d2 :: dp :: ([l5, mo, dx, l1] ++ (t :: l3 :: l2 :: r :: ([] ++ [qa])))) := by
  classical
  rw [List.perm_iff_count]
  intro x
  simp only [List.count_cons, List.count_append, List.count_nil]
  omega
theorem law_tail {w : World} {A : Around} {s : Shared} {g₀ : Heap} {p : Program} {loose : List Str} {mean : ExcName → Option Value} {mg mb : Str → Option Value}
    {name qual : Str} {params : Arguments} {body : List Stmt} {scope : Scope} {dV kV doc pm cdv ct oc : Value} {an od : Option Addr} {osl : Array (Option Value)} {fa L sc D2 qa r dp mo dx : Addr} {svs : List Value} {ns : List Int}
    {m : Str → Option Value} {o1 o2 o3 ot op : Obj} {n1 n2 ne : Nat} {es : List DictEntry}
    (ho : (hd.heap_39 w.params).lookup 134 = some ⟨oc, od, .func (fnOf name qual params body scope dV kV doc pm an cdv ct), osl⟩)
    (X : (hd.heap_39 w.params).In g₀) (T : Top p loose mean mg mb g₀) (C : CodeHd g₀ 133 131) (hr : A.depth + 60 < recursionLimit) (hu : A.units + 1100 < cLine) (hh : A.handled = none)
    (F : Fr g₀ L s.heap m) (N : News g₀ L s.heap [(D2, ot), (qa, listOf (List.toArray []) n2), (r, listOf (List.toArray []) n1), (dp, op), (mo, instObj 67 dx), (dx, dictOf es ne), (L + 1 + 1 + 1, o3), (L + 1 + 1, o2), (L + 1, o1), (131, tabObj #[])])
    (D : Dst [(D2, ot), (qa, listOf (List.toArray []) n2), (r, listOf (List.toArray []) n1), (dp, op), (mo, instObj 67 dx), (dx, dictOf es ne), (L + 1 + 1 + 1, o3), (L + 1 + 1, o2), (L + 1, o1), (131, tabObj #[])])
    (d1 : o1.data = .cell (some (.ref mo))) (d2 : o2.data = .cell none) (d3 : o3.data = .cell none) (hes : getL (Str.ofString "is_suburi") es = some none)
    (hms : m (Str.ofString "script") = some (.ref sc)) (mrow : m (Str.ofString "row") = some (.ref r)) (mrules : m (Str.ofString "rules") = some (.ref qa)) (hsc : g₀.IsList sc svs.toArray) (hi : IntsAre svs ns) (hz : ns.length ≤ 63) :
    wpAny (model prg w) (A.deeper (envOfC qual scope L fa cdv)) (execs (body.drop 1) (envOfC qual scope L fa cdv))
      (fun f s₂ => f = .ret (.bool true) ∧ ∃ h' tk m₂ tab' nw, s₂ = { s with heap := h', toks := tk } ∧ Fr g₀ L h' m₂ ∧ News g₀ L h' ((131, tabObj tab') :: nw)) (fun _ _ => False) s := by
  obtain ⟨rfl, rfl, hfd, rfl⟩ := Obj.mk.inj (Option.some.inj (ho.symm.trans (by k_is)))
  cases hfd
  have ho' := ho
  clear ho
  show wpAny _ _ (execs [_, _] _) _ _ _
  repeat' walk1
  refine unhold ?_
  refine for_listJ (h₀ := g₀) (L := L) rfl hh (fun _ _ => rfl) ?_ (fun _ => rfl)
  repeat' walk1
  refine unhold ?_
  rename News _ _ _ _ => N3
  rename Fr _ _ _ _ => F3
  rename IntsAre _ (List.take 4 ns) => hI3
  rename (List.take 4 ns).length = _ => hl3
  rename_i l3 _ D3 w3 h3 _ _
  have hI : IntsAre _ ([31233, 31341, 31647, 31293, 5149, 47617] ++ List.take 4 ns) := IntsAre.append (.cons 31233 s.toks (.cons 31341 (s.toks + 1) (.cons 31647 (s.toks + 1 + 1) (.cons 31293 (s.toks + 1 + 1 + 1) (.cons 5149 (s.toks + 1 + 1 + 1 + 1) (.cons 47617 (s.toks + 1 + 1 + 1 + 1 + 1) .nil)))))) hI3
  have hlen := hI.length
  have hlw := hI3.length
  try dsimp only
  refine add_r (s := ⟨_, _, _, _, _⟩) F3 N3 (News.isList N3 (.tail _ (.head _))) (News.isList N3 (.head _)) (by simp; omega) (fun l5 h5 F5 N5 hlt5 => ?_)
  refine unhold ?_
  generalize ([Value.int 31233 s.toks, Value.int 31341 (s.toks + 1), Value.int 31647 (s.toks + 1 + 1), Value.int 31293 (s.toks + 1 + 1 + 1), Value.int 5149 (s.toks + 1 + 1 + 1 + 1), Value.int 47617 (s.toks + 1 + 1 + 1 + 1 + 1)] ++ w3) = items at N5 hI hlen
  have hle : items.length ≤ 10 := by rw [hlen, List.length_append, hl3]; simp; omega
  have N6 : News g₀ L h5 ([(l5, listOf items.toArray 0), (mo, instObj 67 dx), (dx, dictOf es ne), (L + 1, o1)] ++ ((131, tabObj #[]) :: (L + 1 + 1 + 1, o3) :: (L + 1 + 1, o2) :: (r, listOf (List.toArray []) n1) :: ([] ++ [(qa, listOf (List.toArray []) n2)]))) := fun p hp => N5 p (by
    simp only [List.mem_cons, List.mem_append, List.not_mem_nil, or_false, false_or] at hp ⊢
    rcases hp with (h | h | h | h) | h | h | h | h | h <;> simp [h])
  have D6 := ((D.cons_lt (a := l5) (o := listOf items.toArray 0) (fun p hp => hlt5 p (.tail _ (.tail _ hp)))).perm (perm_f ..)).tail.tail
  clear N5 N3 F3 hlt5 D hlw hl3 hI3
  generalize hfix : [(l5, listOf items.toArray 0), (mo, instObj 67 dx), (dx, dictOf es ne), (L + 1, o1)] = fix at N6 D6
  have hk : ∀ h m', Fr g₀ L h m' → News g₀ L h fix → Mgr h mo ∧ ∃ o, h.get? (L + 1) = some o ∧ o.data = .cell (some (.ref mo)) := fun h m' _ N => by
    subst hfix
    exact ⟨⟨dx, es, ne, (N _ (.tail _ (.head _))).1, (N _ (.tail _ (.tail _ (.head _)))).1, hes⟩, o1, (N _ (.tail _ (.tail _ (.tail _ (.head _))))).1, d1⟩
  have hlist : ∀ h m', Fr g₀ L h m' → News g₀ L h fix → h.IsList l5 items.toArray := fun h m' _ N => News.isList N (by rw [← hfix]; exact .head _)
  clear hfix
  refine ⟨fun i m news => OutInv g₀ L r fix i m news, l5, items, m, fix, _, rfl, F5, N6, hlist, ?_, ?_, ?_⟩
  · refine ⟨#[], [], o2, o3, none, none, [], n1, [], qa, [], [], _, rfl, .inl ⟨rfl, rfl⟩, d3, d2, mrow, mrules, fun h m' F N => ⟨.nil, News.isList N (.head _), .nil⟩, D6, ?_⟩
    exact ⟨.nil, .nil, fun y => Iff.rfl, fun y hy => (nomatch hy), Nat.le_refl _, Nat.le_refl _⟩
  · rintro I it i v m₁ news₁ h₁ tk₁ hv hne F7 N7 hO
    obtain ⟨k, t, rfl⟩ := ints_get hI i v hv
    have hil : i < items.length := (List.getElem?_eq_some_iff.mp hv).1
    clear N6 D6 F5
    repeat' walk1
    refine unhold ?_
    rename News _ _ _ _ => N8
    rename Fr _ _ _ _ => F8
    obtain ⟨tab, cx, o2', o3', v2, v3, rvs, n, rs, qa', qvs, ls, ex, rfl, e1, e2, e3, e4, e5, e6, e7, e8⟩ := hO
    refine wpAny_mono (outer_turn (s := ⟨_, _, _, _, _⟩) (r := r) (mo := mo) (fx := (I, it) :: fix) (i := i) ho' X T C (by omega) (by omega) hh F8 N8
      ⟨tab, cx, o2', o3', v2, v3, rvs, n, rs, qa', qvs, ls, ex, rfl, e1, e2, e3, e4, e5, e6, e7.cons_ne hne, e8⟩ (fun h m' F N => hk h m' F (fun p hp => N p (.tail _ hp))) rfl (by omega)) ?_ (fun _ _ e => e)
    rintro fl s₂ ⟨rfl, h9, tk9, m9, news9, rfl, F9, N9, tab9, cx9, o29, o39, v29, v39, rvs9, n9, rs9, qa9, qvs9, ls9, ex9, rfl, f1, f2, f3, f4, f5, f6, f7, f8⟩
    unfold ForEnd
    exact ⟨h9, tk9, m9, _, rfl, F9, N9, f7.head', tab9, cx9, o29, o39, v29, v39, rvs9, n9, rs9, qa9, qvs9, ls9, ex9, rfl, f1, f2, f3, f4, f5, f6, f7.tail, f8⟩
  · rintro m₁ news₁ h₁ tk₁ ⟨tab, cx, o2', o3', v2, v3, rvs, n, rs, qa', qvs, ls, ex, rfl, e1, e2, e3, e4, e5, e6, e7, e8⟩ F7 N7
    clear N6 D6 F5
    repeat' walk1
    refine unhold ?_
    have Nex : ∀ {h : Heap} {a b c d : Addr × Obj}, News g₀ L h (fix ++ (a :: b :: c :: d :: (cx ++ ex))) → News g₀ L h ex := fun N p hp => N p (List.mem_append_right _ (.tail _ (.tail _ (.tail _ (.tail _ (List.mem_append_right _ hp))))))
    obtain ⟨q1, q2, q3⟩ := e6 _ _ F7 (Nex N7)
    have hlz := e8.z2
    refine sorted_w (s := ⟨_, _, _, _, _⟩) F7 N7 q2 (fun h F N => (e6 h _ F (Nex N)).2.2) e8.nd (by omega) (by show _ + 3 + 100 < _; omega) (fun D9 out fo c h9 F9 N9 ho9 hs9 hm9 => ?_)
    repeat' walk1
    refine unhold ?_
    have Nx9 : News g₀ L h9 ex := Nex (fun p hp => N9 p (.tail _ hp))
    obtain ⟨q4, q5, q6⟩ := e6 _ _ F9 Nx9
    refine eq_rows (s := ⟨_, _, _, _, _⟩) (News.isList N9 (.tail _ (List.mem_append_right _ (.tail _ (.tail _ (.tail _ (.head _))))))) q4 (News.isList N9 (.head _)) ho9 (by show _ + 3 + 64 < _; omega) ?_
    have heq : rs = fo := sorted_ext e8.so hs9 fun y => (e8.se y).trans (hm9 y).symm
    rw [decide_eq_true heq]
    exact ⟨rfl, h9, tk₁, m₁, tab, _, rfl, F9, fun p hp => N9 p (.tail _ (List.mem_append_right _ hp))⟩
end Mine
end
section
open PySem PySem.W PySem.Calls PyProof.Rows
set_option maxRecDepth 100000
set_option maxHeartbeats 4000000
set_option autoImplicit false
namespace Mine
local macro_rules | `(tactic| walk_at "exec For") => `(tactic| refine hold ?_)
local macro_rules | `(tactic| walk_at "execs cons") => `(tactic| (k_here; (with_reducible show wpAny _ _ (execs [_, _] _) _ _ _); refine hold ?_))
local macro_rules | `(tactic| walk_at "call builtin:sorted") => `(tactic| refine hold ?_)
local macro_rules | `(tactic| walk_at "compareOp Eq ref ref") => `(tactic| refine hold ?_)
local macro_rules | `(tactic| walk_at "eval Name") => `(tactic| (k_here; (refine nm_local (by assumption) (by assumption) ?_ rfl rfl rfl rfl)))
theorem law_body {w : World} {s : Shared} {g₀ : Heap} {p : Program} {loose : List Str} {mean : ExcName → Option Value} {mg mb : Str → Option Value}
    {name qual : Str} {params : Arguments} {body : List Stmt} {scope : Scope} {dV kV doc pm cdv ct oc : Value} {an od : Option Addr} {osl : Array (Option Value)} {fa L sc : Addr} {svs : List Value} {ns : List Int}
    {m : Str → Option Value} {o1 o2 o3 : Obj}
    (ho : (hd.heap_39 w.params).lookup 134 = some ⟨oc, od, .func (fnOf name qual params body scope dV kV doc pm an cdv ct), osl⟩)
    (X : (hd.heap_39 w.params).In g₀) (T : Top p loose mean mg mb g₀) (C : CodeHd g₀ 133 131) (B : Below callerA g₀ [] g₀)
    (F : Fr g₀ L s.heap m) (N : News g₀ L s.heap [(L + 1 + 1 + 1, o3), (L + 1 + 1, o2), (L + 1, o1), (131, tabObj #[])]) (d1 : o1.data = .cell none) (d2 : o2.data = .cell none) (d3 : o3.data = .cell none)
    (hms : m (Str.ofString "script") = some (.ref sc)) (hsc : g₀.IsList sc svs.toArray) (hi : IntsAre svs ns) (hz : ns.length ≤ 63) (hlt : @LT.lt Nat _ 131 L) :
    wpAny (model prg w) (callerA.deeper (envOfC qual scope L fa cdv)) (execs body (envOfC qual scope L fa cdv))
      (fun f s₂ => f = .ret (.bool true) ∧ ∃ h' tk m₂ tab' nw, s₂ = { s with heap := h', toks := tk } ∧ Fr g₀ L h' m₂ ∧ News g₀ L h' ((131, tabObj tab') :: nw)) (fun _ _ => False) s := by
  obtain ⟨rfl, rfl, hfd, rfl⟩ := Obj.mk.inj (Option.some.inj (ho.symm.trans (by k_is)))
  cases hfd
  have ho' := ho
  clear ho
  repeat' walk1
  refine unhold ?_
  rename News _ _ _ _ => N1
  rename Fr _ _ _ _ => F1
  refine law_tail (s := ⟨_, _, _, _, _⟩) ho' X T C (by decide) (by decide) rfl F1 N1 ?D (by assumption) d2 d3 rfl hms rfl rfl hsc hi hz
  iterate 10 (refine Dst.cons_ne ?_ ?_; rotate_left; k_all)
  exact List.nodup_nil
end Mine
end
open PySem PySem.W PySem.Calls PyProof.Rows
set_option maxRecDepth 100000 in
set_option maxHeartbeats 8000000 in
theorem PySem.Challenge.cw_ph0121_01_holds : PySem.Challenge.rw_ph0121_01.Holds := by
  exact Mine.hd (by
    k_go0
    (all_goals try k_fold)
    rename News _ _ _ _ => N9
    rename Fr _ _ _ _ => F9
    rename Frag.In _ _ => X9
    rename Top _ _ _ _ _ (ghostOf _ _) => T9
    rename CodeHd _ _ _ => C9
    rename Below _ _ _ _ => B9
    rename Heap.IsList (ghostOf _ _) _ _ => Q9
    rename IntsAre _ _ => I9
    rename 131 < _ => l9
    refine wpAny_mono (Mine.law_body (by k_is) X9 T9 C9 B9 F9 N9 (by assumption) (by assumption) (by assumption) rfl Q9 I9 (by omega) l9) ?_ (fun _ _ e => e.elim)
    rintro fl s₂ ⟨rfl, h', tk, m₂, tab', nw, rfl, F, N⟩
    clear F9 N9
    try dsimp only
    k_steps)
