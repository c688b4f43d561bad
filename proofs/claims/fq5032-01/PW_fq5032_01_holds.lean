import PyProof.Rows.All
import Wide.All
import OpenK.AllK
import Wide.FinOn
import PySem.Challenge.RW_fq5032_01
set_option Elab.async false
set_option maxRecDepth 100000
set_option linter.unusedVariables false
/-! HD -/
section
open PySem PySem.W PySem.W.X PyProof.Rows
set_option Elab.async false
set_option maxRecDepth 100000
set_option maxHeartbeats 8000000
local macro_rules | `(tactic| k_head) => `(tactic| x_head)
namespace Mine
open_top hd for PySem.Challenge.rw_fq5032_01
end Mine
end
/-! P1 -/
section
open PySem PySem.W PySem.Calls PyProof.Rows
namespace Mine
/-- the length of the common beginning -/
def ext : List Nat → List Nat → Nat
  | x :: xs, y :: ys => if x = y then ext xs ys + 1 else 0
  | _, _ => 0
theorem ext_le_left : ∀ xs ys : List Nat, ext xs ys ≤ xs.length
  | [], _ => by simp [ext]
  | _ :: _, [] => by simp [ext]
  | x :: xs, y :: ys => by
    have := ext_le_left xs ys
    unfold ext
    split <;> simp only [List.length_cons] <;> omega
theorem ext_le_right : ∀ xs ys : List Nat, ext xs ys ≤ ys.length
  | [], _ => by simp [ext]
  | _ :: _, [] => by simp [ext]
  | x :: xs, y :: ys => by
    have := ext_le_right xs ys
    unfold ext
    split <;> simp only [List.length_cons] <;> omega
theorem ext_more : ∀ (xs ys : List Nat) (n x : Nat), n ≤ ext xs ys → xs[n]? = some x → ys[n]? = some x → n + 1 ≤ ext xs ys
  | [], _, _, _, _, h, _ => by simp at h
  | _ :: _, [], _, _, _, _, h => by simp at h
  | a :: xs, b :: ys, 0, x, _, h1, h2 => by
    simp only [List.getElem?_cons_zero, Option.some.injEq] at h1 h2
    unfold ext
    rw [if_pos (h1.trans h2.symm)]; omega
  | a :: xs, b :: ys, n + 1, x, h, h1, h2 => by
    simp only [List.getElem?_cons_succ] at h1 h2
    unfold ext at h ⊢
    split at h
    · rename_i e
      rw [if_pos e]
      have := ext_more xs ys n x (by omega) h1 h2
      omega
    · omega
theorem ext_stop : ∀ (xs ys : List Nat) (n x y : Nat), xs[n]? = some x → ys[n]? = some y → x ≠ y → ext xs ys ≤ n
  | [], _, _, _, _, h, _, _ => by simp at h
  | _ :: _, [], _, _, _, _, h, _ => by simp at h
  | a :: xs, b :: ys, 0, x, y, h1, h2, h => by
    simp only [List.getElem?_cons_zero, Option.some.injEq] at h1 h2
    unfold ext
    rw [if_neg (by rw [h1, h2]; exact h)]; omega
  | a :: xs, b :: ys, n + 1, x, y, h1, h2, h => by
    simp only [List.getElem?_cons_succ] at h1 h2
    have := ext_stop xs ys n x y h1 h2 h
    unfold ext
    split <;> omega
def lcp (s1 s2 : Str) (a b : Int) : Int := ((ext (s1.cps.toList.drop a.toNat) (s2.cps.toList.drop b.toNat) : Nat) : Int)
theorem item_at {s : Str} {i : Int} (h0 : 0 ≤ i) (h1 : i < (s.length : Int)) : ∃ c, s.cps.toList[i.toNat]? = some c ∧ Txt.item s i = ⟨#[c]⟩ := by
  have hl : i.toNat < s.cps.size := by unfold Str.length at h1; omega
  refine ⟨s.cps[i.toNat], by simp [hl], ?_⟩
  unfold Txt.item Txt.charAt
  have : seqIndex? i s.length = some i.toNat := by
    unfold seqIndex?
    simp only [Str.length] at h1 ⊢
    split <;> simp_all <;> omega
  rw [this]
  simp [hl]
section
variable {s1 s2 : Str} {a b n : Int}
theorem lcp_left (h0 : 0 ≤ a) (h1 : a ≤ (s1.length : Int)) : a + lcp s1 s2 a b ≤ (s1.length : Int) := by
  unfold lcp
  have := ext_le_left (s1.cps.toList.drop a.toNat) (s2.cps.toList.drop b.toNat)
  rw [List.length_drop, Array.length_toList] at this
  unfold Str.length at *
  omega
theorem lcp_right (h0 : 0 ≤ b) (h1 : b ≤ (s2.length : Int)) : b + lcp s1 s2 a b ≤ (s2.length : Int) := by
  unfold lcp
  have := ext_le_right (s1.cps.toList.drop a.toNat) (s2.cps.toList.drop b.toNat)
  rw [List.length_drop, Array.length_toList] at this
  unfold Str.length at *
  omega
theorem lcp_at (ha : 0 ≤ a) (hn : 0 ≤ n) (h1 : a + n < (s1.length : Int)) : ∃ c, (s1.cps.toList.drop a.toNat)[n.toNat]? = some c ∧ Txt.item s1 (a + n) = ⟨#[c]⟩ := by
  obtain ⟨c, h, e⟩ := item_at (s := s1) (i := a + n) (by omega) h1
  refine ⟨c, ?_, e⟩
  rw [List.getElem?_drop, ← h]
  congr 1
  omega
theorem lcp_more (ha : 0 ≤ a) (hb : 0 ≤ b) (hn : 0 ≤ n) (h : n ≤ lcp s1 s2 a b) (h1 : a + n < (s1.length : Int)) (h2 : b + n < (s2.length : Int)) (e : (Txt.item s1 (a + n) == Txt.item s2 (b + n)) = true) : n + 1 ≤ lcp s1 s2 a b := by
  obtain ⟨c, hc, ec⟩ := lcp_at (s1 := s1) ha hn h1
  obtain ⟨d, hd, ed⟩ := lcp_at (s1 := s2) hb hn h2
  have : c = d := by rw [ec, ed] at e; simpa using e
  subst this
  have := ext_more _ _ n.toNat c (by unfold lcp at h; omega) hc hd
  unfold lcp
  omega
theorem lcp_stop (ha : 0 ≤ a) (hb : 0 ≤ b) (hn : 0 ≤ n) (h1 : a + n < (s1.length : Int)) (h2 : b + n < (s2.length : Int)) (e : (Txt.item s1 (a + n) == Txt.item s2 (b + n)) = false) : lcp s1 s2 a b ≤ n := by
  obtain ⟨c, hc, ec⟩ := lcp_at (s1 := s1) ha hn h1
  obtain ⟨d, hd, ed⟩ := lcp_at (s1 := s2) hb hn h2
  have : c ≠ d := by rw [ec, ed] at e; simpa using e
  have := ext_stop _ _ n.toNat c d hc hd this
  unfold lcp
  omega
end
def inner (s1 s2 : Str) (a : Int) (bs : List Int) (p : Int × Int) : Int × Int :=
  bs.foldl (fun p b => if p.2 < lcp s1 s2 a b then (a, lcp s1 s2 a b) else p) p
def outer (s1 s2 : Str) (as : List Int) : Int × Int :=
  as.foldl (fun p a => inner s1 s2 a (rangeKs 0 s2.length) p) (0, 0)
def OutW (s1 s2 : Str) (pre : List Int) (p b : Int) : Prop := outer s1 s2 pre = (p, b)
def InW (s1 s2 : Str) (a : Int) (p0 b0 : Int) (pre : List Int) (p b : Int) : Prop := inner s1 s2 a pre (p0, b0) = (p, b)
def WW (s1 s2 : Str) (a b size : Int) : Prop := size ≤ lcp s1 s2 a b
section
variable {s1 s2 : Str} {P : Prop} {a b p0 b0 p q n : Int} {pre : List Int}
theorem out0 (h : P) : OutW s1 s2 [] 0 0 ∧ P := ⟨rfl, h⟩
theorem in0 (h : P) : InW s1 s2 a p b [] p b ∧ P := ⟨rfl, h⟩
theorem ww0 (h : P) : WW s1 s2 a b 0 ∧ P := ⟨by unfold WW lcp; omega, h⟩
theorem out1 {m : Nat} (h1 : OutW s1 s2 pre p0 b0) (h2 : InW s1 s2 a p0 b0 (rangeKs 0 m) p b) (e : m = s2.length) (h : P) : OutW s1 s2 (pre ++ [a]) p b ∧ P := by
  refine ⟨?_, h⟩
  subst e
  unfold OutW outer at *
  rw [List.foldl_append, h1]
  exact h2
theorem ww1 (hw : WW s1 s2 a b n) (e : (Txt.item s1 (a + n) == Txt.item s2 (b + n)) = true) (h : 0 ≤ a ∧ 0 ≤ b ∧ 0 ≤ n ∧ a + n < (s1.length : Int) ∧ b + n < (s2.length : Int)) :
    WW s1 s2 a b (n + 1) ∧ 0 ≤ n + 1 ∧ a + (n + 1) ≤ (s1.length : Int) ∧ b + (n + 1) ≤ (s2.length : Int) :=
  ⟨lcp_more h.1 h.2.1 h.2.2.1 hw h.2.2.2.1 h.2.2.2.2 e, by omega, by omega, by omega⟩
theorem in_last (h1 : InW s1 s2 a p0 b0 pre p q) (e : n = lcp s1 s2 a b) : InW s1 s2 a p0 b0 (pre ++ [b]) (if q < n then a else p) (if q < n then n else q) := by
  unfold InW inner at *
  rw [List.foldl_append, h1]
  simp only [List.foldl_cons, List.foldl_nil]
  rw [← e]
  split <;> rfl
theorem in_new (h1 : InW s1 s2 a p0 b0 pre p q) (e : n = lcp s1 s2 a b) (hq : q < n) : InW s1 s2 a p0 b0 (pre ++ [b]) a n := by
  have := in_last h1 e
  rwa [if_pos hq, if_pos hq] at this
theorem in_old (h1 : InW s1 s2 a p0 b0 pre p q) (e : n = lcp s1 s2 a b) (hq : ¬ q < n) : InW s1 s2 a p0 b0 (pre ++ [b]) p q := by
  have := in_last h1 e
  rwa [if_neg hq, if_neg hq] at this
theorem end_char (hw : WW s1 s2 a b n) (e : (Txt.item s1 (a + n) == Txt.item s2 (b + n)) = false) (h : 0 ≤ a ∧ 0 ≤ b ∧ 0 ≤ n ∧ a + n < (s1.length : Int) ∧ b + n < (s2.length : Int)) : n = lcp s1 s2 a b := by
  have := lcp_stop h.1 h.2.1 h.2.2.1 h.2.2.2.1 h.2.2.2.2 e
  unfold WW at hw
  omega
theorem end_left (hw : WW s1 s2 a b n) (h : 0 ≤ a ∧ a ≤ (s1.length : Int) ∧ ¬ a + n < (s1.length : Int)) : n = lcp s1 s2 a b := by
  have := lcp_left (s2 := s2) (b := b) h.1 h.2.1
  unfold WW at hw
  omega
theorem end_right (hw : WW s1 s2 a b n) (h : 0 ≤ b ∧ b ≤ (s2.length : Int) ∧ ¬ b + n < (s2.length : Int)) : n = lcp s1 s2 a b := by
  have := lcp_right (s1 := s1) (a := a) h.1 h.2.1
  unfold WW at hw
  omega
end
/-- the piece that `_standart` tells -/
def std (s1 s2 : Str) : Str := Txt.slice s1 (some (outer s1 s2 (rangeKs 0 s1.length)).1) (some ((outer s1 s2 (rangeKs 0 s1.length)).1 + (outer s1 s2 (rangeKs 0 s1.length)).2))
theorem std_is {s1 s2 : Str} {p b : Int} {m : Nat} (h : OutW s1 s2 (rangeKs 0 m) p b) (e : m = s1.length) : Txt.slice s1 (some p) (some (p + b)) = std s1 s2 := by
  subst e
  unfold std
  unfold OutW at h
  rw [h]
end Mine
end
/-! Enter -/
section
open PySem PySem.W PySem.Calls PyProof.Rows
set_option Elab.async false
set_option maxRecDepth 100000
namespace Mine
/-- a called def comes back: all that stood before the call (g) stands, and the made objects lie above it -/
def LeaveW (g : Heap) (R : Result → Shared → Prop) (v : Value) (s' : Shared) : Prop :=
  ∃ L' m' news', Fr g L' s'.heap m' ∧ News g L' s'.heap news' ∧ (g.StaysIn s'.heap → News g L' s'.heap news' → R (.ok (.ret v)) s')
theorem leaveW_ {g : Heap} {L' : Addr} {m' : Str → Option Value} {news' : List (Addr × Obj)} {R : Result → Shared → Prop} {v : Value} {s' : Shared} (F' : Fr g L' s'.heap m') (N' : News g L' s'.heap news')
    (k : g.StaysIn s'.heap → News g L' s'.heap news' → R (.ok (.ret v)) s') : LeaveW g R v s' := ⟨L', m', news', F', N', k⟩
theorem LeaveW.out {g : Heap} {R : Result → Shared → Prop} {v : Value} {s' : Shared} (h : LeaveW g R v s') : R (.ok (.ret v)) s' := by
  obtain ⟨L', m', news', F', N', k⟩ := h
  exact k F'.keep N'
section
variable {prog : Program} {w : World} {A A₀ : Around} {s : Shared} {K : Frag} {L : Addr} {h₀ base : Heap} {m mg mb : Str → Option Value} {p : Program} {loose : List Str} {mean : ExcName → Option Value}
  {env : Env} {outer : List Env} {R : Result → Shared → Prop} {name qual : Str} {params : Arguments} {body : List Stmt} {scope : Scope} {dV kV doc pm cdv ct oc : Value} {an od : Option Addr} {osl : Array (Option Value)} {f : Addr} {args : Args} {binds : List (Str × Value)}
theorem code_defW (B : Below A₀ base outer h₀) (F : Fr h₀ L s.heap m) (X₀ : K.In h₀) (T : Top p loose mean mg mb h₀) (hA : A.frames = some (env :: outer)) (hf : env.frame = some L) (hke : env.scope.kind = .function)
    (ho : K.lookup f = some ⟨oc, od, .func (fnOf name qual params body scope dV kV doc pm an cdv ct), osl⟩) (hcd : codeIn K cdv qual = true) (hroom : A.depth < recursionLimit)
    (hbind : BindsTo s (fnOf name qual params body scope dV kV doc pm an cdv ct) args binds) (hloc : ∀ y ∈ binds, scope.names.lookup y.1 = some .local)
    (h : ∀ L' h₁, Fr s.heap L' h₁ (fun y => binds.reverse.lookup y) → News s.heap L' h₁ [] → Below A base (env :: outer) s.heap → K.In s.heap → Top p loose mean mg mb s.heap →
      wpAny (model prog w) (A.deeper (envOf qual scope L' f cdv)) (execs body (envOf qual scope L' f cdv))
        (fun fl s' => LeaveW s.heap R (match fl with | .ret v => v | _ => .none) s')
        (fun e s' => wpAny (model prog w) (A.deeper (envOf qual scope L' f cdv)) (leaving (envOf qual scope L' f cdv) e) (fun _ s'' => R (.error e) s'') (fun e' s'' => R (.error e') s'') s')
        { s with heap := h₁, toks := s.toks + binds.length })
    (hco : scope.isCoroutine = false) (hgen : scope.isGenerator = false) (hk : scope.kind = .function)
    (hcell : ∀ x ∈ scope.names, x.2 ≠ .cell) : codeAny (model prog w) A (.call (.ref f) args) R s := by
  obtain ⟨_, BG, st, _⟩ := groundX (R := R) B F (News.nil (h₀ := h₀) (h := s.heap) (L := L)) hA hf hke
  refine codeAny_call_def (fd := fnOf name qual params body scope dV kV doc pm an cdv ct) (body := body) (binds := binds) hroom ((X₀.keeps F.keep) _ _ ho) rfl (T.nolimit.keeps F.keep) (codeRec_of (X₀.keeps F.keep) hcd) rfl hbind hcell hloc (fun h₁ hns hk₁ => ?_) hco hgen hk
  exact wpAny_mono (h s.heap.objs.size h₁ ⟨hns, hk₁, Nat.le_refl _⟩ News.nil BG (X₀.keeps st) (T.keeps st)) (fun fl s' hl => hl.out) fun _ _ y => y
theorem code_defCW (B : Below A₀ base outer h₀) (F : Fr h₀ L s.heap m) (X₀ : K.In h₀) (T : Top p loose mean mg mb h₀) (hA : A.frames = some (env :: outer)) (hf : env.frame = some L) (hke : env.scope.kind = .function)
    (ho : K.lookup f = some ⟨oc, od, .func (fnOf name qual params body scope dV kV doc pm an cdv ct), osl⟩) (hcd : codeIn K cdv qual = true) (hroom : A.depth < recursionLimit)
    (hbind : BindsTo s (fnOf name qual params body scope dV kV doc pm an cdv ct) args binds) (hkind : (binds.all fun y => scope.names.lookup y.1 == some .local || scope.names.lookup y.1 == some .cell) = true)
    (hnd : ((cellsFrom 0 scope.names []).map (·.1)).Nodup)
    (h : ∀ L' h₁ tk cells, Fr s.heap L' h₁ (bindL (envOfC qual scope L' f cdv).kindOf binds fun _ => none) → News s.heap L' h₁ cells →
      CellsAre (bindC (envOfC qual scope L' f cdv).kindOf binds fun _ => none) (cellsFrom (L' + 1) scope.names []) cells → Below A base (env :: outer) s.heap → K.In s.heap → Top p loose mean mg mb s.heap →
      wpAny (model prog w) (A.deeper (envOfC qual scope L' f cdv)) (execs body (envOfC qual scope L' f cdv))
        (fun fl s' => LeaveW s.heap R (match fl with | .ret v => v | _ => .none) s')
        (fun e s' => wpAny (model prog w) (A.deeper (envOfC qual scope L' f cdv)) (leaving (envOfC qual scope L' f cdv) e) (fun _ s'' => R (.error e) s'') (fun e' s'' => R (.error e') s'') s')
        { s with heap := h₁, toks := tk })
    (hco : scope.isCoroutine = false) (hgen : scope.isGenerator = false) (hk : scope.kind = .function) : codeAny (model prog w) A (.call (.ref f) args) R s := by
  obtain ⟨_, BG, st, _⟩ := groundX (R := R) B F (News.nil (h₀ := h₀) (h := s.heap) (L := L)) hA hf hke
  refine codeAny_call_function (fd := fnOf name qual params body scope dV kV doc pm an cdv ct) (body := body) hroom ((X₀.keeps F.keep) _ _ ho) rfl hco hgen rfl (codeRec_of (X₀.keeps F.keep) hcd) (hbind _ _ _ _ ?_)
  refine wpAny_newFunctionEnv_cells hk (kindsX hkind _) fun env' he s' x => ?_
  subst he
  refine ⟨(T.nolimit.keeps F.keep).keeps x.toInCall.keep, codeAny_func ?_⟩
  obtain ⟨h₁, tk, rfl, _⟩ := x.done
  obtain ⟨cells, NC, Y⟩ := Cl.news (h₀ := s.heap) (Nat.le_refl _) fun n c hm => ⟨x.cell n c (lookup_of_mem_nodup (cellsFrom_names scope.names 0 (s.heap.objs.size + 1) [] [] rfl ▸ hnd) hm), x.above n c hm⟩
  exact wpAny_mono (h s.heap.objs.size h₁ tk cells ⟨x.toInCall.ns, x.toInCall.keep, Nat.le_refl _⟩ NC Y BG (X₀.keeps st) (T.keeps st)) (fun fl s' hl => hl.out) fun _ _ y => y
theorem peek1_W {α : Type} {M : Model} {E : Value → Shared → Prop} {Q : α → Shared → Prop} {o : Obj} {r : Addr → α} (X : K.In s.heap)
    (q : Q (r s.heap.objs.size) { s with heap := s.heap.push o }) :
    ∀ (t : Sem α) (g : Addr → Option α), peek1 K ⟨M.prog, M.w.params⟩ t = some (o, g) → (∀ D, g D = some (r D)) → wpAny M A t Q E s := by
  intro t
  induction t with
  | rule _ k ih => intro g e hg Γ p hΓ; exact ih () g e hg Γ p hΓ
  | point _ k ih => intro g e hg Γ p hΓ; exact ih () g e hg Γ p hΓ
  | ask k ih => intro g e hg Γ p hΓ; exact ih _ g e hg Γ p hΓ
  | load a _ k ih =>
    intro g e hg Γ p hΓ
    simp only [peek1] at e
    split at e
    · rename_i ob ho; exact ⟨ob, X _ _ ho, ih ob g e hg Γ p hΓ⟩
    · cases e
  | alloc ob k _ =>
    intro g e hg
    have e : some (ob, fun D => peek K ⟨M.prog, M.w.params⟩ (k D)) = some (o, g) := e
    obtain ⟨e1, e2⟩ := Prod.mk.inj (Option.some.inj e)
    subst e1
    subst e2
    have X' : K.In (s.heap.push ob) := X.keeps fun b x hb => Heap.get?_push_of_some _ hb
    show wpAny M A (alloc ob >>= k) Q E s
    refine wpAny_bind (wpAny_alloc ?_)
    exact (Looks.of_peek (M := M) (h := s.heap.push ob) X' (hg s.heap.objs.size)).here (s := { s with heap := s.heap.push ob }) q
  | _ => intro g e; cases e
theorem code_restW {vs : List Value} {g₁ : Addr → Option (List (Str × Value))} {binds : Addr → List (Str × Value)}
    (B : Below A₀ base outer h₀) (F : Fr h₀ L s.heap m) (X₀ : K.In h₀) (T : Top p loose mean mg mb h₀) (hA : A.frames = some (env :: outer)) (hf : env.frame = some L) (hke : env.scope.kind = .function)
    (ho : K.lookup f = some ⟨oc, od, .func (fnOf name qual params body scope dV kV doc pm an cdv ct), osl⟩) (hcd : codeIn K cdv qual = true) (hroom : A.depth < recursionLimit)
    (hv : args.pos.drop (params.posonlyargs.length + params.args.length) = vs)
    (hp : peek1 K ⟨prog, w.params⟩ (bindArgs (fnOf name qual params body scope dV kV doc pm an cdv ct) args) = some (({ cls := .type "tuple", data := .seq vs.toArray } : Obj), g₁))
    (hg : ∀ D, g₁ D = some (binds D)) (hloc : ∀ D, ∀ y ∈ binds D, scope.names.lookup y.1 = some .local)
    (h : ∀ D L' h₁, Fr s.heap L' h₁ (fun y => (binds D).reverse.lookup y) → News s.heap L' h₁ [(D, ({ cls := .type "tuple", data := .seq vs.toArray } : Obj))] → Below A base (env :: outer) s.heap → K.In s.heap → Top p loose mean mg mb s.heap →
      wpAny (model prog w) (A.deeper (envOf qual scope L' f cdv)) (execs body (envOf qual scope L' f cdv))
        (fun fl s' => LeaveW s.heap R (match fl with | .ret v => v | _ => .none) s')
        (fun e s' => wpAny (model prog w) (A.deeper (envOf qual scope L' f cdv)) (leaving (envOf qual scope L' f cdv) e) (fun _ s'' => R (.error e) s'') (fun e' s'' => R (.error e') s'') s')
        { s with heap := h₁, toks := s.toks + (binds D).length })
    (hco : scope.isCoroutine = false) (hgen : scope.isGenerator = false) (hk : scope.kind = .function)
    (hcell : ∀ x ∈ scope.names, x.2 ≠ .cell) : codeAny (model prog w) A (.call (.ref f) args) R s := by
  have _ := hv
  obtain ⟨_, BG, st, _⟩ := groundX (R := R) B F (News.nil (h₀ := h₀) (h := s.heap) (L := L)) hA hf hke
  refine codeAny_call_function (fd := fnOf name qual params body scope dV kV doc pm an cdv ct) (body := body) hroom ((X₀.keeps F.keep) _ _ ho) rfl hco hgen rfl (codeRec_of (X₀.keeps F.keep) hcd) ?_
  refine peek1_W (o := ({ cls := .type "tuple", data := .seq vs.toArray } : Obj)) (X₀.keeps F.keep) ?_ _ g₁ hp hg
  have kp : ∀ b o, s.heap.get? b = some o → (s.heap.push ({ cls := .type "tuple", data := .seq vs.toArray } : Obj)).get? b = some o := fun b o e => Heap.get?_push_of_some _ e
  have hD : (s.heap.push ({ cls := .type "tuple", data := .seq vs.toArray } : Obj)).get? s.heap.objs.size = some ({ cls := .type "tuple", data := .seq vs.toArray } : Obj) := Heap.get?_push_size _ rfl
  have hsz : (s.heap.push ({ cls := .type "tuple", data := .seq vs.toArray } : Obj)).objs.size = s.heap.objs.size + 1 := Heap.size_push ..
  generalize s.heap.push ({ cls := .type "tuple", data := .seq vs.toArray } : Obj) = hp' at *
  refine wpAny_newFunctionEnv hcell (hloc _) (fun h₁ hns hsb => ⟨(T.nolimit.keeps (fun b o e => kp b o (F.keep b o e))).fresh _ hsb, codeAny_func ?_⟩) hk
  have hk₁ : ∀ b o, hp'.get? b = some o → h₁.get? b = some o := fun b o e => hsb.extBut b o (Nat.ne_of_lt (Heap.lt_size e)) (Heap.get?_push_of_some _ e)
  have hDn : s.heap.get? s.heap.objs.size = none := by
    cases q : s.heap.get? s.heap.objs.size with
    | none => rfl
    | some o => exact absurd (Heap.lt_size q) (Nat.lt_irrefl _)
  show wpAny (model prog w) (A.deeper (envOf qual scope hp'.objs.size f cdv)) (execs body (envOf qual scope hp'.objs.size f cdv)) _ _ _
  refine wpAny_mono (h s.heap.objs.size hp'.objs.size h₁ ⟨hns, fun b o e => hk₁ b o (kp b o e), by rw [hsz]; exact Nat.le_succ _⟩ (fun p hp => ?_) BG (X₀.keeps st) (T.keeps st)) (fun fl s' hl => hl.out) fun _ _ y => y
  obtain rfl := List.mem_singleton.mp hp
  exact ⟨hk₁ _ _ hD, by rw [hsz]; exact Nat.ne_of_lt (Nat.lt_succ_self _), hDn⟩
end
end Mine
end
/-! Base -/
section
open PySem PySem.W PySem.Calls PyProof.Rows
set_option Elab.async false
set_option maxRecDepth 100000
namespace Mine
/-- a call of the text's def at `f` with `vs`, from any def's frame: it comes back by `ret` -/
abbrev Tells (dep : Nat) (w : World) (loose : List Str) (mean : ExcName → Option Value) (mg mb : Str → Option Value) (f : Addr) (vs : List Value) (ret : Shared → (Value → Shared → Prop) → Prop) : Prop :=
  ∀ (dp un : Nat) (gd : Option (List Code)) (cn : Str) (cs : Scope) (a : Addr) (ccd : Value) (cl : List (Str × Addr)) (outer : List Env) (A₀ : Around) (base h₀ : Heap) (L : Addr) (m : Str → Option Value) (s : Shared) (Q E : Value → Shared → Prop),
    Below A₀ base outer h₀ → Fr h₀ L s.heap m → (Mine.hd.heap_39 w.params).In h₀ → Top Mine.hd.view_39 loose mean mg mb h₀ → cs.kind = .function →
    dp + dep < recursionLimit → un + 10 * dep < cLine → ret s Q →
      wpAny (model PySem.Challenge.rw_fq5032_01.row.prog w) (ktrTop dp un gd cn cs L a ccd cl outer) (call (.ref f) vs) Q E s
/-- it comes back with this text, all that stood stands -/
abbrev giveS (x : Str) (s : Shared) (Q : Value → Shared → Prop) : Prop := ∀ t h' tk', s.heap.StaysIn h' → Q (.str x t) { s with heap := h', toks := tk' }
/-- what the caller's ledger says still stands -/
theorem news_stays {h₀ h h' : Heap} {L : Addr} {news : List (Addr × Obj)} (N : News h₀ L h news) (k : h.StaysIn h') : News h₀ L h' news := fun p hp => ⟨k _ _ (N p hp).1, (N p hp).2⟩
theorem fr_stays {h₀ h h' : Heap} {L : Addr} {m : Str → Option Value} (F : Fr h₀ L h m) (k : h.StaysIn h') : Fr h₀ L h' m := by
  obtain ⟨oL, a1, a2, hL, a3⟩ := F.ns
  exact ⟨⟨oL, a1, a2, k _ _ hL, a3⟩, fun b o e => k _ _ (F.keep b o e), F.above⟩
theorem news_app {h₀ h : Heap} {L : Addr} {n1 n2 : List (Addr × Obj)} (N1 : News h₀ L h n1) (N2 : News h₀ L h n2) : News h₀ L h (n1 ++ n2) := fun p hp => (List.mem_append.mp hp).elim (N1 p) (N2 p)
/-- objects that a call made are new to the caller too -/
theorem news_made {h₀ g h' : Heap} {L L' : Addr} {m : Str → Option Value} {made : List (Addr × Obj)} (F : Fr h₀ L g m) (N : News g L' h' made) : News h₀ L h' made := fun p hp => by
  refine ⟨(N p hp).1, fun e => ?_, ?_⟩
  · obtain ⟨oL, _, _, hL, _⟩ := F.ns
    have := (N p hp).2.2
    rw [e, hL] at this
    cases this
  · cases q : h₀.get? p.1 with
    | none => rfl
    | some o =>
      have := (N p hp).2.2
      rw [F.keep _ _ q] at this
      cases this
end Mine
end
/-! Base2 -/
section
open PySem PySem.W PySem.Calls PyProof.Rows
set_option Elab.async false
set_option maxRecDepth 100000
namespace Mine
/-- a call of the text's def at `f` with `vs`, from a def's frame whose ledger is `news`: it comes back with this text, and the ledger stands -/
abbrev CodeClaim (dep : Nat) (w : World) (loose : List Str) (mean : ExcName → Option Value) (mg mb : Str → Option Value) (f : Addr) (news : List (Addr × Obj)) (vs : List Value) (x : Str) : Prop :=
  ∀ (dp un : Nat) (gd : Option (List Code)) (cn : Str) (cs : Scope) (a : Addr) (ccd : Value) (cl : List (Str × Addr)) (outer : List Env) (A₀ : Around) (base h₀ : Heap) (L : Addr) (m : Str → Option Value) (s : Shared) (R : Result → Shared → Prop),
    Below A₀ base outer h₀ → Fr h₀ L s.heap m → (Mine.hd.heap_39 w.params).In h₀ → News h₀ L s.heap news → Top Mine.hd.view_39 loose mean mg mb h₀ → cs.kind = .function →
    dp + dep < recursionLimit → un + 10 * dep < cLine → (∀ t h' tk', Fr h₀ L h' m → News h₀ L h' news → R (.ok (.ret (.str x t))) { s with heap := h', toks := tk' }) →
      codeAny (model PySem.Challenge.rw_fq5032_01.row.prog w) (ktrTop dp un gd cn cs L a ccd cl outer) (.call (.ref f) ⟨vs, []⟩) R s
/-- a call of the text's def at `f` with `vs`, from any def's frame: it comes back by `ret` -/
abbrev TellsC (dep : Nat) (w : World) (loose : List Str) (mean : ExcName → Option Value) (mg mb : Str → Option Value) (f : Addr) (vs : List Value) (ret : Shared → (Value → Shared → Prop) → Prop) : Prop :=
  ∀ (dp un : Nat) (gd : Option (List Code)) (cn : Str) (cs : Scope) (a : Addr) (ccd : Value) (cl : List (Str × Addr)) (outer : List Env) (A₀ : Around) (base h₀ : Heap) (L : Addr) (m : Str → Option Value) (s : Shared) (R : Result → Shared → Prop),
    Below A₀ base outer h₀ → Fr h₀ L s.heap m → (Mine.hd.heap_39 w.params).In h₀ → Top Mine.hd.view_39 loose mean mg mb h₀ → cs.kind = .function →
    dp + dep < recursionLimit → un + 10 * dep < cLine → ret s (fun v s' => R (.ok (.ret v)) s') →
      codeAny (model PySem.Challenge.rw_fq5032_01.row.prog w) (ktrTop dp un gd cn cs L a ccd cl outer) (.call (.ref f) ⟨vs, []⟩) R s
/-- the result of a call, as its caller reads it -/
abbrev backBy (Q E : Value → Shared → Prop) : Result → Shared → Prop := fun r s' => match r with | .ok (.ret v) => Q v s' | .ok _ => False | .error e => E e s'
theorem TellsC.tells {dep : Nat} {w : World} {loose : List Str} {mean : ExcName → Option Value} {mg mb : Str → Option Value} {f : Addr} {vs : List Value} {ret : Shared → (Value → Shared → Prop) → Prop} (h : TellsC dep w loose mean mg mb f vs ret) : Tells dep w loose mean mg mb f vs ret := by
  intro dp un gd cn cs a ccd cl outer A₀ base h₀ L m s Q E B F X T hk hd hu hret
  exact wpAny_call (h dp un gd cn cs a ccd cl outer A₀ base h₀ L m s (backBy Q E) B F X T hk hd hu hret)
theorem CodeClaim.cb {w : World} {loose : List Str} {mean : ExcName → Option Value} {mg mb : Str → Option Value} {f : Addr} {vs : List Value} {news : List (Addr × Obj)} {x : Str} {dp un : Nat} {gd : Option (List Code)} {cn : Str} {cs : Scope} {a : Addr} {ccd : Value} {cl : List (Str × Addr)} {outer : List Env} {A₀ : Around} {base h₀ : Heap} {L : Addr} {m : Str → Option Value} {s : Shared} {Q E : Value → Shared → Prop} {dep : Nat}
    (h : CodeClaim dep w loose mean mg mb f news vs x) (B : Below A₀ base outer h₀) (F : Fr h₀ L s.heap m) (X : (Mine.hd.heap_39 w.params).In h₀) (N : News h₀ L s.heap news) (T : Top Mine.hd.view_39 loose mean mg mb h₀) (hk : cs.kind = .function)
    (hd : dp + dep < recursionLimit) (hu : un + 10 * dep < cLine) (hret : ∀ t h' tk', Fr h₀ L h' m → News h₀ L h' news → Q (.str x t) { s with heap := h', toks := tk' }) :
    wpAny (model PySem.Challenge.rw_fq5032_01.row.prog w) (ktrTop dp un gd cn cs L a ccd cl outer) (call (.ref f) vs) Q E s :=
  wpAny_call (h dp un gd cn cs a ccd cl outer A₀ base h₀ L m s (backBy Q E) B F X N T hk hd hu hret)
end Mine
end
/-! S3 -/
section
open PySem PySem.W PySem.Calls PyProof.Rows
set_option Elab.async false
set_option maxRecDepth 100000
namespace Mine
local macro_rules | `(tactic| walk_at "pyIter ref") => `(tactic| k_dflt (k_extra "pyIter ref"))
local macro_rules | `(tactic| walk_at "exec While") => `(tactic| k_dflt (k_extra "exec While"))
local macro_rules | `(tactic| ktr_room) => `(tactic| ((try simp only [depth_under_make, depth_under_kw, depth_in1, depth_deeper, depth_caller] at *); (try dsimp only [ktrTop] at *); omega))
theorem code_retS {h₀ h' : Heap} {L : Addr} {m : Str → Option Value} {news : List (Addr × Obj)} {s : Shared} {R : Result → Shared → Prop} {t : Tok} {tk' : Nat} {x y : Str}
    (hret : ∀ (t : Tok) (h' : Heap) (tk' : Nat), Fr h₀ L h' m → News h₀ L h' news → R (.ok (.ret (.str x t))) { s with heap := h', toks := tk' }) (e : y = x) (F : Fr h₀ L h' m) (N : News h₀ L h' news) : R (.ok (.ret (.str y t))) { s with heap := h', toks := tk' } := by
  subst e
  exact hret t h' tk' F N
set_option maxHeartbeats 8000000 in
theorem std_code (w : World) (loose : List Str) (mean : ExcName → Option Value) (mg mb : Str → Option Value) (news : List (Addr × Obj)) (self : Addr) (s1 s2 : Str) (t1 t2 : Tok)
   (h1 : s1.length < 1000000) (h2 : s2.length < 1000000) :
   CodeClaim 5 w loose mean mg mb 197 news [.ref self, .str s1 t1, .str s2 t2] (std s1 s2) := by
  dsimp only [CodeClaim]
  k_fill
  intros
  rename_i hret
  (k_with "pyIter ref" => k_of "a" => k_state_given ["s1", "s2"] (fun s1 s2 pre place best => OutW s1 s2 pre place best ∧ 0 ≤ place ∧ 0 ≤ best ∧ place + best ≤ s1.length) "place" "best")
  (k_with "pyIter ref" => k_of "b" => k_state_given ["s1", "s2", "a", "place!", "best!"] (fun s1 s2 a p0 b0 pre place best => InW s1 s2 a p0 b0 pre place best ∧ 0 ≤ place ∧ 0 ≤ best ∧ place + best ≤ s1.length) "place" "best")
  (k_with "exec While" => k_while_given ["s1", "s2", "a", "b"] (fun s1 s2 a b _ size => WW s1 s2 a b size ∧ 0 ≤ size ∧ a + size ≤ s1.length ∧ b + size ≤ s2.length) (fun s1 s2 a b _ size => (s1.length - a - size).toNat) "size")
  (k_with "state" => first | exact out0 (by omega) | exact in0 (by omega) | exact ww0 (by omega) | exact out1 (by assumption) (by assumption) (by omega) (by omega) | exact ww1 (by assumption) (by assumption) (by omega) | exact ⟨in_new (by assumption) (by first | exact end_char (by assumption) (by assumption) (by omega) | exact end_left (by assumption) (by omega) | exact end_right (by assumption) (by omega)) (by assumption), by omega⟩ | exact ⟨in_old (by assumption) (by first | exact end_char (by assumption) (by assumption) (by omega) | exact end_left (by assumption) (by omega) | exact end_right (by assumption) (by omega)) (by assumption), by omega⟩)
  (first | k_dflt cell_enter | ktn_no "k_call_by: the def is not entered")
  k_steps
  all_goals (refine' code_retS hret ?e1 ?e2 ?e3; (case e1 => exact std_is (by assumption) (by omega)); (case e2 => k_asm); (case e3 => k_asm))
end Mine
end
/-! Z1 -/
section
open PySem PySem.W PySem.Calls PyProof.Rows
set_option Elab.async false
set_option maxRecDepth 100000
namespace Mine
/-- an iterator over the text x, i signs taken -/
def ItAt (h : Heap) (it : Addr) (x : Str) (i : Nat) : Prop := ∃ t, h.IsStrIter it "str_ascii_iterator" x t i ∨ h.IsStrIter it "str_iterator" x t i
theorem ItAt.keep {h h' : Heap} {it : Addr} {x : Str} {i : Nat} (H : ItAt h it x i) (e : ∀ o, h.get? it = some o → h'.get? it = some o) : ItAt h' it x i := by
  obtain ⟨t, ⟨o, ho, r⟩ | ⟨o, ho, r⟩⟩ := H
  · exact ⟨t, .inl ⟨o, e o ho, r⟩⟩
  · exact ⟨t, .inr ⟨o, e o ho, r⟩⟩
theorem ItAt.there {h : Heap} {it : Addr} {x : Str} {i : Nat} (H : ItAt h it x i) : ∃ o, h.get? it = some o := by
  obtain ⟨t, ⟨o, ho, _⟩ | ⟨o, ho, _⟩⟩ := H <;> exact ⟨o, ho⟩
/-- a tuple of these -/
abbrev tup (vs : List Value) : Obj := { cls := .type "tuple", data := .seq vs.toArray }
/-- the zip -/
abbrev zrec (TI TO : Addr) (f0 f1 : Value) : Obj := { cls := .type "zip", dict := none, data := .fields #[f0, f1, .bool false, .ref TI, .ref TO], slots := #[] }
/-- one sign of each -/
def Signs (i : Nat) : List (Addr × Str) → List Value → Prop
  | [], [] => True
  | p :: l, v :: vs => SignAt p.2 i v ∧ Signs i l vs
  | _, _ => False
section
variable {prog : Program} {w : World} {A : Around} {E : Value → Shared → Prop} {s : Shared}
theorem it_next {it : Addr} {x : Str} {i : Nat} {Q : Value → Shared → Prop} (H : ItAt s.heap it x i) (hi : i < x.cps.size)
    (hQ : ∀ h' tk v, SignAt x i v → ItAt h' it x (i + 1) → Heap.SameBut it s.heap h' → Q v { s with heap := h', toks := tk }) :
    wpAny (model prog w) A (Builtin.SmallTypes.nextOf (.ref it)) Q E s := by
  obtain ⟨t, H | H⟩ := H
  · exact wpAny_nextOf_ascii_item H (Array.getElem?_eq_getElem hi) fun h' hit hs => hQ h' _ _ ⟨_, _, Array.getElem?_eq_getElem hi, rfl⟩ ⟨t, .inl hit⟩ hs
  · exact wpAny_nextOf_wide_item H (Array.getElem?_eq_getElem hi) fun h' hit hs => hQ h' _ _ ⟨_, _, Array.getElem?_eq_getElem hi, rfl⟩ ⟨t, .inr hit⟩ hs
theorem it_end (hh : A.handled = none) {it : Addr} {x : Str} {i : Nat} {Q : Value → Shared → Prop} (H : ItAt s.heap it x i) (hi : x.cps.size ≤ i)
    (hE : ∀ h' e, Heap.ExtBut it s.heap h' → (∃ o, h'.get? e = some o ∧ o.cls = .type "StopIteration") → E (.ref e) { s with heap := h' }) :
    wpAny (model prog w) A (Builtin.SmallTypes.nextOf (.ref it)) Q E s := by
  obtain ⟨t, H | H⟩ := H
  · exact wpAny_nextOf_ascii_end hh H (Array.getElem?_eq_none hi) hE
  · exact wpAny_nextOf_wide_end hh H (Array.getElem?_eq_none hi) hE
abbrev OwnBody := Value × Nat → Option PySem.Fin × Unit → Sem (ForInStep (Option PySem.Fin × Unit))
theorem own_loop {body : OwnBody} (TO : Addr) (i : Nat)
    (hbody : ∀ (it : Addr) (x : Str) (us rest : List Value) (r : Value) (s : Shared) (Q : ForInStep (Option PySem.Fin × Unit) → Shared → Prop),
      us.length + (rest.length + 1) ≤ 1000 → it ≠ TO → ItAt s.heap it x i → i < x.cps.size → s.heap.get? TO = some (tup (us ++ r :: rest)) →
      (∀ h' tk v, SignAt x i v → ItAt h' it x (i + 1) → h'.get? TO = some (tup (us ++ v :: rest)) → (∀ b o, b ≠ it → b ≠ TO → s.heap.get? b = some o → h'.get? b = some o) → h'.objs.size = s.heap.objs.size →
        Q (.yield (none, ())) { s with heap := h', toks := tk }) →
      wpAny (model prog w) A (body (.ref it, us.length) (none, ())) Q E s) :
    ∀ (l : List (Addr × Str)) (us rest : List Value) (s : Shared) (Q : Option PySem.Fin × Unit → Shared → Prop), us.length + rest.length ≤ 1000 → rest.length = l.length → (∀ p ∈ l, p.1 ≠ TO ∧ ItAt s.heap p.1 p.2 i ∧ i < p.2.cps.size) → (l.map (·.1)).Nodup →
      s.heap.get? TO = some (tup (us ++ rest)) →
      (∀ h' tk vs, Signs i l vs → (∀ p ∈ l, ItAt h' p.1 p.2 (i + 1)) → h'.get? TO = some (tup (us ++ vs)) → (∀ b o, b ∉ l.map (·.1) → b ≠ TO → s.heap.get? b = some o → h'.get? b = some o) → h'.objs.size = s.heap.objs.size →
        Q (none, ()) { s with heap := h', toks := tk }) →
      wpAny (model prog w) A (forIn ((l.map fun p => Value.ref p.1).zipIdx us.length) (none, ()) body) Q E s
  | [], us, rest, s, Q, _, hr, _, _, hTO, hQ => by
    have : rest = [] := List.length_eq_zero_iff.mp hr
    subst this
    show wpAny _ _ (forIn [] _ _) _ _ _
    rw [List.forIn_nil]
    exact wpAny_pure (hQ s.heap s.toks [] trivial (fun _ h => nomatch h) hTO (fun _ _ _ _ e => e) rfl)
  | (it, x) :: l, us, [], s, Q, _, hr, _, _, _, _ => by simp at hr
  | (it, x) :: l, us, r :: rest, s, Q, h8, hr, hp, hn, hTO, hQ => by
    obtain ⟨hne, hit, hi⟩ := hp (it, x) (.head _)
    rw [List.map_cons, List.nodup_cons] at hn
    show wpAny _ _ (forIn ((Value.ref it, us.length) :: (l.map fun p => Value.ref p.1).zipIdx (us.length + 1)) _ _) _ _ _
    rw [List.forIn_cons]
    refine wpAny_bind (hbody it x us rest r s _ (by simpa using h8) hne hit hi hTO fun h' tk v hv hit' hTO' hk hsz => ?_)
    have e1 : us ++ v :: rest = (us ++ [v]) ++ rest := by simp
    have e2 : us.length + 1 = (us ++ [v]).length := by simp
    rw [e2]
    rw [e1] at hTO'
    have ne : ∀ p ∈ l, p.1 ≠ it := fun p hp' e => hn.1 (show it ∈ l.map (·.1) from e ▸ List.mem_map_of_mem (f := fun q : Addr × Str => q.1) hp')
    refine own_loop TO i hbody l (us ++ [v]) rest _ Q (by simp only [List.length_append, List.length_cons, List.length_nil] at h8 ⊢; omega) (by simpa using hr) (fun p hp' => ?_) hn.2 hTO' fun h'' tk' vs hvs hits hTO'' hk' hsz' => ?_
    · obtain ⟨a, b, c⟩ := hp p (.tail _ hp')
      exact ⟨a, b.keep fun o e => hk _ o (ne p hp') a e, c⟩
    · refine hQ h'' tk' (v :: vs) ⟨hv, hvs⟩ (fun p hp' => ?_) (by rw [hTO'']; simp) (fun b o hb hb' e => ?_) (hsz'.trans hsz)
      · rcases List.mem_cons.mp hp' with rfl | hp'
        · exact hit'.keep fun o e => hk' _ o (fun h => hn.1 h) hne e
        · exact hits p hp'
      · rw [List.map_cons, List.mem_cons, not_or] at hb
        exact hk' b o hb.2 hb' (hk b o hb.1 hb' e)
abbrev ItemBody := Value → Option PySem.Fin × Array Value → Sem (ForInStep (Option PySem.Fin × Array Value))
theorem item_loop {body : ItemBody} (i : Nat)
    (hbody : ∀ (it : Addr) (x : Str) (acc : List Value) (s : Shared) (Q : ForInStep (Option PySem.Fin × Array Value) → Shared → Prop), ItAt s.heap it x i → i < x.cps.size →
      (∀ h' tk v, SignAt x i v → ItAt h' it x (i + 1) → Heap.SameBut it s.heap h' → Q (.yield (none, (acc ++ [v]).toArray)) { s with heap := h', toks := tk }) →
      wpAny (model prog w) A (body (.ref it) (none, acc.toArray)) Q E s) :
    ∀ (l : List (Addr × Str)) (more : List Value) (acc : List Value) (s : Shared) (Q : Option PySem.Fin × Array Value → Shared → Prop), (∀ p ∈ l, ItAt s.heap p.1 p.2 i ∧ i < p.2.cps.size) → (l.map (·.1)).Nodup →
      (∀ h' tk vs, Signs i l vs → (∀ p ∈ l, ItAt h' p.1 p.2 (i + 1)) → (∀ b o, b ∉ l.map (·.1) → s.heap.get? b = some o → h'.get? b = some o) → h'.objs.size = s.heap.objs.size →
        wpAny (model prog w) A (forIn more (none, (acc ++ vs).toArray) body) Q E { s with heap := h', toks := tk }) →
      wpAny (model prog w) A (forIn ((l.map fun p => Value.ref p.1) ++ more) (none, acc.toArray) body) Q E s
  | [], more, acc, s, Q, _, _, hQ => by
    have := hQ s.heap s.toks [] trivial (fun _ h => nomatch h) (fun _ _ _ e => e) rfl
    simpa using this
  | (it, x) :: l, more, acc, s, Q, hp, hn, hQ => by
    obtain ⟨hit, hi⟩ := hp (it, x) (.head _)
    rw [List.map_cons, List.nodup_cons] at hn
    show wpAny _ _ (forIn (Value.ref it :: ((l.map fun p => Value.ref p.1) ++ more)) _ _) _ _ _
    rw [List.forIn_cons]
    refine wpAny_bind (hbody it x acc s _ hit hi fun h' tk v hv hit' hs => ?_)
    have ne : ∀ p ∈ l, p.1 ≠ it := fun p hp' e => hn.1 (show it ∈ l.map (·.1) from e ▸ List.mem_map_of_mem (f := fun q : Addr × Str => q.1) hp')
    refine item_loop i hbody l more (acc ++ [v]) _ Q (fun p hp' => ?_) hn.2 fun h'' tk' vs hvs hits hk' hsz' => ?_
    · obtain ⟨b, c⟩ := hp p (.tail _ hp')
      exact ⟨b.keep fun o e => (hs.2 _ (ne p hp')).trans e, c⟩
    · have := hQ h'' tk' (v :: vs) ⟨hv, hvs⟩ (fun p hp' => ?_) (fun b o hb e => ?_) (hsz'.trans hs.1)
      · simpa using this
      · rcases List.mem_cons.mp hp' with rfl | hp'
        · exact hit'.keep fun o e => hk' _ o (fun h => hn.1 h) e
        · exact hits p hp'
      · rw [List.map_cons, List.mem_cons, not_or] at hb
        exact hk' b o hb.2 ((hs.2 _ hb.1).trans e)
end
end Mine
end
/-! Z2 -/
section
open PySem PySem.W PySem.Calls PyProof.Rows
set_option Elab.async false
set_option maxRecDepth 100000
namespace Mine
/-- the zip z over the iterators l, i rounds told -/
structure ZipAt (h : Heap) (z TI TO : Addr) (l : List (Addr × Str)) (i : Nat) (f0 f1 : Value) : Prop where
  top : h.get? z = some (zrec TI TO f0 f1)
  its : h.get? TI = some (tup (l.map fun p => Value.ref p.1))
  out : ∃ us, us.length = l.length ∧ h.get? TO = some (tup us)
  all : ∀ p ∈ l, ItAt h p.1 p.2 i
structure Apart (z TI TO : Addr) (l : List (Addr × Str)) : Prop where
  zi : z ≠ TI
  zo : z ≠ TO
  io : TI ≠ TO
  iz : ∀ p ∈ l, p.1 ≠ z
  ii : ∀ p ∈ l, p.1 ≠ TI
  oo : ∀ p ∈ l, p.1 ≠ TO
  nd : (l.map (·.1)).Nodup
theorem not_of_ne {l : List (Addr × Str)} {a : Addr} (h : ∀ p ∈ l, p.1 ≠ a) : a ∉ l.map (·.1) := fun hm => by
  obtain ⟨p, hp, e⟩ := List.mem_map.mp hm
  exact h p hp e
theorem signs_length {i : Nat} : ∀ {l : List (Addr × Str)} {vs : List Value}, Signs i l vs → vs.length = l.length
  | [], [], _ => rfl
  | _ :: _, _ :: _, h => by simp [signs_length h.2]
  | [], _ :: _, h => h.elim
  | _ :: _, [], h => h.elim
section
variable {prog : Program} {w : World} {A : Around} {E : Value → Shared → Prop} {s : Shared} {z TI TO : Addr} {l : List (Addr × Str)} {i : Nat}
theorem zip_first {f1 : Value} {Q : Value → Shared → Prop} (D : Apart z TI TO l) (hl : l ≠ []) (Z : ZipAt s.heap z TI TO l i .none f1) (hi : ∀ p ∈ l, i < p.2.cps.size) (hz8 : l.length ≤ 1000)
    (hQ : ∀ h' tk vs T, Signs i l vs → s.heap.objs.size ≤ T → h'.get? T = some (tup vs) → ZipAt h' z TI TO l (i + 1) (rawInt T) (.bool false) → (∀ b o, b ≠ z → b ≠ TO → b ∉ l.map (·.1) → s.heap.get? b = some o → h'.get? b = some o) → Q (.ref T) { s with heap := h', toks := tk }) :
    wpAny (model prog w) A (Builtin.«zip.__next__» ⟨[.ref z], []⟩) (fun fin s' => ∃ v, fin = .done (.ret v) ∧ Q v s') E s := by
  obtain ⟨hz, hTI, ⟨us, hus, hTO⟩, hall⟩ := Z
  show wpAny _ _ (field (.ref z) 2 >>= _) _ _ _
  refine wpAny_bind (wpAny_field hz rfl (x := .bool false) rfl ?_)
  show wpAny _ _ (field (.ref z) 3 >>= _) _ _ _
  refine wpAny_bind (wpAny_field hz rfl (x := .ref TI) rfl ?_)
  refine wpAny_bind (wpAny_seqItems hTI rfl ?_)
  have hemp : ((l.map fun p => Value.ref p.1).toArray.isEmpty) = false := by cases l with
    | nil => exact absurd rfl hl
    | cons => simp
  dsimp only
  rw [if_neg (by rw [hemp]; decide)]
  show wpAny _ _ (Builtin.SmallTypes.ownedTupleIsFree (.ref z) >>= _) _ _ _
  refine wpAny_bind ?_
  unfold Builtin.SmallTypes.ownedTupleIsFree
  refine wpAny_bind (wpAny_field hz rfl (x := .none) rfl (wpAny_pure ?_))
  simp only [if_true]
  refine wpAny_bind (wpAny_rule ?_)
  refine wpAny_bind (wpAny_field hz rfl (x := .ref TO) rfl ?_)
  refine wpAny_bind (wpAny_setField_rec hz (by simp) fun h₁ hz₁ hs₁ => ?_)
  replace hz₁ : h₁.get? z = some (zrec TI TO .ellipsis f1) := hz₁
  have up₁ : ∀ b o, b ≠ z → s.heap.get? b = some o → h₁.get? b = some o := fun b o hb e => (hs₁.2 b hb).trans e
  have hTO₁ := up₁ _ _ D.zo.symm hTO
  refine wpAny_bind ?_
  refine own_loop TO i ?_ l [] us { s with heap := h₁ } _ (by simp only [List.length_nil]; omega) hus (fun p hp => ⟨D.oo p hp, (hall p hp).keep fun o e => up₁ _ o (D.iz p hp) e, hi p hp⟩) D.nd hTO₁ fun h₂ tk vs hvs hits hTO₂ hk₂ hsz₂ => ?_
  · intro it x us rest r s Q h8 hne hit hix hTO hQ
    refine wpAny_bind (wpAny_onRaise ?_)
    show wpAny _ _ (Builtin.SmallTypes.nextOf (.ref it) >>= _) _ _ _
    refine wpAny_bind (it_next hit hix fun h' tk v hv hit' hs' => wpAny_pure ?_)
    have hTO' : h'.get? TO = some (tup (us ++ r :: rest)) := (hs'.2 _ hne.symm).trans hTO
    refine wpAny_bind (wpAny_seqItems hTO' rfl ?_)
    refine wpAny_bind (wpAny_updateSeq hTO' rfl ?_ (by rw [List.size_toArray, List.length_append, List.length_cons, sizeLine_eq]; omega) (by rw [Array.size_setIfInBounds, List.size_toArray, List.length_append, List.length_cons, sizeLine_eq]; omega))
    refine wpAny_bind (wpAny_letGo (wpAny_pure ?_))
    refine hQ _ tk v hv (hit'.keep fun o e => (Heap.get?_update_other _ _ hne.symm).trans e) ?_ (fun b o hb hb' e => (Heap.get?_update_other _ _ hb'.symm).trans ((hs'.2 _ hb).trans e)) ?_
    · rw [Heap.get?_update_self _ hTO' rfl]
      simp [Obj.mapSeq]
    · rw [(Heap.SameBut.update ..).1, hs'.1]
  · have hz₂ := hk₂ _ _ (not_of_ne D.iz) D.zo hz₁
    have hTI₂ := hk₂ _ _ (not_of_ne D.ii) D.io (up₁ _ _ D.zi.symm hTI)
    rw [List.nil_append] at hTO₂
    dsimp only
    refine wpAny_bind (wpAny_seqItems hTO₂ rfl ?_)
    refine wpAny_bind (wpAny_newTuple ?_ (by show vs.length ≤ _; rw [signs_length hvs, sizeLine_eq]; omega))
    show wpAny _ _ (Builtin.SmallTypes.ownedTupleHandOut (.ref z) (.ref h₂.objs.size) >>= _) _ _ _
    refine wpAny_bind ?_
    unfold Builtin.SmallTypes.ownedTupleHandOut
    have hz₃ : (h₂.push (tup vs)).get? z = some (zrec TI TO .ellipsis f1) := Heap.get?_push_of_some _ hz₂
    refine wpAny_bind (wpAny_setField_rec hz₃ (by simp) fun h₄ hz₄ hs₄ => ?_)
    replace hz₄ : h₄.get? z = some (zrec TI TO (rawInt h₂.objs.size) f1) := hz₄
    refine wpAny_setField_rec hz₄ (by simp) fun h₅ hz₅ hs₅ => ?_
    replace hz₅ : h₅.get? z = some (zrec TI TO (rawInt h₂.objs.size) (.bool false)) := hz₅
    have up₅ : ∀ b o, b ≠ z → h₂.get? b = some o → h₅.get? b = some o := fun b o hb e => (hs₅.2 _ hb).trans ((hs₄.2 _ hb).trans (Heap.get?_push_of_some _ e))
    have hTz : h₂.objs.size ≠ z := Nat.ne_of_gt (Heap.lt_size hz₂)
    refine wpAny_pure ⟨_, rfl, ?_⟩
    refine hQ h₅ tk vs h₂.objs.size hvs (by rw [hsz₂, hs₁.1]; exact Nat.le_refl _) ((hs₅.2 _ hTz).trans ((hs₄.2 _ hTz).trans (Heap.get?_push_size _ rfl)))
      ⟨hz₅, up₅ _ _ D.zi.symm hTI₂, ⟨vs, ?_, up₅ _ _ D.zo.symm hTO₂⟩, fun p hp => (hits p hp).keep fun o e => up₅ _ o (D.iz p hp) e⟩
      fun b o hb hb' hb'' e => up₅ _ _ hb (hk₂ _ _ hb'' hb' (up₁ _ _ hb e))
    exact signs_length hvs
theorem alive {a : Addr} {Q : Option Obj → Shared → Prop} (h : Q (s.heap.get? a) s) : wpAny (model prog w) A (loadIfAlive a) Q E s := fun _ _ _ => h
theorem free_no {T₀ : Addr} {oT : Obj} {f1 : Value} {Q : Bool → Shared → Prop} (hz : s.heap.get? z = some (zrec TI TO (rawInt T₀) f1)) (hT : s.heap.get? T₀ = some oT)
    (h : ∀ h' g1, h'.get? z = some (zrec TI TO (rawInt T₀) g1) → Heap.SameBut z s.heap h' → Q false { s with heap := h' }) :
    wpAny (model prog w) A (Builtin.SmallTypes.ownedTupleIsFree (.ref z)) Q E s := by
  unfold Builtin.SmallTypes.ownedTupleIsFree
  refine wpAny_bind (wpAny_field hz rfl (x := rawInt T₀) rfl ?_)
  show wpAny _ _ (loadIfAlive (Int.toNat (T₀ : Int)) >>= _) _ _ _
  refine wpAny_bind (alive ?_)
  rw [Int.toNat_natCast, hT]
  show wpAny _ _ (field (.ref z) 1 >>= _) _ _ _
  refine wpAny_bind (wpAny_field hz rfl (x := f1) rfl ?_)
  dsimp only
  split
  · refine wpAny_bind (wpAny_setField_rec hz (by simp) fun h₁ hz₁ hs₁ => wpAny_pure ?_)
    exact h h₁ (.bool true) hz₁ hs₁
  · exact wpAny_pure (h s.heap f1 hz ⟨rfl, fun _ _ => rfl⟩)
theorem zip_more {T₀ : Addr} {oT : Obj} {f1 : Value} {Q : Value → Shared → Prop} (D : Apart z TI TO l) (hl : l ≠ []) (Z : ZipAt s.heap z TI TO l i (rawInt T₀) f1) (hT : s.heap.get? T₀ = some oT) (hi : ∀ p ∈ l, i < p.2.cps.size) (hz8 : l.length ≤ 1000)
    (hQ : ∀ h' tk vs T, Signs i l vs → s.heap.objs.size ≤ T → h'.get? T = some (tup vs) → (∃ g1, ZipAt h' z TI TO l (i + 1) (rawInt T₀) g1) → (∀ b o, b ≠ z → b ∉ l.map (·.1) → s.heap.get? b = some o → h'.get? b = some o) → Q (.ref T) { s with heap := h', toks := tk }) :
    wpAny (model prog w) A (Builtin.«zip.__next__» ⟨[.ref z], []⟩) (fun fin s' => ∃ v, fin = .done (.ret v) ∧ Q v s') E s := by
  obtain ⟨hz, hTI, ⟨us, hus, hTO⟩, hall⟩ := Z
  show wpAny _ _ (field (.ref z) 2 >>= _) _ _ _
  refine wpAny_bind (wpAny_field hz rfl (x := .bool false) rfl ?_)
  show wpAny _ _ (field (.ref z) 3 >>= _) _ _ _
  refine wpAny_bind (wpAny_field hz rfl (x := .ref TI) rfl ?_)
  refine wpAny_bind (wpAny_seqItems hTI rfl ?_)
  have hemp : ((l.map fun p => Value.ref p.1).toArray.isEmpty) = false := by cases l with
    | nil => exact absurd rfl hl
    | cons => simp
  dsimp only
  rw [if_neg (by rw [hemp]; decide)]
  show wpAny _ _ (Builtin.SmallTypes.ownedTupleIsFree (.ref z) >>= _) _ _ _
  refine wpAny_bind (free_no hz hT fun h₁ g1 hz₁ hs₁ => ?_)
  have up₁ : ∀ b o, b ≠ z → s.heap.get? b = some o → h₁.get? b = some o := fun b o hb e => (hs₁.2 b hb).trans e
  rw [if_neg (by decide)]
  rw [List.forIn_toArray]
  have e0 : (l.map fun p => Value.ref p.1) = (l.map fun p => Value.ref p.1) ++ [] := by simp
  rw [e0]
  refine wpAny_bind (item_loop (acc := []) i ?_ l [] { s with heap := h₁ } _ (fun p hp => ⟨(hall p hp).keep fun o e => up₁ _ o (D.iz p hp) e, hi p hp⟩) D.nd fun h₂ tk vs hvs hits hk₂ hsz₂ => ?_)
  · intro it x acc s Q hit hix hQ
    refine wpAny_bind (wpAny_holding ?_)
    show wpAny _ _ (Builtin.SmallTypes.nextOf (.ref it) >>= _) _ _ _
    refine wpAny_bind (it_next hit hix fun h' tk v hv hit' hs' => wpAny_pure ?_)
    refine wpAny_pure ?_
    rw [List.push_toArray]
    exact hQ h' tk v hv hit' hs'
  · rw [List.forIn_nil, List.nil_append]
    refine wpAny_pure ?_
    dsimp only
    have hz₂ := hk₂ _ _ (not_of_ne D.iz) hz₁
    have hTI₂ := hk₂ _ _ (not_of_ne D.ii) (up₁ _ _ D.zi.symm hTI)
    have hTO₂ := hk₂ _ _ (not_of_ne D.oo) (up₁ _ _ D.zo.symm hTO)
    refine wpAny_bind (wpAny_newTuple ?_ (by show vs.length ≤ _; rw [signs_length hvs, sizeLine_eq]; omega))
    refine wpAny_pure ⟨_, rfl, ?_⟩
    refine hQ _ tk vs h₂.objs.size hvs (by rw [hsz₂, hs₁.1]; exact Nat.le_refl _) (Heap.get?_push_size _ rfl)
      ⟨g1, Heap.get?_push_of_some _ hz₂, Heap.get?_push_of_some _ hTI₂, ⟨us, hus, Heap.get?_push_of_some _ hTO₂⟩, fun p hp => (hits p hp).keep fun o e => Heap.get?_push_of_some _ e⟩
      fun b o hb hb'' e => Heap.get?_push_of_some _ (hk₂ _ _ hb'' (up₁ _ _ hb e))
theorem zip_stop (hh : A.handled = none) {T₀ : Addr} {oT : Obj} {f1 : Value} {l1 l2 : List (Addr × Str)} {it : Addr} {x : Str} {Q : PySem.Fin → Shared → Prop} (D : Apart z TI TO l) (Z : ZipAt s.heap z TI TO l i (rawInt T₀) f1) (hT : s.heap.get? T₀ = some oT)
    (el : l = l1 ++ (it, x) :: l2) (hi : ∀ p ∈ l1, i < p.2.cps.size) (hx : x.cps.size ≤ i)
    (hE : ∀ h' tk e, (∃ o, h'.get? e = some o ∧ o.cls = .type "StopIteration") → (∀ b o, b ≠ z → b ∉ l.map (·.1) → s.heap.get? b = some o → h'.get? b = some o) → E (.ref e) { s with heap := h', toks := tk }) :
    wpAny (model prog w) A (Builtin.«zip.__next__» ⟨[.ref z], []⟩) Q E s := by
  obtain ⟨hz, hTI, ⟨us, hus, hTO⟩, hall⟩ := Z
  show wpAny _ _ (field (.ref z) 2 >>= _) _ _ _
  refine wpAny_bind (wpAny_field hz rfl (x := .bool false) rfl ?_)
  show wpAny _ _ (field (.ref z) 3 >>= _) _ _ _
  refine wpAny_bind (wpAny_field hz rfl (x := .ref TI) rfl ?_)
  refine wpAny_bind (wpAny_seqItems hTI rfl ?_)
  have hemp : ((l.map fun p => Value.ref p.1).toArray.isEmpty) = false := by rw [el]; simp
  dsimp only
  rw [if_neg (by rw [hemp]; decide)]
  show wpAny _ _ (Builtin.SmallTypes.ownedTupleIsFree (.ref z) >>= _) _ _ _
  refine wpAny_bind (free_no hz hT fun h₁ g1 hz₁ hs₁ => ?_)
  have up₁ : ∀ b o, b ≠ z → s.heap.get? b = some o → h₁.get? b = some o := fun b o hb e => (hs₁.2 b hb).trans e
  have in1 : ∀ p ∈ l1, p ∈ l := fun p hp => by rw [el]; exact List.mem_append.mpr (.inl hp)
  have iin : (it, x) ∈ l := by rw [el]; exact List.mem_append.mpr (.inr (.head _))
  have nd := D.nd
  rw [el, List.map_append, List.nodup_append] at nd
  rw [if_neg (by decide)]
  rw [List.forIn_toArray]
  have e0 : (l.map fun p => Value.ref p.1) = (l1.map fun p => Value.ref p.1) ++ (Value.ref it :: l2.map fun p => Value.ref p.1) := by rw [el]; simp
  rw [e0]
  refine wpAny_bind (item_loop (acc := []) i ?_ l1 (Value.ref it :: l2.map fun p => Value.ref p.1) { s with heap := h₁ } _ (fun p hp => ⟨(hall p (in1 p hp)).keep fun o e => up₁ _ o (D.iz p (in1 p hp)) e, hi p hp⟩) nd.1 fun h₂ tk vs hvs hits hk₂ hsz₂ => ?_)
  · intro it x acc s Q hit hix hQ
    refine wpAny_bind (wpAny_holding ?_)
    show wpAny _ _ (Builtin.SmallTypes.nextOf (.ref it) >>= _) _ _ _
    refine wpAny_bind (it_next hit hix fun h' tk v hv hit' hs' => wpAny_pure ?_)
    refine wpAny_pure ?_
    rw [List.push_toArray]
    exact hQ h' tk v hv hit' hs'
  · rw [List.forIn_cons]
    refine wpAny_bind (wpAny_bind (wpAny_holding ?_))
    show wpAny _ _ (Builtin.SmallTypes.nextOf (.ref it) >>= _) _ _ _
    have hit₂ : ItAt h₂ it x i := ((hall _ iin).keep fun o e => up₁ _ o (D.iz _ iin) e).keep fun o e => hk₂ _ o (fun hm => nd.2.2 _ hm it (by simp) rfl) e
    refine wpAny_bind (it_end hh hit₂ hx fun h' e hs' he => ?_)
    refine hE h' tk e he fun b o hb hb' eb => hs' b o (fun ee => hb' (ee ▸ List.mem_map_of_mem (f := fun q : Addr × Str => q.1) iin)) (hk₂ b o (fun hm => hb' ?_) (up₁ b o hb eb))
    obtain ⟨p, hp, ep⟩ := List.mem_map.mp hm
    exact ep ▸ List.mem_map_of_mem (f := fun q : Addr × Str => q.1) (in1 p hp)
theorem next_zip {f0 f1 : Value} {Q : Option Value → Shared → Prop} (hz : s.heap.get? z = some (zrec TI TO f0 f1))
    (h : wpAny (model prog w) A.in1 (Builtin.«zip.__next__» ⟨[.ref z], []⟩) (fun fin s' => ∃ v, fin = .done (.ret v) ∧ Q (some v) s') (fun e s' => ∃ a o, e = .ref a ∧ s'.heap.get? a = some o ∧ o.cls = .type "StopIteration" ∧ Q none s') s) :
    wpAny (model prog w) A (pyNext (.ref z)) Q E s := by
  have hT : s.TypeIs (.ref z) "zip" := ⟨_, hz, rfl⟩
  unfold pyNext
  refine wpAny_bind (wpAny_attempt (wpAny_callSpecial?_slot (name := Str.ofString "__next__") hT F.slot_zip_next (wpAny_call_entry F.slot_zip_next hT F.entry_zip_next ?_ (F.args_zip_next_1 _))))
  refine wpAny_mono h (fun fin s' hq => ?_) fun e s' he => ?_
  · obtain ⟨v, e, hq⟩ := hq
    exact ⟨v, e, wpAny_pure hq⟩
  · obtain ⟨a, o, rfl, ho, hc, hq⟩ := he
    exact wpAny_bind (wpAny_isInstance (T := "StopIteration") (b := true) ⟨o, ho, hc⟩ isSubtype_stop (wpAny_pure hq))
end
end Mine
end
/-! Z3 -/
section
open PySem PySem.W PySem.Calls PyProof.Rows
set_option Elab.async false
set_option maxRecDepth 100000
namespace Mine
/-- the tuples that the zip has told, from round i on -/
def RowsAt (l : List (Addr × Str)) (h : Heap) : Nat → List (Addr × List Value) → Prop
  | _, [] => True
  | i, (T, vs) :: r => Signs i l vs ∧ h.get? T = some (tup vs) ∧ RowsAt l h (i + 1) r
theorem RowsAt.keep {l : List (Addr × Str)} {h h' : Heap} : ∀ {r : List (Addr × List Value)} {i : Nat}, RowsAt l h i r → (∀ p ∈ r, ∀ o, h.get? p.1 = some o → h'.get? p.1 = some o) → RowsAt l h' i r
  | [], _, _, _ => trivial
  | (T, vs) :: r, i, H, k => ⟨H.1, k _ (.head _) _ H.2.1, RowsAt.keep H.2.2 fun p hp => k p (.tail _ hp)⟩
theorem RowsAt.snoc {l : List (Addr × Str)} {h : Heap} {T : Addr} {vs : List Value} : ∀ {r : List (Addr × List Value)} {i : Nat}, RowsAt l h i r → Signs (i + r.length) l vs → h.get? T = some (tup vs) → RowsAt l h i (r ++ [(T, vs)])
  | [], i, _, hs, hT => ⟨by simpa using hs, hT, trivial⟩
  | (T', vs') :: r, i, H, hs, hT => ⟨H.1, H.2.1, RowsAt.snoc H.2.2 (by simpa [Nat.add_assoc, Nat.add_comm 1] using hs) hT⟩
theorem RowsAt.there {l : List (Addr × Str)} {h : Heap} : ∀ {r : List (Addr × List Value)} {i : Nat}, RowsAt l h i r → ∀ p ∈ r, ∃ o, h.get? p.1 = some o
  | (T, vs) :: r, i, H, p, hp => by
    rcases List.mem_cons.mp hp with rfl | hp
    · exact ⟨_, H.2.1⟩
    · exact RowsAt.there H.2.2 p hp
abbrev lst (vs : List Value) (c : Nat) : Obj := { cls := .type "list", dict := none, data := .seq vs.toArray c, slots := #[] }
section
variable {prog : Program} {w : World} {A : Around} {R : Result → Shared → Prop} {z TI TO S : Addr} {l : List (Addr × Str)} {n : Nat}
theorem ext_loop (hh : A.handled = none) (D : Apart z TI TO l) {l1 l2 : List (Addr × Str)} {it : Addr} {x : Str} (el : l = l1 ++ (it, x) :: l2) (hi : ∀ p ∈ l1, n < p.2.cps.size) (hx : x.cps.size = n) (hall : ∀ p ∈ l, n ≤ p.2.cps.size) (hz8 : l.length ≤ 1000) (hn8 : n ≤ 1000)
    (hS : S ≠ z ∧ S ∉ l.map (·.1)) (hSI : S ≠ TI) (hSO : S ≠ TO) (base : Heap) (res : Value) (T₀ : Addr) :
    ∀ (k : Nat) (s : Shared) (rows : List (Addr × List Value)) (c : Nat), n - rows.length = k → rows.length ≤ n → (∃ f1, ZipAt s.heap z TI TO l rows.length (rawInt T₀) f1) → (∃ vs, (T₀, vs) ∈ rows) →
      RowsAt l s.heap 0 rows → (∀ p ∈ rows, S < p.1 ∧ p.1 ≠ z ∧ p.1 ∉ l.map (·.1)) → (rows.map (·.1)).Pairwise (· < ·) → s.heap.get? S = some (lst (rows.map fun p => Value.ref p.1) c) → (∀ p ∈ rows, ∀ b o, base.get? b = some o → b < p.1) →
      (∀ b o, b ≠ z → b ≠ S → b ≠ TO → b ∉ l.map (·.1) → base.get? b = some o → s.heap.get? b = some o) → base.objs.size ≤ s.heap.objs.size →
      (∀ h' tk rows c, rows.length = n → RowsAt l h' 0 rows → (∀ p ∈ rows, S < p.1) → (rows.map (·.1)).Pairwise (· < ·) → h'.get? S = some (lst (rows.map fun p => Value.ref p.1) c) → (∀ p ∈ rows, ∀ b o, base.get? b = some o → b < p.1) →
        (∀ b o, b ≠ z → b ≠ S → b ≠ TO → b ∉ l.map (·.1) → base.get? b = some o → h'.get? b = some o) → R (.ok (.ret res)) { s with heap := h', toks := tk }) →
      codeAny (model prog w) A (.builtin "list.extend.loop" ⟨[.ref S, .ref z, res], []⟩) R s := by
  intro k
  induction k with
  | zero =>
    rintro s rows c hk hle ⟨f1, Z⟩ ⟨vT, hT⟩ hr ho hp hSl hb hkeep hbs hR
    have en : rows.length = n := by omega
    obtain ⟨oT, eT⟩ := hr.there _ hT
    refine codeAny_builtin F.entry_extend_loop ?_
    rw [Around.under_plainId F.plain_extend_loop _]
    show wpAny _ A.in1 (pyNext (.ref z) >>= _) _ _ s
    refine wpAny_bind (next_zip Z.top (zip_stop (A := A.in1.in1) hh D Z eT el (fun p h => by rw [en]; exact hi p h) (by rw [en, hx]; exact Nat.le_refl _) fun h' tk e he hk' => ?_))
    obtain ⟨o, ho', hc⟩ := he
    refine ⟨e, o, rfl, ho', hc, ?_⟩
    refine wpAny_pure (hR h' tk rows c en (hr.keep fun p hp' o e => hk' _ _ (ho p hp').2.1 (ho p hp').2.2 e) (fun p h => (ho p h).1) hp (hk' _ _ hS.1 hS.2 hSl) hb fun b o h1 h2 hO h3 e => hk' _ _ h1 h3 (hkeep b o h1 h2 hO h3 e))
  | succ k ih =>
    rintro s rows c hk hle ⟨f1, Z⟩ ⟨vT, hT⟩ hr ho hp hSl hb hkeep hbs hR
    obtain ⟨oT, eT⟩ := hr.there _ hT
    have hlt : rows.length < n := by omega
    refine codeAny_builtin F.entry_extend_loop ?_
    rw [Around.under_plainId F.plain_extend_loop _]
    show wpAny _ A.in1 (pyNext (.ref z) >>= _) _ _ s
    refine wpAny_bind (next_zip Z.top (zip_more D (by rw [el]; simp) Z eT (fun p h => Nat.lt_of_lt_of_le hlt (hall p h)) hz8 fun h' tk vs T hvs hT8 eT' hZ' hk' => ?_))
    have hS' := hk' _ _ hS.1 hS.2 hSl
    have rowsLt : ∀ p ∈ rows, p.1 < s.heap.objs.size := fun p h => by obtain ⟨o, e⟩ := hr.there p h; exact Heap.lt_size e
    have hTS : T ≠ S := Nat.ne_of_gt (Nat.lt_of_lt_of_le (Heap.lt_size hSl) hT8)
    have hTz : T ≠ z := Nat.ne_of_gt (Nat.lt_of_lt_of_le (Heap.lt_size Z.top) hT8)
    have hTl : T ∉ l.map (·.1) := fun hm => by
      obtain ⟨p, h, e⟩ := List.mem_map.mp hm
      obtain ⟨o, e'⟩ := (Z.all p h).there
      have h9 : p.1 = T := e
      exact Nat.lt_irrefl _ (Nat.lt_of_lt_of_le (Heap.lt_size e') (h9.symm ▸ hT8))
    show wpAny _ A.in1 (updateSeq S (·.push (.ref T)) >>= _) _ _ _
    refine wpAny_bind (wpAny_updateSeq hS' rfl ?_ (by rw [List.size_toArray, List.length_map, sizeLine_eq]; omega) (by rw [Array.size_push, List.size_toArray, List.length_map, sizeLine_eq]; omega))
    have oth : ∀ b o, b ≠ S → h'.get? b = some o → (h'.update S (Obj.mapSeq (·.push (.ref T)))).get? b = some o := fun b o hb e => (Heap.get?_update_other _ _ (Ne.symm hb)).trans e
    have self := Heap.get?_update_self (Obj.mapSeq (·.push (Value.ref T))) hS' rfl
    refine wpAny_pure ⟨plainId_quiet F.plain_extend_loop _, ih _ (rows ++ [(T, vs)]) (c + 1) (by simp only [List.length_append, List.length_cons, List.length_nil]; omega) (by simp only [List.length_append, List.length_cons, List.length_nil]; omega) ?_ ⟨vT, List.mem_append.mpr (.inl hT)⟩ ?_ ?_ ?_ ?_ ?_ ?_ ?_ ?_⟩
    · obtain ⟨g1, Z'⟩ := hZ'
      obtain ⟨a1, a2, ⟨us, hus, a3⟩, a4⟩ := Z'
      have hSz := hS.1
      refine ⟨g1, oth _ _ hSz.symm a1, oth _ _ hSI.symm a2, ⟨us, hus, oth _ _ hSO.symm a3⟩, fun p h => ?_⟩
      have := (a4 p h).keep (h' := h'.update S (Obj.mapSeq (·.push (.ref T)))) fun o e => oth _ _ (fun ee => hS.2 (ee ▸ List.mem_map_of_mem (f := fun q : Addr × Str => q.1) h)) e
      simpa using this
    · refine RowsAt.snoc ?_ (by simpa using hvs) (oth _ _ hTS eT')
      exact hr.keep fun p h o e => oth _ _ (Nat.ne_of_gt (ho p h).1) (hk' _ _ (ho p h).2.1 (ho p h).2.2 e)
    · intro p h
      rcases List.mem_append.mp h with h | h
      · exact ho p h
      · obtain rfl := List.mem_singleton.mp h
        exact ⟨Nat.lt_of_lt_of_le (Heap.lt_size hSl) hT8, hTz, hTl⟩
    · rw [List.map_append, List.pairwise_append]
      refine ⟨hp, List.pairwise_singleton _ _, fun a ha b hb' => ?_⟩
      obtain ⟨p, h, rfl⟩ := List.mem_map.mp ha
      obtain rfl := List.mem_singleton.mp hb'
      exact Nat.lt_of_lt_of_le (rowsLt p h) hT8
    · rw [self]
      simp [Obj.mapSeq]
    · intro p h b o e
      rcases List.mem_append.mp h with h | h
      · exact hb p h b o e
      · obtain rfl := List.mem_singleton.mp h
        exact Nat.lt_of_lt_of_le (Nat.lt_of_lt_of_le (Heap.lt_size e) hbs) hT8
    · exact fun b o h1 h2 hO h3 e => oth _ _ h2 (hk' _ _ h1 h3 (hkeep b o h1 h2 hO h3 e))
    · rw [(Heap.SameBut.update ..).1]
      exact Nat.le_trans hbs (Nat.le_of_lt (Nat.lt_of_le_of_lt hT8 (Heap.lt_size eT')))
    · exact fun h'' tk' rows' c' => hR h'' tk' rows' c'
end
end Mine
end
/-! Z4 -/
section
open PySem PySem.W PySem.Calls PyProof.Rows
set_option Elab.async false
set_option maxRecDepth 100000
namespace Mine
theorem zip_no_len : typeLookup (.type "zip") "__len__" = pure none := by rw [typeLookup_type, builtinLookup_eq_fast]; kernel_rfl
theorem zip_no_hint : typeLookup (.type "zip") "__length_hint__" = pure none := by rw [typeLookup_type, builtinLookup_eq_fast]; kernel_rfl
theorem ZipAt.keep {h h' : Heap} {z TI TO : Addr} {l : List (Addr × Str)} {i : Nat} {f0 f1 : Value} (Z : ZipAt h z TI TO l i f0 f1) (k : ∀ b o, b = z ∨ b = TI ∨ b = TO ∨ b ∈ l.map (·.1) → h.get? b = some o → h'.get? b = some o) : ZipAt h' z TI TO l i f0 f1 := by
  obtain ⟨a1, a2, ⟨us, hus, a3⟩, a4⟩ := Z
  exact ⟨k _ _ (.inl rfl) a1, k _ _ (.inr (.inl rfl)) a2, ⟨us, hus, k _ _ (.inr (.inr (.inl rfl))) a3⟩, fun p hp => (a4 p hp).keep fun o e => k _ o (.inr (.inr (.inr (List.mem_map_of_mem (f := fun q : Addr × Str => q.1) hp)))) e⟩
theorem ZipAt.lt {h : Heap} {z TI TO : Addr} {l : List (Addr × Str)} {i : Nat} {f0 f1 : Value} (Z : ZipAt h z TI TO l i f0 f1) {b : Addr} (hb : b = z ∨ b = TI ∨ b = TO ∨ b ∈ l.map (·.1)) : b < h.objs.size := by
  obtain ⟨a1, a2, ⟨us, hus, a3⟩, a4⟩ := Z
  rcases hb with rfl | rfl | rfl | hb
  · exact Heap.lt_size a1
  · exact Heap.lt_size a2
  · exact Heap.lt_size a3
  · obtain ⟨p, hp, rfl⟩ := List.mem_map.mp hb
    obtain ⟨o, e⟩ := (a4 p hp).there
    exact Heap.lt_size e
section
variable {prog : Program} {w : World} {A : Around} {E : Value → Shared → Prop} {s : Shared} {z TI TO : Addr} {l : List (Addr × Str)} {n : Nat}
theorem list_zip (hh : A.handled = none) {Q : Value → Shared → Prop} (D : Apart z TI TO l) {l1 l2 : List (Addr × Str)} {it : Addr} {x : Str} (el : l = l1 ++ (it, x) :: l2) (hi : ∀ p ∈ l1, n < p.2.cps.size) (hx : x.cps.size = n) (hall : ∀ p ∈ l, n ≤ p.2.cps.size) (hz8 : l.length ≤ 1000) (hn8 : n ≤ 1000) (h1 : 1 ≤ n)
    (Z : ZipAt s.heap z TI TO l 0 .none (.bool false))
    (hQ : ∀ h' tk rows c, rows.length = n → RowsAt l h' 0 rows → (∀ p ∈ rows, s.heap.objs.size < p.1) → (rows.map (·.1)).Pairwise (· < ·) → h'.get? s.heap.objs.size = some (lst (rows.map fun p => Value.ref p.1) c) →
      (∀ b o, b ≠ z → b ≠ TO → b ∉ l.map (·.1) → s.heap.get? b = some o → h'.get? b = some o) → Q (.ref s.heap.objs.size) { s with heap := h', toks := tk }) :
    wpAny (model prog w) A (call (.type "list") [.ref z]) Q E s := by
  have hS : ∀ b, (b = z ∨ b = TI ∨ b = TO ∨ b ∈ l.map (·.1)) → s.heap.objs.size ≠ b := fun b hb => Nat.ne_of_gt (Z.lt hb)
  refine callType_codes (Q₁ := fun obj s₁ => obj = .ref s.heap.objs.size ∧ s₁ = { s with heap := s.heap.push { cls := .type "list", data := .seq #[] } }) F.called_list (F.typeCall_list_1 _) F.entry_list_init
    (code_list_new _ ⟨rfl, rfl⟩) fun obj s₁ h₁ => ?_
  obtain ⟨rfl, rfl⟩ := h₁
  generalize hSe : s.heap.objs.size = S at *
  have hS0 : (s.heap.push { cls := .type "list", data := .seq #[] }).get? S = some { cls := .type "list", data := .seq #[] } := by rw [← hSe]; exact Heap.get?_push_size _ rfl
  have hZ0 : ZipAt (s.heap.push { cls := .type "list", data := .seq #[] }) z TI TO l 0 .none (.bool false) := Z.keep fun b o _ e => Heap.get?_push_of_some _ e
  have up0 : ∀ b o, s.heap.get? b = some o → (s.heap.push { cls := .type "list", data := .seq #[] }).get? b = some o := fun b o e => Heap.get?_push_of_some _ e
  generalize s.heap.push { cls := .type "list", data := .seq #[] } = h0 at *
  refine ⟨⟨_, hS0, rfl⟩, F.args_list_init_2 _ _, ?_⟩
  show wpAny _ A.in1.in1 (do let old ← Builtin.List.listItems (.ref S); Builtin.List.listUpdate (.ref S) (fun _ => #[]); letGo old.toList.reverse; Builtin.List.listExtendWith (.ref S) (.ref z) .none) _ _ _
  refine wpAny_bind ?_
  unfold Builtin.List.listItems
  refine wpAny_bind (wpAny_seqItems hS0 rfl (wpAny_pure ?_))
  show wpAny _ A.in1.in1 (updateSeq S (fun _ => #[]) >>= fun _ => letGo (#[] : Array Value).toList.reverse >>= fun _ => Builtin.List.listExtendWith (.ref S) (.ref z) .none) _ _ _
  refine wpAny_bind (wpAny_updateSeq hS0 rfl ?_)
  have hSa := Heap.get?_update_self (Obj.mapSeq (fun _ => (#[] : Array Value))) hS0 rfl
  have upa : ∀ b o, b ≠ S → h0.get? b = some o → (h0.update S (Obj.mapSeq (fun _ => (#[] : Array Value)))).get? b = some o := fun b o hb e => (Heap.get?_update_other _ _ (Ne.symm hb)).trans e
  refine wpAny_bind (wpAny_letGo ?_)
  have hZa := hZ0.keep fun b o hb e => upa b o (hS b hb).symm e
  unfold Builtin.List.listExtendWith
  refine wpAny_bind (wpAny_typeOf ⟨_, hZa.top, rfl⟩ ?_)
  have c1 : Builtin.List.listSameRef (.ref S) (.ref z) = false := by simp [Builtin.List.listSameRef, hS z (.inl rfl)]
  have c2 : (Value.type "zip" == Value.type "list") = false := by decide
  have c3 : (Value.type "zip" == Value.type "tuple") = false := by decide
  simp only [c1, c2, c3, Bool.or_false, Bool.false_eq_true, if_false]
  refine wpAny_bind (wpAny_pyIter_zip hZa.top ?_)
  refine wpAny_bind (wpAny_holding ?_)
  unfold Builtin.List.listLengthHint
  refine wpAny_bind (wpAny_specialOf ⟨_, hZa.top, rfl⟩ zip_no_len ?_)
  show wpAny _ _ (specialOf (Value.ref z) (Str.ofString "__length_hint__") >>= _) _ _ _
  refine wpAny_bind (wpAny_specialOf ⟨_, hZa.top, rfl⟩ zip_no_hint ?_)
  refine wpAny_pure ?_
  show wpAny _ _ (rule "list.extend.makes-room" >>= fun _ => Builtin.List.listTouch (.ref S) >>= fun _ => again (.builtin "list.extend.loop" ⟨[.ref S, .ref z, .none], []⟩)) _ _ _
  refine wpAny_bind (wpAny_rule ?_)
  refine wpAny_bind ?_
  show wpAny _ _ (updateSeq S (·.push .none) >>= fun _ => updateSeq S (·.pop)) _ _ _
  refine wpAny_bind (wpAny_updateSeq hSa rfl ?_)
  have hSb := Heap.get?_update_self (Obj.mapSeq (·.push Value.none)) hSa rfl
  refine wpAny_updateSeq (hz := by seq_fits) hSb rfl ?_
  have hSc := Heap.get?_update_self (Obj.mapSeq (·.pop)) hSb rfl
  have upc : ∀ b o, b ≠ S → (h0.update S (Obj.mapSeq (fun _ => (#[] : Array Value)))).get? b = some o →
      (((h0.update S (Obj.mapSeq (fun _ => (#[] : Array Value)))).update S (Obj.mapSeq (·.push Value.none))).update S (Obj.mapSeq (·.pop))).get? b = some o :=
    fun b o hb e => (Heap.get?_update_other _ _ (Ne.symm hb)).trans ((Heap.get?_update_other _ _ (Ne.symm hb)).trans e)
  have hZc := hZa.keep fun b o hb e => upc b o (hS b hb).symm e
  have upc' : ∀ b o, s.heap.get? b = some o → (((h0.update S (Obj.mapSeq (fun _ => (#[] : Array Value)))).update S (Obj.mapSeq (·.push Value.none))).update S (Obj.mapSeq (·.pop))).get? b = some o := fun b o e =>
    have hb : b ≠ S := Nat.ne_of_lt (hSe ▸ Heap.lt_size e)
    upc b o hb (upa b o hb (up0 b o e))
  clear upc upa hSa hSb hZa
  generalize ((h0.update S (Obj.mapSeq (fun _ => (#[] : Array Value)))).update S (Obj.mapSeq (·.push Value.none))).update S (Obj.mapSeq (·.pop)) = hc at *
  refine wpAny_pure ⟨plainId_quiet F.plain_extend_loop _, codeAny_builtin F.entry_extend_loop ?_⟩
  rw [Around.under_plainId F.plain_extend_loop _]
  show wpAny _ _ (pyNext (.ref z) >>= _) _ _ _
  have hSl : S ∉ l.map (·.1) := fun hm => hS S (.inr (.inr (.inr hm))) rfl
  refine wpAny_bind (next_zip hZc.top (zip_first D (by rw [el]; simp) hZc (fun p h => Nat.lt_of_lt_of_le h1 (hall p h)) hz8 fun h' tk vs T hvs hT8 eT' hZ' hk' => ?_))
  have hS' := hk' _ _ (hS z (.inl rfl)) (hS TO (.inr (.inr (.inl rfl)))) hSl hSc
  have hST : S < T := Nat.lt_of_lt_of_le (Heap.lt_size hSc) hT8
  have hTz : T ≠ z := Nat.ne_of_gt (Nat.lt_of_lt_of_le (Heap.lt_size hZc.top) hT8)
  have hTl : T ∉ l.map (·.1) := fun hm => Nat.lt_irrefl _ (Nat.lt_of_lt_of_le (hZc.lt (.inr (.inr (.inr hm)))) hT8)
  show wpAny _ _ (updateSeq S (·.push (.ref T)) >>= _) _ _ _
  refine wpAny_bind (wpAny_updateSeq hS' rfl ?_)
  have oth : ∀ b o, b ≠ S → h'.get? b = some o → (h'.update S (Obj.mapSeq (·.push (.ref T)))).get? b = some o := fun b o hb e => (Heap.get?_update_other _ _ (Ne.symm hb)).trans e
  have self := Heap.get?_update_self (Obj.mapSeq (·.push (Value.ref T))) hS' rfl
  refine wpAny_pure ⟨plainId_quiet F.plain_extend_loop _, ext_loop (A := A.in1) hh D el hi hx hall hz8 hn8 ⟨hS z (.inl rfl), hSl⟩ (hS TI (.inr (.inl rfl))) (hS TO (.inr (.inr (.inl rfl)))) hc .none T (n - 1) _ [(T, vs)] _ rfl h1 ⟨_, hZ'.keep fun b o hb e => oth b o (hS b hb).symm e⟩ ⟨vs, .head _⟩
    ⟨hvs, oth _ _ (Nat.ne_of_gt hST) eT', trivial⟩ ?_ (List.pairwise_singleton _ _) self ?_ ?_ ?_ ?_⟩
  · intro p hp
    obtain rfl := List.mem_singleton.mp hp
    exact ⟨hST, hTz, hTl⟩
  · intro p hp b o e
    obtain rfl := List.mem_singleton.mp hp
    exact Nat.lt_of_lt_of_le (Heap.lt_size e) hT8
  · exact fun b o n1 n2 n3 n4 e => oth _ _ n2 (hk' _ _ n1 n3 n4 e)
  · rw [(Heap.SameBut.update ..).1]
    exact Nat.le_of_lt (Nat.lt_of_le_of_lt hT8 (Heap.lt_size eT'))
  · intro h'' tk' rows c e1 e2 e3 e4 e5 _ e7
    exact ⟨rfl, hQ h'' tk' rows c e1 e2 e3 e4 e5 fun b o n1 n3 n4 e => e7 b o n1 (Nat.ne_of_lt (hSe ▸ Heap.lt_size e)) n3 n4 (upc' b o e)⟩
end
end Mine
end
/-! Z5 -/
section
open PySem PySem.W PySem.Calls PyProof.Rows
set_option Elab.async false
set_option maxRecDepth 100000
namespace Mine
abbrev sv (p : Str × Tok) : Value := .str p.1 p.2
section
variable {prog : Program} {w : World} {A : Around} {E : Value → Shared → Prop} {s : Shared}
theorem it_new {x : Str} {t : Tok} {Q : Value → Shared → Prop} (hQ : ∀ h', ItAt h' s.heap.objs.size x 0 → (∀ b o, s.heap.get? b = some o → h'.get? b = some o) → h'.objs.size = s.heap.objs.size + 1 → Q (.ref s.heap.objs.size) { s with heap := h' }) :
    wpAny (model prog w) A (pyIter (.str x t)) Q E s := by
  cases ha : x.cps.all (· < 128)
  · exact wpAny_pyIter_wide ha (hQ _ ⟨t, .inr ⟨_, Heap.get?_push_size _ rfl, rfl, rfl⟩⟩ (fun _ _ e => Heap.get?_push_of_some _ e) (Heap.size_push ..))
  · exact wpAny_pyIter_ascii ha (hQ _ ⟨t, .inl ⟨_, Heap.get?_push_size _ rfl, rfl, rfl⟩⟩ (fun _ _ e => Heap.get?_push_of_some _ e) (Heap.size_push ..))
theorem its_loop {body : Value → Array Value → Sem (ForInStep (Array Value))}
    (hbody : ∀ (x : Str) (t : Tok) (acc : List Value) (s : Shared) (Q : ForInStep (Array Value) → Shared → Prop),
      (∀ h', ItAt h' s.heap.objs.size x 0 → (∀ b o, s.heap.get? b = some o → h'.get? b = some o) → h'.objs.size = s.heap.objs.size + 1 → Q (ForInStep.yield (acc ++ [Value.ref s.heap.objs.size]).toArray) { s with heap := h' }) →
      wpAny (model prog w) A (body (.str x t) acc.toArray) Q E s) :
    ∀ (xs : List (Str × Tok)) (acc : List Value) (s : Shared) (Q : Array Value → Shared → Prop),
      (∀ h' (l : List (Addr × Str)), l.map (·.2) = xs.map (·.1) → (∀ p ∈ l, s.heap.objs.size ≤ p.1 ∧ p.1 < h'.objs.size) → (l.map (·.1)).Nodup → (∀ p ∈ l, ItAt h' p.1 p.2 0) → (∀ b o, s.heap.get? b = some o → h'.get? b = some o) → s.heap.objs.size ≤ h'.objs.size →
        Q (acc ++ l.map fun p => Value.ref p.1).toArray { s with heap := h' }) →
      wpAny (model prog w) A (forIn (xs.map sv) acc.toArray body) Q E s
  | [], acc, s, Q, hQ => by
    have := hQ s.heap [] rfl (fun _ h => nomatch h) List.nodup_nil (fun _ h => nomatch h) (fun _ _ e => e) (Nat.le_refl _)
    rw [List.map_nil, List.forIn_nil]
    exact wpAny_pure (by simpa using this)
  | (x, t) :: xs, acc, s, Q, hQ => by
    rw [List.map_cons, List.forIn_cons]
    refine wpAny_bind (hbody x t acc s _ fun h1 hit hk hsz => ?_)
    refine its_loop hbody xs (acc ++ [.ref s.heap.objs.size]) _ Q fun h' l el hlt hnd hits hk' hle => ?_
    have := hQ h' ((s.heap.objs.size, x) :: l) (by simp [el]) ?_ ?_ ?_ (fun b o e => hk' b o (hk b o e)) ?_
    · simpa using this
    · intro p hp
      rcases List.mem_cons.mp hp with rfl | hp
      · exact ⟨Nat.le_refl _, Nat.lt_of_lt_of_le (hsz ▸ Nat.lt_succ_self _) hle⟩
      · exact ⟨Nat.le_trans (hsz ▸ Nat.le_succ _) (hlt p hp).1, (hlt p hp).2⟩
    · rw [List.map_cons, List.nodup_cons]
      refine ⟨fun hm => ?_, hnd⟩
      obtain ⟨p, hp, e⟩ := List.mem_map.mp hm
      have h9 : p.1 = s.heap.objs.size := e
      have h8 := (hlt p hp).1
      have h7 : h1.objs.size ≤ p.1 := h8
      rw [h9, hsz] at h7
      exact Nat.lt_irrefl _ h7
    · intro p hp
      rcases List.mem_cons.mp hp with rfl | hp
      · exact hit.keep fun o e => hk' _ o e
      · exact hits p hp
    · exact Nat.le_trans (Nat.le_trans (Nat.le_succ _) (Nat.le_of_eq hsz.symm)) hle
end
theorem newClass_zip (vs : List Value) : Builtin.SmallTypes.newClass "zip" ⟨.type "zip" :: vs, []⟩ = pure (.type "zip", vs) := by
  unfold Builtin.SmallTypes.newClass
  simp [isType, sub_zip]
theorem meets_zip (xs : List (Str × Tok)) (hxs : xs.length ≤ 1000) : Meets (Builtin.«zip.__new__» ⟨.type "zip" :: xs.map sv, []⟩) (fun _ R s =>
    ∀ h' z TI TO (l : List (Addr × Str)), l.map (·.2) = xs.map (·.1) → Apart z TI TO l → ZipAt h' z TI TO l 0 .none (.bool false) → (∀ b o, s.heap.get? b = some o → h'.get? b = some o) → s.heap.objs.size ≤ z → s.heap.objs.size ≤ TI → s.heap.objs.size ≤ TO → (∀ p ∈ l, s.heap.objs.size ≤ p.1) →
      R (.ok (.ret (.ref z))) { s with heap := h' }) :=
  .of_wp fun prog w A R s h => by
    show wpAny _ _ (Builtin.SmallTypes.newClass "zip" ⟨.type "zip" :: xs.map sv, []⟩ >>= _) _ _ _
    rw [newClass_zip]
    refine wpAny_bind (wpAny_pure ?_)
    show wpAny _ _ (Builtin.SmallTypes.iterAll (xs.map sv) >>= _) _ _ _
    refine wpAny_bind ?_
    unfold Builtin.SmallTypes.iterAll
    refine wpAny_bind (its_loop (acc := []) ?_ xs s _ fun h1 l el hlt hnd hits hk hle => ?_)
    · intro x t acc s Q hQ
      refine wpAny_bind (wpAny_holding (it_new fun h' a b c => ?_))
      refine wpAny_pure ?_
      rw [List.push_toArray]
      exact hQ h' a b c
    · refine wpAny_pure ?_
      have hl8 : l.length ≤ 1000 := by have := congrArg List.length el; simp only [List.length_map] at this; omega
      dsimp only
      rw [List.nil_append]
      refine wpAny_bind (wpAny_newTuple ?_ (by rw [List.length_map, sizeLine_eq]; omega))
      refine wpAny_bind (wpAny_newTuple ?_ (by rw [List.length_map, List.length_map, sizeLine_eq]; omega))
      dsimp only
      refine wpAny_bind ?_
      unfold Builtin.SmallTypes.newRecord
      dsimp only
      refine wpAny_newObj_type ?_ (by show (5 : Nat) ≤ sizeLine + 2; rw [sizeLine_eq]; omega)
      refine wpAny_pure ⟨_, rfl, ?_⟩
      dsimp only
      have e1 : h1.get? h1.objs.size = none := by
        cases q : h1.get? h1.objs.size with
        | none => rfl
        | some o => exact absurd (Heap.lt_size q) (Nat.lt_irrefl _)
      have i1 : (h1.push (tup (l.map fun p => Value.ref p.1))).get? h1.objs.size = some (tup (l.map fun p => Value.ref p.1)) := Heap.get?_push_size _ rfl
      have z1 : (h1.push (tup (l.map fun p => Value.ref p.1))).objs.size = h1.objs.size + 1 := Heap.size_push ..
      have k1 : ∀ b o, h1.get? b = some o → (h1.push (tup (l.map fun p => Value.ref p.1))).get? b = some o := fun _ _ e => Heap.get?_push_of_some _ e
      generalize hT : h1.objs.size = TI at *
      generalize h1.push (tup (l.map fun p => Value.ref p.1)) = h2 at *
      have i2 : (h2.push (tup ((l.map fun p => Value.ref p.1).map fun _ => Value.none))).get? h2.objs.size = some (tup ((l.map fun p => Value.ref p.1).map fun _ => Value.none)) := Heap.get?_push_size _ rfl
      have z2 : (h2.push (tup ((l.map fun p => Value.ref p.1).map fun _ => Value.none))).objs.size = h2.objs.size + 1 := Heap.size_push ..
      have k2 : ∀ b o, h2.get? b = some o → (h2.push (tup ((l.map fun p => Value.ref p.1).map fun _ => Value.none))).get? b = some o := fun _ _ e => Heap.get?_push_of_some _ e
      generalize h2.push (tup ((l.map fun p => Value.ref p.1).map fun _ => Value.none)) = h3 at *
      rw [z1] at i2 z2 ⊢
      have i3 : (h3.push (zrec TI (TI + 1) .none (.bool false))).get? h3.objs.size = some (zrec TI (TI + 1) .none (.bool false)) := Heap.get?_push_size _ rfl
      have k3 : ∀ b o, h3.get? b = some o → (h3.push (zrec TI (TI + 1) .none (.bool false))).get? b = some o := fun _ _ e => Heap.get?_push_of_some _ e
      rw [z2] at i3 ⊢
      refine h _ (TI + 1 + 1) TI (TI + 1) l el ⟨?_, ?_, ?_, ?_, ?_, ?_, hnd⟩ ⟨i3, k3 _ _ (k2 _ _ i1), ⟨_, ?_, k3 _ _ i2⟩, fun p hp => (hits p hp).keep fun o e => k3 _ _ (k2 _ _ (k1 _ _ e))⟩ (fun b o e => k3 _ _ (k2 _ _ (k1 _ _ (hk b o e)))) ?_ hle ?_ fun p hp => (hlt p hp).1
      · exact Nat.ne_of_gt (Nat.lt_succ_of_le (Nat.le_succ _))
      · exact Nat.ne_of_gt (Nat.lt_succ_self _)
      · exact Nat.ne_of_lt (Nat.lt_succ_self _)
      · exact fun p hp => Nat.ne_of_lt (Nat.lt_succ_of_lt (Nat.lt_succ_of_lt (hlt p hp).2))
      · exact fun p hp => Nat.ne_of_lt (hlt p hp).2
      · exact fun p hp => Nat.ne_of_lt (Nat.lt_succ_of_lt (hlt p hp).2)
      · simp
      · exact Nat.le_trans hle (Nat.le_add_right _ 2)
      · exact Nat.le_trans hle (Nat.le_add_right _ 1)
end Mine
end
/-! Z6 -/
section
open PySem PySem.W PySem.Calls PyProof.Rows
set_option Elab.async false
set_option maxRecDepth 100000
namespace Mine
/-- none of the zip's own objects is anybody's -/
abbrev Off (h₀ : Heap) (L : Addr) (news : List (Addr × Obj)) (z TO : Addr) (l : List (Addr × Str)) : Prop :=
  ∀ b, (b = z ∨ b = TO ∨ b ∈ l.map (·.1)) → h₀.get? b = none ∧ b ≠ L ∧ ∀ p ∈ news, p.1 ≠ b
section
variable {prog : Program} {w : World} {A : Around} {E : Value → Shared → Prop} {s : Shared} {h₀ : Heap} {L : Addr} {m : Str → Option Value} {news : List (Addr × Obj)} {Q : Value → Shared → Prop}
theorem kw_zip {xs : List (Str × Tok)} (hxs : xs.length ≤ 1000) (c1 : checkTypeCall "zip" ⟨xs.map sv, []⟩ = pure ()) (c2 : checkBuiltinCall "zip.__new__" ⟨.type "zip" :: xs.map sv, []⟩ = pure ()) (c3 : ∀ obj, argsOk "object.__init__" ⟨obj :: xs.map sv, []⟩)
    (F : Fr h₀ L s.heap m) (N : News h₀ L s.heap news)
    (h : ∀ h' z TI TO (l : List (Addr × Str)), l.map (·.2) = xs.map (·.1) → Apart z TI TO l → ZipAt h' z TI TO l 0 .none (.bool false) → Off h₀ L news z TO l → Fr h₀ L h' m → News h₀ L h' news → Q (.ref z) { s with heap := h' }) :
    wpAny (model prog w) A (call (.type "zip") (xs.map sv)) Q E s := by
  refine callType_new PySem.F.called_zip (by decide) c1 c2 c3 PySem.F.entry_zip_new (meets_zip xs hxs) ?_
  intro h' z TI TO l el D Z k lz lI lO ll
  refine ⟨⟨_, Z.top, rfl⟩, h h' z TI TO l el D Z (fun b hb => ?_) ?_ ?_⟩
  · have hge : s.heap.objs.size ≤ b := by
      rcases hb with rfl | rfl | hb
      · exact lz
      · exact lO
      · obtain ⟨p, hp, rfl⟩ := List.mem_map.mp hb
        exact ll p hp
    refine ⟨?_, fun e => ?_, fun p hp e => ?_⟩
    · cases q : h₀.get? b with
      | none => rfl
      | some o => exact absurd (Nat.lt_of_lt_of_le (Heap.lt_size (F.keep _ _ q)) hge) (Nat.lt_irrefl _)
    · obtain ⟨oL, _, _, hL, _⟩ := F.ns
      rw [e] at hge
      exact absurd (Nat.lt_of_lt_of_le (Heap.lt_size hL) hge) (Nat.lt_irrefl _)
    · rw [← e] at hge
      exact absurd (Nat.lt_of_lt_of_le (Heap.lt_size (N p hp).1) hge) (Nat.lt_irrefl _)
  · obtain ⟨oL, a1, a2, hL, a3⟩ := F.ns
    exact ⟨⟨oL, a1, a2, k _ _ hL, a3⟩, fun b o e => k _ _ (F.keep b o e), F.above⟩
  · exact fun p hp => ⟨k _ _ (N p hp).1, (N p hp).2⟩
theorem kw_list {n : Nat} {z TI TO : Addr} {l l1 l2 : List (Addr × Str)} {it : Addr} {x : Str} (hh : A.handled = none) (F : Fr h₀ L s.heap m) (N : News h₀ L s.heap news) (D : Apart z TI TO l) (Z : ZipAt s.heap z TI TO l 0 .none (.bool false)) (O : Off h₀ L news z TO l)
    (el : l = l1 ++ (it, x) :: l2) (hi : ∀ p ∈ l1, n < p.2.cps.size) (hx : x.cps.size = n) (hall : ∀ p ∈ l, n ≤ p.2.cps.size) (hz8 : l.length ≤ 1000) (hn8 : n ≤ 1000) (h1 : 1 ≤ n)
    (h : ∀ S h' tk rows c, rows.length = n → RowsAt l h' 0 rows → L < S → (∀ p ∈ news, p.1 < S) → (∀ p ∈ rows, S < p.1) → (rows.map (·.1)).Pairwise (· < ·) → Fr h₀ L h' m → News h₀ L h' ((S, lst (rows.map fun p => Value.ref p.1) c) :: news) → (∀ p ∈ rows, p.1 ≠ L ∧ h₀.get? p.1 = none) → Q (.ref S) { s with heap := h', toks := tk }) :
    wpAny (model prog w) A (call (.type "list") [.ref z]) Q E s := by
  refine list_zip hh D el hi hx hall hz8 hn8 h1 Z fun h' tk rows c e1 e2 e3 e4 e5 k => ?_
  have kk : ∀ b o, (h₀.get? b = some o ∨ b = L ∨ ∃ p ∈ news, p.1 = b) → ∀ o', s.heap.get? b = some o' → h'.get? b = some o' := fun b o hb o' e => by
    have no : ∀ c, (c = z ∨ c = TO ∨ c ∈ l.map (·.1)) → b ≠ c := fun c hc ebc => by
      subst ebc
      obtain ⟨q1, q2, q3⟩ := O b hc
      rcases hb with hb | hb | ⟨p, hp, hb⟩
      · rw [q1] at hb; cases hb
      · exact q2 hb
      · exact q3 p hp hb
    exact k b o' (no z (.inl rfl)) (no TO (.inr (.inl rfl))) (fun hm => no b (.inr (.inr hm)) rfl) e
  have up : ∀ p ∈ rows, p.1 ≠ L ∧ h₀.get? p.1 = none := fun p hp => by
    have hge := Nat.le_of_lt (e3 p hp)
    refine ⟨fun e => ?_, ?_⟩
    · obtain ⟨oL, _, _, hL, _⟩ := F.ns
      rw [e] at hge
      exact absurd (Nat.lt_of_lt_of_le (Heap.lt_size hL) hge) (Nat.lt_irrefl _)
    · cases q : h₀.get? p.1 with
      | none => rfl
      | some o => exact absurd (Nat.lt_of_lt_of_le (Heap.lt_size (F.keep _ _ q)) hge) (Nat.lt_irrefl _)
  obtain ⟨oL, a1, a2, hL, a3⟩ := F.ns
  refine h _ h' tk rows c e1 e2 (Heap.lt_size hL) (fun p hp => Heap.lt_size (N p hp).1) e3 e4 ⟨⟨oL, a1, a2, kk _ oL (.inr (.inl rfl)) _ hL, a3⟩, fun b o e => kk b o (.inl e) _ (F.keep b o e), F.above⟩ (fun p hp => ?_) up
  rcases List.mem_cons.mp hp with rfl | hp
  · refine ⟨e5, Nat.ne_of_gt (Heap.lt_size hL), ?_⟩
    cases q : h₀.get? s.heap.objs.size with
    | none => rfl
    | some o => exact absurd (Heap.lt_size (F.keep _ _ q)) (Nat.lt_irrefl _)
  · exact ⟨kk p.1 oL (.inr (.inr ⟨p, hp, rfl⟩)) _ (N p hp).1, (N p hp).2⟩
end
end Mine
end
/-! Z7 -/
section
open PySem PySem.W PySem.Calls PyProof.Rows
set_option Elab.async false
set_option maxRecDepth 100000
namespace Mine
abbrev ch (c : Nat) (u : Tok) : Value := .str ⟨#[c]⟩ u
theorem sign_is {x : Str} {i c : Nat} {v : Value} (h : SignAt x i v) (e : x.cps[i]? = some c) : ∃ u, v = ch c u := by
  obtain ⟨d, u, h1, rfl⟩ := h
  rw [e] at h1
  cases h1
  exact ⟨u, rfl⟩
theorem zip_sig : Manifest.signature? "zip.__new__" = Manifest.sig_zip.lookup (String.ofList ['_', '_', 'w', 'e', 'n', '_', '_'].reverse) :=
  signature?_of (id := "zip.__new__") (n := ['_', '_', 'w', 'e', 'n', '_', '_']) (o := ['p', 'i', 'z']) (by kernel_rfl) PySem.F.owner_zip
theorem zip_pre (l : List Value) : checkBuiltinCall "zip.__new__" ⟨.type "zip" :: l, []⟩ = (match Manifest.signature? "zip.__new__" with | some sig => Bind.checkArgs "zip.__new__" sig ⟨.type "zip" :: l, []⟩ | none => pure ()) := by kernel_rfl
theorem zip_newB (l : List Value) (h : (match Manifest.sig_zip.lookup (String.ofList ['_', '_', 'w', 'e', 'n', '_', '_'].reverse) with | some sig => Bind.checkArgs "zip.__new__" sig ⟨.type "zip" :: l, []⟩ | none => pure ()) = pure ()) : checkBuiltinCall "zip.__new__" ⟨.type "zip" :: l, []⟩ = pure () := by
  rw [zip_pre, zip_sig]
  exact h
theorem zip_type1 (a : Value) : checkTypeCall "zip" ⟨[a], []⟩ = pure () := by kernel_rfl
theorem zip_new1 (a : Value) : checkBuiltinCall "zip.__new__" ⟨[.type "zip", a], []⟩ = pure () := zip_newB [a] (by kernel_rfl)
theorem zip_init1 (o a : Value) : argsOk "object.__init__" ⟨[o, a], []⟩ := by
  unfold argsOk; rw [signature?_of (id := "object.__init__") (n := ['_', '_', 't', 'i', 'n', 'i', '_', '_']) (o := ['t', 'c', 'e', 'j', 'b', 'o']) (by kernel_rfl) PySem.F.owner_object]; kernel_rfl
section
variable {prog : Program} {w : World} {A : Around} {E : Value → Shared → Prop} {s : Shared} {h₀ : Heap} {L : Addr} {m : Str → Option Value} {news : List (Addr × Obj)} {Q : Value → Shared → Prop} {c0 c1 c2 c3 : Nat}
/-- the zip of 1 texts of four signs' ends -/
abbrev Zip1 (c0 c1 c2 c3 : Nat) (h : Heap) (h₀ : Heap) (L : Addr) (news : List (Addr × Obj)) (z : Addr) : Prop :=
  ∃ TI TO, ∃ l : List (Addr × Str), l.map (·.2) = [⟨#[c0, c1, c2, c3]⟩] ∧ Apart z TI TO l ∧ ZipAt h z TI TO l 0 .none (.bool false) ∧ Off h₀ L news z TO l
theorem kw_zip1 {y0 : Str} {t0 : Tok} (e0 : y0 = ⟨#[c0, c1, c2, c3]⟩) (F : Fr h₀ L s.heap m) (N : News h₀ L s.heap news)
    (h : ∀ h' z, Zip1 c0 c1 c2 c3 h' h₀ L news z → Fr h₀ L h' m → News h₀ L h' news → Q (.ref z) { s with heap := h' }) :
    wpAny (model prog w) A (call (.type "zip") [.str y0 t0]) Q E s :=
  kw_zip (xs := [(y0, t0)]) (by simp) (zip_type1 _) (zip_new1 _) (fun o => zip_init1 o _) F N fun h' z TI TO l el D Z O F' N' => h h' z ⟨TI, TO, l, by rw [el]; simp [e0], D, Z, O⟩ F' N'
theorem kw_list1 (hh : A.handled = none) {z : Addr} (F : Fr h₀ L s.heap m) (N : News h₀ L s.heap news) (Z : Zip1 c0 c1 c2 c3 s.heap h₀ L news z)
    (h : ∀ S h' tk c T0 T1 T2 T3 u00 u10 u20 u30, L < S → (∀ p ∈ news, p.1 < S) → S < T0 → T0 < T1 → T1 < T2 → T2 < T3 → Fr h₀ L h' m → News h₀ L h' ((T3, (tup [ch c3 u30])) :: (T2, (tup [ch c2 u20])) :: (T1, (tup [ch c1 u10])) :: (T0, (tup [ch c0 u00])) :: (S, listOf #[.ref T0, .ref T1, .ref T2, .ref T3] c) :: news) → Q (.ref S) { s with heap := h', toks := tk }) :
    wpAny (model prog w) A (call (.type "list") [.ref z]) Q E s := by
  obtain ⟨TI, TO, l, el, D, Z, O⟩ := Z
  obtain ⟨a0, rfl⟩ : ∃ a0, l = [(a0, ⟨#[c0, c1, c2, c3]⟩)] := by
    match l, el with
    | [(a0, y0)], el =>
      simp only [List.map_cons, List.map_nil, List.cons.injEq, and_true] at el
      subst el
      exact ⟨_, rfl⟩
  refine kw_list (n := 4) (l1 := []) (it := a0) (x := ⟨#[c0, c1, c2, c3]⟩) (l2 := []) hh F N D Z O rfl (by simp) rfl (by simp) (by simp) (by decide) (by decide) fun S h' tk rows c e1 e2 e3 e4 e5 e6 F' N' e8 => ?_
  match rows, e1, e2, e4, e5, e6, e8, N' with
  | [(T0, v0), (T1, v1), (T2, v2), (T3, v3)], _, e2, e4, e5, e6, e8, N' =>
    simp only [RowsAt, and_true] at e2
    obtain ⟨s0, g0, s1, g1, s2, g2, s3, g3⟩ := e2
    obtain ⟨u00, rfl⟩ : ∃ u00, v0 = [ch c0 u00] := by
      match v0, s0 with
      | [w0], s =>
        simp only [Signs, and_true] at s
        have p0 := s
        obtain ⟨u00, q0⟩ := sign_is (c := c0) p0 rfl
        exact ⟨u00, by rw [q0]⟩
    obtain ⟨u10, rfl⟩ : ∃ u10, v1 = [ch c1 u10] := by
      match v1, s1 with
      | [w0], s =>
        simp only [Signs, and_true] at s
        have p0 := s
        obtain ⟨u10, q0⟩ := sign_is (c := c1) p0 rfl
        exact ⟨u10, by rw [q0]⟩
    obtain ⟨u20, rfl⟩ : ∃ u20, v2 = [ch c2 u20] := by
      match v2, s2 with
      | [w0], s =>
        simp only [Signs, and_true] at s
        have p0 := s
        obtain ⟨u20, q0⟩ := sign_is (c := c2) p0 rfl
        exact ⟨u20, by rw [q0]⟩
    obtain ⟨u30, rfl⟩ : ∃ u30, v3 = [ch c3 u30] := by
      match v3, s3 with
      | [w0], s =>
        simp only [Signs, and_true] at s
        have p0 := s
        obtain ⟨u30, q0⟩ := sign_is (c := c3) p0 rfl
        exact ⟨u30, by rw [q0]⟩
    have o0 : S < T0 := e5 (T0, _) (.head _)
    have r1 := List.pairwise_cons.mp e6
    have o1 : T0 < T1 := r1.1 T1 (.head _)
    have r2 := List.pairwise_cons.mp r1.2
    have o2 : T1 < T2 := r2.1 T2 (.head _)
    have r3 := List.pairwise_cons.mp r2.2
    have o3 : T2 < T3 := r3.1 T3 (.head _)
    refine h S h' tk c T0 T1 T2 T3 u00 u10 u20 u30 e3 e4 o0 o1 o2 o3 F' ?_
    intro p hp
    simp only [List.mem_cons] at hp
    rcases hp with rfl | rfl | rfl | rfl | rfl | hp
    · exact ⟨g3, e8 (T3, _) (.tail _ (.tail _ (.tail _ (.head _))))⟩
    · exact ⟨g2, e8 (T2, _) (.tail _ (.tail _ (.head _)))⟩
    · exact ⟨g1, e8 (T1, _) (.tail _ (.head _))⟩
    · exact ⟨g0, e8 (T0, _) (.head _)⟩
    · exact N' _ (.head _)
    · exact N' p (.tail _ hp)
end
theorem zip_type2 (a b : Value) : checkTypeCall "zip" ⟨[a, b], []⟩ = pure () := by kernel_rfl
theorem zip_new2 (a b : Value) : checkBuiltinCall "zip.__new__" ⟨[.type "zip", a, b], []⟩ = pure () := zip_newB [a, b] (by kernel_rfl)
theorem zip_init2 (o a b : Value) : argsOk "object.__init__" ⟨[o, a, b], []⟩ := by
  unfold argsOk; rw [signature?_of (id := "object.__init__") (n := ['_', '_', 't', 'i', 'n', 'i', '_', '_']) (o := ['t', 'c', 'e', 'j', 'b', 'o']) (by kernel_rfl) PySem.F.owner_object]; kernel_rfl
section
variable {prog : Program} {w : World} {A : Around} {E : Value → Shared → Prop} {s : Shared} {h₀ : Heap} {L : Addr} {m : Str → Option Value} {news : List (Addr × Obj)} {Q : Value → Shared → Prop} {c0 c1 c2 c3 : Nat}
/-- the zip of 2 texts of four signs' ends -/
abbrev Zip2 (c0 c1 c2 c3 : Nat) (h : Heap) (h₀ : Heap) (L : Addr) (news : List (Addr × Obj)) (z : Addr) : Prop :=
  ∃ TI TO, ∃ l : List (Addr × Str), l.map (·.2) = [⟨#[c0, c1, c2, c3]⟩, ⟨#[c1, c2, c3]⟩] ∧ Apart z TI TO l ∧ ZipAt h z TI TO l 0 .none (.bool false) ∧ Off h₀ L news z TO l
theorem kw_zip2 {y0 y1 : Str} {t0 t1 : Tok} (e0 : y0 = ⟨#[c0, c1, c2, c3]⟩) (e1 : y1 = ⟨#[c1, c2, c3]⟩) (F : Fr h₀ L s.heap m) (N : News h₀ L s.heap news)
    (h : ∀ h' z, Zip2 c0 c1 c2 c3 h' h₀ L news z → Fr h₀ L h' m → News h₀ L h' news → Q (.ref z) { s with heap := h' }) :
    wpAny (model prog w) A (call (.type "zip") [.str y0 t0, .str y1 t1]) Q E s :=
  kw_zip (xs := [(y0, t0), (y1, t1)]) (by simp) (zip_type2 _ _) (zip_new2 _ _) (fun o => zip_init2 o _ _) F N fun h' z TI TO l el D Z O F' N' => h h' z ⟨TI, TO, l, by rw [el]; simp [e0, e1], D, Z, O⟩ F' N'
theorem kw_list2 (hh : A.handled = none) {z : Addr} (F : Fr h₀ L s.heap m) (N : News h₀ L s.heap news) (Z : Zip2 c0 c1 c2 c3 s.heap h₀ L news z)
    (h : ∀ S h' tk c T0 T1 T2 u00 u01 u10 u11 u20 u21, L < S → (∀ p ∈ news, p.1 < S) → S < T0 → T0 < T1 → T1 < T2 → Fr h₀ L h' m → News h₀ L h' ((T2, (tup [ch c2 u20, ch c3 u21])) :: (T1, (tup [ch c1 u10, ch c2 u11])) :: (T0, (tup [ch c0 u00, ch c1 u01])) :: (S, listOf #[.ref T0, .ref T1, .ref T2] c) :: news) → Q (.ref S) { s with heap := h', toks := tk }) :
    wpAny (model prog w) A (call (.type "list") [.ref z]) Q E s := by
  obtain ⟨TI, TO, l, el, D, Z, O⟩ := Z
  obtain ⟨a0, a1, rfl⟩ : ∃ a0 a1, l = [(a0, ⟨#[c0, c1, c2, c3]⟩), (a1, ⟨#[c1, c2, c3]⟩)] := by
    match l, el with
    | [(a0, y0), (a1, y1)], el =>
      simp only [List.map_cons, List.map_nil, List.cons.injEq, and_true] at el
      obtain ⟨rfl, rfl⟩ := el
      exact ⟨_, _, rfl⟩
  refine kw_list (n := 3) (l1 := [(a0, ⟨#[c0, c1, c2, c3]⟩)]) (it := a1) (x := ⟨#[c1, c2, c3]⟩) (l2 := []) hh F N D Z O rfl (by simp) rfl (by simp) (by simp) (by decide) (by decide) fun S h' tk rows c e1 e2 e3 e4 e5 e6 F' N' e8 => ?_
  match rows, e1, e2, e4, e5, e6, e8, N' with
  | [(T0, v0), (T1, v1), (T2, v2)], _, e2, e4, e5, e6, e8, N' =>
    simp only [RowsAt, and_true] at e2
    obtain ⟨s0, g0, s1, g1, s2, g2⟩ := e2
    obtain ⟨u00, u01, rfl⟩ : ∃ u00 u01, v0 = [ch c0 u00, ch c1 u01] := by
      match v0, s0 with
      | [w0, w1], s =>
        simp only [Signs, and_true] at s
        obtain ⟨p0, p1⟩ := s
        obtain ⟨u00, q0⟩ := sign_is (c := c0) p0 rfl
        obtain ⟨u01, q1⟩ := sign_is (c := c1) p1 rfl
        exact ⟨u00, u01, by rw [q0, q1]⟩
    obtain ⟨u10, u11, rfl⟩ : ∃ u10 u11, v1 = [ch c1 u10, ch c2 u11] := by
      match v1, s1 with
      | [w0, w1], s =>
        simp only [Signs, and_true] at s
        obtain ⟨p0, p1⟩ := s
        obtain ⟨u10, q0⟩ := sign_is (c := c1) p0 rfl
        obtain ⟨u11, q1⟩ := sign_is (c := c2) p1 rfl
        exact ⟨u10, u11, by rw [q0, q1]⟩
    obtain ⟨u20, u21, rfl⟩ : ∃ u20 u21, v2 = [ch c2 u20, ch c3 u21] := by
      match v2, s2 with
      | [w0, w1], s =>
        simp only [Signs, and_true] at s
        obtain ⟨p0, p1⟩ := s
        obtain ⟨u20, q0⟩ := sign_is (c := c2) p0 rfl
        obtain ⟨u21, q1⟩ := sign_is (c := c3) p1 rfl
        exact ⟨u20, u21, by rw [q0, q1]⟩
    have o0 : S < T0 := e5 (T0, _) (.head _)
    have r1 := List.pairwise_cons.mp e6
    have o1 : T0 < T1 := r1.1 T1 (.head _)
    have r2 := List.pairwise_cons.mp r1.2
    have o2 : T1 < T2 := r2.1 T2 (.head _)
    refine h S h' tk c T0 T1 T2 u00 u01 u10 u11 u20 u21 e3 e4 o0 o1 o2 F' ?_
    intro p hp
    simp only [List.mem_cons] at hp
    rcases hp with rfl | rfl | rfl | rfl | hp
    · exact ⟨g2, e8 (T2, _) (.tail _ (.tail _ (.head _)))⟩
    · exact ⟨g1, e8 (T1, _) (.tail _ (.head _))⟩
    · exact ⟨g0, e8 (T0, _) (.head _)⟩
    · exact N' _ (.head _)
    · exact N' p (.tail _ hp)
end
theorem zip_type3 (a b c : Value) : checkTypeCall "zip" ⟨[a, b, c], []⟩ = pure () := by kernel_rfl
theorem zip_new3 (a b c : Value) : checkBuiltinCall "zip.__new__" ⟨[.type "zip", a, b, c], []⟩ = pure () := zip_newB [a, b, c] (by kernel_rfl)
theorem zip_init3 (o a b c : Value) : argsOk "object.__init__" ⟨[o, a, b, c], []⟩ := by
  unfold argsOk; rw [signature?_of (id := "object.__init__") (n := ['_', '_', 't', 'i', 'n', 'i', '_', '_']) (o := ['t', 'c', 'e', 'j', 'b', 'o']) (by kernel_rfl) PySem.F.owner_object]; kernel_rfl
section
variable {prog : Program} {w : World} {A : Around} {E : Value → Shared → Prop} {s : Shared} {h₀ : Heap} {L : Addr} {m : Str → Option Value} {news : List (Addr × Obj)} {Q : Value → Shared → Prop} {c0 c1 c2 c3 : Nat}
/-- the zip of 3 texts of four signs' ends -/
abbrev Zip3 (c0 c1 c2 c3 : Nat) (h : Heap) (h₀ : Heap) (L : Addr) (news : List (Addr × Obj)) (z : Addr) : Prop :=
  ∃ TI TO, ∃ l : List (Addr × Str), l.map (·.2) = [⟨#[c0, c1, c2, c3]⟩, ⟨#[c1, c2, c3]⟩, ⟨#[c2, c3]⟩] ∧ Apart z TI TO l ∧ ZipAt h z TI TO l 0 .none (.bool false) ∧ Off h₀ L news z TO l
theorem kw_zip3 {y0 y1 y2 : Str} {t0 t1 t2 : Tok} (e0 : y0 = ⟨#[c0, c1, c2, c3]⟩) (e1 : y1 = ⟨#[c1, c2, c3]⟩) (e2 : y2 = ⟨#[c2, c3]⟩) (F : Fr h₀ L s.heap m) (N : News h₀ L s.heap news)
    (h : ∀ h' z, Zip3 c0 c1 c2 c3 h' h₀ L news z → Fr h₀ L h' m → News h₀ L h' news → Q (.ref z) { s with heap := h' }) :
    wpAny (model prog w) A (call (.type "zip") [.str y0 t0, .str y1 t1, .str y2 t2]) Q E s :=
  kw_zip (xs := [(y0, t0), (y1, t1), (y2, t2)]) (by simp) (zip_type3 _ _ _) (zip_new3 _ _ _) (fun o => zip_init3 o _ _ _) F N fun h' z TI TO l el D Z O F' N' => h h' z ⟨TI, TO, l, by rw [el]; simp [e0, e1, e2], D, Z, O⟩ F' N'
theorem kw_list3 (hh : A.handled = none) {z : Addr} (F : Fr h₀ L s.heap m) (N : News h₀ L s.heap news) (Z : Zip3 c0 c1 c2 c3 s.heap h₀ L news z)
    (h : ∀ S h' tk c T0 T1 u00 u01 u02 u10 u11 u12, L < S → (∀ p ∈ news, p.1 < S) → S < T0 → T0 < T1 → Fr h₀ L h' m → News h₀ L h' ((T1, (tup [ch c1 u10, ch c2 u11, ch c3 u12])) :: (T0, (tup [ch c0 u00, ch c1 u01, ch c2 u02])) :: (S, listOf #[.ref T0, .ref T1] c) :: news) → Q (.ref S) { s with heap := h', toks := tk }) :
    wpAny (model prog w) A (call (.type "list") [.ref z]) Q E s := by
  obtain ⟨TI, TO, l, el, D, Z, O⟩ := Z
  obtain ⟨a0, a1, a2, rfl⟩ : ∃ a0 a1 a2, l = [(a0, ⟨#[c0, c1, c2, c3]⟩), (a1, ⟨#[c1, c2, c3]⟩), (a2, ⟨#[c2, c3]⟩)] := by
    match l, el with
    | [(a0, y0), (a1, y1), (a2, y2)], el =>
      simp only [List.map_cons, List.map_nil, List.cons.injEq, and_true] at el
      obtain ⟨rfl, rfl, rfl⟩ := el
      exact ⟨_, _, _, rfl⟩
  refine kw_list (n := 2) (l1 := [(a0, ⟨#[c0, c1, c2, c3]⟩), (a1, ⟨#[c1, c2, c3]⟩)]) (it := a2) (x := ⟨#[c2, c3]⟩) (l2 := []) hh F N D Z O rfl (by simp) rfl (by simp) (by simp) (by decide) (by decide) fun S h' tk rows c e1 e2 e3 e4 e5 e6 F' N' e8 => ?_
  match rows, e1, e2, e4, e5, e6, e8, N' with
  | [(T0, v0), (T1, v1)], _, e2, e4, e5, e6, e8, N' =>
    simp only [RowsAt, and_true] at e2
    obtain ⟨s0, g0, s1, g1⟩ := e2
    obtain ⟨u00, u01, u02, rfl⟩ : ∃ u00 u01 u02, v0 = [ch c0 u00, ch c1 u01, ch c2 u02] := by
      match v0, s0 with
      | [w0, w1, w2], s =>
        simp only [Signs, and_true] at s
        obtain ⟨p0, p1, p2⟩ := s
        obtain ⟨u00, q0⟩ := sign_is (c := c0) p0 rfl
        obtain ⟨u01, q1⟩ := sign_is (c := c1) p1 rfl
        obtain ⟨u02, q2⟩ := sign_is (c := c2) p2 rfl
        exact ⟨u00, u01, u02, by rw [q0, q1, q2]⟩
    obtain ⟨u10, u11, u12, rfl⟩ : ∃ u10 u11 u12, v1 = [ch c1 u10, ch c2 u11, ch c3 u12] := by
      match v1, s1 with
      | [w0, w1, w2], s =>
        simp only [Signs, and_true] at s
        obtain ⟨p0, p1, p2⟩ := s
        obtain ⟨u10, q0⟩ := sign_is (c := c1) p0 rfl
        obtain ⟨u11, q1⟩ := sign_is (c := c2) p1 rfl
        obtain ⟨u12, q2⟩ := sign_is (c := c3) p2 rfl
        exact ⟨u10, u11, u12, by rw [q0, q1, q2]⟩
    have o0 : S < T0 := e5 (T0, _) (.head _)
    have r1 := List.pairwise_cons.mp e6
    have o1 : T0 < T1 := r1.1 T1 (.head _)
    refine h S h' tk c T0 T1 u00 u01 u02 u10 u11 u12 e3 e4 o0 o1 F' ?_
    intro p hp
    simp only [List.mem_cons] at hp
    rcases hp with rfl | rfl | rfl | hp
    · exact ⟨g1, e8 (T1, _) (.tail _ (.head _))⟩
    · exact ⟨g0, e8 (T0, _) (.head _)⟩
    · exact N' _ (.head _)
    · exact N' p (.tail _ hp)
end
theorem zip_type4 (a b c d : Value) : checkTypeCall "zip" ⟨[a, b, c, d], []⟩ = pure () := by kernel_rfl
theorem zip_new4 (a b c d : Value) : checkBuiltinCall "zip.__new__" ⟨[.type "zip", a, b, c, d], []⟩ = pure () := zip_newB [a, b, c, d] (by kernel_rfl)
theorem zip_init4 (o a b c d : Value) : argsOk "object.__init__" ⟨[o, a, b, c, d], []⟩ := by
  unfold argsOk; rw [signature?_of (id := "object.__init__") (n := ['_', '_', 't', 'i', 'n', 'i', '_', '_']) (o := ['t', 'c', 'e', 'j', 'b', 'o']) (by kernel_rfl) PySem.F.owner_object]; kernel_rfl
section
variable {prog : Program} {w : World} {A : Around} {E : Value → Shared → Prop} {s : Shared} {h₀ : Heap} {L : Addr} {m : Str → Option Value} {news : List (Addr × Obj)} {Q : Value → Shared → Prop} {c0 c1 c2 c3 : Nat}
/-- the zip of 4 texts of four signs' ends -/
abbrev Zip4 (c0 c1 c2 c3 : Nat) (h : Heap) (h₀ : Heap) (L : Addr) (news : List (Addr × Obj)) (z : Addr) : Prop :=
  ∃ TI TO, ∃ l : List (Addr × Str), l.map (·.2) = [⟨#[c0, c1, c2, c3]⟩, ⟨#[c1, c2, c3]⟩, ⟨#[c2, c3]⟩, ⟨#[c3]⟩] ∧ Apart z TI TO l ∧ ZipAt h z TI TO l 0 .none (.bool false) ∧ Off h₀ L news z TO l
theorem kw_zip4 {y0 y1 y2 y3 : Str} {t0 t1 t2 t3 : Tok} (e0 : y0 = ⟨#[c0, c1, c2, c3]⟩) (e1 : y1 = ⟨#[c1, c2, c3]⟩) (e2 : y2 = ⟨#[c2, c3]⟩) (e3 : y3 = ⟨#[c3]⟩) (F : Fr h₀ L s.heap m) (N : News h₀ L s.heap news)
    (h : ∀ h' z, Zip4 c0 c1 c2 c3 h' h₀ L news z → Fr h₀ L h' m → News h₀ L h' news → Q (.ref z) { s with heap := h' }) :
    wpAny (model prog w) A (call (.type "zip") [.str y0 t0, .str y1 t1, .str y2 t2, .str y3 t3]) Q E s :=
  kw_zip (xs := [(y0, t0), (y1, t1), (y2, t2), (y3, t3)]) (by simp) (zip_type4 _ _ _ _) (zip_new4 _ _ _ _) (fun o => zip_init4 o _ _ _ _) F N fun h' z TI TO l el D Z O F' N' => h h' z ⟨TI, TO, l, by rw [el]; simp [e0, e1, e2, e3], D, Z, O⟩ F' N'
theorem kw_list4 (hh : A.handled = none) {z : Addr} (F : Fr h₀ L s.heap m) (N : News h₀ L s.heap news) (Z : Zip4 c0 c1 c2 c3 s.heap h₀ L news z)
    (h : ∀ S h' tk c T0 u00 u01 u02 u03, L < S → (∀ p ∈ news, p.1 < S) → S < T0 → Fr h₀ L h' m → News h₀ L h' ((T0, (tup [ch c0 u00, ch c1 u01, ch c2 u02, ch c3 u03])) :: (S, listOf #[.ref T0] c) :: news) → Q (.ref S) { s with heap := h', toks := tk }) :
    wpAny (model prog w) A (call (.type "list") [.ref z]) Q E s := by
  obtain ⟨TI, TO, l, el, D, Z, O⟩ := Z
  obtain ⟨a0, a1, a2, a3, rfl⟩ : ∃ a0 a1 a2 a3, l = [(a0, ⟨#[c0, c1, c2, c3]⟩), (a1, ⟨#[c1, c2, c3]⟩), (a2, ⟨#[c2, c3]⟩), (a3, ⟨#[c3]⟩)] := by
    match l, el with
    | [(a0, y0), (a1, y1), (a2, y2), (a3, y3)], el =>
      simp only [List.map_cons, List.map_nil, List.cons.injEq, and_true] at el
      obtain ⟨rfl, rfl, rfl, rfl⟩ := el
      exact ⟨_, _, _, _, rfl⟩
  refine kw_list (n := 1) (l1 := [(a0, ⟨#[c0, c1, c2, c3]⟩), (a1, ⟨#[c1, c2, c3]⟩), (a2, ⟨#[c2, c3]⟩)]) (it := a3) (x := ⟨#[c3]⟩) (l2 := []) hh F N D Z O rfl (by simp) rfl (by simp) (by simp) (by decide) (by decide) fun S h' tk rows c e1 e2 e3 e4 e5 e6 F' N' e8 => ?_
  match rows, e1, e2, e4, e5, e6, e8, N' with
  | [(T0, v0)], _, e2, e4, e5, e6, e8, N' =>
    simp only [RowsAt, and_true] at e2
    obtain ⟨s0, g0⟩ := e2
    obtain ⟨u00, u01, u02, u03, rfl⟩ : ∃ u00 u01 u02 u03, v0 = [ch c0 u00, ch c1 u01, ch c2 u02, ch c3 u03] := by
      match v0, s0 with
      | [w0, w1, w2, w3], s =>
        simp only [Signs, and_true] at s
        obtain ⟨p0, p1, p2, p3⟩ := s
        obtain ⟨u00, q0⟩ := sign_is (c := c0) p0 rfl
        obtain ⟨u01, q1⟩ := sign_is (c := c1) p1 rfl
        obtain ⟨u02, q2⟩ := sign_is (c := c2) p2 rfl
        obtain ⟨u03, q3⟩ := sign_is (c := c3) p3 rfl
        exact ⟨u00, u01, u02, u03, by rw [q0, q1, q2, q3]⟩
    have o0 : S < T0 := e5 (T0, _) (.head _)
    refine h S h' tk c T0 u00 u01 u02 u03 e3 e4 o0 F' ?_
    intro p hp
    simp only [List.mem_cons] at hp
    rcases hp with rfl | rfl | hp
    · exact ⟨g0, e8 (T0, _) (.head _)⟩
    · exact N' _ (.head _)
    · exact N' p (.tail _ hp)
end
end Mine
end
/-! SL -/
section
open PySem PySem.W PySem.Calls PyProof.Rows
namespace Mine
theorem sl_from {x : Str} {i : Int} (h0 : 0 ≤ i) (h2 : i ≤ x.length) : Txt.slice x (some i) none = ⟨(x.cps.toList.drop i.toNat).toArray⟩ := by
  rw [slice_from_eq h0 h2 rfl, List.take_of_length_le]
  rw [List.length_drop, Array.length_toList]
  unfold Str.length at *
  omega
theorem sl_both {x : Str} {i j : Int} (h : 0 ≤ i ∧ i ≤ j ∧ j ≤ x.length) : Txt.slice x (some i) (some j) = ⟨((x.cps.toList.drop i.toNat).take (j - i).toNat).toArray⟩ :=
  beq_iff_eq.mp (slice_closes (by rw [Array.length_toList]; exact h))
theorem sl_to {x : Str} {j : Int} (h : 0 ≤ j ∧ j ≤ x.length) : Txt.slice x none (some j) = ⟨(x.cps.toList.take j.toNat).toArray⟩ := by
  have := beq_iff_eq.mp (slice_closes_to (x := x) (j := j) (by rw [Array.length_toList]; exact h))
  rw [this]
  simp
section
variable {a b c d : Nat} {i : Int}
theorem sl0 (h : i = 0) : Txt.slice ⟨#[a, b, c, d]⟩ (some i) none = ⟨#[a, b, c, d]⟩ := by subst h; exact sl_from (by decide) (by show (0 : Int) ≤ 4; decide)
theorem sl1 (h : i = 1) : Txt.slice ⟨#[a, b, c, d]⟩ (some i) none = ⟨#[b, c, d]⟩ := by subst h; exact sl_from (by decide) (by show (1 : Int) ≤ 4; decide)
theorem sl2 (h : i = 2) : Txt.slice ⟨#[a, b, c, d]⟩ (some i) none = ⟨#[c, d]⟩ := by subst h; exact sl_from (by decide) (by show (2 : Int) ≤ 4; decide)
theorem sl3 (h : i = 3) : Txt.slice ⟨#[a, b, c, d]⟩ (some i) none = ⟨#[d]⟩ := by subst h; exact sl_from (by decide) (by show (3 : Int) ≤ 4; decide)
end
end Mine
end
/-! N2 -/
section
open PySem PySem.W PySem.Calls PyProof.Rows
set_option Elab.async false
set_option maxRecDepth 100000
namespace Mine
section
variable {M : Model} {A : Around} {E : Value → Shared → Prop} {s : Shared} {env : Env} {pos p : Pos} {T : String} {first : List Value} {Q : Value → Shared → Prop} {e : Expr}
/-- f(*xs) where f is a built-in type -/
theorem callWith_ST (h : wpAny M A (eval e env) (fun v s₁ => StarOf M A E v (fun vs s₂ => wpAny M A (call (.type T) (first ++ vs)) Q E s₂) s₁) E s)
    (he : starEach [.Starred e p] env = [(true, eval e env)] := by rfl) :
    wpAny M A (callWith pos (.type T) first (backTo pos (starEach [.Starred e p] env)) []) Q E s := by
  rw [he]
  refine ks_call (P := fun _ => True) rfl (fun h _ => ⟨.machine, .inr (.inl rfl), .now⟩) (ks_lone (wpAny_mono h (fun v s₁ h₁ => ?_) fun _ _ x => x))
  unfold StarOf at h₁ ⊢
  exact wpAny_mono h₁ (fun b s₂ h₂ => ⟨h₂.1, wpAny_mono h₂.2 (fun vs s₃ h₃ => ⟨trivial, h₃⟩) fun _ _ x => x⟩) fun _ _ x => x
end
local macro_rules | `(tactic| k_room) => `(tactic| ((try simp only [depth_under_make, depth_under_kw, depth_in1, depth_deeper, depth_caller] at *); (try dsimp only [ktrTop] at *); omega))
local macro_rules | `(tactic| k_enter) => `(tactic| (first
  | (refine' code_defW ?k1 ?k2 ?k3 ?k5 ?kA ?kF ?kK ?k6 ?k7 ?k8 ?k9 ?kB ?_ ?c2 ?c3 ?c4 ?c5; (case kA => exact rfl); (case kF => exact rfl); (case kK => first | assumption | exact rfl); (case k1 => k_asm); (case k2 => k_asm); (case k3 => k_asm); (case k5 => k_asm); (case k6 => k_is); (case k7 => k_is); (case k8 => k_room); (case k9 => first | exact BindsTo.of_eq rfl | exact binds_K (by k_in) rfl (by k_is) rfl rfl rfl | fail "k_enter: no rule for these arguments"); (case c5 => decide); (case kB => exact locs rfl); (case c2 => exact rfl); (case c3 => exact rfl); (case c4 => exact rfl); k_whole; intro L' h' F' N' B' X' T'; (try dsimp only); (try k_lift B'); (try k_fold))
  | (refine' code_defCW ?k1 ?k2 ?k3 ?k5 ?kA ?kF ?kK ?k6 ?k7 ?k8 ?k9 ?kB ?kD ?_ ?c2 ?c3 ?c4; (case kA => exact rfl); (case kF => exact rfl); (case kK => first | assumption | exact rfl); (case k1 => k_asm); (case k2 => k_asm); (case k3 => k_asm); (case k5 => k_asm); (case k6 => k_is); (case k7 => k_is); (case k8 => k_room); (case k9 => first | exact BindsTo.of_eq rfl | exact binds_K (by k_in) rfl (by k_is) rfl rfl rfl | fail "k_enter: no rule for these arguments"); (case kB => exact rfl); (case kD => decide +kernel); (case c2 => exact rfl); (case c3 => exact rfl); (case c4 => exact rfl); k_whole; intro L' h' tk' cells' F' N' Y' B' X' T'; k_cells Y'; (try dsimp only); (try k_lift B'); (try k_fold))
  | (refine' code_restW ?k1 ?k2 ?k3 ?k5 ?kA ?kF ?kK ?k6 ?k7 ?k8 ?kV ?kP ?kG ?kB ?_ ?c2 ?c3 ?c4 ?c5; (case kA => exact rfl); (case kF => exact rfl); (case kK => first | assumption | exact rfl); (case k1 => k_asm); (case k2 => k_asm); (case k3 => k_asm); (case k5 => k_asm); (case k6 => k_is); (case k7 => k_is); (case k8 => k_room); (case kV => kl_lit); (case kP => exact rfl); (case kG => exact fun _ => rfl); (case kB => exact fun _ => locs rfl); (case c5 => decide); (case c2 => exact rfl); (case c3 => exact rfl); (case c4 => exact rfl); k_whole; intro D' L' h' F' N' B' X' T'; (try dsimp only); (try k_lift B'); (try k_fold))))
local macro_rules | `(tactic| walk_at "LeaveW") => `(tactic| (k_dflt (refine' leaveW_ ?k1 ?k2 ?_; (case k1 => k_asm); (case k2 => k_asm); k_whole); intro kS kN; (try dsimp only)))
local macro_rules | `(tactic| walk_at "callWith type:zip") => `(tactic| (k_here; (with_reducible show wpAny _ _ (callWith _ (Value.type _) _ (backTo _ (starEach [Expr.Starred _ _] _)) []) _ _ _); k_dflt (refine' callWith_ST ?_; k_whole)))
local macro_rules | `(tactic| walk_at "CompSrc") => `(tactic| (k_here; k_dflt (refine LCg.CompSrc.range (by rfl) (by k_asm) (by k_asm) (by assumption) (by first | decide | rfl) (by first | rfl | decide) (by first | size_fits | exact Nat.le_of_ble_eq_true rfl) ?_; intro g'; lcg_lit)))
local macro_rules | `(tactic| walk_at "call type:zip") => `(tactic| (k_here; k_dflt (refine' kw_zip1 ?e0 ?kF ?kN (fun h9 z9 Z9 F9 N9 => ?_); (case e0 => exact sl0 (by rfl)); (case kF => k_asm); (case kN => k_asm); k_whole; (try dsimp only [List.nil_append]))))
local macro_rules | `(tactic| walk_at "call type:list") => `(tactic| (k_here; k_dflt (refine' kw_list1 ?kh ?kF ?kN ?kZ (fun S9 h9 tk9 c9 T0 T1 T2 T3 u00 u10 u20 u30 oL9 oN9 o0 o1 o2 o3 F9 N9 => ?_); (case kZ => assumption); (case kh => exact rfl); (case kF => k_asm); (case kN => k_asm); k_whole)))
/-- find_ngrams(short, 1) -/
abbrev giveN1 (c0 c1 c2 c3 : Nat) (s : Shared) (Q : Value → Shared → Prop) : Prop :=
  ∀ (S : Addr) (h' : Heap) (tk' c : Nat) (T0 T1 T2 T3 : Addr) (u00 u10 u20 u30 : Tok), s.heap.StaysIn h' → s.heap.objs.size ≤ S → S < T0 → T0 < T1 → T1 < T2 → T2 < T3 → h'.get? S = some (listOf #[.ref T0, .ref T1, .ref T2, .ref T3] c) → h'.get? T0 = some (tup [ch c0 u00]) → h'.get? T1 = some (tup [ch c1 u10]) → h'.get? T2 = some (tup [ch c2 u20]) → h'.get? T3 = some (tup [ch c3 u30]) → Q (.ref S) { s with heap := h', toks := tk' }
set_option maxHeartbeats 8000000 in
theorem ng1 (w : World) (loose : List Str) (mean : ExcName → Option Value) (mg mb : Str → Option Value) (c0 c1 c2 c3 : Nat) (t1 t2 : Tok) :
   Tells 10 w loose mean mg mb 26 [.str ⟨#[c0, c1, c2, c3]⟩ t1, .int 1 t2] (giveN1 c0 c1 c2 c3) := by
  dsimp only [Tells, giveN1]
  k_fill
  intros
  rename_i hret
  k_steps
  all_goals (rename_i S9 h9 tk9 c9 T0 T1 T2 T3 u00 u10 u20 u30 oL9 oN9 o0 o1 o2 o3 F9 N9 kS kN; exact hret S9 h9 tk9 c9 T0 T1 T2 T3 u00 u10 u20 u30 kS (Nat.le_trans F9.above (Nat.le_of_lt oL9)) o0 o1 o2 o3 (N9 (S9, _) (by repeat (first | exact List.Mem.head _ | apply List.Mem.tail))).1 (N9 (T0, (tup [ch c0 u00])) (by repeat (first | exact List.Mem.head _ | apply List.Mem.tail))).1 (N9 (T1, (tup [ch c1 u10])) (by repeat (first | exact List.Mem.head _ | apply List.Mem.tail))).1 (N9 (T2, (tup [ch c2 u20])) (by repeat (first | exact List.Mem.head _ | apply List.Mem.tail))).1 (N9 (T3, (tup [ch c3 u30])) (by repeat (first | exact List.Mem.head _ | apply List.Mem.tail))).1)
local macro_rules | `(tactic| walk_at "call type:zip") => `(tactic| (k_here; k_dflt (refine' kw_zip2 ?e0 ?e1 ?kF ?kN (fun h9 z9 Z9 F9 N9 => ?_); (case e0 => exact sl0 (by rfl)); (case e1 => exact sl1 (by rfl)); (case kF => k_asm); (case kN => k_asm); k_whole; (try dsimp only [List.nil_append]))))
local macro_rules | `(tactic| walk_at "call type:list") => `(tactic| (k_here; k_dflt (refine' kw_list2 ?kh ?kF ?kN ?kZ (fun S9 h9 tk9 c9 T0 T1 T2 u00 u01 u10 u11 u20 u21 oL9 oN9 o0 o1 o2 F9 N9 => ?_); (case kZ => assumption); (case kh => exact rfl); (case kF => k_asm); (case kN => k_asm); k_whole)))
/-- find_ngrams(short, 2) -/
abbrev giveN2 (c0 c1 c2 c3 : Nat) (s : Shared) (Q : Value → Shared → Prop) : Prop :=
  ∀ (S : Addr) (h' : Heap) (tk' c : Nat) (T0 T1 T2 : Addr) (u00 u01 u10 u11 u20 u21 : Tok), s.heap.StaysIn h' → s.heap.objs.size ≤ S → S < T0 → T0 < T1 → T1 < T2 → h'.get? S = some (listOf #[.ref T0, .ref T1, .ref T2] c) → h'.get? T0 = some (tup [ch c0 u00, ch c1 u01]) → h'.get? T1 = some (tup [ch c1 u10, ch c2 u11]) → h'.get? T2 = some (tup [ch c2 u20, ch c3 u21]) → Q (.ref S) { s with heap := h', toks := tk' }
set_option maxHeartbeats 8000000 in
theorem ng2 (w : World) (loose : List Str) (mean : ExcName → Option Value) (mg mb : Str → Option Value) (c0 c1 c2 c3 : Nat) (t1 t2 : Tok) :
   Tells 10 w loose mean mg mb 26 [.str ⟨#[c0, c1, c2, c3]⟩ t1, .int 2 t2] (giveN2 c0 c1 c2 c3) := by
  dsimp only [Tells, giveN2]
  k_fill
  intros
  rename_i hret
  k_steps
  all_goals (rename_i S9 h9 tk9 c9 T0 T1 T2 u00 u01 u10 u11 u20 u21 oL9 oN9 o0 o1 o2 F9 N9 kS kN; exact hret S9 h9 tk9 c9 T0 T1 T2 u00 u01 u10 u11 u20 u21 kS (Nat.le_trans F9.above (Nat.le_of_lt oL9)) o0 o1 o2 (N9 (S9, _) (by repeat (first | exact List.Mem.head _ | apply List.Mem.tail))).1 (N9 (T0, (tup [ch c0 u00, ch c1 u01])) (by repeat (first | exact List.Mem.head _ | apply List.Mem.tail))).1 (N9 (T1, (tup [ch c1 u10, ch c2 u11])) (by repeat (first | exact List.Mem.head _ | apply List.Mem.tail))).1 (N9 (T2, (tup [ch c2 u20, ch c3 u21])) (by repeat (first | exact List.Mem.head _ | apply List.Mem.tail))).1)
local macro_rules | `(tactic| walk_at "call type:zip") => `(tactic| (k_here; k_dflt (refine' kw_zip3 ?e0 ?e1 ?e2 ?kF ?kN (fun h9 z9 Z9 F9 N9 => ?_); (case e0 => exact sl0 (by rfl)); (case e1 => exact sl1 (by rfl)); (case e2 => exact sl2 (by rfl)); (case kF => k_asm); (case kN => k_asm); k_whole; (try dsimp only [List.nil_append]))))
local macro_rules | `(tactic| walk_at "call type:list") => `(tactic| (k_here; k_dflt (refine' kw_list3 ?kh ?kF ?kN ?kZ (fun S9 h9 tk9 c9 T0 T1 u00 u01 u02 u10 u11 u12 oL9 oN9 o0 o1 F9 N9 => ?_); (case kZ => assumption); (case kh => exact rfl); (case kF => k_asm); (case kN => k_asm); k_whole)))
/-- find_ngrams(short, 3) -/
abbrev giveN3 (c0 c1 c2 c3 : Nat) (s : Shared) (Q : Value → Shared → Prop) : Prop :=
  ∀ (S : Addr) (h' : Heap) (tk' c : Nat) (T0 T1 : Addr) (u00 u01 u02 u10 u11 u12 : Tok), s.heap.StaysIn h' → s.heap.objs.size ≤ S → S < T0 → T0 < T1 → h'.get? S = some (listOf #[.ref T0, .ref T1] c) → h'.get? T0 = some (tup [ch c0 u00, ch c1 u01, ch c2 u02]) → h'.get? T1 = some (tup [ch c1 u10, ch c2 u11, ch c3 u12]) → Q (.ref S) { s with heap := h', toks := tk' }
set_option maxHeartbeats 8000000 in
theorem ng3 (w : World) (loose : List Str) (mean : ExcName → Option Value) (mg mb : Str → Option Value) (c0 c1 c2 c3 : Nat) (t1 t2 : Tok) :
   Tells 10 w loose mean mg mb 26 [.str ⟨#[c0, c1, c2, c3]⟩ t1, .int 3 t2] (giveN3 c0 c1 c2 c3) := by
  dsimp only [Tells, giveN3]
  k_fill
  intros
  rename_i hret
  k_steps
  all_goals (rename_i S9 h9 tk9 c9 T0 T1 u00 u01 u02 u10 u11 u12 oL9 oN9 o0 o1 F9 N9 kS kN; exact hret S9 h9 tk9 c9 T0 T1 u00 u01 u02 u10 u11 u12 kS (Nat.le_trans F9.above (Nat.le_of_lt oL9)) o0 o1 (N9 (S9, _) (by repeat (first | exact List.Mem.head _ | apply List.Mem.tail))).1 (N9 (T0, (tup [ch c0 u00, ch c1 u01, ch c2 u02])) (by repeat (first | exact List.Mem.head _ | apply List.Mem.tail))).1 (N9 (T1, (tup [ch c1 u10, ch c2 u11, ch c3 u12])) (by repeat (first | exact List.Mem.head _ | apply List.Mem.tail))).1)
local macro_rules | `(tactic| walk_at "call type:zip") => `(tactic| (k_here; k_dflt (refine' kw_zip4 ?e0 ?e1 ?e2 ?e3 ?kF ?kN (fun h9 z9 Z9 F9 N9 => ?_); (case e0 => exact sl0 (by rfl)); (case e1 => exact sl1 (by rfl)); (case e2 => exact sl2 (by rfl)); (case e3 => exact sl3 (by rfl)); (case kF => k_asm); (case kN => k_asm); k_whole; (try dsimp only [List.nil_append]))))
local macro_rules | `(tactic| walk_at "call type:list") => `(tactic| (k_here; k_dflt (refine' kw_list4 ?kh ?kF ?kN ?kZ (fun S9 h9 tk9 c9 T0 u00 u01 u02 u03 oL9 oN9 o0 F9 N9 => ?_); (case kZ => assumption); (case kh => exact rfl); (case kF => k_asm); (case kN => k_asm); k_whole)))
/-- find_ngrams(short, 4) -/
abbrev giveN4 (c0 c1 c2 c3 : Nat) (s : Shared) (Q : Value → Shared → Prop) : Prop :=
  ∀ (S : Addr) (h' : Heap) (tk' c : Nat) (T0 : Addr) (u00 u01 u02 u03 : Tok), s.heap.StaysIn h' → s.heap.objs.size ≤ S → S < T0 → h'.get? S = some (listOf #[.ref T0] c) → h'.get? T0 = some (tup [ch c0 u00, ch c1 u01, ch c2 u02, ch c3 u03]) → Q (.ref S) { s with heap := h', toks := tk' }
set_option maxHeartbeats 8000000 in
theorem ng4 (w : World) (loose : List Str) (mean : ExcName → Option Value) (mg mb : Str → Option Value) (c0 c1 c2 c3 : Nat) (t1 t2 : Tok) :
   Tells 10 w loose mean mg mb 26 [.str ⟨#[c0, c1, c2, c3]⟩ t1, .int 4 t2] (giveN4 c0 c1 c2 c3) := by
  dsimp only [Tells, giveN4]
  k_fill
  intros
  rename_i hret
  k_steps
  all_goals (rename_i S9 h9 tk9 c9 T0 u00 u01 u02 u03 oL9 oN9 o0 F9 N9 kS kN; exact hret S9 h9 tk9 c9 T0 u00 u01 u02 u03 kS (Nat.le_trans F9.above (Nat.le_of_lt oL9)) o0 (N9 (S9, _) (by repeat (first | exact List.Mem.head _ | apply List.Mem.tail))).1 (N9 (T0, (tup [ch c0 u00, ch c1 u01, ch c2 u02, ch c3 u03])) (by repeat (first | exact List.Mem.head _ | apply List.Mem.tail))).1)
end Mine
end
/-! M1 -/
section
open PySem PySem.W PySem.W.X PyProof.Rows
set_option Elab.async false
set_option maxRecDepth 100000
namespace Mine
theorem mem_stays {h0 h : Heap} {news : List (Addr × Obj)} (D : Mem h0 h [] news) : h0.StaysIn h := fun b o e => D.keep b o e (by simp [away])
section
local macro_rules | `(tactic| x_close) => `(tactic| ((rename (∀ (_ : Heap) (_ : Nat), Heap.StaysIn _ _ → _) => q'); exact q' _ _ (mem_stays (by assumption))))
set_option maxHeartbeats 8000000 in
theorem minWS (w : World) (h0 : Heap) (d : Drawn) (t : Nat) (os : OsState) (g : Array GenState) (KX : (Mine.hd.heap_39 w.params).In h0)
   (dp un : Nat) (gd : Option (List Code)) (cn : Str) (cs : Scope) (L a : Addr) (ccd : Value) (cl : List (Str × Addr)) (outer : List Env)
   (hd : dp + 5 < recursionLimit) (hu : un + 50 < cLine) (W : Str) (hW : 5 ≤ W.length) (hW2 : W.length ≤ 1000) (T : Addr)
   (c0 c1 c2 c3 t1 t2 : Nat) (h4 : (⟨#[c0,c1,c2,c3]⟩ : Str).length = 4)
   (hT : h0.get? T = some { cls := .type "tuple", data := .seq #[.str W t1, .str ⟨#[c0,c1,c2,c3]⟩ t2] })
   (Q : Value → Shared → Prop) (E : Value → Shared → Prop) 
   (hQ : ∀ h' tk, h0.StaysIn h' → Q (.str ⟨#[c0,c1,c2,c3]⟩ t2) ⟨h', g, d, tk, os⟩) :
   wpAny (model PySem.Challenge.rw_fq5032_01.row.prog w) (ktrTop dp un gd cn cs L a ccd cl outer) (call (.builtin "min") [.ref T] [("key", .builtin "len")]) Q E ⟨h0, g, d, t, os⟩ := by
  x_run
set_option maxHeartbeats 8000000 in
theorem minSW (w : World) (h0 : Heap) (d : Drawn) (t : Nat) (os : OsState) (g : Array GenState) (KX : (Mine.hd.heap_39 w.params).In h0)
   (dp un : Nat) (gd : Option (List Code)) (cn : Str) (cs : Scope) (L a : Addr) (ccd : Value) (cl : List (Str × Addr)) (outer : List Env)
   (hd : dp + 5 < recursionLimit) (hu : un + 50 < cLine) (W : Str) (hW : 5 ≤ W.length) (hW2 : W.length ≤ 1000) (T : Addr)
   (c0 c1 c2 c3 t1 t2 : Nat) (h4 : (⟨#[c0,c1,c2,c3]⟩ : Str).length = 4)
   (hT : h0.get? T = some { cls := .type "tuple", data := .seq #[.str ⟨#[c0,c1,c2,c3]⟩ t2, .str W t1] })
   (Q : Value → Shared → Prop) (E : Value → Shared → Prop) 
   (hQ : ∀ h' tk, h0.StaysIn h' → Q (.str ⟨#[c0,c1,c2,c3]⟩ t2) ⟨h', g, d, tk, os⟩) :
   wpAny (model PySem.Challenge.rw_fq5032_01.row.prog w) (ktrTop dp un gd cn cs L a ccd cl outer) (call (.builtin "min") [.ref T] [("key", .builtin "len")]) Q E ⟨h0, g, d, t, os⟩ := by
  x_run
end
end Mine
end
/-! J1 -/
section
open PySem PySem.W PySem.W.X PyProof.Rows
set_option Elab.async false
set_option maxRecDepth 100000
namespace Mine
section
local macro_rules | `(tactic| x_close) => `(tactic| (((rename (∀ (_ : Tok) (_ : Heap) (_ : Nat), Heap.StaysIn _ _ → _) => q'); with_unfolding_all exact q' _ _ _ (fun _ _ e => e))))
set_option maxHeartbeats 8000000 in
theorem join2 (w : World) (h0 : Heap) (d : Drawn) (t : Nat) (os : OsState) (g : Array GenState) (KX : (Mine.hd.heap_39 w.params).In h0)
   (dp un : Nat) (gd : Option (List Code)) (cn : Str) (cs : Scope) (L a : Addr) (ccd : Value) (cl : List (Str × Addr)) (outer : List Env)
   (hd : dp + 5 < recursionLimit) (hu : un + 50 < cLine) (T : Addr) (e t1 : Tok)
   (c0 c1 u0 u1 : Nat)
   (hT : h0.get? T = some { cls := .type "tuple", data := .seq #[.str ⟨#[c0]⟩ u0, .str ⟨#[c1]⟩ u1] })
   (Q : Value → Shared → Prop) (E : Value → Shared → Prop) 
   (hQ : ∀ t' h' tk, h0.StaysIn h' → Q (.str ⟨#[c0, c1]⟩ t') ⟨h', g, d, tk, os⟩) :
   wpAny (model PySem.Challenge.rw_fq5032_01.row.prog w) (ktrTop dp un gd cn cs L a ccd cl outer) (call (.builtin "str.join") [.str (Str.ofString "") e, .ref T]) Q E ⟨h0, g, d, t, os⟩ := by
  x_run
set_option maxHeartbeats 8000000 in
theorem join3 (w : World) (h0 : Heap) (d : Drawn) (t : Nat) (os : OsState) (g : Array GenState) (KX : (Mine.hd.heap_39 w.params).In h0)
   (dp un : Nat) (gd : Option (List Code)) (cn : Str) (cs : Scope) (L a : Addr) (ccd : Value) (cl : List (Str × Addr)) (outer : List Env)
   (hd : dp + 5 < recursionLimit) (hu : un + 50 < cLine) (T : Addr) (e t1 : Tok)
   (c0 c1 c2 u0 u1 u2 : Nat)
   (hT : h0.get? T = some { cls := .type "tuple", data := .seq #[.str ⟨#[c0]⟩ u0, .str ⟨#[c1]⟩ u1, .str ⟨#[c2]⟩ u2] })
   (Q : Value → Shared → Prop) (E : Value → Shared → Prop) 
   (hQ : ∀ t' h' tk, h0.StaysIn h' → Q (.str ⟨#[c0, c1, c2]⟩ t') ⟨h', g, d, tk, os⟩) :
   wpAny (model PySem.Challenge.rw_fq5032_01.row.prog w) (ktrTop dp un gd cn cs L a ccd cl outer) (call (.builtin "str.join") [.str (Str.ofString "") e, .ref T]) Q E ⟨h0, g, d, t, os⟩ := by
  x_run
set_option maxHeartbeats 8000000 in
theorem join4 (w : World) (h0 : Heap) (d : Drawn) (t : Nat) (os : OsState) (g : Array GenState) (KX : (Mine.hd.heap_39 w.params).In h0)
   (dp un : Nat) (gd : Option (List Code)) (cn : Str) (cs : Scope) (L a : Addr) (ccd : Value) (cl : List (Str × Addr)) (outer : List Env)
   (hd : dp + 5 < recursionLimit) (hu : un + 50 < cLine) (T : Addr) (e t1 : Tok)
   (c0 c1 c2 c3 u0 u1 u2 u3 : Nat)
   (hT : h0.get? T = some { cls := .type "tuple", data := .seq #[.str ⟨#[c0]⟩ u0, .str ⟨#[c1]⟩ u1, .str ⟨#[c2]⟩ u2, .str ⟨#[c3]⟩ u3] })
   (Q : Value → Shared → Prop) (E : Value → Shared → Prop) 
   (hQ : ∀ t' h' tk, h0.StaysIn h' → Q (.str ⟨#[c0, c1, c2, c3]⟩ t') ⟨h', g, d, tk, os⟩) :
   wpAny (model PySem.Challenge.rw_fq5032_01.row.prog w) (ktrTop dp un gd cn cs L a ccd cl outer) (call (.builtin "str.join") [.str (Str.ofString "") e, .ref T]) Q E ⟨h0, g, d, t, os⟩ := by
  x_run
end
end Mine
end
/-! E1 -/
section
open PySem PySem.W PySem.Calls PyProof.Rows
set_option Elab.async false
set_option maxRecDepth 100000
namespace Mine
section
variable {prog : Program} {w : World} {A : Around} {E : Value → Shared → Prop} {s : Shared} {env : Env} {h₀ : Heap} {x : Str} {px : Pos} {body orelse : List Stmt} {Q : Flow → Shared → Prop}
def ElseRest (prog : Program) (w : World) (A : Around) (E : Value → Shared → Prop) (h₀ : Heap) (env : Env) (x : Str) (body orelse : List Stmt) (Q : Flow → Shared → Prop) (s : Shared) (I : Addr) (lp : Addr × Obj) : List Value → (Str → Option Value) → List (Addr × Obj) → Prop
  | [], m, news => ∀ h tk, Fr h₀ env.locals h m → News h₀ env.locals h news → wpAny (model prog w) A (execs orelse env) Q E { s with heap := h, toks := tk }
  | v :: r, m, news => ∀ (it : Obj) h tk, it.cls = .type "tuple_iterator" → Fr h₀ env.locals h (fun y => if y = x then some v else m y) → News h₀ env.locals h ((I, it) :: news) →
      wpAny (model prog w) A (execs body env) (UnrPost h₀ env.locals { s with heap := h, toks := tk } I it (fun m' n' => lp ∈ n' ∧ ElseRest prog w A E h₀ env x body orelse Q s I lp r m' n') Q) E { s with heap := h, toks := tk }
theorem ElseRest.zero {I : Addr} {lp : Addr × Obj} {m : Str → Option Value} {news : List (Addr × Obj)} (h : ∀ h tk, Fr h₀ env.locals h m → News h₀ env.locals h news → wpAny (model prog w) A (execs orelse env) Q E { s with heap := h, toks := tk }) :
    ElseRest prog w A E h₀ env x body orelse Q s I lp [] m news := h
theorem ElseRest.succ {I : Addr} {lp : Addr × Obj} {v : Value} {r : List Value} {m : Str → Option Value} {news : List (Addr × Obj)}
    (h : ∀ (it : Obj) h tk, it.cls = .type "tuple_iterator" → Fr h₀ env.locals h (fun y => if y = x then some v else m y) → News h₀ env.locals h ((I, it) :: news) →
      wpAny (model prog w) A (execs body env) (UnrPost h₀ env.locals { s with heap := h, toks := tk } I it (fun m' n' => lp ∈ n' ∧ ElseRest prog w A E h₀ env x body orelse Q s I lp r m' n') Q) E { s with heap := h, toks := tk }) :
    ElseRest prog w A E h₀ env x body orelse Q s I lp (v :: r) m news := h
def ElseAt (prog : Program) (w : World) (A : Around) (env : Env) (x : Str) (px : Pos) (body orelse : List Stmt) (Q : Flow → Shared → Prop) (E : Value → Shared → Prop) (it : Value) (s₂ : Shared) : Prop :=
  codeAny (model prog w) A (.forLoop (.Name x px) it body orelse env) (fun r s' => match r with | .ok f => Q f s' | .error e => cameBackBy (model prog w) A env E e s') s₂
theorem For_else {iter : Expr} {pos : Pos} {m : Str → Option Value} (_F : Fr h₀ env.locals s.heap m)
    (h : wpAny (model prog w) A (eval iter env) (fun xv s₁ => wpAny (model prog w) A (pyIter xv) (fun it s₂ => ElseAt prog w A env x px body orelse Q E it s₂) E s₁) E s)
    (hs : ∀ x, foldedSetIterable iter env x = pure x := by intro _; rfl) :
    wpAny (model prog w) A (exec (.For (.Name x px) iter body orelse pos) env) Q E s := wpAny_For h hs
theorem forLoop_else (hh : A.handled = none) (hx : env.kindOf x = some .local) (hp : (env.scope.kind == .class || (env.scope.kind == .module && env.locals != env.globals)) = false) (hE : PassesOwn (model prog w) A env E)
    {I T : Addr} {h1 : Heap} {vs : List Value} {m : Str → Option Value} {news : List (Addr × Obj)} (F : Fr h₀ env.locals h1 m) (N : News h₀ env.locals h1 news) (hit : h1.IsTupleIter I T 0) (hm : (T, tup vs) ∈ news)
    (hI : h₀.get? I = none) (hL : I ≠ env.locals) (hn : ∀ p ∈ news, p.1 ≠ I) (rest : ElseRest prog w A E h₀ env x body orelse Q s I (T, tup vs) vs m news) :
    ElseAt prog w A env x px body orelse Q E (.ref I) { s with heap := h1 } := by
  unfold ElseAt
  refine codeAny_forLoop (fun k s' => ∃ h' tk m' news' i, s' = { s with heap := h', toks := tk } ∧ h'.IsTupleIter I T i ∧ Fr h₀ env.locals h' m' ∧ News h₀ env.locals h' news' ∧ (T, tup vs) ∈ news' ∧ (∀ p ∈ news', p.1 ≠ I) ∧
      ElseRest prog w A E h₀ env x body orelse Q s I (T, tup vs) (vs.drop i) m' news' ∧ i ≤ vs.length ∧ k = vs.length - i) ?_ vs.length ⟨h1, s.toks, m, news, 0, rfl, hit, F, N, hm, hn, rest, Nat.zero_le _, rfl⟩
  rintro k s' ⟨h', tk, m', news', i, rfl, hit', F', N', hm', hn', hJ, hi, rfl⟩
  have hT : h'.IsTuple T vs.toArray := ⟨_, (N' _ hm').1, rfl, 0, rfl⟩
  have old : ∀ b o, h₀.get? b = some o → b ≠ I := fun b o e q => by rw [q, hI] at e; cases e
  by_cases hlt : i < vs.length
  · refine wpAny_pyNext_tuple_item hit' hT (x := vs[i]) (by simp [hlt]) fun h₁ hit₁ hs₁ => ?_
    have F₁ : Fr h₀ env.locals h₁ m' := ⟨F'.ns.at' fun o e => (hs₁.2 _ hL.symm).trans e, fun b o e => (hs₁.2 b (old b o e)).trans (F'.keep b o e), F'.above⟩
    have N₁ : News h₀ env.locals h₁ news' := fun p hp => ⟨(hs₁.2 _ (hn' p hp)).trans (N' p hp).1, (N' p hp).2⟩
    refine wpAny_assign_Name (wpAny_storeName_local hx F₁.ns (fun h₂ hn₂ hs₂ => ?_) hp)
    have F₂ := F₁.set hn₂ hs₂
    obtain ⟨it, ho, hc, hd⟩ := hit₁
    have ho₂ : h₂.get? I = some it := (hs₂.2 I hL).trans ho
    have hdrop : vs.drop i = vs[i] :: vs.drop (i + 1) := List.drop_eq_getElem_cons hlt
    rw [hdrop] at hJ
    have N₂ : News h₀ env.locals h₂ ((I, it) :: news') := fun p hp => by
      rcases List.mem_cons.mp hp with rfl | hp
      · exact ⟨ho₂, hL, hI⟩
      · exact (N₁.set hs₂) p hp
    refine wpAny_mono (hJ it h₂ _ hc F₂ N₂) (fun f s₃ h₃ => ?_) hE
    have fin : UnrEnd h₀ env.locals { s with heap := h₂, toks := tk + 1 } I it (fun m' n' => (T, tup vs) ∈ n' ∧ ElseRest prog w A E h₀ env x body orelse Q s I (T, tup vs) (vs.drop (i + 1)) m' n') s₃ →
        ∃ k, k < vs.length - i ∧ ∃ h' tk m' news' i, s₃ = { s with heap := h', toks := tk } ∧ h'.IsTupleIter I T i ∧ Fr h₀ env.locals h' m' ∧ News h₀ env.locals h' news' ∧ (T, tup vs) ∈ news' ∧ (∀ p ∈ news', p.1 ≠ I) ∧
      ElseRest prog w A E h₀ env x body orelse Q s I (T, tup vs) (vs.drop i) m' news' ∧ i ≤ vs.length ∧ k = vs.length - i := by
      rintro ⟨g₃, tk₃, m₃, n₃, e₃, F₃, N₃, hn₃, hm₃, r₃⟩
      exact ⟨vs.length - (i + 1), by omega, g₃, tk₃, m₃, n₃, i + 1, e₃, ⟨it, (N₃ _ (.head _)).1, hc, hd⟩, F₃, fun p hp => N₃ p (.tail _ hp), hm₃, hn₃, r₃, hlt, rfl⟩
    cases f with
    | ret v => exact h₃
    | brk => exact h₃
    | next => exact fin h₃
    | cont => exact fin h₃
  · have hin : i = vs.length := by omega
    subst hin
    rw [List.drop_length] at hJ
    refine wpAny_pyNext_tuple_end hh hit' hT (by simp) fun h₁ he => ?_
    have F₁ : Fr h₀ env.locals h₁ m' := ⟨F'.ns.at' fun o e => he _ _ hL.symm e, fun b o e => he b o (old b o e) (F'.keep b o e), F'.above⟩
    have N₁ : News h₀ env.locals h₁ news' := fun p hp => ⟨he _ _ (hn' p hp) (N' p hp).1, (N' p hp).2⟩
    exact wpAny_mono (hJ h₁ tk F₁ N₁) (fun f s₃ h₃ => h₃) hE
theorem iter_else (hh : A.handled = none) (hx : env.kindOf x = some .local) (hp : (env.scope.kind == .class || (env.scope.kind == .module && env.locals != env.globals)) = false)
    {T : Addr} {vs : List Value} {m : Str → Option Value} {news : List (Addr × Obj)} (F : Fr h₀ env.locals s.heap m) (N : News h₀ env.locals s.heap news) (hm : (T, tup vs) ∈ news)
    (rest : ∀ I : Addr, (∀ p ∈ news, p.1 < I) → ElseRest prog w A E h₀ env x body orelse Q s I (T, tup vs) vs m news) (hE : PassesOwn (model prog w) A env E := by passes_own) :
    wpAny (model prog w) A (pyIter (.ref T)) (fun it s₂ => ElseAt prog w A env x px body orelse Q E it s₂) E s := by
  have hT : s.heap.IsTuple T vs.toArray := ⟨_, (N _ hm).1, rfl, 0, rfl⟩
  refine wpAny_pyIter_tuple hT ?_
  have new : h₀.get? s.heap.objs.size = none := by
    cases q : h₀.get? s.heap.objs.size with
    | none => rfl
    | some o => exact absurd (Heap.lt_size (F.keep _ _ q)) (Nat.lt_irrefl _)
  refine forLoop_else hh hx hp hE (F.push _) (fun p hp => ⟨Heap.get?_push_of_some _ (N p hp).1, (N p hp).2⟩) ⟨_, Heap.get?_push_size _ rfl, rfl, rfl⟩ hm new (Nat.ne_of_gt F.ns.lt) (fun p hp => Nat.ne_of_lt (Heap.lt_size (N p hp).1)) ?_
  exact rest _ fun p hp => Heap.lt_size (N p hp).1
end
end Mine
end
/-! C2 -/
section
open PySem PySem.W PySem.Calls PyProof.Rows
set_option Elab.async false
set_option maxRecDepth 100000
namespace Mine
theorem news_get {h₀ h : Heap} {L a : Addr} {o : Obj} {news : List (Addr × Obj)} (N : News h₀ L h news) (hm : (a, o) ∈ news) : h.get? a = some o := (N _ hm).1
/-- an object that a call made joins the caller's ledger -/
theorem news_cons {h₀ g h' : Heap} {L : Addr} {m : Str → Option Value} {news : List (Addr × Obj)} {a : Addr} {o : Obj} (F : Fr h₀ L g m) (N : News h₀ L h' news) (l : g.objs.size ≤ a) (e : h'.get? a = some o) : News h₀ L h' ((a, o) :: news) := fun p hp => by
  rcases List.mem_cons.mp hp with rfl | hp
  · refine ⟨e, ?_, ?_⟩
    · exact Nat.ne_of_gt (Nat.lt_of_lt_of_le F.ns.lt l)
    · cases q : h₀.get? a with
      | none => rfl
      | some o' => exact absurd (Heap.lt_size (F.keep _ _ q)) (Nat.not_lt.mpr l)
  · exact N p hp
section
variable {prog : Program} {w : World} {A : Around} {E : Value → Shared → Prop} {s : Shared} {c0 c1 c2 c3 : Nat} {t : Tok}
theorem len4 {Q : Value → Shared → Prop} (h : Q (.int 4 (s.toks + 1)) { s with toks := s.toks + 1 + 1 }) : wpAny (model prog w) A (call (.builtin "len") [.str ⟨#[c0, c1, c2, c3]⟩ t]) Q E s :=
  P.len_str (by show ¬ ((4 : Nat) : Int) ≥ 2 ^ 63; decide) h
end
/-- the part stands nowhere in the text -/
abbrev no (x y : Str) : Bool := (Builtin.Str.occurrences x y 0 x.length 1).isEmpty
theorem truthy_known {M : Model} {A : Around} {E : Value → Shared → Prop} {s : Shared} {b b' : Bool} {Q : Bool → Shared → Prop} (e : b = b') (h : wpAny M A (truthy (.bool b')) Q E s) : wpAny M A (truthy (.bool b)) Q E s := e ▸ h
local macro_rules | `(tactic| k_room) => `(tactic| ((try simp only [depth_under_make, depth_under_kw, depth_in1, depth_deeper, depth_caller] at *); (try dsimp only [ktrTop] at *); omega))
local macro_rules | `(tactic| k_enter) => `(tactic| (first
  | (refine' code_defW ?k1 ?k2 ?k3 ?k5 ?kA ?kF ?kK ?k6 ?k7 ?k8 ?k9 ?kB ?_ ?c2 ?c3 ?c4 ?c5; (case kA => exact rfl); (case kF => exact rfl); (case kK => first | assumption | exact rfl); (case k1 => k_asm); (case k2 => k_asm); (case k3 => k_asm); (case k5 => k_asm); (case k6 => k_is); (case k7 => k_is); (case k8 => k_room); (case k9 => first | exact BindsTo.of_eq rfl | exact binds_K (by k_in) rfl (by k_is) rfl rfl rfl | fail "k_enter: no rule for these arguments"); (case c5 => decide); (case kB => exact locs rfl); (case c2 => exact rfl); (case c3 => exact rfl); (case c4 => exact rfl); k_whole; intro L' h' F' N' B' X' T'; (try dsimp only); (try k_lift B'); (try k_fold))
  | (refine' code_defCW ?k1 ?k2 ?k3 ?k5 ?kA ?kF ?kK ?k6 ?k7 ?k8 ?k9 ?kB ?kD ?_ ?c2 ?c3 ?c4; (case kA => exact rfl); (case kF => exact rfl); (case kK => first | assumption | exact rfl); (case k1 => k_asm); (case k2 => k_asm); (case k3 => k_asm); (case k5 => k_asm); (case k6 => k_is); (case k7 => k_is); (case k8 => k_room); (case k9 => first | exact BindsTo.of_eq rfl | exact binds_K (by k_in) rfl (by k_is) rfl rfl rfl | fail "k_enter: no rule for these arguments"); (case kB => exact rfl); (case kD => decide +kernel); (case c2 => exact rfl); (case c3 => exact rfl); (case c4 => exact rfl); k_whole; intro L' h' tk' cells' F' N' Y' B' X' T'; k_cells Y'; (try dsimp only); (try k_lift B'); (try k_fold))
  | (refine' code_restW ?k1 ?k2 ?k3 ?k5 ?kA ?kF ?kK ?k6 ?k7 ?k8 ?kV ?kP ?kG ?kB ?_ ?c2 ?c3 ?c4 ?c5; (case kA => exact rfl); (case kF => exact rfl); (case kK => first | assumption | exact rfl); (case k1 => k_asm); (case k2 => k_asm); (case k3 => k_asm); (case k5 => k_asm); (case k6 => k_is); (case k7 => k_is); (case k8 => k_room); (case kV => kl_lit); (case kP => exact rfl); (case kG => exact fun _ => rfl); (case kB => exact fun _ => locs rfl); (case c5 => decide); (case c2 => exact rfl); (case c3 => exact rfl); (case c4 => exact rfl); k_whole; intro D' L' h' F' N' B' X' T'; (try dsimp only); (try k_lift B'); (try k_fold))))
local macro_rules | `(tactic| walk_at "LeaveW") => `(tactic| (k_dflt (refine' leaveW_ ?k1 ?k2 ?_; (case k1 => k_asm); (case k2 => k_asm); k_whole); intro kS kN; (try dsimp only)))
local macro_rules | `(tactic| walk_at "call builtin:min") => `(tactic| (k_here; k_dflt (first | (refine' minWS _ _ _ _ _ _ ?kX _ _ _ _ _ _ _ _ _ _ ?hd ?hu _ ?h5 ?hm _ _ _ _ _ _ _ ?h4 ?hT _ _ (fun h9 tk9 kS9 => ?_); (case hT => ((refine' news_get ?hN9 ?hm9); (case hN9 => assumption); (case hm9 => (repeat (first | exact List.Mem.head _ | apply List.Mem.tail)))))) | (refine' minSW _ _ _ _ _ _ ?kX _ _ _ _ _ _ _ _ _ _ ?hd ?hu _ ?h5 ?hm _ _ _ _ _ _ _ ?h4 ?hT _ _ (fun h9 tk9 kS9 => ?_); (case hT => ((refine' news_get ?hN9 ?hm9); (case hN9 => assumption); (case hm9 => (repeat (first | exact List.Mem.head _ | apply List.Mem.tail))))))); (case kX => ((rename Fr _ _ _ _ => F7); exact Frag.In.keeps (by assumption) F7.keep)); (case hd => k_room); (case hu => k_room); (case h5 => assumption); (case hm => assumption); (case h4 => exact rfl); k_whole; (rename Fr _ _ _ _ => F8); (rename News _ _ _ _ => N8); have F9 := fr_stays F8 kS9; have N9 := news_stays N8 kS9; (try dsimp only)))
local macro_rules | `(tactic| walk_at "call builtin:len") => `(tactic| (k_here; k_dflt (refine' len4 ?_; k_whole); (try dsimp only)))
local macro_rules | `(tactic| walk_at "call builtin:str.join") => `(tactic| (k_here; k_dflt (first | (refine' join4 _ _ _ _ _ _ ?kX _ _ _ _ _ _ _ _ _ _ ?hd ?hu _ _ 0 _ _ _ _ _ _ _ _ ?hT _ _ (fun t9 h9 tk9 kS9 => ?_); (case hT => ((refine' news_get ?hN9 ?hm9); (case hN9 => assumption); (case hm9 => (repeat (first | exact List.Mem.head _ | apply List.Mem.tail)))))) | (refine' join3 _ _ _ _ _ _ ?kX _ _ _ _ _ _ _ _ _ _ ?hd ?hu _ _ 0 _ _ _ _ _ _ ?hT _ _ (fun t9 h9 tk9 kS9 => ?_); (case hT => ((refine' news_get ?hN9 ?hm9); (case hN9 => assumption); (case hm9 => (repeat (first | exact List.Mem.head _ | apply List.Mem.tail)))))) | (refine' join2 _ _ _ _ _ _ ?kX _ _ _ _ _ _ _ _ _ _ ?hd ?hu _ _ 0 _ _ _ _ ?hT _ _ (fun t9 h9 tk9 kS9 => ?_); (case hT => ((refine' news_get ?hN9 ?hm9); (case hN9 => assumption); (case hm9 => (repeat (first | exact List.Mem.head _ | apply List.Mem.tail))))))); (case kX => ((rename Fr _ _ _ _ => F7); exact Frag.In.keeps (by assumption) F7.keep)); (case hd => k_room); (case hu => k_room); k_whole; (rename Fr _ _ _ _ => F8); (rename News _ _ _ _ => N8); have F9 := fr_stays F8 kS9; have N9 := news_stays N8 kS9; (try dsimp only)))
local macro_rules | `(tactic| walk_at "exec For Name Name cons cons") => `(tactic| (k_here; (rename Fr _ _ _ _ => lF'); (with_unfolding_all refine' For_else lF' ?_; k_whole)))
local macro_rules | `(tactic| walk_at "pyIter ref") => `(tactic| ((with_reducible show wpAny _ _ (pyIter (Value.ref _)) (fun _ _ => ElseAt _ _ _ _ _ _ _ _ _ _ _ _) _ _); k_dflt (refine' iter_else ?hh ?hx ?hp ?F ?N ?hm (fun I9 l9 => ?_); (case hh => exact rfl); (case hx => exact rfl); (case hp => exact rfl); (case F => k_asm); (case N => k_asm); (case hm => (repeat (first | exact List.Mem.head _ | apply List.Mem.tail))); k_whole)))
local macro_rules | `(tactic| walk_at "ElseRest") => `(tactic| (with_unfolding_all first | (refine ElseRest.succ (fun it' h' tk' hit' F' N' => ?_)) | (refine ElseRest.zero (fun h' tk' F' N' => ?_))))
local macro_rules | `(tactic| walk_at "truthy bool") => `(tactic| (k_here; (first | (with_reducible show wpAny _ _ (truthy (Value.bool (List.isEmpty _))) _ _ _) | (with_reducible show wpAny _ _ (truthy (Value.bool (Array.isEmpty _))) _ _ _) | (with_reducible show wpAny _ _ (truthy (Value.bool (!(List.isEmpty _)))) _ _ _) | (with_reducible show wpAny _ _ (truthy (Value.bool (!(Array.isEmpty _)))) _ _ _)); (refine' truthy_known ?e ?_; (case e => assumption))))
local macro_rules | `(tactic| walk_at "UnrEnd") => `(tactic| ((with_reducible show UnrEnd _ _ _ _ _ (fun _ _ => _ ∧ ElseRest _ _ _ _ _ _ _ _ _ _ _ _ _ _ _ _) _); k_dflt ((rename Fr _ _ _ _ => F9); (rename News _ _ _ _ => N9); (rename (∀ (p : Addr × Obj), p ∈ _ → p.1 < _) => l9'); refine' UnrEnd.intro F9 N9 _ (fun p h => h) (fun p hp => Nat.ne_of_lt (l9' p hp)) ?_; k_whole)))
local macro_rules | `(tactic| walk_at "call ref") => `(tactic| (k_here; k_dflt (first | (refine' ng4 _ _ _ _ _ _ _ _ _ _ _ _ _ _ _ _ _ _ _ _ _ _ _ _ _ _ _ _ ?kB ?kF ?kX ?kT ?kK ?kd ?ku (fun S9 h9 tk9 c9 T0 u00 u01 u02 u03 kS9 oS9 o0 gS g0 => ?_); (case kB => k_asm); (case kF => k_asm); (case kX => k_asm); (case kT => k_asm); (case kK => exact rfl); (case kd => k_room); (case ku => k_room); k_whole; (rename Fr _ _ _ _ => F8); (rename News _ _ _ _ => N8); have F9 := fr_stays F8 kS9; have N9 := news_cons F8 (news_stays N8 kS9) oS9 gS; have l0 := Nat.le_trans oS9 (Nat.le_of_lt o0); have N90 := news_cons F8 N9 l0 g0; (try dsimp only)) | (refine' ng3 _ _ _ _ _ _ _ _ _ _ _ _ _ _ _ _ _ _ _ _ _ _ _ _ _ _ _ _ ?kB ?kF ?kX ?kT ?kK ?kd ?ku (fun S9 h9 tk9 c9 T0 T1 u00 u01 u02 u10 u11 u12 kS9 oS9 o0 o1 gS g0 g1 => ?_); (case kB => k_asm); (case kF => k_asm); (case kX => k_asm); (case kT => k_asm); (case kK => exact rfl); (case kd => k_room); (case ku => k_room); k_whole; (rename Fr _ _ _ _ => F8); (rename News _ _ _ _ => N8); have F9 := fr_stays F8 kS9; have N9 := news_cons F8 (news_stays N8 kS9) oS9 gS; have l0 := Nat.le_trans oS9 (Nat.le_of_lt o0); have N90 := news_cons F8 N9 l0 g0; have l1 := Nat.le_trans l0 (Nat.le_of_lt o1); have N91 := news_cons F8 N90 l1 g1; (try dsimp only)) | (refine' ng2 _ _ _ _ _ _ _ _ _ _ _ _ _ _ _ _ _ _ _ _ _ _ _ _ _ _ _ _ ?kB ?kF ?kX ?kT ?kK ?kd ?ku (fun S9 h9 tk9 c9 T0 T1 T2 u00 u01 u10 u11 u20 u21 kS9 oS9 o0 o1 o2 gS g0 g1 g2 => ?_); (case kB => k_asm); (case kF => k_asm); (case kX => k_asm); (case kT => k_asm); (case kK => exact rfl); (case kd => k_room); (case ku => k_room); k_whole; (rename Fr _ _ _ _ => F8); (rename News _ _ _ _ => N8); have F9 := fr_stays F8 kS9; have N9 := news_cons F8 (news_stays N8 kS9) oS9 gS; have l0 := Nat.le_trans oS9 (Nat.le_of_lt o0); have N90 := news_cons F8 N9 l0 g0; have l1 := Nat.le_trans l0 (Nat.le_of_lt o1); have N91 := news_cons F8 N90 l1 g1; have l2 := Nat.le_trans l1 (Nat.le_of_lt o2); have N92 := news_cons F8 N91 l2 g2; (try dsimp only)))))
set_option maxHeartbeats 8000000 in
theorem custWS (w : World) (loose : List Str) (mean : ExcName → Option Value) (mg mb : Str → Option Value) (self : Addr) (W : Str) (hW : 5 ≤ W.length) (hW2 : W.length ≤ 1000) (c0 c1 c2 c3 : Nat) (t1 t2 : Tok)
   (n4 : no W ⟨#[c0, c1, c2, c3]⟩ = true) (n3 : no W ⟨#[c0, c1, c2]⟩ = true) (n3' : no W ⟨#[c1, c2, c3]⟩ = true) (y2 : no W ⟨#[c0, c1]⟩ = false)
   (s4 : no ⟨#[c0, c1, c2, c3]⟩ ⟨#[c0, c1, c2, c3]⟩ = false) (s3 : no ⟨#[c0, c1, c2, c3]⟩ ⟨#[c0, c1, c2]⟩ = false) (s3' : no ⟨#[c0, c1, c2, c3]⟩ ⟨#[c1, c2, c3]⟩ = false) (s2 : no ⟨#[c0, c1, c2, c3]⟩ ⟨#[c0, c1]⟩ = false) :
   TellsC 20 w loose mean mg mb 204 [.ref self, .str W t1, .str ⟨#[c0, c1, c2, c3]⟩ t2] (giveS ⟨#[c0, c1]⟩) := by
  dsimp only [TellsC, giveS]
  dsimp only [no] at n4 n3 n3' y2 s4 s3 s3' s2
  k_fill
  intros
  rename_i hret
  k_dflt k_enter
  k_steps
  all_goals (first | ((repeat (first | exact List.Mem.head _ | apply List.Mem.tail)); done) | (rename_i kS kN; exact hret _ _ _ kS) | w_report)
set_option maxHeartbeats 8000000 in
theorem custSW (w : World) (loose : List Str) (mean : ExcName → Option Value) (mg mb : Str → Option Value) (self : Addr) (W : Str) (hW : 5 ≤ W.length) (hW2 : W.length ≤ 1000) (c0 c1 c2 c3 : Nat) (t1 t2 : Tok)
   (n4 : no W ⟨#[c0, c1, c2, c3]⟩ = true) (n3 : no W ⟨#[c0, c1, c2]⟩ = true) (n3' : no W ⟨#[c1, c2, c3]⟩ = true) (y2 : no W ⟨#[c0, c1]⟩ = false)
   (s4 : no ⟨#[c0, c1, c2, c3]⟩ ⟨#[c0, c1, c2, c3]⟩ = false) (s3 : no ⟨#[c0, c1, c2, c3]⟩ ⟨#[c0, c1, c2]⟩ = false) (s3' : no ⟨#[c0, c1, c2, c3]⟩ ⟨#[c1, c2, c3]⟩ = false) (s2 : no ⟨#[c0, c1, c2, c3]⟩ ⟨#[c0, c1]⟩ = false) :
   TellsC 20 w loose mean mg mb 204 [.ref self, .str ⟨#[c0, c1, c2, c3]⟩ t2, .str W t1] (giveS ⟨#[c0, c1]⟩) := by
  dsimp only [TellsC, giveS]
  dsimp only [no] at n4 n3 n3' y2 s4 s3 s3' s2
  k_fill
  intros
  rename_i hret
  k_dflt k_enter
  k_steps
  all_goals (first | ((repeat (first | exact List.Mem.head _ | apply List.Mem.tail)); done) | (rename_i kS kN; exact hret _ _ _ kS) | w_report)
end Mine
end
/-! E2 -/
section
open PySem PySem.W PySem.Calls PyProof.Rows
set_option Elab.async false
set_option maxRecDepth 100000
namespace Mine
section
variable {prog : Program} {w : World} {A : Around} {E : Value → Shared → Prop} {s : Shared} {env : Env} {h₀ : Heap} {x : Str} {px : Pos} {body : List Stmt} {Q : Flow → Shared → Prop}
/-- what is left of a for over written ints whose target the walker stores itself -/
def StepRest (prog : Program) (w : World) (A : Around) (E : Value → Shared → Prop) (h₀ : Heap) (env : Env) (x : Str) (body : List Stmt) (Q : Flow → Shared → Prop) (s : Shared) (I : Addr) : List Int → (Str → Option Value) → List (Addr × Obj) → Prop
  | [], m, news => ∀ h tk, Fr h₀ env.locals h m → News h₀ env.locals h news → Q .next { s with heap := h, toks := tk }
  | v :: r, m, news => ∀ (it : Obj) h tk t, it.cls = .type "range_iterator" → Fr h₀ env.locals h m → News h₀ env.locals h ((I, it) :: news) →
      wpAny (model prog w) A (storeName env x (.int v t)) (fun _ s₂ => wpAny (model prog w) A (execs body env) (UnrPost h₀ env.locals s I it (fun m' n' => StepRest prog w A E h₀ env x body Q s I r m' n') Q) E s₂) E { s with heap := h, toks := tk }
theorem StepRest.zero {I : Addr} {m : Str → Option Value} {news : List (Addr × Obj)} (h : ∀ h tk, Fr h₀ env.locals h m → News h₀ env.locals h news → Q .next { s with heap := h, toks := tk }) :
    StepRest prog w A E h₀ env x body Q s I [] m news := h
theorem StepRest.succ {I : Addr} {v : Int} {r : List Int} {m : Str → Option Value} {news : List (Addr × Obj)}
    (h : ∀ (it : Obj) h tk t, it.cls = .type "range_iterator" → Fr h₀ env.locals h m → News h₀ env.locals h ((I, it) :: news) →
      wpAny (model prog w) A (storeName env x (.int v t)) (fun _ s₂ => wpAny (model prog w) A (execs body env) (UnrPost h₀ env.locals s I it (fun m' n' => StepRest prog w A E h₀ env x body Q s I r m' n') Q) E s₂) E { s with heap := h, toks := tk }) :
    StepRest prog w A E h₀ env x body Q s I (v :: r) m news := h
def StepAt (prog : Program) (w : World) (A : Around) (env : Env) (x : Str) (px : Pos) (body : List Stmt) (Q : Flow → Shared → Prop) (E : Value → Shared → Prop) (it : Value) (s₂ : Shared) : Prop :=
  codeAny (model prog w) A (.forLoop (.Name x px) it body [] env) (fun r s' => match r with | .ok f => Q f s' | .error e => cameBackBy (model prog w) A env E e s') s₂
theorem For_step {iter : Expr} {pos : Pos} {m : Str → Option Value} (_F : Fr h₀ env.locals s.heap m)
    (h : wpAny (model prog w) A (eval iter env) (fun xv s₁ => wpAny (model prog w) A (pyIter xv) (fun it s₂ => StepAt prog w A env x px body Q E it s₂) E s₁) E s)
    (hs : ∀ x, foldedSetIterable iter env x = pure x := by intro _; rfl) :
    wpAny (model prog w) A (exec (.For (.Name x px) iter body [] pos) env) Q E s := wpAny_For h hs
theorem forLoop_step (hh : A.handled = none) (hE : PassesOwn (model prog w) A env E) {a c : Int} {vs : List Int} (hv : ∀ i : Nat, (h : i < vs.length) → vs[i] = a + i * c)
    {I : Addr} {h1 : Heap} {m : Str → Option Value} {news : List (Addr × Obj)} (F : Fr h₀ env.locals h1 m) (N : News h₀ env.locals h1 news) (hit : IsRangeIter h1 I a vs.length c)
    (hI : h₀.get? I = none) (hL : I ≠ env.locals) (hn : ∀ p ∈ news, p.1 ≠ I) (rest : StepRest prog w A E h₀ env x body Q s I vs m news) :
    StepAt prog w A env x px body Q E (.ref I) { s with heap := h1 } := by
  unfold StepAt
  have W := Walks.range (prog := prog) (w := w) (A := A) hh I a c vs.length
  refine codeAny_forLoop (fun k s' => ∃ h' tk m' news' i, s' = { s with heap := h', toks := tk } ∧ IsRangeIter h' I (a + ((i : Nat) : Int) * c) ((vs.length : Int) - ((i : Nat) : Int)) c ∧ Fr h₀ env.locals h' m' ∧ News h₀ env.locals h' news' ∧ (∀ p ∈ news', p.1 ≠ I) ∧
      StepRest prog w A E h₀ env x body Q s I (vs.drop i) m' news' ∧ i ≤ vs.length ∧ k = vs.length - i) ?_ vs.length ⟨h1, s.toks, m, news, 0, rfl, by simpa using hit, F, N, hn, rest, Nat.zero_le _, rfl⟩
  rintro k s' ⟨h', tk, m', news', i, rfl, hit', F', N', hn', hJ, hi, rfl⟩
  have old : ∀ b o, h₀.get? b = some o → b ≠ I := fun b o e q => by rw [q, hI] at e; cases e
  have up : ∀ h₁ : Heap, (∀ b o, b ∉ [I] → h'.get? b = some o → h₁.get? b = some o) → Fr h₀ env.locals h₁ m' ∧ News h₀ env.locals h₁ news' := fun h₁ hk =>
    ⟨⟨F'.ns.at' fun o e => hk _ o (fun q => hL (List.mem_singleton.mp q).symm) e, fun b o e => hk b o (fun q => old b o e (List.mem_singleton.mp q)) (F'.keep b o e), F'.above⟩, fun p hp => ⟨hk _ _ (fun q => hn' p hp (List.mem_singleton.mp q)) (N' p hp).1, (N' p hp).2⟩⟩
  by_cases hlt : i < vs.length
  · refine W.item i _ _ _ hlt hit' fun v h₁ tk₁ hP hst₁ hk₁ => ?_
    obtain ⟨t, rfl⟩ := hP
    obtain ⟨F₁, N₁⟩ := up h₁ hk₁
    refine wpAny_assign_Name ?_
    have hdrop : vs.drop i = vs[i] :: vs.drop (i + 1) := List.drop_eq_getElem_cons hlt
    rw [hdrop, hv i hlt] at hJ
    have N₂ : News h₀ env.locals h₁ ((I, { cls := .type "range_iterator", data := .fields #[rawInt (a + ((i + 1 : Nat) : Int) * c), rawInt ((vs.length : Int) - ((i + 1 : Nat) : Int)), rawInt c] }) :: news') := fun p hp => by
      rcases List.mem_cons.mp hp with rfl | hp
      · exact ⟨hst₁, hL, hI⟩
      · exact N₁ p hp
    refine wpAny_mono (hJ _ h₁ tk₁ t rfl F₁ N₂) (fun _ s₂ h₂ => wpAny_mono h₂ (fun f s₃ h₃ => ?_) hE) hE
    have fin : UnrEnd h₀ env.locals s I { cls := .type "range_iterator", data := .fields #[rawInt (a + ((i + 1 : Nat) : Int) * c), rawInt ((vs.length : Int) - ((i + 1 : Nat) : Int)), rawInt c] } (fun m' n' => StepRest prog w A E h₀ env x body Q s I (vs.drop (i + 1)) m' n') s₃ →
        ∃ k, k < vs.length - i ∧ ∃ h' tk m' news' i, s₃ = { s with heap := h', toks := tk } ∧ IsRangeIter h' I (a + ((i : Nat) : Int) * c) ((vs.length : Int) - ((i : Nat) : Int)) c ∧ Fr h₀ env.locals h' m' ∧ News h₀ env.locals h' news' ∧ (∀ p ∈ news', p.1 ≠ I) ∧
      StepRest prog w A E h₀ env x body Q s I (vs.drop i) m' news' ∧ i ≤ vs.length ∧ k = vs.length - i := by
      rintro ⟨g₃, tk₃, m₃, n₃, e₃, F₃, N₃, hn₃, r₃⟩
      exact ⟨vs.length - (i + 1), by omega, g₃, tk₃, m₃, n₃, i + 1, e₃, (N₃ _ (.head _)).1, F₃, fun p hp => N₃ p (.tail _ hp), hn₃, r₃, hlt, rfl⟩
    cases f with
    | ret v => exact h₃
    | brk => exact h₃
    | next => exact fin h₃
    | cont => exact fin h₃
  · have hin : i = vs.length := by omega
    subst hin
    rw [List.drop_length] at hJ
    refine W.done _ _ _ hit' fun h₁ tk₁ hk₁ => wpAny_execs_nil ?_
    obtain ⟨F₁, N₁⟩ := up h₁ hk₁
    exact hJ h₁ tk₁ F₁ N₁
theorem iter_step {r : Addr} {a b c : Int} {t u v : Tok} (vs : List Int) (hh : A.handled = none) (hr : IsRange s.heap r a b c t u v) (hsmall : Builtin.Range.small a b c = true) (hn : Builtin.Range.rangeSize a b c = (vs.length : Int)) (hv : ∀ i : Nat, (h : i < vs.length) → vs[i] = a + i * c)
    {m : Str → Option Value} {news : List (Addr × Obj)} (F : Fr h₀ env.locals s.heap m) (N : News h₀ env.locals s.heap news)
    (rest : ∀ I : Addr, (∀ p ∈ news, p.1 < I) → StepRest prog w A E h₀ env x body Q s I vs m news) (hE : PassesOwn (model prog w) A env E := by passes_own) :
    wpAny (model prog w) A (pyIter (.ref r)) (fun it s₂ => StepAt prog w A env x px body Q E it s₂) E s := by
  refine wpAny_pyIter_range hr hsmall ?_
  rw [hn]
  have new : h₀.get? s.heap.objs.size = none := by
    cases q : h₀.get? s.heap.objs.size with
    | none => rfl
    | some o => exact absurd (Heap.lt_size (F.keep _ _ q)) (Nat.lt_irrefl _)
  refine forLoop_step hh hE hv (F.push _) (fun p hp => ⟨Heap.get?_push_of_some _ (N p hp).1, (N p hp).2⟩) (Heap.get?_push_size _ rfl) new (Nat.ne_of_gt F.ns.lt) (fun p hp => Nat.ne_of_lt (Heap.lt_size (N p hp).1)) ?_
  exact rest _ fun p hp => Heap.lt_size (N p hp).1
end
end Mine
end
/-! SP -/
section
open PySem PySem.W PySem.Calls PyProof.Rows
namespace Mine
section
variable {a b c d : Nat} {i j : Int}
theorem slp04 (h : i = 0) (g : j = 4) : Txt.slice ⟨#[a, b, c, d]⟩ (some i) (some j) = ⟨#[a, b, c, d]⟩ := by subst h g; exact sl_both (by show (0 : Int) ≤ 0 ∧ (0 : Int) ≤ 4 ∧ (4 : Int) ≤ 4; decide)
theorem slp03 (h : i = 0) (g : j = 3) : Txt.slice ⟨#[a, b, c, d]⟩ (some i) (some j) = ⟨#[a, b, c]⟩ := by subst h g; exact sl_both (by show (0 : Int) ≤ 0 ∧ (0 : Int) ≤ 3 ∧ (3 : Int) ≤ 4; decide)
theorem slp14 (h : i = 1) (g : j = 4) : Txt.slice ⟨#[a, b, c, d]⟩ (some i) (some j) = ⟨#[b, c, d]⟩ := by subst h g; exact sl_both (by show (0 : Int) ≤ 1 ∧ (1 : Int) ≤ 4 ∧ (4 : Int) ≤ 4; decide)
theorem slp02 (h : i = 0) (g : j = 2) : Txt.slice ⟨#[a, b, c, d]⟩ (some i) (some j) = ⟨#[a, b]⟩ := by subst h g; exact sl_both (by show (0 : Int) ≤ 0 ∧ (0 : Int) ≤ 2 ∧ (2 : Int) ≤ 4; decide)
theorem slp13 (h : i = 1) (g : j = 3) : Txt.slice ⟨#[a, b, c, d]⟩ (some i) (some j) = ⟨#[b, c]⟩ := by subst h g; exact sl_both (by show (0 : Int) ≤ 1 ∧ (1 : Int) ≤ 3 ∧ (3 : Int) ≤ 4; decide)
theorem slp24 (h : i = 2) (g : j = 4) : Txt.slice ⟨#[a, b, c, d]⟩ (some i) (some j) = ⟨#[c, d]⟩ := by subst h g; exact sl_both (by show (0 : Int) ≤ 2 ∧ (2 : Int) ≤ 4 ∧ (4 : Int) ≤ 4; decide)
end
theorem piece_known {W x y : Str} {v : Bool} (h : (Builtin.Str.occurrences W y 0 W.length 1).isEmpty = v) (e : x = y) : (!(Builtin.Str.occurrences W x 0 W.length 1).isEmpty) = !v := by rw [e, h]
end Mine
end
/-! L1 -/
section
open PySem PySem.W PySem.Calls PyProof.Rows
set_option Elab.async false
set_option maxRecDepth 100000
namespace Mine
section
variable {M : Model} {A : Around} {E : Value → Shared → Prop} {s : Shared} {h₀ : Heap} {L a : Addr} {m : Str → Option Value} {cn : Str} {cs : Scope} {ccd : Value} {cl : List (Str × Addr)}
  {x : Str} {v : Value} {news : List (Addr × Obj)} {g : Obj → List (Addr × Obj)} {c : Addr} {o : Obj} {v₀ : Option Value}
/-- a def stores a name that a comprehension in it reads -/
theorem store_cell {Q : Unit → Shared → Prop} (F : Fr h₀ L s.heap m) (N : News h₀ L s.heap news) (hc : cl.lookup x = some c) (U : UpdF c o news g) (hd : o.data = .cell v₀) (hk : cs.kind = .function) (hx : (envX cn cs L a ccd cl).kindOf x = some .cell)
    (h : ∀ h' o', Fr h₀ L h' m → News h₀ L h' (g o') → o'.data = .cell (some v) → Q () { s with heap := h' }) : wpAny M A (storeName (envX cn cs L a ccd cl) x v) Q E s := by
  obtain ⟨own, rest, e, hg, h1, h2⟩ := U.split
  subst e
  have inN := N (c, o) (List.mem_append_right _ (.head _))
  refine wpAny_storeName_cell hk hx hc ⟨o, inN.1, hd⟩ fun h' hv hs => ?_
  obtain ⟨o', ho', hd'⟩ := hv
  have old : ∀ b ob, h₀.get? b = some ob → h'.get? b = some ob := fun b ob e => by
    have hb : b ≠ c := fun q => by rw [q, inN.2.2] at e; cases e
    exact (hs.2 b hb).trans (F.keep b ob e)
  refine h h' o' ⟨F.ns.sameBut hs (Ne.symm inN.2.1), old, F.above⟩ ?_ hd'
  rw [hg o']
  exact N.setAt h1 h2 hs ho'
end
section
variable {prog : Program} {w : World} {A : Around} {E : Value → Shared → Prop} {s : Shared} {value slice : Expr} {x y : Str} {t : Tok} {h₀ : Heap} {L : Addr} {m : Str → Option Value} {news : List (Addr × Obj)} {Q : Value → Shared → Prop}
/-- a slice whose text is known -/
theorem slice_is {i j : Int} {ui uj : Tok} (e : Txt.slice x (some i) (some j) = y) (hF : Fr h₀ L s.heap m) (hN : News h₀ L s.heap news) (hsz : x.length ≤ sizeLine) (h : ∀ h' t' k, Fr h₀ L h' m → News h₀ L h' news → Q (.str y t') { s with heap := h', toks := k })
    (hs : subscripted slice false (.str x t) (.ref s.heap.objs.size) = operate [.ref s.heap.objs.size, .str x t] (getItem (.str x t) (.ref s.heap.objs.size)) := by with_unfolding_all rfl)
    (ht : ∀ r, letTemporaryGo value (.str x t) r = pure () := by intro _; with_unfolding_all rfl) :
    wpAny (model prog w) A (subscriptTail value slice (.str x t) (.ref s.heap.objs.size)) Q E { s with heap := s.heap.push { cls := .type "slice", data := .fields #[.int i ui, .int j uj, .none] } } :=
  slice_strN_ss hF hN (fun h' t' k a b => e ▸ h h' t' k a b) hs ht hsz
end
local macro_rules | `(tactic| k_room) => `(tactic| ((try simp only [depth_under_make, depth_under_kw, depth_in1, depth_deeper, depth_caller] at *); (try dsimp only [ktrTop] at *); omega))
local macro_rules | `(tactic| k_enter) => `(tactic| (first
  | (refine' code_defW ?k1 ?k2 ?k3 ?k5 ?kA ?kF ?kK ?k6 ?k7 ?k8 ?k9 ?kB ?_ ?c2 ?c3 ?c4 ?c5; (case kA => exact rfl); (case kF => exact rfl); (case kK => first | assumption | exact rfl); (case k1 => k_asm); (case k2 => k_asm); (case k3 => k_asm); (case k5 => k_asm); (case k6 => k_is); (case k7 => k_is); (case k8 => k_room); (case k9 => first | exact BindsTo.of_eq rfl | exact binds_K (by k_in) rfl (by k_is) rfl rfl rfl | fail "k_enter: no rule for these arguments"); (case c5 => decide); (case kB => exact locs rfl); (case c2 => exact rfl); (case c3 => exact rfl); (case c4 => exact rfl); k_whole; intro L' h' F' N' B' X' T'; (try dsimp only); (try k_lift B'); (try k_fold))
  | (refine' code_defCW ?k1 ?k2 ?k3 ?k5 ?kA ?kF ?kK ?k6 ?k7 ?k8 ?k9 ?kB ?kD ?_ ?c2 ?c3 ?c4; (case kA => exact rfl); (case kF => exact rfl); (case kK => first | assumption | exact rfl); (case k1 => k_asm); (case k2 => k_asm); (case k3 => k_asm); (case k5 => k_asm); (case k6 => k_is); (case k7 => k_is); (case k8 => k_room); (case k9 => first | exact BindsTo.of_eq rfl | exact binds_K (by k_in) rfl (by k_is) rfl rfl rfl | fail "k_enter: no rule for these arguments"); (case kB => exact rfl); (case kD => decide +kernel); (case c2 => exact rfl); (case c3 => exact rfl); (case c4 => exact rfl); k_whole; intro L' h' tk' cells' F' N' Y' B' X' T'; k_cells Y'; (try dsimp only); (try k_lift B'); (try k_fold))
  | (refine' code_restW ?k1 ?k2 ?k3 ?k5 ?kA ?kF ?kK ?k6 ?k7 ?k8 ?kV ?kP ?kG ?kB ?_ ?c2 ?c3 ?c4 ?c5; (case kA => exact rfl); (case kF => exact rfl); (case kK => first | assumption | exact rfl); (case k1 => k_asm); (case k2 => k_asm); (case k3 => k_asm); (case k5 => k_asm); (case k6 => k_is); (case k7 => k_is); (case k8 => k_room); (case kV => kl_lit); (case kP => exact rfl); (case kG => exact fun _ => rfl); (case kB => exact fun _ => locs rfl); (case c5 => decide); (case c2 => exact rfl); (case c3 => exact rfl); (case c4 => exact rfl); k_whole; intro D' L' h' F' N' B' X' T'; (try dsimp only); (try k_lift B'); (try k_fold))))
local macro_rules | `(tactic| walk_at "LeaveW") => `(tactic| (k_dflt (refine' leaveW_ ?k1 ?k2 ?_; (case k1 => k_asm); (case k2 => k_asm); k_whole); intro kS kN; (try dsimp only)))
theorem sh0 : SeqAt.shaped (.list []) = true := rfl
theorem sh2 {x y : Str} (h1 : PyData.strOk x = true) (h2 : PyData.strOk y = true) : SeqAt.shaped (.list [.str x, .str y]) = true := by
  simp [SeqAt.shaped, PyData.canLay0, PyData.canLayAll0, PyData.depth, PyData.depthAll, h1, h2]
theorem sh3 {x y z : Str} (h1 : PyData.strOk x = true) (h2 : PyData.strOk y = true) (h3 : PyData.strOk z = true) : SeqAt.shaped (.list [.str x, .str y, .str z]) = true := by
  simp [SeqAt.shaped, PyData.canLay0, PyData.canLayAll0, PyData.depth, PyData.depthAll, h1, h2, h3]
theorem four_fits {a b c d : Nat} : (⟨#[a, b, c, d]⟩ : Str).length ≤ sizeLine := by show 4 ≤ sizeLine; decide
theorem truthy_in {M : Model} {A : Around} {E : Value → Shared → Prop} {s : Shared} {b v : Bool} {Q : Bool → Shared → Prop} (e : b = v) (h : wpAny M A (truthy (.bool (!v))) Q E s) : wpAny M A (truthy (.bool (!b))) Q E s := e ▸ h
local macro_rules | `(tactic| walk_at "subscriptTail Name Slice str ref") => `(tactic| (k_here; (with_reducible show wpAny _ _ (subscriptTail _ (Expr.Slice (some _) (some _) none _) _ _) _ _ _); (with_reducible rename Fr _ _ _ _ => F'); (with_reducible rename News _ _ _ _ => N'); k_dflt (refine' slice_is (s := ⟨_, _, _, _, _⟩) ?e F' N' ?z (fun h9 t9 k9 F9 N9 => ?_); (case z => exact four_fits); (case e => first | exact slp04 rfl rfl | exact slp03 rfl rfl | exact slp14 rfl rfl | exact slp02 rfl rfl | exact slp13 rfl rfl | exact slp24 rfl rfl); k_whole)))
theorem units_ok {dp un : Nat} {gd : Option (List Code)} {cn : Str} {cs : Scope} {L a : Addr} {ccd : Value} {cl : List (Str × Addr)} {outer : List Env} {e : Env} (h : un + 200 < cLine) : ((ktrTop dp un gd cn cs L a ccd cl outer).deeper e).units + 64 < cLine := by
  show un + 3 + 64 < cLine
  omega
theorem off3 {I a b c : Addr} {x y z x' y' z' : Obj} (l : ∀ p ∈ [(a, x), (b, y), (c, z)], p.1 < I) : ∀ p ∈ [(a, x'), (b, y'), (c, z')], p.1 ≠ I := by
  intro p hp
  simp only [List.mem_cons, List.not_mem_nil, or_false] at hp
  rcases hp with rfl | rfl | rfl
  · exact Nat.ne_of_lt (l (a, x) (by simp))
  · exact Nat.ne_of_lt (l (b, y) (by simp))
  · exact Nat.ne_of_lt (l (c, z) (by simp))
theorem v4 : ∀ i : Nat, (h : i < [(4 : Int), 3, 2, 1].length) → [(4 : Int), 3, 2, 1][i] = 4 + i * (-1) := fun i h => match i, h with
  | 0, _ => rfl
  | 1, _ => rfl
  | 2, _ => rfl
  | 3, _ => rfl
local macro_rules | `(tactic| walk_at "exec For Name Call cons nil") => `(tactic| (k_here; (rename Fr _ _ _ _ => lF'); (with_unfolding_all refine' For_step lF' ?_; k_whole)))
local macro_rules | `(tactic| walk_at "pyIter ref") => `(tactic| ((with_reducible show wpAny _ _ (pyIter (Value.ref _)) (fun _ _ => StepAt _ _ _ _ _ _ _ _ _ _ _) _ _); k_dflt (refine' iter_step [4, 3, 2, 1] ?hh ?hr ?s ?n ?v ?F ?N (fun I9 l9 => ?_); (case hh => exact rfl); (case hr => assumption); (case s => first | decide | rfl); (case n => first | decide | rfl); (case v => exact v4); (case F => k_asm); (case N => k_asm); k_whole; (have l9k := l9); (try k_lt l9))))
local macro_rules | `(tactic| walk_at "storeName") => `(tactic| (k_here; k_dflt (refine' store_cell ?F ?N ?c ?U ?d ?k ?x (fun h9 o9 F9 N9 d9 => ?_); (case k => exact rfl); (case x => exact rfl); (case F => k_asm); (case N => k_asm); (case c => exact rfl); (case U => k_updF); (case d => k_asm); k_whole); (try k_sweep)))
local macro_rules | `(tactic| walk_at "compareOp NotEq ref ref") => `(tactic| (k_here; (with_reducible show wpAny _ _ (compareOp CmpOp.NotEq (Value.ref _) (Value.ref _)) _ _ _); k_dflt (refine' ne_dataH ?a ?b ?c ?d (units_ok ?e) ?_; (case a => ke_read); (case b => ke_read); (case c => first | exact sh0 | exact sh2 (by assumption) (by assumption) | exact sh3 (by assumption) (by assumption) (by assumption)); (case d => exact sh0); (case e => (first | assumption | omega))); ke_norm))
local macro_rules | `(tactic| walk_at "truthy bool") => `(tactic| (k_here; (first | (with_reducible show wpAny _ _ (truthy (Value.bool (!(List.isEmpty _)))) _ _ _) | (with_reducible show wpAny _ _ (truthy (Value.bool (!(Array.isEmpty _)))) _ _ _)); (refine' truthy_in ?e ?_; (case e => assumption)); (simp only [Bool.not_true, Bool.not_false])))
local macro_rules | `(tactic| walk_at "UnrEnd") => `(tactic| ((with_reducible show UnrEnd _ _ _ _ _ (fun _ _ => StepRest _ _ _ _ _ _ _ _ _ _ _ _ _ _) _); k_dflt ((rename Fr _ _ _ _ => F9); (rename News _ _ _ _ => N9); (rename (∀ (p : Addr × Obj), p ∈ _ → p.1 < _) => l9'); refine' UnrEnd.intro F9 N9 _ (fun p h => .tail _ (.tail _ h)) (off3 l9') ?_; k_whole)))
local macro_rules | `(tactic| walk_at "StepRest") => `(tactic| (with_unfolding_all first | (refine StepRest.succ (fun it' h' tk' t' hit' F' N' => ?_)) | (refine StepRest.zero (fun h' tk' F' N' => ?_))))
local macro_rules | `(tactic| walk_at "call builtin:len") => `(tactic| (k_here; k_dflt (refine' len4 ?_; k_whole); (try dsimp only)))
local macro_rules | `(tactic| walk_at "CompSrcT") => `(tactic| (k_here; k_dflt (refine LCt.CompSrcT.range (by rfl) (by k_asm) (by k_asm) (by assumption) (by first | decide | rfl) (by first | rfl | decide) (by first | size_fits | exact Nat.le_of_ble_eq_true rfl) ?_; intro g'; lct_lit)))
/-- a list of two texts is made -/
abbrev giveL2 (x y : Str) (s : Shared) (Q : Value → Shared → Prop) : Prop :=
  ∀ (D : Addr) (h' : Heap) (tk' : Nat) (u v : Tok), s.heap.StaysIn h' → s.heap.get? D = none → h'.get? D = some (LCg.lst [.str x u, .str y v]) → Q (.ref D) { s with heap := h', toks := tk' }
/-- a list of three texts is made -/
abbrev giveL3 (x y z : Str) (s : Shared) (Q : Value → Shared → Prop) : Prop :=
  ∀ (D : Addr) (h' : Heap) (tk' : Nat) (u v w : Tok), s.heap.StaysIn h' → s.heap.get? D = none → h'.get? D = some (LCg.lst [.str x u, .str y v, .str z w]) → Q (.ref D) { s with heap := h', toks := tk' }
set_option maxHeartbeats 8000000 in
theorem pieces2 (w : World) (loose : List Str) (mean : ExcName → Option Value) (mg mb : Str → Option Value) (W : Str) (c0 c1 c2 c3 : Nat) (t1 t2 : Tok)
   (n4 : no W ⟨#[c0, c1, c2, c3]⟩ = true) (n3 : no W ⟨#[c0, c1, c2]⟩ = true) (n3' : no W ⟨#[c1, c2, c3]⟩ = true) (y2 : no W ⟨#[c0, c1]⟩ = false) (y2' : no W ⟨#[c2, c3]⟩ = false) (y1 : no W ⟨#[c1, c2]⟩ = true)
   (o1 : PyData.strOk ⟨#[c0, c1]⟩ = true) (o2 : PyData.strOk ⟨#[c1, c2]⟩ = true) (o3 : PyData.strOk ⟨#[c2, c3]⟩ = true) :
   Tells 20 w loose mean mg mb 228 [.str ⟨#[c0, c1, c2, c3]⟩ t1, .str W t2] (giveL2 ⟨#[c0, c1]⟩ ⟨#[c2, c3]⟩) := by
  dsimp only [Tells, giveL2]
  dsimp only [no] at n4 n3 n3' y2 y2' y1
  k_fill
  intros
  rename_i hret
  k_steps
  all_goals (rename_i kS kN; exact hret _ _ _ _ _ kS (kN _ (.tail _ (.head _))).2.2 (kN _ (.tail _ (.head _))).1)
set_option maxHeartbeats 8000000 in
theorem pieces3 (w : World) (loose : List Str) (mean : ExcName → Option Value) (mg mb : Str → Option Value) (W : Str) (c0 c1 c2 c3 : Nat) (t1 t2 : Tok)
   (n4 : no W ⟨#[c0, c1, c2, c3]⟩ = true) (n3 : no W ⟨#[c0, c1, c2]⟩ = true) (n3' : no W ⟨#[c1, c2, c3]⟩ = true) (y2 : no W ⟨#[c0, c1]⟩ = false) (y2' : no W ⟨#[c2, c3]⟩ = false) (y1 : no W ⟨#[c1, c2]⟩ = false)
   (o1 : PyData.strOk ⟨#[c0, c1]⟩ = true) (o2 : PyData.strOk ⟨#[c1, c2]⟩ = true) (o3 : PyData.strOk ⟨#[c2, c3]⟩ = true) :
   Tells 20 w loose mean mg mb 228 [.str ⟨#[c0, c1, c2, c3]⟩ t1, .str W t2] (giveL3 ⟨#[c0, c1]⟩ ⟨#[c1, c2]⟩ ⟨#[c2, c3]⟩) := by
  dsimp only [Tells, giveL3]
  dsimp only [no] at n4 n3 n3' y2 y2' y1
  k_fill
  intros
  rename_i hret
  k_steps
  all_goals (rename_i kS kN; exact hret _ _ _ _ _ _ kS (kN _ (.tail _ (.head _))).2.2 (kN _ (.tail _ (.head _))).1)
end Mine
end
/-! E3 -/
section
open PySem PySem.W PySem.Calls PyProof.Rows
set_option Elab.async false
set_option maxRecDepth 100000
namespace Mine
section
variable {prog : Program} {w : World} {A : Around} {E : Value → Shared → Prop} {s : Shared} {env : Env} {h₀ : Heap} {x : Str} {px : Pos} {body orelse : List Stmt} {Q : Flow → Shared → Prop}
/-- what is left of a for over a list that stands in the base -/
def BaseRest (prog : Program) (w : World) (A : Around) (E : Value → Shared → Prop) (h₀ : Heap) (env : Env) (x : Str) (body orelse : List Stmt) (Q : Flow → Shared → Prop) (s : Shared) (I : Addr) : List Value → (Str → Option Value) → List (Addr × Obj) → Prop
  | [], m, news => ∀ h tk, Fr h₀ env.locals h m → News h₀ env.locals h news → wpAny (model prog w) A (execs orelse env) Q E { s with heap := h, toks := tk }
  | v :: r, m, news => ∀ (it : Obj) h tk, it.cls = .type "list_iterator" → Fr h₀ env.locals h (fun y => if y = x then some v else m y) → News h₀ env.locals h ((I, it) :: news) →
      wpAny (model prog w) A (execs body env) (UnrPost h₀ env.locals { s with heap := h, toks := tk } I it (fun m' n' => BaseRest prog w A E h₀ env x body orelse Q s I r m' n') Q) E { s with heap := h, toks := tk }
theorem BaseRest.zero {I : Addr} {m : Str → Option Value} {news : List (Addr × Obj)} (h : ∀ h tk, Fr h₀ env.locals h m → News h₀ env.locals h news → wpAny (model prog w) A (execs orelse env) Q E { s with heap := h, toks := tk }) :
    BaseRest prog w A E h₀ env x body orelse Q s I [] m news := h
theorem BaseRest.succ {I : Addr} {m : Str → Option Value} {v : Value} {r : List Value} {news : List (Addr × Obj)}
    (h : ∀ (it : Obj) h tk, it.cls = .type "list_iterator" → Fr h₀ env.locals h (fun y => if y = x then some v else m y) → News h₀ env.locals h ((I, it) :: news) →
      wpAny (model prog w) A (execs body env) (UnrPost h₀ env.locals { s with heap := h, toks := tk } I it (fun m' n' => BaseRest prog w A E h₀ env x body orelse Q s I r m' n') Q) E { s with heap := h, toks := tk }) :
    BaseRest prog w A E h₀ env x body orelse Q s I (v :: r) m news := h
def BaseAt (prog : Program) (w : World) (A : Around) (env : Env) (x : Str) (px : Pos) (body orelse : List Stmt) (Q : Flow → Shared → Prop) (E : Value → Shared → Prop) (it : Value) (s₂ : Shared) : Prop :=
  codeAny (model prog w) A (.forLoop (.Name x px) it body orelse env) (fun r s' => match r with | .ok f => Q f s' | .error e => cameBackBy (model prog w) A env E e s') s₂
theorem For_base {iter : Expr} {pos : Pos} {m : Str → Option Value} (_F : Fr h₀ env.locals s.heap m)
    (h : wpAny (model prog w) A (eval iter env) (fun xv s₁ => wpAny (model prog w) A (pyIter xv) (fun it s₂ => BaseAt prog w A env x px body orelse Q E it s₂) E s₁) E s)
    (hs : ∀ x, foldedSetIterable iter env x = pure x := by intro _; rfl) :
    wpAny (model prog w) A (exec (.For (.Name x px) iter body orelse pos) env) Q E s := wpAny_For h hs
theorem forLoop_base (hh : A.handled = none) (hx : env.kindOf x = some .local) (hp : (env.scope.kind == .class || (env.scope.kind == .module && env.locals != env.globals)) = false) (hE : PassesOwn (model prog w) A env E)
    {I T : Addr} {h1 : Heap} {vs : List Value} {m : Str → Option Value} {news : List (Addr × Obj)} (F : Fr h₀ env.locals h1 m) (N : News h₀ env.locals h1 news) (hit : h1.IsListIter I T 0) (hT0 : h₀.IsList T vs.toArray)
    (hI : h₀.get? I = none) (hL : I ≠ env.locals) (hn : ∀ p ∈ news, p.1 ≠ I) (rest : BaseRest prog w A E h₀ env x body orelse Q s I vs m news) :
    BaseAt prog w A env x px body orelse Q E (.ref I) { s with heap := h1 } := by
  unfold BaseAt
  refine codeAny_forLoop (fun k s' => ∃ h' tk m' news' i, s' = { s with heap := h', toks := tk } ∧ h'.IsListIter I T i ∧ Fr h₀ env.locals h' m' ∧ News h₀ env.locals h' news' ∧ (∀ p ∈ news', p.1 ≠ I) ∧
      BaseRest prog w A E h₀ env x body orelse Q s I (vs.drop i) m' news' ∧ i ≤ vs.length ∧ k = vs.length - i) ?_ vs.length ⟨h1, s.toks, m, news, 0, rfl, hit, F, N, hn, rest, Nat.zero_le _, rfl⟩
  rintro k s' ⟨h', tk, m', news', i, rfl, hit', F', N', hn', hJ, hi, rfl⟩
  have hT : h'.IsList T vs.toArray := stays_list F'.keep hT0
  have old : ∀ b o, h₀.get? b = some o → b ≠ I := fun b o e q => by rw [q, hI] at e; cases e
  by_cases hlt : i < vs.length
  · refine wpAny_pyNext_list_item hit' hT (x := vs[i]) (by simp [hlt]) fun h₁ hit₁ hs₁ => ?_
    have F₁ : Fr h₀ env.locals h₁ m' := ⟨F'.ns.at' fun o e => (hs₁.2 _ hL.symm).trans e, fun b o e => (hs₁.2 b (old b o e)).trans (F'.keep b o e), F'.above⟩
    have N₁ : News h₀ env.locals h₁ news' := fun p hp => ⟨(hs₁.2 _ (hn' p hp)).trans (N' p hp).1, (N' p hp).2⟩
    refine wpAny_assign_Name (wpAny_storeName_local hx F₁.ns (fun h₂ hn₂ hs₂ => ?_) hp)
    have F₂ := F₁.set hn₂ hs₂
    obtain ⟨it, ho, hc, hd⟩ := hit₁
    have ho₂ : h₂.get? I = some it := (hs₂.2 I hL).trans ho
    have hdrop : vs.drop i = vs[i] :: vs.drop (i + 1) := List.drop_eq_getElem_cons hlt
    rw [hdrop] at hJ
    have N₂ : News h₀ env.locals h₂ ((I, it) :: news') := fun p hp => by
      rcases List.mem_cons.mp hp with rfl | hp
      · exact ⟨ho₂, hL, hI⟩
      · exact (N₁.set hs₂) p hp
    refine wpAny_mono (hJ it h₂ _ hc F₂ N₂) (fun f s₃ h₃ => ?_) hE
    have fin : UnrEnd h₀ env.locals { s with heap := h₂, toks := tk + 1 } I it (fun m' n' => BaseRest prog w A E h₀ env x body orelse Q s I (vs.drop (i + 1)) m' n') s₃ →
        ∃ k, k < vs.length - i ∧ ∃ h' tk m' news' i, s₃ = { s with heap := h', toks := tk } ∧ h'.IsListIter I T i ∧ Fr h₀ env.locals h' m' ∧ News h₀ env.locals h' news' ∧ (∀ p ∈ news', p.1 ≠ I) ∧
      BaseRest prog w A E h₀ env x body orelse Q s I (vs.drop i) m' news' ∧ i ≤ vs.length ∧ k = vs.length - i := by
      rintro ⟨g₃, tk₃, m₃, n₃, e₃, F₃, N₃, hn₃, r₃⟩
      exact ⟨vs.length - (i + 1), by omega, g₃, tk₃, m₃, n₃, i + 1, e₃, ⟨it, (N₃ _ (.head _)).1, hc, hd⟩, F₃, fun p hp => N₃ p (.tail _ hp), hn₃, r₃, hlt, rfl⟩
    cases f with
    | ret v => exact h₃
    | brk => exact h₃
    | next => exact fin h₃
    | cont => exact fin h₃
  · have hin : i = vs.length := by omega
    subst hin
    rw [List.drop_length] at hJ
    refine wpAny_pyNext_list_end hh hit' hT (by simp) fun h₁ he => ?_
    have F₁ : Fr h₀ env.locals h₁ m' := ⟨F'.ns.at' fun o e => he _ _ hL.symm e, fun b o e => he b o (old b o e) (F'.keep b o e), F'.above⟩
    have N₁ : News h₀ env.locals h₁ news' := fun p hp => ⟨he _ _ (hn' p hp) (N' p hp).1, (N' p hp).2⟩
    exact wpAny_mono (hJ h₁ tk F₁ N₁) (fun f s₃ h₃ => h₃) hE
theorem iter_base (hh : A.handled = none) (hx : env.kindOf x = some .local) (hp : (env.scope.kind == .class || (env.scope.kind == .module && env.locals != env.globals)) = false)
    {T : Addr} {vs : List Value} {m : Str → Option Value} {news : List (Addr × Obj)} (F : Fr h₀ env.locals s.heap m) (N : News h₀ env.locals s.heap news) (hT0 : h₀.IsList T vs.toArray)
    (rest : ∀ I : Addr, (∀ p ∈ news, p.1 < I) → BaseRest prog w A E h₀ env x body orelse Q s I vs m news) (hE : PassesOwn (model prog w) A env E := by passes_own) :
    wpAny (model prog w) A (pyIter (.ref T)) (fun it s₂ => BaseAt prog w A env x px body orelse Q E it s₂) E s := by
  refine wpAny_pyIter_list (stays_list F.keep hT0) ?_
  have new : h₀.get? s.heap.objs.size = none := by
    cases q : h₀.get? s.heap.objs.size with
    | none => rfl
    | some o => exact absurd (Heap.lt_size (F.keep _ _ q)) (Nat.lt_irrefl _)
  refine forLoop_base hh hx hp hE (F.push _) (fun p hp => ⟨Heap.get?_push_of_some _ (N p hp).1, (N p hp).2⟩) ⟨_, Heap.get?_push_size _ rfl, rfl, rfl⟩ hT0 new (Nat.ne_of_gt F.ns.lt) (fun p hp => Nat.ne_of_lt (Heap.lt_size (N p hp).1)) ?_
  exact rest _ fun p hp => Heap.lt_size (N p hp).1
end
end Mine
end
/-! P2 -/
section
open PySem PySem.W PySem.Calls PyProof.Rows
namespace Mine
/-- the wide text: the short one's end, z's, its beginning -/
def IsWide (W : Str) (c0 c1 c2 c3 k : Nat) : Prop := W.cps.toList = c2 :: c3 :: (List.replicate k 122 ++ [c0, c1])
section
variable {W : Str} {c0 c1 c2 c3 k : Nat}
theorem wide_len (h : IsWide W c0 c1 c2 c3 k) : W.length = k + 4 := by
  have : W.cps.toList.length = k + 4 := by rw [h]; simp
  simpa [Str.length] using this
theorem wide_mid (h : IsWide W c0 c1 c2 c3 k) {j : Nat} (h1 : 2 ≤ j) (h2 : j < k + 2) : W.cps.toList[j]? = some 122 := by
  rw [h]
  obtain ⟨i, rfl⟩ : ∃ i, j = i + 2 := ⟨j - 2, by omega⟩
  show (List.replicate k 122 ++ [c0, c1])[i]? = some 122
  rw [List.getElem?_append_left (by rw [List.length_replicate]; omega), List.getElem?_replicate, if_pos (by omega)]
/-- three signs and more have a z -/
theorem wide_three (h : IsWide W c0 c1 c2 c3 k) (hk : 1 ≤ k) {i : Nat} (hi : i + 3 ≤ k + 4) : W.cps.toList[i]? = some 122 ∨ W.cps.toList[i + 1]? = some 122 ∨ W.cps.toList[i + 2]? = some 122 := by
  by_cases g : 2 ≤ i
  · exact .inl (wide_mid h g (by omega))
  · by_cases g1 : i = 1
    · subst g1; exact .inr (.inl (wide_mid h (by omega) (by omega)))
    · obtain rfl : i = 0 := by omega
      exact .inr (.inr (wide_mid h (by omega) (by omega)))
theorem no_iff (x y : Str) : (Builtin.Str.occurrences x y 0 x.length 1).isEmpty = true ↔ ∀ i, i + y.length ≤ x.length → (x.cps.toList.drop i).take y.length ≠ y.cps.toList := by
  have := StrLaws.found_iff x y
  constructor
  · intro h i hi e
    have := this.mpr ⟨i, hi, by rw [StrLaws.subAt_eq]; simpa using e⟩
    rw [h] at this; cases this
  · intro h
    cases q : (Builtin.Str.occurrences x y 0 x.length 1).isEmpty with
    | true => rfl
    | false =>
      obtain ⟨i, hi, e⟩ := this.mp (by rw [q]; rfl)
      rw [StrLaws.subAt_eq] at e
      exact absurd (by simpa using e) (h i hi)
theorem yes_at {x y : Str} {i : Nat} (hi : i + y.length ≤ x.length) (e : (x.cps.toList.drop i).take y.length = y.cps.toList) : (Builtin.Str.occurrences x y 0 x.length 1).isEmpty = false := by
  cases q : (Builtin.Str.occurrences x y 0 x.length 1).isEmpty with
  | false => rfl
  | true => exact absurd e ((no_iff x y).mp q i hi)
theorem wide_no (h : IsWide W c0 c1 c2 c3 k) (hk : 1 ≤ k) {y : Str} (hy : 3 ≤ y.length) (hz : ∀ (j c : Nat), y.cps.toList[j]? = some c → c ≠ 122) : (Builtin.Str.occurrences W y 0 W.length 1).isEmpty = true := by
  rw [no_iff]
  intro i hi e
  rw [wide_len h] at hi
  have at_ : ∀ j, j < y.length → W.cps.toList[i + j]? = some 122 → False := fun j hj hw => by
    have : ((W.cps.toList.drop i).take y.length)[j]? = some 122 := by rw [List.getElem?_take_of_lt hj, List.getElem?_drop, hw]
    rw [e] at this
    exact hz j _ this rfl
  rcases wide_three h hk (i := i) (by omega) with q | q | q
  · exact at_ 0 (by omega) q
  · exact at_ 1 (by omega) q
  · exact at_ 2 (by omega) q
theorem ne3 {a b c : Nat} (ha : a ≠ 122) (hb : b ≠ 122) (hc : c ≠ 122) : ∀ (j d : Nat), (⟨#[a, b, c]⟩ : Str).cps.toList[j]? = some d → d ≠ 122 := by
  intro j d
  match j with
  | 0 => simp; omega
  | 1 => simp; omega
  | 2 => simp; omega
  | n + 3 => simp
theorem ne4 {a b c e : Nat} (ha : a ≠ 122) (hb : b ≠ 122) (hc : c ≠ 122) (he : e ≠ 122) : ∀ (j d : Nat), (⟨#[a, b, c, e]⟩ : Str).cps.toList[j]? = some d → d ≠ 122 := by
  intro j d
  match j with
  | 0 => simp; omega
  | 1 => simp; omega
  | 2 => simp; omega
  | 3 => simp; omega
  | n + 4 => simp
theorem wide_no4 (h : IsWide W c0 c1 c2 c3 k) (hk : 1 ≤ k) (h0 : c0 ≠ 122) (h1 : c1 ≠ 122) (h2 : c2 ≠ 122) (h3 : c3 ≠ 122) : (Builtin.Str.occurrences W ⟨#[c0, c1, c2, c3]⟩ 0 W.length 1).isEmpty = true :=
  wide_no h hk (by show 3 ≤ 4; decide) (ne4 h0 h1 h2 h3)
theorem wide_no3 (h : IsWide W c0 c1 c2 c3 k) (hk : 1 ≤ k) {a b c : Nat} (h0 : a ≠ 122) (h1 : b ≠ 122) (h2 : c ≠ 122) : (Builtin.Str.occurrences W ⟨#[a, b, c]⟩ 0 W.length 1).isEmpty = true :=
  wide_no h hk (by show 3 ≤ 3; decide) (ne3 h0 h1 h2)
theorem wide_first (h : IsWide W c0 c1 c2 c3 k) : (W.cps.toList.drop 0).take 2 = [c2, c3] := by rw [h]; rfl
theorem wide_last (h : IsWide W c0 c1 c2 c3 k) : W.cps.toList.drop (k + 2) = [c0, c1] := by
  rw [h]
  show (List.replicate k 122 ++ [c0, c1]).drop k = [c0, c1]
  rw [List.drop_append_of_le_length (by simp)]
  simp
theorem wide_end (h : IsWide W c0 c1 c2 c3 k) : (Builtin.Str.occurrences W ⟨#[c0, c1]⟩ 0 W.length 1).isEmpty = false :=
  yes_at (i := k + 2) (by rw [wide_len h]; show k + 2 + 2 ≤ k + 4; omega) (by rw [wide_last h]; rfl)
theorem wide_begin (h : IsWide W c0 c1 c2 c3 k) : (Builtin.Str.occurrences W ⟨#[c2, c3]⟩ 0 W.length 1).isEmpty = false :=
  yes_at (i := 0) (by rw [wide_len h]; show 0 + 2 ≤ k + 4; omega) (wide_first h)
theorem short4 : (Builtin.Str.occurrences ⟨#[c0, c1, c2, c3]⟩ ⟨#[c0, c1, c2, c3]⟩ 0 (⟨#[c0, c1, c2, c3]⟩ : Str).length 1).isEmpty = false := yes_at (i := 0) (by show 0 + 4 ≤ 4; decide) rfl
theorem short3 : (Builtin.Str.occurrences ⟨#[c0, c1, c2, c3]⟩ ⟨#[c0, c1, c2]⟩ 0 (⟨#[c0, c1, c2, c3]⟩ : Str).length 1).isEmpty = false := yes_at (i := 0) (by show 0 + 3 ≤ 4; decide) rfl
theorem short3' : (Builtin.Str.occurrences ⟨#[c0, c1, c2, c3]⟩ ⟨#[c1, c2, c3]⟩ 0 (⟨#[c0, c1, c2, c3]⟩ : Str).length 1).isEmpty = false := yes_at (i := 1) (by show 1 + 3 ≤ 4; decide) rfl
theorem short2 : (Builtin.Str.occurrences ⟨#[c0, c1, c2, c3]⟩ ⟨#[c0, c1]⟩ 0 (⟨#[c0, c1, c2, c3]⟩ : Str).length 1).isEmpty = false := yes_at (i := 0) (by show 0 + 2 ≤ 4; decide) rfl
/-- where c2 c3 stands first -/
theorem find_begin (h : IsWide W c0 c1 c2 c3 k) : Txt.find W ⟨#[c2, c3]⟩ = 0 := by
  have at0 : StrLaws.At W ⟨#[c2, c3]⟩ W.length 0 := ⟨by rw [wide_len h]; show 0 + 2 ≤ k + 4; omega, by rw [StrLaws.subAt_eq]; exact beq_iff_eq.mpr (wide_first h)⟩
  rcases find_whole W ⟨#[c2, c3]⟩ with ⟨_, q⟩ | ⟨i, e, _, q⟩
  · exact absurd at0 (q 0)
  · rcases Nat.eq_zero_or_pos i with rfl | hp
    · exact e
    · exact absurd at0 (q 0 hp)
theorem find_zero (h : IsWide W c0 c1 c2 c3 k) {a b : Nat} (e : Txt.find W ⟨#[a, b]⟩ = 0) : (⟨#[a, b]⟩ : Str) = ⟨#[c2, c3]⟩ := by
  rcases find_whole W ⟨#[a, b]⟩ with ⟨q, _⟩ | ⟨i, e', g, _⟩
  · rw [q] at e; cases e
  · obtain rfl : i = 0 := by omega
    have := g.2
    rw [StrLaws.subAt_eq] at this
    have : (W.cps.toList.drop 0).take 2 = [a, b] := beq_iff_eq.mp this
    rw [wide_first h] at this
    simp only [List.cons.injEq, and_true] at this
    rw [this.1, this.2]
theorem find_nonneg {x y : Str} (h : (Builtin.Str.occurrences x y 0 x.length 1).isEmpty = false) : 0 ≤ Txt.find x y := by
  rcases find_whole x y with ⟨_, q⟩ | ⟨i, e, _, _⟩
  · have : (Builtin.Str.occurrences x y 0 x.length 1).isEmpty = true := (no_iff x y).mpr fun i hi e' => q i ⟨hi, by rw [StrLaws.subAt_eq]; simpa using e'⟩
    rw [h] at this; cases this
  · omega
end
/-! _standart's piece -/
theorem ext_at : ∀ (xs ys : List Nat) (j : Nat), j < ext xs ys → ∃ c, xs[j]? = some c ∧ ys[j]? = some c
  | [], _, _, h => by simp [ext] at h
  | _ :: _, [], _, h => by simp [ext] at h
  | a :: xs, b :: ys, 0, h => by
    unfold ext at h
    split at h
    · rename_i e; exact ⟨a, rfl, by rw [e]; rfl⟩
    · omega
  | a :: xs, b :: ys, j + 1, h => by
    unfold ext at h
    split at h
    · exact ext_at xs ys j (by omega)
    · omega
theorem inner_keep {s1 s2 : Str} {a p : Int} (h2 : ∀ b, 0 ≤ b → lcp s1 s2 a b ≤ 2) : ∀ bs : List Int, (∀ b ∈ bs, 0 ≤ b) → inner s1 s2 a bs (p, 2) = (p, 2)
  | [], _ => rfl
  | b :: bs, hb => by
    have e : inner s1 s2 a (b :: bs) (p, 2) = inner s1 s2 a bs (if (p, (2 : Int)).2 < lcp s1 s2 a b then (a, lcp s1 s2 a b) else (p, 2)) := rfl
    rw [e, if_neg (by have := h2 b (hb b (.head _)); show ¬ (2 : Int) < _; omega)]
    exact inner_keep h2 bs fun b' q => hb b' (.tail _ q)
theorem inner_zero {s1 s2 : Str} (h2 : ∀ b, 0 ≤ b → lcp s1 s2 0 b ≤ 2) : ∀ (bs : List Int) (q : Int), q ≤ 2 → (∀ b ∈ bs, 0 ≤ b) → (q = 2 ∨ ∃ b ∈ bs, lcp s1 s2 0 b = 2) → inner s1 s2 0 bs (0, q) = (0, 2)
  | [], q, _, _, h => by
    rcases h with rfl | ⟨b, hb, _⟩
    · rfl
    · cases hb
  | b :: bs, q, hq, hb, h => by
    have e : inner s1 s2 0 (b :: bs) (0, q) = inner s1 s2 0 bs (if q < lcp s1 s2 0 b then (0, lcp s1 s2 0 b) else (0, q)) := rfl
    have hl := h2 b (hb b (.head _))
    rw [e]
    have hb' : ∀ b' ∈ bs, 0 ≤ b' := fun b' x => hb b' (.tail _ x)
    by_cases g : q < lcp s1 s2 0 b
    · rw [if_pos g]
      refine inner_zero h2 bs _ hl hb' ?_
      rcases h with rfl | ⟨b', hm, hv⟩
      · omega
      · rcases List.mem_cons.mp hm with rfl | hm
        · exact .inl hv
        · exact .inr ⟨b', hm, hv⟩
    · rw [if_neg g]
      refine inner_zero h2 bs _ hq hb' ?_
      rcases h with rfl | ⟨b', hm, hv⟩
      · exact .inl rfl
      · rcases List.mem_cons.mp hm with rfl | hm
        · exact .inl (by omega)
        · exact .inr ⟨b', hm, hv⟩
theorem rangeKs_nonneg {n : Nat} : ∀ b ∈ rangeKs 0 n, 0 ≤ b := by
  intro b hb
  simp only [rangeKs, List.mem_map] at hb
  obtain ⟨i, _, rfl⟩ := hb
  omega
theorem outer_two {s1 s2 : Str} {b : Nat} (h1 : 1 ≤ s1.length) (h2 : ∀ a b, 0 ≤ a → 0 ≤ b → lcp s1 s2 a b ≤ 2) (hb : b < s2.length) (e : lcp s1 s2 0 b = 2) : outer s1 s2 (rangeKs 0 s1.length) = (0, 2) := by
  obtain ⟨n, hn⟩ : ∃ n, s1.length = n + 1 := ⟨s1.length - 1, by omega⟩
  rw [hn, kll_cons]
  unfold outer
  rw [List.foldl_cons, inner_zero (h2 0 · (Int.le_refl _)) _ 0 (by decide) rangeKs_nonneg (.inr ⟨b, kre_mem (by omega) (by omega), e⟩)]
  have hk : ∀ as : List Int, (∀ a ∈ as, 0 ≤ a) → as.foldl (fun p a => inner s1 s2 a (rangeKs 0 s2.length) p) (0, 2) = (0, 2) := by
    intro as
    induction as with
    | nil => intro _; rfl
    | cons a as ih =>
      intro ha
      rw [List.foldl_cons, inner_keep (h2 a · (ha a (.head _))) _ rangeKs_nonneg]
      exact ih fun a' q => ha a' (.tail _ q)
  refine hk _ fun a ha => ?_
  have := kll_cons 0 n
  exact rangeKs_nonneg a (n := n + 1) (by rw [this]; exact .tail _ ha)
section
variable {W : Str} {c0 c1 c2 c3 k : Nat}
theorem ext_two (h : IsWide W c0 c1 c2 c3 k) (hk : 1 ≤ k) (h0 : c0 ≠ 122) (h1 : c1 ≠ 122) (h2 : c2 ≠ 122) (h3 : c3 ≠ 122) (a b : Nat) : ext (W.cps.toList.drop a) (List.drop b [c0, c1, c2, c3]) ≤ 2 ∧ ext (List.drop b [c0, c1, c2, c3]) (W.cps.toList.drop a) ≤ 2 := by
  have noz : ∀ (j c : Nat), [c0, c1, c2, c3][j]? = some c → c ≠ 122 := ne4 h0 h1 h2 h3
  have key : (∀ j, j < 3 → ∃ c, (W.cps.toList.drop a)[j]? = some c ∧ (List.drop b [c0, c1, c2, c3])[j]? = some c) → False := fun q => by
    have g : ∀ j, j < 3 → W.cps.toList[a + j]? ≠ some 122 := fun j hj e => by
      obtain ⟨c, e1, e2⟩ := q j hj
      rw [List.getElem?_drop] at e1 e2
      rw [e] at e1
      cases e1
      exact noz _ _ e2 rfl
    obtain ⟨c, e1, _⟩ := q 2 (by omega)
    rw [List.getElem?_drop] at e1
    have hl := (List.getElem?_eq_some_iff.mp e1).1
    have hw := wide_len h
    rw [Array.length_toList] at hl
    unfold Str.length at hw
    rcases wide_three h hk (i := a) (by omega) with w | w | w
    · exact g 0 (by omega) w
    · exact g 1 (by omega) w
    · exact g 2 (by omega) w
  constructor
  · refine Classical.byContradiction fun hn => key fun j hj => ext_at _ _ j (by omega)
  · refine Classical.byContradiction fun hn => key fun j hj => ?_
    obtain ⟨c, e1, e2⟩ := ext_at _ _ j (show j < ext (List.drop b [c0, c1, c2, c3]) (W.cps.toList.drop a) by omega)
    exact ⟨c, e2, e1⟩
theorem std_wide (h : IsWide W c0 c1 c2 c3 k) (hk : 1 ≤ k) (h0 : c0 ≠ 122) (h1 : c1 ≠ 122) (h2 : c2 ≠ 122) (h3 : c3 ≠ 122) : std W ⟨#[c0, c1, c2, c3]⟩ = ⟨#[c2, c3]⟩ := by
  have hl := wide_len h
  have two := ext_two h hk h0 h1 h2 h3
  have z : W.cps.toList[2]? = some 122 := wide_mid h (by omega) (by omega)
  have e2 : lcp W ⟨#[c0, c1, c2, c3]⟩ 0 ((2 : Nat) : Int) = 2 := by
    have : ext (W.cps.toList.drop 0) (List.drop 2 [c0, c1, c2, c3]) = 2 := by
      rw [List.drop_zero, h]
      simp [ext]
    show ((ext (W.cps.toList.drop 0) (List.drop 2 [c0, c1, c2, c3]) : Nat) : Int) = 2
    rw [this]; rfl
  have o := outer_two (s1 := W) (s2 := ⟨#[c0, c1, c2, c3]⟩) (b := 2) (by omega) (fun a b _ _ => by unfold lcp; have := (two a.toNat b.toNat).1; exact Int.ofNat_le.mpr this) (by show 2 < 4; decide) e2
  unfold std
  rw [o]
  rw [sl_both (by rw [hl]; refine ⟨?_, ?_, ?_⟩ <;> simp <;> omega)]
  show (⟨((W.cps.toList.drop 0).take 2).toArray⟩ : Str) = _
  rw [wide_first h]
theorem std_short (h : IsWide W c0 c1 c2 c3 k) (hk : 1 ≤ k) (h0 : c0 ≠ 122) (h1 : c1 ≠ 122) (h2 : c2 ≠ 122) (h3 : c3 ≠ 122) : std ⟨#[c0, c1, c2, c3]⟩ W = ⟨#[c0, c1]⟩ := by
  have hl := wide_len h
  have two := ext_two h hk h0 h1 h2 h3
  have e2 : lcp ⟨#[c0, c1, c2, c3]⟩ W 0 ((k + 2 : Nat) : Int) = 2 := by
    have : ext (List.drop 0 [c0, c1, c2, c3]) (W.cps.toList.drop (k + 2)) = 2 := by
      rw [wide_last h]
      simp [ext]
    show ((ext (List.drop 0 [c0, c1, c2, c3]) (W.cps.toList.drop (k + 2)) : Nat) : Int) = 2
    rw [this]; rfl
  have o := outer_two (s1 := ⟨#[c0, c1, c2, c3]⟩) (s2 := W) (b := k + 2) (by show 1 ≤ 4; decide) (fun a b _ _ => by unfold lcp; have := (two b.toNat a.toNat).2; exact Int.ofNat_le.mpr this) (by omega) e2
  unfold std
  rw [o]
  rw [sl_both (by show (0 : Int) ≤ 0 ∧ (0 : Int) ≤ 0 + 2 ∧ (0 : Int) + 2 ≤ ((4 : Nat) : Int); decide)]
  rfl
end
end Mine
end
/-! L2 -/
section
open PySem PySem.W PySem.Calls PyProof.Rows
set_option Elab.async false
set_option maxRecDepth 100000
namespace Mine
local macro_rules | `(tactic| k_room) => `(tactic| ((try simp only [depth_under_make, depth_under_kw, depth_in1, depth_deeper, depth_caller] at *); (try dsimp only [ktrTop] at *); omega))
local macro_rules | `(tactic| k_enter) => `(tactic| (first
  | (refine' code_defW ?k1 ?k2 ?k3 ?k5 ?kA ?kF ?kK ?k6 ?k7 ?k8 ?k9 ?kB ?_ ?c2 ?c3 ?c4 ?c5; (case kA => exact rfl); (case kF => exact rfl); (case kK => first | assumption | exact rfl); (case k1 => k_asm); (case k2 => k_asm); (case k3 => k_asm); (case k5 => k_asm); (case k6 => k_is); (case k7 => k_is); (case k8 => k_room); (case k9 => first | exact BindsTo.of_eq rfl | exact binds_K (by k_in) rfl (by k_is) rfl rfl rfl | fail "k_enter: no rule for these arguments"); (case c5 => decide); (case kB => exact locs rfl); (case c2 => exact rfl); (case c3 => exact rfl); (case c4 => exact rfl); k_whole; intro L' h' F' N' B' X' T'; (try dsimp only); (try k_lift B'); (try k_fold))
  | (refine' code_defCW ?k1 ?k2 ?k3 ?k5 ?kA ?kF ?kK ?k6 ?k7 ?k8 ?k9 ?kB ?kD ?_ ?c2 ?c3 ?c4; (case kA => exact rfl); (case kF => exact rfl); (case kK => first | assumption | exact rfl); (case k1 => k_asm); (case k2 => k_asm); (case k3 => k_asm); (case k5 => k_asm); (case k6 => k_is); (case k7 => k_is); (case k8 => k_room); (case k9 => first | exact BindsTo.of_eq rfl | exact binds_K (by k_in) rfl (by k_is) rfl rfl rfl | fail "k_enter: no rule for these arguments"); (case kB => exact rfl); (case kD => decide +kernel); (case c2 => exact rfl); (case c3 => exact rfl); (case c4 => exact rfl); k_whole; intro L' h' tk' cells' F' N' Y' B' X' T'; k_cells Y'; (try dsimp only); (try k_lift B'); (try k_fold))
  | (refine' code_restW ?k1 ?k2 ?k3 ?k5 ?kA ?kF ?kK ?k6 ?k7 ?k8 ?kV ?kP ?kG ?kB ?_ ?c2 ?c3 ?c4 ?c5; (case kA => exact rfl); (case kF => exact rfl); (case kK => first | assumption | exact rfl); (case k1 => k_asm); (case k2 => k_asm); (case k3 => k_asm); (case k5 => k_asm); (case k6 => k_is); (case k7 => k_is); (case k8 => k_room); (case kV => kl_lit); (case kP => exact rfl); (case kG => exact fun _ => rfl); (case kB => exact fun _ => locs rfl); (case c5 => decide); (case c2 => exact rfl); (case c3 => exact rfl); (case c4 => exact rfl); k_whole; intro D' L' h' F' N' B' X' T'; (try dsimp only); (try k_lift B'); (try k_fold))))
local macro_rules | `(tactic| walk_at "LeaveW") => `(tactic| (k_dflt (refine' leaveW_ ?k1 ?k2 ?_; (case k1 => k_asm); (case k2 => k_asm); k_whole); intro kS kN; (try dsimp only)))
local macro_rules | `(tactic| walk_at "exec For Name Name cons nil") => `(tactic| (k_here; (rename Fr _ _ _ _ => lF'); (with_unfolding_all refine' For_base lF' ?_; k_whole)))
local macro_rules | `(tactic| walk_at "pyIter ref") => `(tactic| ((with_reducible show wpAny _ _ (pyIter (Value.ref _)) (fun _ _ => BaseAt _ _ _ _ _ _ _ _ _ _ _ _) _ _); k_dflt (refine' iter_base ?hh ?hx ?hp ?F ?N ?hm (fun I9 l9 => ?_); (case hh => exact rfl); (case hx => exact rfl); (case hp => exact rfl); (case F => k_asm); (case N => k_asm); (case hm => assumption); k_whole)))
local macro_rules | `(tactic| walk_at "BaseRest") => `(tactic| (with_unfolding_all first | (refine BaseRest.succ (fun it' h' tk' hit' F' N' => ?_)) | (refine BaseRest.zero (fun h' tk' F' N' => ?_))))
local macro_rules | `(tactic| walk_at "UnrEnd") => `(tactic| ((with_reducible show UnrEnd _ _ _ _ _ (fun _ _ => BaseRest _ _ _ _ _ _ _ _ _ _ _ _ _ _ _) _); k_dflt ((rename Fr _ _ _ _ => F9); (rename News _ _ _ _ => N9); (rename (∀ (p : Addr × Obj), p ∈ _ → p.1 < _) => l9'); refine' UnrEnd.intro F9 N9 _ (fun p h => .tail _ h) (fun p hp => Nat.ne_of_lt (l9' p hp)) ?_; k_whole)))
theorem isList_of {h : Heap} {D : Addr} {vs : List Value} (e : h.get? D = some (LCg.lst vs)) : h.IsList D vs.toArray := ⟨_, e, rfl, _, rfl⟩
set_option maxHeartbeats 8000000 in
theorem early2 (w : World) (loose : List Str) (mean : ExcName → Option Value) (mg mb : Str → Option Value) (W : Str) (x y : Str) (D : Addr) (t2 u v : Tok)
   (f0 : 0 ≤ Txt.find W x) (f1 : Txt.find W y = 0) (e0 : Txt.find W x = 0 → x = y) :
   Tells 20 w loose mean mg mb 235 [.ref D, .str W t2] (fun s Q => s.heap.get? D = some (LCg.lst [.str x u, .str y v]) ∧ giveS y s Q) := by
  dsimp only [Tells, giveS]
  k_fill
  intros
  rename_i hret
  obtain ⟨hD, hret⟩ := hret
  have hL := isList_of hD
  k_steps
  all_goals (rename_i kS kN; first | exact hret _ _ _ kS | (have e9 := e0 (by omega); rw [e9]; exact hret _ _ _ kS) | (have e9 := e1 (by omega); rw [e9]; exact hret _ _ _ kS))
set_option maxHeartbeats 8000000 in
theorem early3 (w : World) (loose : List Str) (mean : ExcName → Option Value) (mg mb : Str → Option Value) (W : Str) (x z y : Str) (D : Addr) (t2 u z9 v : Tok)
   (f0 : 0 ≤ Txt.find W x) (f2 : 0 ≤ Txt.find W z) (f1 : Txt.find W y = 0) (e0 : Txt.find W x = 0 → x = y) (e1 : Txt.find W z = 0 → z = y) :
   Tells 20 w loose mean mg mb 235 [.ref D, .str W t2] (fun s Q => s.heap.get? D = some (LCg.lst [.str x u, .str z z9, .str y v]) ∧ giveS y s Q) := by
  dsimp only [Tells, giveS]
  k_fill
  intros
  rename_i hret
  obtain ⟨hD, hret⟩ := hret
  have hL := isList_of hD
  k_steps
  all_goals (rename_i kS kN; first | exact hret _ _ _ kS | (have e9 := e0 (by omega); rw [e9]; exact hret _ _ _ kS) | (have e9 := e1 (by omega); rw [e9]; exact hret _ _ _ kS))
end Mine
end
/-! P3 -/
section
open PySem PySem.W PySem.Calls PyProof.Rows
namespace Mine
/-- a letter of 'abcd' -/
theorem item_abcd {i : Int} (h0 : 0 ≤ i) (h1 : i < 4) : ∃ c, 97 ≤ c ∧ c ≤ 100 ∧ Txt.item (Str.ofString "abcd") i = ⟨#[c]⟩ := by
  have : i = 0 ∨ i = 1 ∨ i = 2 ∨ i = 3 := by omega
  rcases this with rfl | rfl | rfl | rfl
  · exact ⟨97, by decide, by decide, by decide +kernel⟩
  · exact ⟨98, by decide, by decide, by decide +kernel⟩
  · exact ⟨99, by decide, by decide, by decide +kernel⟩
  · exact ⟨100, by decide, by decide, by decide +kernel⟩
theorem z_is : Str.ofString "z" = ⟨#[122]⟩ := by decide +kernel
section
variable {prog : Program} {w : World} {A : Around} {E : Value → Shared → Prop} {s : Shared} {t u : Tok} {Q : Value → Shared → Prop}
theorem mul_z {n : Int} (h1 : 1 ≤ n) (h2 : n ≤ 200) (h : ∀ Z t' k, Z.cps.toList = List.replicate n.toNat 122 → Q (.str Z t') { s with toks := k }) :
    wpAny (model prog w) A (binaryOp .Mult (.str (Str.ofString "z") t) (.int n u)) Q E s := by
  rw [z_is]
  refine SB.mul (mulOk_of 16 1048576 (by decide) (by omega) (by omega) (by decide) (by decide)) fun t' k => h _ t' k ?_
  exact mul_one_list _ _
theorem add_one {Z : Str} {c2 c3 k : Nat} (hZ : Z.cps.toList = List.replicate k 122) (hk : k ≤ 200) (h : ∀ Y t' j, Y.cps.toList = c2 :: c3 :: List.replicate k 122 → Q (.str Y t') { s with toks := j }) :
    wpAny (model prog w) A (binaryOp .Add (.str ⟨#[c2, c3]⟩ t) (.str Z u)) Q E s := by
  have hl : Z.length = k := by
    have : Z.cps.toList.length = k := by rw [hZ]; simp
    simpa [Str.length] using this
  refine SB.add (fun t' j => h _ t' j ?_) (by show 2 + Z.length ≤ sizeLine; rw [hl, sizeLine_eq]; omega)
  rw [Str.cps_append, Array.toList_append, hZ]
  rfl
theorem add_two {Y : Str} {c0 c1 c2 c3 k : Nat} (hY : Y.cps.toList = c2 :: c3 :: List.replicate k 122) (hk : k ≤ 200) (h : ∀ W t' j, IsWide W c0 c1 c2 c3 k → Q (.str W t') { s with toks := j }) :
    wpAny (model prog w) A (binaryOp .Add (.str Y t) (.str ⟨#[c0, c1]⟩ u)) Q E s := by
  have hl : Y.length = k + 2 := by
    have : Y.cps.toList.length = k + 2 := by rw [hY]; simp
    simpa [Str.length] using this
  refine SB.add (fun t' j => h _ t' j ?_) (by show Y.length + 2 ≤ sizeLine; rw [hl, sizeLine_eq]; omega)
  unfold IsWide
  rw [Str.cps_append, Array.toList_append, hY]
  rfl
end
end Mine
end
/-! J2 -/
section
open PySem PySem.W PySem.W.X PyProof.Rows
set_option Elab.async false
set_option maxRecDepth 100000
namespace Mine
section
local macro_rules | `(tactic| x_close) => `(tactic| (((rename (∀ (_ : Tok) (_ : Heap) (_ : Nat), Heap.StaysIn _ _ → _) => q'); with_unfolding_all exact q' _ _ _ (fun _ _ e => e))))
set_option maxHeartbeats 8000000 in
/-- ''.join of a list of four signs -/
theorem joinL4 (w : World) (h0 : Heap) (d : Drawn) (t : Nat) (os : OsState) (g : Array GenState) (KX : (Mine.hd.heap_39 w.params).In h0)
   (dp un : Nat) (gd : Option (List Code)) (cn : Str) (cs : Scope) (L a : Addr) (ccd : Value) (cl : List (Str × Addr)) (outer : List Env)
   (hd : dp + 5 < recursionLimit) (hu : un + 50 < cLine) (T : Addr) (n : Nat) (e : Tok)
   (c0 c1 c2 c3 u0 u1 u2 u3 : Nat)
   (hT : h0.get? T = some { cls := .type "list", data := .seq #[.str ⟨#[c0]⟩ u0, .str ⟨#[c1]⟩ u1, .str ⟨#[c2]⟩ u2, .str ⟨#[c3]⟩ u3] n })
   (Q : Value → Shared → Prop) (E : Value → Shared → Prop) 
   (hQ : ∀ t' h' tk, h0.StaysIn h' → Q (.str ⟨#[c0, c1, c2, c3]⟩ t') ⟨h', g, d, tk, os⟩) :
   wpAny (model PySem.Challenge.rw_fq5032_01.row.prog w) (ktrTop dp un gd cn cs L a ccd cl outer) (call (.builtin "str.join") [.str (Str.ofString "") e, .ref T]) Q E ⟨h0, g, d, t, os⟩ := by
  x_run
end
end Mine
end
/-! CW -/
section
open PySem PySem.W PySem.Calls PyProof.Rows
set_option Elab.async false
set_option maxRecDepth 100000
namespace Mine
/-- a small letter out of a, b, c, d -/
def Four (c : Nat) : Prop := 97 ≤ c ∧ c ≤ 100
theorem Four.ne {c : Nat} (h : Four c) : c ≠ 122 := by have := h.2; omega
theorem ok2 {a b : Nat} (ha : Four a) (hb : Four b) : PyData.strOk ⟨#[a, b]⟩ = true := by
  have := ha.2; have := hb.2
  unfold PyData.strOk
  simp
  omega
section
variable {w : World} {loose : List Str} {mean : ExcName → Option Value} {mg mb : Str → Option Value} {W : Str} {c0 c1 c2 c3 k : Nat} {t1 t2 : Tok}
theorem piecesW (h : IsWide W c0 c1 c2 c3 k) (hk : 1 ≤ k) (l0 : Four c0) (l1 : Four c1) (l2 : Four c2) (l3 : Four c3) :
    Tells 20 w loose mean mg mb 228 [.str ⟨#[c0, c1, c2, c3]⟩ t1, .str W t2] (fun s Q => (no W ⟨#[c1, c2]⟩ = true → giveL2 ⟨#[c0, c1]⟩ ⟨#[c2, c3]⟩ s Q) ∧ (no W ⟨#[c1, c2]⟩ = false → giveL3 ⟨#[c0, c1]⟩ ⟨#[c1, c2]⟩ ⟨#[c2, c3]⟩ s Q)) := by
  intro dp un gd cn cs a ccd cl outer A₀ base h₀ L m s Q E B F X T hc hd hu hr
  cases y : no W ⟨#[c1, c2]⟩ with
  | true => exact pieces2 w loose mean mg mb W c0 c1 c2 c3 t1 t2 (wide_no4 h hk l0.ne l1.ne l2.ne l3.ne) (wide_no3 h hk l0.ne l1.ne l2.ne) (wide_no3 h hk l1.ne l2.ne l3.ne) (wide_end h) (wide_begin h) y (ok2 l0 l1) (ok2 l1 l2) (ok2 l2 l3) dp un gd cn cs a ccd cl outer A₀ base h₀ L m s Q E B F X T hc hd hu (hr.1 y)
  | false => exact pieces3 w loose mean mg mb W c0 c1 c2 c3 t1 t2 (wide_no4 h hk l0.ne l1.ne l2.ne l3.ne) (wide_no3 h hk l0.ne l1.ne l2.ne) (wide_no3 h hk l1.ne l2.ne l3.ne) (wide_end h) (wide_begin h) y (ok2 l0 l1) (ok2 l1 l2) (ok2 l2 l3) dp un gd cn cs a ccd cl outer A₀ base h₀ L m s Q E B F X T hc hd hu (hr.2 y)
theorem earlyW2 {D : Addr} {u v : Tok} (h : IsWide W c0 c1 c2 c3 k) : Tells 20 w loose mean mg mb 235 [.ref D, .str W t2] (fun s Q => s.heap.get? D = some (LCg.lst [.str ⟨#[c0, c1]⟩ u, .str ⟨#[c2, c3]⟩ v]) ∧ giveS ⟨#[c2, c3]⟩ s Q) :=
  early2 w loose mean mg mb W _ _ D t2 u v (find_nonneg (wide_end h)) (find_begin h) (find_zero h)
theorem earlyW3 {D : Addr} {u z v : Tok} (h : IsWide W c0 c1 c2 c3 k) (y : no W ⟨#[c1, c2]⟩ = false) : Tells 20 w loose mean mg mb 235 [.ref D, .str W t2] (fun s Q => s.heap.get? D = some (LCg.lst [.str ⟨#[c0, c1]⟩ u, .str ⟨#[c1, c2]⟩ z, .str ⟨#[c2, c3]⟩ v]) ∧ giveS ⟨#[c2, c3]⟩ s Q) :=
  early3 w loose mean mg mb W _ _ _ D t2 u z v (find_nonneg (wide_end h)) (find_nonneg y) (find_begin h) (find_zero h) (find_zero h)
theorem custW1 {self : Addr} (h : IsWide W c0 c1 c2 c3 k) (hk : 1 ≤ k) (hk2 : k ≤ 200) (l0 : Four c0) (l1 : Four c1) (l2 : Four c2) (l3 : Four c3) : TellsC 20 w loose mean mg mb 204 [.ref self, .str W t1, .str ⟨#[c0, c1, c2, c3]⟩ t2] (giveS ⟨#[c0, c1]⟩) :=
  custWS w loose mean mg mb self W (by rw [wide_len h]; omega) (by rw [wide_len h]; omega) c0 c1 c2 c3 t1 t2 (wide_no4 h hk l0.ne l1.ne l2.ne l3.ne) (wide_no3 h hk l0.ne l1.ne l2.ne) (wide_no3 h hk l1.ne l2.ne l3.ne) (wide_end h) short4 short3 short3' short2
theorem custW2 {self : Addr} (h : IsWide W c0 c1 c2 c3 k) (hk : 1 ≤ k) (hk2 : k ≤ 200) (l0 : Four c0) (l1 : Four c1) (l2 : Four c2) (l3 : Four c3) : TellsC 20 w loose mean mg mb 204 [.ref self, .str ⟨#[c0, c1, c2, c3]⟩ t2, .str W t1] (giveS ⟨#[c0, c1]⟩) :=
  custSW w loose mean mg mb self W (by rw [wide_len h]; omega) (by rw [wide_len h]; omega) c0 c1 c2 c3 t1 t2 (wide_no4 h hk l0.ne l1.ne l2.ne l3.ne) (wide_no3 h hk l0.ne l1.ne l2.ne) (wide_no3 h hk l1.ne l2.ne l3.ne) (wide_end h) short4 short3 short3' short2
theorem stdW1 {news : List (Addr × Obj)} {self : Addr} (h : IsWide W c0 c1 c2 c3 k) (hk : 1 ≤ k) (hk2 : k ≤ 200) (l0 : Four c0) (l1 : Four c1) (l2 : Four c2) (l3 : Four c3) :
    CodeClaim 5 w loose mean mg mb 197 news [.ref self, .str W t1, .str ⟨#[c0, c1, c2, c3]⟩ t2] ⟨#[c2, c3]⟩ := by
  rw [← std_wide h hk l0.ne l1.ne l2.ne l3.ne]
  exact std_code w loose mean mg mb news self W _ t1 t2 (by rw [wide_len h]; omega) (by show 4 < 1000000; decide)
theorem stdW2 {news : List (Addr × Obj)} {self : Addr} (h : IsWide W c0 c1 c2 c3 k) (hk : 1 ≤ k) (hk2 : k ≤ 200) (l0 : Four c0) (l1 : Four c1) (l2 : Four c2) (l3 : Four c3) :
    CodeClaim 5 w loose mean mg mb 197 news [.ref self, .str ⟨#[c0, c1, c2, c3]⟩ t2, .str W t1] ⟨#[c0, c1]⟩ := by
  rw [← std_short h hk l0.ne l1.ne l2.ne l3.ne]
  exact std_code w loose mean mg mb news self _ W t2 t1 (by show 4 < 1000000; decide) (by rw [wide_len h]; omega)
end
end Mine
end
/-! M2 -/
section
open PySem PySem.W PySem.W.X PyProof.Rows
set_option Elab.async false
set_option maxRecDepth 100000
namespace Mine
section
local macro_rules | `(tactic| x_close) => `(tactic| ((rename (∀ (_ : Heap) (_ : Nat), Heap.StaysIn _ _ → _) => q'); exact q' _ _ (mem_stays (by assumption))))
set_option maxHeartbeats 8000000 in
/-- all of a tuple of two texts that are not empty -/
theorem allT (w : World) (h0 : Heap) (d : Drawn) (t : Nat) (os : OsState) (g : Array GenState) (KX : (Mine.hd.heap_39 w.params).In h0)
   (dp un : Nat) (gd : Option (List Code)) (cn : Str) (cs : Scope) (L a : Addr) (ccd : Value) (cl : List (Str × Addr)) (outer : List Env)
   (hd : dp + 5 < recursionLimit) (hu : un + 50 < cLine) (A B : Str) (hA : 1 ≤ A.length) (hA2 : A.length ≤ 1000) (hB : 1 ≤ B.length) (hB2 : B.length ≤ 1000) (T : Addr) (n : Nat)
   (t1 t2 : Nat) 
   (hT : h0.get? T = some { cls := .type "tuple", data := .seq #[.str A t1, .str B t2] n })
   (Q : Value → Shared → Prop) (E : Value → Shared → Prop) 
   (hQ : ∀ h' tk, h0.StaysIn h' → Q (.bool true) ⟨h', g, d, tk, os⟩) :
   wpAny (model PySem.Challenge.rw_fq5032_01.row.prog w) (ktrTop dp un gd cn cs L a ccd cl outer) (call (.builtin "all") [.ref T]) Q E ⟨h0, g, d, t, os⟩ := by
  x_run
end
end Mine
end
/-! ST -/
section
open PySem PySem.W PySem.Calls PyProof.Rows
set_option Elab.async false
set_option maxRecDepth 100000
namespace Mine
section
variable {M : Model} {A : Around} {E : Value → Shared → Prop} {s : Shared} {env : Env} {pos p apos : Pos} {Q : Value → Shared → Prop} {e o : Expr} {name : Str} {K : Frag} {h₀ : Heap} {q g : Addr} {self : Value}
/-- o.name(*xs) -/
theorem methodCall_S (h : wpAny M A (eval o env) (fun ov s₁ => wpAny M A (getAttr ov name true) (fun f s₂ => wpAny M A (callWith pos f [] (backTo pos (starEach [.Starred e p] env)) []) Q E s₂) E s₁) E s)
    (he : eval (.Call (.Attribute o name apos) [.Starred e p] [] pos) env = (do
      let ov ← eval o env
      standAt apos.atName
      let (f, first) ← holding [ov] (do pure (← getAttr ov name true, []))
      callWith pos f first (backTo pos (starEach [.Starred e p] env)) []) := by rfl) :
    wpAny M A (eval (.Call (.Attribute o name apos) [.Starred e p] [] pos) env) Q E s := by
  rw [he]
  refine wpAny_bind (wpAny_mono h (fun ov s₁ h₁ => wpAny_bind (wpAny_standAt (wpAny_bind (wpAny_holding (wpAny_bind (wpAny_mono h₁ (fun fx s₂ h₂ => wpAny_pure ?_) fun _ _ x => x)))))) fun _ _ x => x)
  exact h₂
/-- a bound method called with *xs -/
theorem callWith_MS {L : Addr} {news : List (Addr × Obj)} (_X : K.In h₀) (_N : News h₀ L s.heap news) (_q : (q, methodObj (.ref g) self) ∈ news) (hf : fnIn K g = true) (h : wpAny M A (eval e env) (fun v s₁ => StarOf M A E v (fun vs s₂ => MethP K q g self s₂.heap ∧ wpAny M A (call (.ref q) vs) Q E s₂) s₁) E s)
    (he : starEach [.Starred e p] env = [(true, eval e env)] := by rfl) :
    wpAny M A (callWith pos (.ref q) [] (backTo pos (starEach [.Starred e p] env)) []) Q E s := by
  rw [he]
  exact ks_call rfl (keeps_M hf) (ks_lone h)
end
/-- a fresh object that a call made joins the caller's ledger -/
theorem news_fresh {h₀ g h' : Heap} {L a : Addr} {m : Str → Option Value} {news : List (Addr × Obj)} {o : Obj} (F : Fr h₀ L g m) (N : News h₀ L h' news) (l : g.get? a = none) (e : h'.get? a = some o) : News h₀ L h' ((a, o) :: news) := fun p hp => by
  rcases List.mem_cons.mp hp with rfl | hp
  · refine ⟨e, fun q => ?_, ?_⟩
    · obtain ⟨oL, _, _, hL, _⟩ := F.ns
      have q : a = L := q
      rw [q, hL] at l
      cases l
    · cases q : h₀.get? a with
      | none => rfl
      | some o' =>
        have q : g.get? a = some o' := F.keep _ _ q
        rw [q] at l; cases l
  · exact N p hp
theorem news_two {h₀ h : Heap} {L x y : Addr} {o p : Obj} {l : List (Addr × Obj)} (N : News h₀ L h l) (h1 : (x, o) ∈ l) (h2 : (y, p) ∈ l) : News h₀ L h ((x, o) :: (y, p) :: l) := fun q hq => by
  rcases List.mem_cons.mp hq with rfl | hq
  · exact N _ h1
  · rcases List.mem_cons.mp hq with rfl | hq
    · exact N _ h2
    · exact N _ hq
theorem news_rest {h₀ h : Heap} {L : Addr} {p q : Addr × Obj} {l : List (Addr × Obj)} (N : News h₀ L h (p :: q :: l)) : News h₀ L h l := fun r hr => N r (.tail _ (.tail _ hr))
end Mine
end
/-! M3 -/
section
open PySem PySem.W PySem.W.X PyProof.Rows
set_option Elab.async false
set_option maxRecDepth 100000
namespace Mine
section
local macro_rules | `(tactic| x_close) => `(tactic| ((rename (∀ (_ : Addr) (_ : Heap) (_ : Nat) (_ : Nat), Heap.StaysIn _ _ → _) => q'); (rename Mem _ _ _ _ => D'); exact q' _ _ _ _ (mem_stays D') (D'.nw _ (by repeat (first | exact List.Mem.head _ | apply List.Mem.tail))).2 (D'.nw _ (by repeat (first | exact List.Mem.head _ | apply List.Mem.tail))).1))
set_option maxHeartbeats 8000000 in
/-- self._get_sequences(a, b) by the bound method: a new list of both -/
theorem getSeq (w : World) (h0 : Heap) (d : Drawn) (t : Nat) (os : OsState) (g : Array GenState) (KX : (Mine.hd.heap_39 w.params).In h0)
   (gd : Option (List Code)) (cn : Str) (cs : Scope) (L a : Addr) (ccd : Value) (cl : List (Str × Addr)) (outer : List Env)
   (A B : Str) (q x dx : Addr) 
   (t1 t2 ta tb tc : Nat) 
   (hq : h0.get? q = some { cls := .type "method", data := .fields #[.ref 108, .ref x] })
   (hx : h0.get? x = some { cls := .ref 221, dict := some dx, data := .plain })
   (hdx : h0.get? dx = some { cls := .type "dict", data := .dict #[{ hash := PyData.keyHash w.params (Str.ofString "qval"), key := .str (Str.ofString "qval") ta, val := .int 1 tb }, { hash := PyData.keyHash w.params (Str.ofString "external"), key := .str (Str.ofString "external") tc, val := .bool true }] 2 })
   (Q : Value → Shared → Prop) (E : Value → Shared → Prop) 
   (hQ : ∀ S h' tk n, h0.StaysIn h' → h0.get? S = none → h'.get? S = some { cls := .type "list", data := .seq #[.str A t1, .str B t2] n } → Q (.ref S) ⟨h', g, d, tk, os⟩) :
   wpAny (model PySem.Challenge.rw_fq5032_01.row.prog w) (ktrTop 303 10 gd cn cs L a ccd cl outer) (call (.ref q) [.str A t1, .str B t2]) Q E ⟨h0, g, d, t, os⟩ := by
  x_run
end
end Mine
end
/-! MP -/
section
open PySem PySem.W PySem.Calls PyProof.Rows
set_option Elab.async false
set_option maxRecDepth 100000
set_option maxHeartbeats 1000000
namespace Mine
theorem map_slot_next : Slot "map" "__next__" "map.__next__" :=
  .of (owner := "map") (n := "__next__") (by rw [typeLookup_type, builtinLookup_eq_fast]; kernel_rfl) (by decide +kernel) (by decide +kernel) (by decide +kernel)
    (by first | exact .inl (by decide +kernel) | exact .inr (by decide +kernel)) (by rw [isSubtype_type]; kernel_rfl)
theorem map_entry_next : entryFor table "map.__next__" = some Builtin.«map.__next__» := entryFor_of_tree (by kernel_rfl)
theorem map_owner : Manifest.owners.lookup (String.ofList ['p', 'a', 'm'].reverse) = some Manifest.sig_map := by kernel_rfl
theorem map_args_next (a : Value) : argsOk "map.__next__" ⟨[a], []⟩ := by
  unfold argsOk; rw [signature?_of (id := "map.__next__") (n := ['_', '_', 't', 'x', 'e', 'n', '_', '_']) (o := ['p', 'a', 'm']) (by kernel_rfl) map_owner]; kernel_rfl
theorem map_slot_iter : Slot "map" "__iter__" "map.__iter__" :=
  .of (owner := "map") (n := "__iter__") (by rw [typeLookup_type, builtinLookup_eq_fast]; kernel_rfl) (by decide +kernel) (by decide +kernel) (by decide +kernel)
    (by first | exact .inl (by decide +kernel) | exact .inr (by decide +kernel)) (by rw [isSubtype_type]; kernel_rfl)
theorem map_entry_iter : entryFor table "map.__iter__" = some Builtin.«dict_keyiterator.__iter__» :=
  entryFor_alias (id' := "dict_keyiterator.__iter__") (by kernel_rfl) (by first | rfl | decide +kernel | (unfold String.splitOn; simp +decide [String.splitOnAux])) (by decide +kernel) (by kernel_rfl)
theorem map_args_iter (a : Value) : argsOk "map.__iter__" ⟨[a], []⟩ := by
  unfold argsOk; rw [signature?_of (id := "map.__iter__") (n := ['_', '_', 'r', 'e', 't', 'i', '_', '_']) (o := ['p', 'a', 'm']) (by kernel_rfl) map_owner]; kernel_rfl
/-- map(len, a list), i items taken -/
structure MapAt (h : Heap) (mp TI it S : Addr) (vs : List Value) (i : Nat) : Prop where
  top : h.get? mp = some { cls := .type "map", data := .fields #[.ref TI, .builtin "len"] }
  its : ∃ k, h.get? TI = some { cls := .type "tuple", data := .seq #[.ref it] k }
  at_ : h.IsListIter it S i
  items : h.IsList S vs.toArray
theorem MapAt.keep {h h' : Heap} {mp TI it S : Addr} {vs : List Value} {i : Nat} (H : MapAt h mp TI it S vs i) (k : ∀ b ∈ [mp, TI, it, S], ∀ o, h.get? b = some o → h'.get? b = some o) : MapAt h' mp TI it S vs i := by
  refine ⟨k _ (by simp) _ H.top, H.its.imp fun _ e => k _ (by simp) _ e, ?_, ?_⟩
  · obtain ⟨o, e, r⟩ := H.at_
    exact ⟨o, k _ (by simp) _ e, r⟩
  · obtain ⟨o, e, r⟩ := H.items
    exact ⟨o, k _ (by simp) _ e, r⟩
section
variable {prog : Program} {w : World} {A : Around} {E : Value → Shared → Prop} {s : Shared} {mp TI it S : Addr} {vs : List Value} {i : Nat}
theorem pyIter_map {Q : Value → Shared → Prop} (H : MapAt s.heap mp TI it S vs i) (h : Q (.ref mp) s) : wpAny (model prog w) A (pyIter (.ref mp)) Q E s := by
  have hT : s.TypeIs (.ref mp) "map" := ⟨_, H.top, rfl⟩
  refine wpAny_pyIter_slot hT map_slot_iter (wpAny_call_entry map_slot_iter hT map_entry_iter ?_ (map_args_iter _))
  show wpAny _ _ (ret (.ref mp)) _ _ s
  exact wpAny_pure ⟨_, rfl, "map", _, hT, map_slot_next.lookup, h⟩
theorem next_map {Q : Option Value → Shared → Prop} (H : MapAt s.heap mp TI it S vs i)
    (h : wpAny (model prog w) A.in1 (Builtin.«map.__next__» ⟨[.ref mp], []⟩) (fun fin s' => ∃ v, fin = .done (.ret v) ∧ Q (some v) s') (fun e s' => ∃ a o, e = .ref a ∧ s'.heap.get? a = some o ∧ o.cls = .type "StopIteration" ∧ Q none s') s) :
    wpAny (model prog w) A (pyNext (.ref mp)) Q E s := by
  have hT : s.TypeIs (.ref mp) "map" := ⟨_, H.top, rfl⟩
  unfold pyNext
  refine wpAny_bind (wpAny_attempt (wpAny_callSpecial?_slot (name := Str.ofString "__next__") hT map_slot_next (wpAny_call_entry map_slot_next hT map_entry_next ?_ (map_args_next _))))
  refine wpAny_mono h (fun fin s' hq => ?_) fun e s' he => ?_
  · obtain ⟨v, e, hq⟩ := hq
    exact ⟨v, e, wpAny_pure hq⟩
  · obtain ⟨a, o, rfl, ho, hc, hq⟩ := he
    exact wpAny_bind (wpAny_isInstance (T := "StopIteration") (b := true) ⟨o, ho, hc⟩ isSubtype_stop (wpAny_pure hq))
/-- the next length -/
theorem map_item {x : Str} {t : Tok} {Q : Value → Shared → Prop} (hne : it ≠ mp ∧ it ≠ TI ∧ it ≠ S) (H : MapAt s.heap mp TI it S vs i) (hx : vs[i]? = some (.str x t)) (hf : ¬ (x.length : Int) ≥ 2 ^ 63)
    (hQ : ∀ h' tk t', MapAt h' mp TI it S vs (i + 1) → Heap.SameBut it s.heap h' → s.toks ≤ tk → Q (.int x.length t') { s with heap := h', toks := tk }) :
    wpAny (model prog w) A (Builtin.«map.__next__» ⟨[.ref mp], []⟩) (fun fin s' => ∃ v, fin = .done (.ret v) ∧ Q v s') E s := by
  show wpAny _ _ (field (.ref mp) 0 >>= _) _ _ _
  refine wpAny_bind (wpAny_field H.top rfl (x := .ref TI) rfl ?_)
  obtain ⟨kk, Hits⟩ := H.its
  refine wpAny_bind (wpAny_seqItems Hits rfl ?_)
  dsimp only
  refine wpAny_bind ?_
  show wpAny _ _ (forIn #[Value.ref it] #[] _) _ _ _
  rw [show (#[Value.ref it] : Array Value) = [Value.ref it].toArray from rfl, List.forIn_toArray, List.forIn_cons]
  refine wpAny_bind (wpAny_bind (wpAny_holding (wpAny_nextOf_list_item H.at_ H.items (x := .str x t) (by simpa using hx) fun h₁ hit hs => ?_)))
  refine wpAny_pure ?_
  dsimp only
  rw [List.forIn_nil]
  refine wpAny_pure ?_
  have up : ∀ b o, b ≠ it → s.heap.get? b = some o → h₁.get? b = some o := fun b o hb e => (hs.2 b hb).trans e
  have H₁ : MapAt h₁ mp TI it S vs (i + 1) := ⟨up _ _ hne.1.symm H.top, ⟨kk, up _ _ hne.2.1.symm Hits⟩, hit, by obtain ⟨o, e, r⟩ := H.items; exact ⟨o, up _ _ hne.2.2.symm e, r⟩⟩
  refine wpAny_bind (wpAny_field H₁.top rfl (x := .builtin "len") rfl ?_)
  refine wpAny_bind (wpAny_holding (P.len_str hf ?_))
  refine wpAny_bind (wpAny_letGo ?_)
  exact wpAny_pure ⟨_, rfl, hQ h₁ _ _ H₁ hs (by show s.toks ≤ s.toks + 1 + 1; omega)⟩
theorem map_end (hh : A.handled = none) {Q : PySem.Fin → Shared → Prop} (H : MapAt s.heap mp TI it S vs i) (hx : vs[i]? = none)
    (hE : ∀ h' e, Heap.ExtBut it s.heap h' → (∃ o, h'.get? e = some o ∧ o.cls = .type "StopIteration") → E (.ref e) { s with heap := h' }) :
    wpAny (model prog w) A (Builtin.«map.__next__» ⟨[.ref mp], []⟩) Q E s := by
  show wpAny _ _ (field (.ref mp) 0 >>= _) _ _ _
  refine wpAny_bind (wpAny_field H.top rfl (x := .ref TI) rfl ?_)
  obtain ⟨kk, Hits⟩ := H.its
  refine wpAny_bind (wpAny_seqItems Hits rfl ?_)
  dsimp only
  refine wpAny_bind ?_
  show wpAny _ _ (forIn #[Value.ref it] #[] _) _ _ _
  rw [show (#[Value.ref it] : Array Value) = [Value.ref it].toArray from rfl, List.forIn_toArray, List.forIn_cons]
  exact wpAny_bind (wpAny_bind (wpAny_holding (wpAny_nextOf_list_end hh H.at_ H.items (by simpa using hx) hE)))
theorem stop_of {h' : Heap} {e : Addr} {Q : Option Value → Shared → Prop} {s' : Shared} (_ : True) (h : ∃ o, h'.get? e = some o ∧ o.cls = .type "StopIteration") (es : s'.heap = h') (q : Q none s') :
    ∃ a o, Value.ref e = .ref a ∧ s'.heap.get? a = some o ∧ o.cls = .type "StopIteration" ∧ Q none s' := by
  obtain ⟨o, ho, hc⟩ := h
  exact ⟨e, o, rfl, by rw [es]; exact ho, hc, q⟩
/-- the lengths of two texts -/
def lenOf (a b : Str) : Nat → Int
  | 0 => a.length
  | _ => b.length
theorem small_len {x : Str} (h : x.length ≤ 1000) : ¬ (x.length : Int) ≥ 2 ^ 63 := by
  have : (2 : Int) ^ 63 = 9223372036854775808 := by decide
  rw [this]
  omega
theorem map_turn (hne : it ≠ mp ∧ it ≠ TI ∧ it ≠ S) {x : Str} {t : Tok} {y : Int} {Q : Option Value → Shared → Prop} (H : MapAt s.heap mp TI it S vs i) (hx : x.length ≤ 1000) (e : vs[i]? = some (.str x t)) (el : ((x.length : Nat) : Int) = y)
    (hQ : ∀ v h' tk, (∃ t, v = .int y t) → MapAt h' mp TI it S vs (i + 1) → (∀ b o, b ∉ [it] → s.heap.get? b = some o → h'.get? b = some o) → Q (some v) { s with heap := h', toks := tk }) : wpAny (model prog w) A (pyNext (.ref mp)) Q E s := by
  refine next_map H (map_item (A := A.in1) hne H e (small_len hx) fun h' tk t' H' hs htk => ?_)
  exact hQ _ h' tk ⟨t', by rw [el]⟩ H' fun c o hc e' => (hs.2 c fun q => hc (List.mem_singleton.mpr q)).trans e'
theorem map_stop (hh : A.handled = none) {Q : Option Value → Shared → Prop} (H : MapAt s.heap mp TI it S vs i) (hx : vs[i]? = none)
    (hQ : ∀ h' tk, (∀ b o, b ∉ [it] → s.heap.get? b = some o → h'.get? b = some o) → Q none { s with heap := h', toks := tk }) : wpAny (model prog w) A (pyNext (.ref mp)) Q E s := by
  refine next_map H (map_end (A := A.in1) hh H hx fun h' e he hs => ?_)
  obtain ⟨o, ho, hc⟩ := hs
  exact ⟨e, o, rfl, ho, hc, hQ h' s.toks fun c o hc e' => he c o (fun q => hc (List.mem_singleton.mpr q)) e'⟩
theorem mapWalks (hh : A.handled = none) (hne : it ≠ mp ∧ it ≠ TI ∧ it ≠ S) {a b : Str} {t1 t2 : Tok} (ha : a.length ≤ 1000) (hb : b.length ≤ 1000) :
    Walks prog w A mp [mp, TI, it, S] [it] 2 (fun i v => ∃ t, v = .int (lenOf a b i) t) (fun i h => MapAt h mp TI it S [.str a t1, .str b t2] i) where
  sub := by simp
  frame := fun i h h' H k => H.keep k
  item := fun i s Q E hi H hQ => by
    rcases (show i = 0 ∨ i = 1 by omega) with rfl | rfl
    · exact map_turn hne H ha rfl rfl hQ
    · exact map_turn hne H hb rfl rfl hQ
  done := fun s Q E H hQ => map_stop hh H rfl hQ
  self := fun i s Q E H hQ => pyIter_map H hQ
/-- the map stands, and all that stood before it -/
def MapNow (h₀ : Heap) (L : Addr) (m : Str → Option Value) (news : List (Addr × Obj)) (h' : Heap) (mp : Addr) (a b : Str) : Prop :=
  ∃ hOld TI it S t1 t2, Fr h₀ L hOld m ∧ News h₀ L hOld news ∧ hOld.StaysIn h' ∧ hOld.get? it = none ∧ (it ≠ mp ∧ it ≠ TI ∧ it ≠ S) ∧ MapAt h' mp TI it S [.str a t1, .str b t2] 0
theorem mapNow_of {h₀ hOld h' : Heap} {L : Addr} {m : Str → Option Value} {news : List (Addr × Obj)} {a b : Str} {mp TI it S : Addr} {t1 t2 : Tok} {n k : Nat} (F : Fr h₀ L hOld m) (N : News h₀ L hOld news)
    (hS : hOld.get? S = some { cls := .type "list", data := .seq #[.str a t1, .str b t2] n }) (kS : hOld.StaysIn h') (g1 : h'.get? mp = some { cls := .type "map", data := .fields #[.ref TI, .builtin "len"] })
    (g2 : h'.get? TI = some { cls := .type "tuple", data := .seq #[.ref it] k }) (g3 : h'.get? it = some { cls := .type "list_iterator", data := .fields #[.ref S, .int 0 0] }) (fr : hOld.get? it = none) (od : [mp, TI, it].Pairwise (· > ·)) :
    MapNow h₀ L m news h' mp a b := by
  simp only [List.pairwise_cons, List.mem_cons, List.not_mem_nil, or_false] at od
  refine ⟨hOld, TI, it, S, t1, t2, F, N, kS, fr, ⟨?_, ?_, ?_⟩, g1, ⟨k, g2⟩, ⟨_, g3, rfl, rfl⟩, ⟨_, kS _ _ hS, rfl, n, rfl⟩⟩
  · exact Nat.ne_of_lt (od.1 it (.inr rfl))
  · exact Nat.ne_of_lt (od.2.1 it rfl)
  · intro q
    rw [q, hS] at fr
    cases fr
theorem fr_stays' {h₀ h h' : Heap} {L : Addr} {m : Str → Option Value} (F : Fr h₀ L h m) (k : h.StaysIn h') : Fr h₀ L h' m := by
  obtain ⟨oL, a1, a2, hL, a3⟩ := F.ns
  exact ⟨⟨oL, a1, a2, k _ _ hL, a3⟩, fun b o e => k _ _ (F.keep b o e), F.above⟩
theorem max_map (hh : A.handled = none) {h₀ : Heap} {L : Addr} {m : Str → Option Value} {news : List (Addr × Obj)} {a b : Str} {Q : Value → Shared → Prop} (ha : a.length ≤ 1000) (hb : b.length ≤ 1000) (H : MapNow h₀ L m news s.heap mp a b)
    (hQ : ∀ h' t' tk (M : Int), Fr h₀ L h' m → News h₀ L h' news → (a.length : Int) ≤ M → (b.length : Int) ≤ M → (M = a.length ∨ M = b.length) → Q (.int M t') { s with heap := h', toks := tk }) :
    wpAny (model prog w) A (call (.builtin "max") [.ref mp]) Q E s := by
  obtain ⟨hOld, TI, it, S, t1, t2, F, N, kS, fr, hne, H⟩ := H
  have W := (mapWalks (prog := prog) (w := w) (A := A.in1) (t1 := t1) (t2 := t2) hh hne ha hb).toS
  refine call_max_walkS (W.self 0 _ _ _ H ⟨mp, _, _, _, _, _, _, _, rfl, W, H, fun c hc => ?_, by decide, CmpOf.ints_gt (lenOf a b) (fun i v h => h), fun v s' hv hm => ?_⟩)
  · simp only [List.mem_cons, List.not_mem_nil, or_false] at hc
    rcases hc with rfl | rfl | rfl | rfl
    · exact Heap.lt_size H.top
    · obtain ⟨kk, e⟩ := H.its; exact Heap.lt_size e
    · obtain ⟨o, e, _⟩ := H.at_; exact Heap.lt_size e
    · obtain ⟨o, e, _⟩ := H.items; exact Heap.lt_size e
  · obtain ⟨t, rfl⟩ := hv
    have hb := argBest_gt (lenOf a b) 1
    have kS' : hOld.StaysIn s'.heap := fun c o e => hm.heap c o (fun q => by
      rw [List.mem_singleton] at q
      rw [q, fr] at e; cases e) (kS c o e)
    have es : s' = { s with heap := s'.heap, toks := s'.toks } := by
      have h1 := hm.gens
      have h2 := hm.drawn
      have h3 := hm.os
      cases s'
      cases s
      simp only at h1 h2 h3
      subst h1 h2 h3
      rfl
    rw [es]
    refine hQ _ t _ _ (fr_stays' F kS') (fun p hp => ⟨kS' _ _ (N p hp).1, (N p hp).2⟩) (hb.2 0 (by omega)) (hb.2 1 (by omega)) ?_
    show lenOf a b (argBest (fun i j => decide (lenOf a b i > lenOf a b j)) 1) = _ ∨ _
    have := hb.1
    generalize argBest (fun i j => decide (lenOf a b i > lenOf a b j)) 1 = j at this
    match j, this with
    | 0, _ => exact .inl rfl
    | 1, _ => exact .inr rfl
end
end Mine
end
/-! M4 -/
section
open PySem PySem.W PySem.W.X PyProof.Rows
set_option Elab.async false
set_option maxRecDepth 100000
namespace Mine
section
local macro_rules | `(tactic| x_close) => `(tactic| ((rename (∀ (_ : Addr) (_ : Addr) (_ : Addr) (_ : Heap) (_ : Nat) (_ : Nat), Heap.StaysIn _ _ → _) => q'); (rename Mem _ _ _ _ => D'); exact q' _ _ _ _ _ _ (mem_stays D') (D'.nw _ (by repeat (first | exact List.Mem.head _ | apply List.Mem.tail))).1 (D'.nw _ (by repeat (first | exact List.Mem.head _ | apply List.Mem.tail))).1 (D'.nw _ (by repeat (first | exact List.Mem.head _ | apply List.Mem.tail))).1 (D'.nw _ (by repeat (first | exact List.Mem.head _ | apply List.Mem.tail))).2 D'.ord))
set_option maxHeartbeats 8000000 in
/-- map(len, a list) -/
theorem mapNew (w : World) (h0 : Heap) (d : Drawn) (t : Nat) (os : OsState) (g : Array GenState) (KX : (Mine.hd.heap_39 w.params).In h0)
   (gd : Option (List Code)) (cn : Str) (cs : Scope) (L a : Addr) (ccd : Value) (cl : List (Str × Addr)) (outer : List Env)
   (A B : Str) (S : Addr) (n : Nat)
   (t1 t2 : Nat) 
   (hS : h0.get? S = some { cls := .type "list", data := .seq #[.str A t1, .str B t2] n })
   (Q : Value → Shared → Prop) (E : Value → Shared → Prop) 
   (hQ : ∀ mp TI it h' tk k, h0.StaysIn h' → h'.get? mp = some { cls := .type "map", data := .fields #[.ref TI, .builtin "len"] } → h'.get? TI = some { cls := .type "tuple", data := .seq #[.ref it] k } → h'.get? it = some { cls := .type "list_iterator", data := .fields #[.ref S, .int 0 0] } → h0.get? it = none → [mp, TI, it].Pairwise (· > ·) → Q (.ref mp) ⟨h', g, d, tk, os⟩) :
   wpAny (model PySem.Challenge.rw_fq5032_01.row.prog w) (ktrTop 303 10 gd cn cs L a ccd cl outer) (call (.type "map") [.builtin "len", .ref S]) Q E ⟨h0, g, d, t, os⟩ := by
  x_run
end
end Mine
end
/-! K1 -/
section
open PySem PySem.W PySem.Calls PyProof.Rows
set_option Elab.async false
set_option maxRecDepth 100000
namespace Mine
/-- the dict of LCSStr() -/
abbrev selfD (p : Params) (ta tb tc : Tok) : Obj := dictOf [{ hash := PyData.keyHash p (Str.ofString "qval"), key := .str (Str.ofString "qval") ta, val := .int 1 tb }, { hash := PyData.keyHash p (Str.ofString "external"), key := .str (Str.ofString "external") tc, val := .bool true }] 2
/-- the same from a frame at a given depth -/
abbrev CodeAt (dp un : Nat) (w : World) (loose : List Str) (mean : ExcName → Option Value) (mg mb : Str → Option Value) (f : Addr) (news : List (Addr × Obj)) (vs : List Value) (x : Str) : Prop :=
  ∀ (gd : Option (List Code)) (cn : Str) (cs : Scope) (a : Addr) (ccd : Value) (cl : List (Str × Addr)) (outer : List Env) (A₀ : Around) (base h₀ : Heap) (L : Addr) (m : Str → Option Value) (s : Shared) (R : Result → Shared → Prop),
    Below A₀ base outer h₀ → Fr h₀ L s.heap m → (Mine.hd.heap_39 w.params).In h₀ → News h₀ L s.heap news → Top Mine.hd.view_39 loose mean mg mb h₀ → cs.kind = .function →
    (∀ t h' tk', Fr h₀ L h' m → News h₀ L h' news → R (.ok (.ret (.str x t))) { s with heap := h', toks := tk' }) →
      codeAny (model PySem.Challenge.rw_fq5032_01.row.prog w) (ktrTop dp un gd cn cs L a ccd cl outer) (.call (.ref f) ⟨vs, []⟩) R s
local macro_rules | `(tactic| walk_at "call ref") => `(tactic| (k_here; k_dflt (first | (refine' getSeq _ _ _ _ _ _ ?kX _ _ _ _ _ _ _ _ _ _ _ _ _ _ _ _ _ _ ?hq ?hx ?hdx _ _ (fun S9 h9 tk9 n9 kS9 fS9 gS9 => ?_); (case hq => ((refine' news_get ?hN9 ?hm9); (case hN9 => assumption); (case hm9 => (repeat (first | exact List.Mem.head _ | apply List.Mem.tail))))); (case hx => ((refine' news_get ?hN9 ?hm9); (case hN9 => assumption); (case hm9 => (repeat (first | exact List.Mem.head _ | apply List.Mem.tail))))); (case hdx => ((refine' news_get ?hN9 ?hm9); (case hN9 => assumption); (case hm9 => (repeat (first | exact List.Mem.head _ | apply List.Mem.tail))))); (case kX => ((rename Fr _ _ _ _ => F7); exact Frag.In.keeps (by assumption) F7.keep)); k_whole; (rename Fr _ _ _ _ => F8); (rename News _ _ _ _ => N8); have F9 := fr_stays F8 kS9; have N9 := news_fresh F8 (news_stays N8 kS9) fS9 gS9; (try dsimp only)) | (refine' call_meth ?q1 ?q2 ?_; (case q1 => k_asm); (case q2 => k_mem); k_whole; first | ((with_reducible show codeAny _ _ (Code.call (Value.ref 204) _) _ _); refine' custW1 ?w ?k ?k2 ?h0 ?h1 ?h2 ?h3 _ _ _ _ _ _ _ _ _ _ _ _ _ _ _ _  ?kB ?kF ?kX ?kT ?kK ?kd ?ku (fun t9 h9 tk9 kS9 => ?_); (case w => assumption); (case k => omega); (case k2 => omega); (case h0 => first | assumption | exact ⟨by assumption, by assumption⟩); (case h1 => first | assumption | exact ⟨by assumption, by assumption⟩); (case h2 => first | assumption | exact ⟨by assumption, by assumption⟩); (case h3 => first | assumption | exact ⟨by assumption, by assumption⟩); (case kB => k_asm); (case kF => k_asm); (case kX => k_asm); (case kT => k_asm); (case kK => exact rfl); (case kd => k_room); (case ku => k_room); (rename Fr _ _ _ _ => F8); (rename News _ _ _ _ => N8); have F9 := fr_stays F8 kS9; have N9 := news_stays N8 kS9; (try dsimp only)) | ((with_reducible show codeAny _ _ (Code.call (Value.ref 204) _) _ _); refine' custW2 ?w ?k ?k2 ?h0 ?h1 ?h2 ?h3 _ _ _ _ _ _ _ _ _ _ _ _ _ _ _ _  ?kB ?kF ?kX ?kT ?kK ?kd ?ku (fun t9 h9 tk9 kS9 => ?_); (case w => assumption); (case k => omega); (case k2 => omega); (case h0 => first | assumption | exact ⟨by assumption, by assumption⟩); (case h1 => first | assumption | exact ⟨by assumption, by assumption⟩); (case h2 => first | assumption | exact ⟨by assumption, by assumption⟩); (case h3 => first | assumption | exact ⟨by assumption, by assumption⟩); (case kB => k_asm); (case kF => k_asm); (case kX => k_asm); (case kT => k_asm); (case kK => exact rfl); (case kd => k_room); (case ku => k_room); (rename Fr _ _ _ _ => F8); (rename News _ _ _ _ => N8); have F9 := fr_stays F8 kS9; have N9 := news_stays N8 kS9; (try dsimp only)) | ((with_reducible show codeAny _ _ (Code.call (Value.ref 197) _) _ _); refine' stdW1 ?w ?k ?k2 ?h0 ?h1 ?h2 ?h3 _ _ _ _ _ _ _ _ _ _ _ _ _ _ _ _  ?kB ?kF ?kX ?kN ?kT ?kK ?kd ?ku (fun t9 h9 tk9 F9 N9 => ?_); (case w => assumption); (case k => omega); (case k2 => omega); (case kN => k_asm); (case h0 => first | assumption | exact ⟨by assumption, by assumption⟩); (case h1 => first | assumption | exact ⟨by assumption, by assumption⟩); (case h2 => first | assumption | exact ⟨by assumption, by assumption⟩); (case h3 => first | assumption | exact ⟨by assumption, by assumption⟩); (case kB => k_asm); (case kF => k_asm); (case kX => k_asm); (case kT => k_asm); (case kK => exact rfl); (case kd => k_room); (case ku => k_room); (try dsimp only)) | ((with_reducible show codeAny _ _ (Code.call (Value.ref 197) _) _ _); refine' stdW2 ?w ?k ?k2 ?h0 ?h1 ?h2 ?h3 _ _ _ _ _ _ _ _ _ _ _ _ _ _ _ _  ?kB ?kF ?kX ?kN ?kT ?kK ?kd ?ku (fun t9 h9 tk9 F9 N9 => ?_); (case w => assumption); (case k => omega); (case k2 => omega); (case kN => k_asm); (case h0 => first | assumption | exact ⟨by assumption, by assumption⟩); (case h1 => first | assumption | exact ⟨by assumption, by assumption⟩); (case h2 => first | assumption | exact ⟨by assumption, by assumption⟩); (case h3 => first | assumption | exact ⟨by assumption, by assumption⟩); (case kB => k_asm); (case kF => k_asm); (case kX => k_asm); (case kT => k_asm); (case kK => exact rfl); (case kd => k_room); (case ku => k_room); (try dsimp only))))))
local macro_rules | `(tactic| walk_at "call type:map") => `(tactic| (k_here; k_dflt (refine' mapNew _ _ _ _ _ _ ?kX _ _ _ _ _ _ _ _ _ _ _ _ _ _ ?hS _ _ (fun mp9 TI9 it9 h9 tk9 kk9 kS9 g19 g29 g39 fr9 od9 => ?_); (case hS => ((refine' news_get ?hN9 ?hm9); (case hN9 => assumption); (case hm9 => (repeat (first | exact List.Mem.head _ | apply List.Mem.tail))))); (case kX => ((rename Fr _ _ _ _ => F7); exact Frag.In.keeps (by assumption) F7.keep)); k_whole; (rename Fr _ _ _ _ => F8); (rename News _ _ _ _ => N8); have F9 := fr_stays F8 kS9; have N9 := news_stays N8 kS9; have MN9 := mapNow_of F8 N8 (news_get N8 (by repeat (first | exact List.Mem.head _ | apply List.Mem.tail))) kS9 g19 g29 g39 fr9 od9; (try dsimp only))))
local macro_rules | `(tactic| walk_at "call builtin:max") => `(tactic| (k_here; k_dflt (refine' max_map ?hh ?a ?b ?H (fun h9 t9 tk9 M9 F9 N9 la9 lb9 or9 => ?_); (case H => assumption); (case hh => exact rfl); (case a => first | assumption | exact Nat.le_of_ble_eq_true rfl); (case b => first | assumption | exact Nat.le_of_ble_eq_true rfl); k_whole; (try dsimp only))))
local macro_rules | `(tactic| walk_at "eval Call Attribute") => `(tactic| (k_here; (with_reducible show wpAny _ _ (eval (Expr.Call (Expr.Attribute _ _ _) [Expr.Starred _ _] [] _) _) _ _ _); k_dflt (refine' methodCall_S ?_; k_whole)))
local macro_rules | `(tactic| walk_at "callWith ref") => `(tactic| (k_here; (with_reducible show wpAny _ _ (callWith _ (Value.ref _) _ (backTo _ (starEach [Expr.Starred _ _] _)) []) _ _ _); k_dflt (refine' callWith_MS ?k1 ?k3 ?k4 ?k2 ?_; (case k1 => k_asm); (case k3 => k_asm); (case k4 => k_mem); (case k2 => k_is); k_whole)))
local macro_rules | `(tactic| walk_at "call builtin:all") => `(tactic| (k_here; k_dflt (refine' allT _ _ _ _ _ _ ?kX _ _ _ _ _ _ _ _ _ _ ?hd ?hu _ _ ?a1 ?a2 ?b1 ?b2 _ _ _ _ ?hT _ _ (fun h9 tk9 kS9 => ?_); (case hT => ((refine' news_get ?hN9 ?hm9); (case hN9 => assumption); (case hm9 => (repeat (first | exact List.Mem.head _ | apply List.Mem.tail))))); (case kX => ((rename Fr _ _ _ _ => F7); exact Frag.In.keeps (by assumption) F7.keep)); (case hd => k_room); (case hu => k_room); (case a1 => first | assumption | exact Nat.le_of_ble_eq_true rfl); (case a2 => first | assumption | exact Nat.le_of_ble_eq_true rfl); (case b1 => first | assumption | exact Nat.le_of_ble_eq_true rfl); (case b2 => first | assumption | exact Nat.le_of_ble_eq_true rfl); k_whole; (rename Fr _ _ _ _ => F8); (rename News _ _ _ _ => N8); have F9 := fr_stays F8 kS9; have N9 := news_stays N8 kS9; (try dsimp only))))
set_option maxHeartbeats 8000000 in
theorem callSW (w : World) (loose : List Str) (mean : ExcName → Option Value) (mg mb : Str → Option Value) (news : List (Addr × Obj)) (x dx : Addr) (ta tb tc : Tok) (W : Str) (c0 c1 c2 c3 k : Nat) (t1 t2 : Tok) (e9 : IsWide W c0 c1 c2 c3 k) (w1 : 1 ≤ W.length) (w2 : W.length ≤ 1000) (h4 : (⟨#[c0, c1, c2, c3]⟩ : Str).length = 4) (k1 : 1 ≤ k) (k2 : k ≤ 200) (l0 : Four c0) (l1 : Four c1) (l2 : Four c2) (l3 : Four c3) :
   CodeAt 302 7 w loose mean mg mb 211 ((x, instObj 221 dx) :: (dx, selfD w.params ta tb tc) :: news) [.ref x, .str ⟨#[c0, c1, c2, c3]⟩ t2, .str W t1] ⟨#[c0, c1]⟩ := by
  dsimp only [CodeAt, selfD]
  k_fill
  intros
  rename_i hret
  (refine' kp_rest ?k1 ?k2 ?k3 ?k4 ?k5 ?kA ?kF ?kK ?k6 ?k7 ?k8 ?kV ?kP ?kG ?kB ?_ ?c2 ?c3 ?c4 ?c5; (case kA => exact rfl); (case kF => exact rfl); (case kK => first | assumption | exact rfl); (case k1 => k_asm); (case k2 => k_asm); (case k3 => k_asm); (case k4 => k_asm); (case k5 => k_asm); (case k6 => k_is); (case k7 => k_is); (case k8 => k_room); (case kV => kl_lit); (case kP => exact rfl); (case kG => exact fun _ => rfl); (case kB => exact fun _ => locs rfl); (case c5 => decide); (case c2 => exact rfl); (case c3 => exact rfl); (case c4 => exact rfl); k_whole; intro D' g' L' h' l1 FG' F' N' B' X' T'; (try k_lt l1); (try dsimp only); (try k_lift B'); (try k_fold))
  k_steps
  all_goals first | ((rename Fr _ _ _ _ => F9); (rename News _ _ _ _ => N9); exact hret _ _ _ F9 (fun p hp => N9 p (by repeat (first | exact hp | apply List.Mem.tail)))) | (exfalso; omega)
set_option maxHeartbeats 8000000 in
theorem callWSlo (w : World) (loose : List Str) (mean : ExcName → Option Value) (mg mb : Str → Option Value) (news : List (Addr × Obj)) (x dx : Addr) (ta tb tc : Tok) (W : Str) (c0 c1 c2 c3 k : Nat) (t1 t2 : Tok) (e9 : IsWide W c0 c1 c2 c3 k) (w1 : 1 ≤ W.length) (w2 : W.length ≤ 1000) (lo : W.length < 200) (h4 : (⟨#[c0, c1, c2, c3]⟩ : Str).length = 4) (k1 : 1 ≤ k) (k2 : k ≤ 200) (l0 : Four c0) (l1 : Four c1) (l2 : Four c2) (l3 : Four c3) :
   CodeAt 302 7 w loose mean mg mb 211 ((x, instObj 221 dx) :: (dx, selfD w.params ta tb tc) :: news) [.ref x, .str W t1, .str ⟨#[c0, c1, c2, c3]⟩ t2] ⟨#[c2, c3]⟩ := by
  dsimp only [CodeAt, selfD]
  k_fill
  intros
  rename_i hret
  (refine' kp_rest ?k1 ?k2 ?k3 ?k4 ?k5 ?kA ?kF ?kK ?k6 ?k7 ?k8 ?kV ?kP ?kG ?kB ?_ ?c2 ?c3 ?c4 ?c5; (case kA => exact rfl); (case kF => exact rfl); (case kK => first | assumption | exact rfl); (case k1 => k_asm); (case k2 => k_asm); (case k3 => k_asm); (case k4 => k_asm); (case k5 => k_asm); (case k6 => k_is); (case k7 => k_is); (case k8 => k_room); (case kV => kl_lit); (case kP => exact rfl); (case kG => exact fun _ => rfl); (case kB => exact fun _ => locs rfl); (case c5 => decide); (case c2 => exact rfl); (case c3 => exact rfl); (case c4 => exact rfl); k_whole; intro D' g' L' h' l1 FG' F' N' B' X' T'; (try k_lt l1); (try dsimp only); (try k_lift B'); (try k_fold))
  k_steps
  all_goals first | ((rename Fr _ _ _ _ => F9); (rename News _ _ _ _ => N9); exact hret _ _ _ F9 (fun p hp => N9 p (by repeat (first | exact hp | apply List.Mem.tail)))) | (exfalso; omega)
set_option maxHeartbeats 8000000 in
theorem callWShi (w : World) (loose : List Str) (mean : ExcName → Option Value) (mg mb : Str → Option Value) (news : List (Addr × Obj)) (x dx : Addr) (ta tb tc : Tok) (W : Str) (c0 c1 c2 c3 k : Nat) (t1 t2 : Tok) (e9 : IsWide W c0 c1 c2 c3 k) (w1 : 1 ≤ W.length) (w2 : W.length ≤ 1000) (hi : 200 ≤ W.length) (h4 : (⟨#[c0, c1, c2, c3]⟩ : Str).length = 4) (k1 : 1 ≤ k) (k2 : k ≤ 200) (l0 : Four c0) (l1 : Four c1) (l2 : Four c2) (l3 : Four c3) :
   CodeAt 302 7 w loose mean mg mb 211 ((x, instObj 221 dx) :: (dx, selfD w.params ta tb tc) :: news) [.ref x, .str W t1, .str ⟨#[c0, c1, c2, c3]⟩ t2] ⟨#[c0, c1]⟩ := by
  dsimp only [CodeAt, selfD]
  k_fill
  intros
  rename_i hret
  (refine' kp_rest ?k1 ?k2 ?k3 ?k4 ?k5 ?kA ?kF ?kK ?k6 ?k7 ?k8 ?kV ?kP ?kG ?kB ?_ ?c2 ?c3 ?c4 ?c5; (case kA => exact rfl); (case kF => exact rfl); (case kK => first | assumption | exact rfl); (case k1 => k_asm); (case k2 => k_asm); (case k3 => k_asm); (case k4 => k_asm); (case k5 => k_asm); (case k6 => k_is); (case k7 => k_is); (case k8 => k_room); (case kV => kl_lit); (case kP => exact rfl); (case kG => exact fun _ => rfl); (case kB => exact fun _ => locs rfl); (case c5 => decide); (case c2 => exact rfl); (case c3 => exact rfl); (case c4 => exact rfl); k_whole; intro D' g' L' h' l1 FG' F' N' B' X' T'; (try k_lt l1); (try dsimp only); (try k_lift B'); (try k_fold))
  k_steps
  all_goals first | ((rename Fr _ _ _ _ => F9); (rename News _ _ _ _ => N9); exact hret _ _ _ F9 (fun p hp => N9 p (by repeat (first | exact hp | apply List.Mem.tail)))) | (exfalso; omega)
end Mine
end
/-! GE -/
section
open PySem PySem.W PySem.Calls PyProof.Rows
set_option Elab.async false
set_option maxRecDepth 100000
namespace Mine
set_option maxHeartbeats 1000000 in
/-- the law hands back True -/
theorem good_end {s₁ s' : Shared} {L : Addr} {m : Str → Option Value} {cl : Str → Option Addr} {mean : ExcName → Option Value} {ns : List Int} (F : Fr s₁.heap L s'.heap m) (hg : s'.gens = #[]) (hos : s'.os = s₁.os) :
    GoodW PySem.Challenge.rw_fq5032_01.row.claim cl mean [ofPy (PyData.list (List.map PyData.int ns))] s₁ (Except.ok (Flow.ret (Value.bool true))) s' := by
  refine goodW_bool F hg (raisesW_false ?_) ?_ hos
  · wrow_none_raised
  · wrow_post
end Mine
end
/-! LW -/
section
open PySem PySem.W PySem.Calls PyProof.Rows
set_option Elab.async false
set_option maxRecDepth 100000
namespace Mine
/-- a walk within a walk -/
structure Inside : Prop where
section
variable {prog : Program} {w : World} {M : Model} {A : Around} {E : Value → Shared → Prop} {s : Shared} {value slice : Expr} {x y : Str} {t : Tok} {h₀ : Heap} {L : Addr} {m : Str → Option Value} {news : List (Addr × Obj)} {Q : Value → Shared → Prop} {tree : Sem Value}
theorem slice_from_is {i : Int} {ui : Tok} (e : Txt.slice x (some i) none = y) (hF : Fr h₀ L s.heap m) (hN : News h₀ L s.heap news) (hsz : x.length ≤ sizeLine) (h : ∀ h' t' k, Fr h₀ L h' m → News h₀ L h' news → Q (.str y t') { s with heap := h', toks := k })
    (hs : subscripted slice false (.str x t) (.ref s.heap.objs.size) = operate [.ref s.heap.objs.size, .str x t] (getItem (.str x t) (.ref s.heap.objs.size)) := by with_unfolding_all rfl)
    (ht : ∀ r, letTemporaryGo value (.str x t) r = pure () := by intro _; with_unfolding_all rfl) :
    wpAny (model prog w) A (subscriptTail value slice (.str x t) (.ref s.heap.objs.size)) Q E { s with heap := s.heap.push { cls := .type "slice", data := .fields #[.int i ui, .none, .none] } } :=
  slice_strN_sn hF hN (fun h' t' k a b => e ▸ h h' t' k a b) hs ht hsz
theorem slice_to_is {j : Int} {uj : Tok} (e : Txt.slice x none (some j) = y) (hF : Fr h₀ L s.heap m) (hN : News h₀ L s.heap news) (hsz : x.length ≤ sizeLine) (h : ∀ h' t' k, Fr h₀ L h' m → News h₀ L h' news → Q (.str y t') { s with heap := h', toks := k })
    (hs : subscripted slice false (.str x t) (.ref s.heap.objs.size) = operate [.ref s.heap.objs.size, .str x t] (getItem (.str x t) (.ref s.heap.objs.size)) := by with_unfolding_all rfl)
    (ht : ∀ r, letTemporaryGo value (.str x t) r = pure () := by intro _; with_unfolding_all rfl) :
    wpAny (model prog w) A (subscriptTail value slice (.str x t) (.ref s.heap.objs.size)) Q E { s with heap := s.heap.push { cls := .type "slice", data := .fields #[.none, .int j uj, .none] } } :=
  slice_strN_ns hF hN (fun h' t' k a b => e ▸ h h' t' k a b) hs ht hsz
theorem slt2 {a b c d : Nat} {j : Int} (h : j = 2) : Txt.slice ⟨#[a, b, c, d]⟩ none (some j) = ⟨#[a, b]⟩ := by subst h; exact sl_to (by show (0 : Int) ≤ 2 ∧ (2 : Int) ≤ 4; decide)
/-- of what comes back only this is kept: it is an int -/
theorem forget_any (a : ∀ Q' : Value → Shared → Prop, Inside → (∀ v t k, Q' (.int v t) { s with toks := k }) → wpAny M A tree Q' E s) (b : ∀ v t k, Q (.int v t) { s with toks := k }) : wpAny M A tree Q E s := a Q ⟨⟩ b
/-- of what comes back only this is kept: it is an int within bounds -/
theorem forget_size (a : ∀ Q' : Value → Shared → Prop, Inside → (∀ v t k, 5 ≤ v → v ≤ 201 → Q' (.int v t) { s with toks := k }) → wpAny M A tree Q' E s) (b : ∀ v t k, 5 ≤ v → v ≤ 201 → Q (.int v t) { s with toks := k }) : wpAny M A tree Q E s := a Q ⟨⟩ b
/-- of what comes back only this is kept: it is one of four letters -/
theorem forget_chr (a : ∀ Q' : Value → Shared → Prop, Inside → (∀ c t k, 97 ≤ c → c ≤ 100 → Q' (.str ⟨#[c]⟩ t) { s with toks := k }) → wpAny M A tree Q' E s) (b : ∀ c t k, 97 ≤ c → c ≤ 100 → Q (.str ⟨#[c]⟩ t) { s with toks := k }) : wpAny M A tree Q E s := a Q ⟨⟩ b
end
theorem wide_pos {W : Str} {c0 c1 c2 c3 k : Nat} (h : IsWide W c0 c1 c2 c3 k) : 1 ≤ W.length := by rw [wide_len h]; omega
theorem wide_max {W : Str} {c0 c1 c2 c3 k : Nat} (h : IsWide W c0 c1 c2 c3 k) (hk : k ≤ 200) : W.length ≤ 1000 := by rw [wide_len h]; omega
theorem wide_cases {W : Str} {c0 c1 c2 c3 k : Nat} (h : IsWide W c0 c1 c2 c3 k) : (W.length = k + 4 ∧ W.length < 200) ∨ (W.length = k + 4 ∧ 200 ≤ W.length) := by have := wide_len h; omega
theorem item_rest (v : Int) : ∃ c, 97 ≤ c ∧ c ≤ 100 ∧ Txt.item (Str.ofString "abcd") (v.fmod 4) = ⟨#[c]⟩ := item_abcd (Int.fmod_nonneg_of_pos v (by decide)) (Int.fmod_lt_of_pos v (by decide))
theorem chr_end {R : Value → Shared → Prop} {s : Shared} {v : Int} {t : Tok} {k : Nat} (H : ∀ c t k, 97 ≤ c → c ≤ 100 → R (.str ⟨#[c]⟩ t) { s with toks := k }) : R (.str (Txt.item (Str.ofString "abcd") (v.fmod 4)) t) { s with toks := k } := by
  obtain ⟨c, a, b, e⟩ := item_rest v
  rw [e]
  exact H c t k a b
theorem ne_same {prog : Program} {w : World} {A : Around} {E : Value → Shared → Prop} {s : Shared} {x y : Str} {t u : Tok} {Q : Value → Shared → Prop} (e : x = y) (h : Q (.bool false) s) : wpAny (model prog w) A (compareOp .NotEq (.str x t) (.str y u)) Q E s := by
  subst e
  refine ne_str ?_
  rw [bne_self_eq_false]
  exact h
theorem eq_same {prog : Program} {w : World} {A : Around} {E : Value → Shared → Prop} {s : Shared} {x y : Str} {t u : Tok} {Q : Value → Shared → Prop} (e : x = y) (h : Q (.bool true) s) : wpAny (model prog w) A (compareOp .Eq (.str x t) (.str y u)) Q E s := by
  subst e
  refine eq_str ?_
  rw [beq_self_eq_true]
  exact h
theorem sz_a (v : Int) (h : v.fmod 4 < 3) : 5 ≤ 199 + v.fmod 4 := by have := Int.fmod_nonneg_of_pos v (show (0 : Int) < 4 by decide); omega
theorem sz_b (v : Int) (h : v.fmod 4 < 3) : 199 + v.fmod 4 ≤ 201 := by omega
theorem sz_c (v : Int) : 5 ≤ 5 + v.fmod 9 := by have := Int.fmod_nonneg_of_pos v (show (0 : Int) < 9 by decide); omega
theorem sz_d (v : Int) : 5 + v.fmod 9 ≤ 201 := by have := Int.fmod_lt_of_pos v (show (0 : Int) < 9 by decide); omega
theorem four_fits' {a b c d : Nat} : (⟨#[a, b, c, d]⟩ : Str).length ≤ sizeLine := by show 4 ≤ sizeLine; decide
local macro_rules | `(tactic| walk_at "eval IfExp Name Subscript") => `(tactic| (k_here; (fail_if_success (rename Inside => i9)); k_dflt (refine' forget_any ?a (fun v9 t9 k9 => ?_); (case a => (intro Q9 i9 H9; k_steps; all_goals exact H9 _ _ _))); (try dsimp only)))
local macro_rules | `(tactic| walk_at "eval IfExp Compare BinOp BinOp") => `(tactic| (k_here; (fail_if_success (rename Inside => i9)); k_dflt (refine' forget_size ?a (fun v9 t9 k9 b8 b9 => ?_); (case a => (intro Q9 i9 H9; k_steps; all_goals first | exact H9 _ _ _ (sz_a _ (by assumption)) (sz_b _ (by assumption)) | exact H9 _ _ _ (sz_c _) (sz_d _)))); (try dsimp only)))
local macro_rules | `(tactic| walk_at "eval Subscript Constant BinOp") => `(tactic| (k_here; (fail_if_success (rename Inside => i9)); k_dflt (refine' forget_chr ?a (fun v9 t9 k9 b8 b9 => ?_); (case a => (intro Q9 i9 H9; k_steps; all_goals exact chr_end H9))); (try dsimp only)))
local macro_rules | `(tactic| walk_at "CompSrc") => `(tactic| (k_here; k_dflt (refine LCg.CompSrc.range (by rfl) (by k_asm) (by k_asm) (by assumption) (by first | decide | rfl) (by first | rfl | decide) (by first | size_fits | exact Nat.le_of_ble_eq_true rfl) ?_; intro g'; lcg_lit)))
local macro_rules | `(tactic| walk_at "call builtin:str.join") => `(tactic| (k_here; k_dflt (refine' joinL4 _ _ _ _ _ _ ?kX _ _ _ _ _ _ _ _ _ _ ?hd ?hu _ _ _ _ _ _ _ _ _ _ _ ?hT _ _ (fun t9 h9 tk9 kS9 => ?_); (case hT => ((refine' news_get ?hN9 ?hm9); (case hN9 => assumption); (case hm9 => (repeat (first | exact List.Mem.head _ | apply List.Mem.tail))))); (case kX => ((rename Fr _ _ _ _ => F7); exact Frag.In.keeps (by assumption) F7.keep)); (case hd => k_room); (case hu => k_room); k_whole; (rename Fr _ _ _ _ => F8); (rename News _ _ _ _ => N8); have F9 := fr_stays F8 kS9; have N9 := news_stays N8 kS9; (try dsimp only))))
local macro_rules | `(tactic| walk_at "subscriptTail Name Slice str ref") => `(tactic| (k_here; (with_reducible rename Fr _ _ _ _ => F'); (with_reducible rename News _ _ _ _ => N'); k_dflt (first | ((with_reducible show wpAny _ _ (subscriptTail _ (Expr.Slice (some _) none none _) _ _) _ _ _); refine' slice_from_is (s := ⟨_, _, _, _, _⟩) ?e F' N' ?z (fun h9 t9 k9 F9 N9 => ?_); (case z => exact four_fits'); (case e => exact sl2 rfl); k_whole) | ((with_reducible show wpAny _ _ (subscriptTail _ (Expr.Slice none (some _) none _) _ _) _ _ _); refine' slice_to_is (s := ⟨_, _, _, _, _⟩) ?e F' N' ?z (fun h9 t9 k9 F9 N9 => ?_); (case z => exact four_fits'); (case e => exact slt2 rfl); k_whole))))
local macro_rules | `(tactic| walk_at "binaryOp Mult str int") => `(tactic| (k_here; k_dflt (refine' mul_z ?a ?b (fun Z9 t9 k9 e9 => ?_); (case a => omega); (case b => omega); k_whole); (try dsimp only)))
local macro_rules | `(tactic| walk_at "binaryOp Add str str") => `(tactic| (k_here; k_dflt (first | ((with_reducible show wpAny _ _ (binaryOp _ (Value.str (Str.mk (Array.mk (List.cons _ _))) _) _) _ _ _); refine' add_one ?a ?b (fun Z9 t9 k9 e9 => ?_); (case a => assumption); (case b => omega); k_whole) | ((with_reducible show wpAny _ _ (binaryOp _ _ (Value.str (Str.mk (Array.mk (List.cons _ _))) _)) _ _ _); refine' add_two ?a ?b (fun Z9 t9 k9 e9 => ?_); (case a => assumption); (case b => omega); k_whole)); (try dsimp only)))
local macro_rules | `(tactic| walk_at "compareOp NotEq str str") => `(tactic| (k_here; k_dflt (refine' ne_same ?e ?_; (case e => exact rfl); k_whole)))
local macro_rules | `(tactic| walk_at "compareOp Eq str str") => `(tactic| (k_here; k_dflt (refine' eq_same ?e ?_; (case e => exact rfl); k_whole)))
local macro_rules | `(tactic| wrow_close) => `(tactic| ((with_reducible show GoodW _ _ _ _ _ (Except.ok (Flow.ret (Value.bool true))) _); (rename Fr _ _ _ _ => F9); exact good_end F9 (by assumption) rfl))
local macro_rules | `(tactic| walk_at "call ref") => `(tactic| (k_here; k_dflt (first | ((with_reducible show wpAny _ _ (call (Value.ref 228) _ _) _ _ _); refine' piecesW ?w ?k ?h0 ?h1 ?h2 ?h3 _ _ _ _ _ _ _ _ _ _ _ _ _ _ _ _ _  ?kB ?kF ?kX ?kT ?kK ?kd ?ku ⟨fun y9 D9 h9 tk9 u0 u1 kS9 fS9 gS9 => ?_, fun y9 D9 h9 tk9 u0 u1 u2 kS9 fS9 gS9 => ?_⟩; (case w => assumption); (case k => omega); (case h0 => first | assumption | exact ⟨by assumption, by assumption⟩); (case h1 => first | assumption | exact ⟨by assumption, by assumption⟩); (case h2 => first | assumption | exact ⟨by assumption, by assumption⟩); (case h3 => first | assumption | exact ⟨by assumption, by assumption⟩); (case kB => k_asm); (case kF => k_asm); (case kX => k_asm); (case kT => k_asm); (case kK => exact rfl); (case kd => k_room); (case ku => k_room); all_goals ((rename Fr _ _ _ _ => F8); (rename News _ _ _ _ => N8); have F9 := fr_stays F8 kS9; have N9 := news_fresh F8 (news_stays N8 kS9) fS9 gS9; (try dsimp only))) | ((with_reducible show wpAny _ _ (call (Value.ref 235) _ _) _ _ _); refine' earlyW2 ?w _ _ _ _ _ _ _ _ _ _ _ _ _ _ _ _ _  ?kB ?kF ?kX ?kT ?kK ?kd ?ku ⟨?g, fun t9 h9 tk9 kS9 => ?_⟩; (case w => assumption); (case g => ((refine' news_get ?hN9 ?hm9); (case hN9 => assumption); (case hm9 => (repeat (first | exact List.Mem.head _ | apply List.Mem.tail))))); (case kB => k_asm); (case kF => k_asm); (case kX => k_asm); (case kT => k_asm); (case kK => exact rfl); (case kd => k_room); (case ku => k_room); (rename Fr _ _ _ _ => F8); (rename News _ _ _ _ => N8); have F9 := fr_stays F8 kS9; have N9 := news_stays N8 kS9; (try dsimp only)) | ((with_reducible show wpAny _ _ (call (Value.ref 235) _ _) _ _ _); refine' earlyW3 ?w ?y _ _ _ _ _ _ _ _ _ _ _ _ _ _ _ _ _  ?kB ?kF ?kX ?kT ?kK ?kd ?ku ⟨?g, fun t9 h9 tk9 kS9 => ?_⟩; (case w => assumption); (case y => assumption); (case g => ((refine' news_get ?hN9 ?hm9); (case hN9 => assumption); (case hm9 => (repeat (first | exact List.Mem.head _ | apply List.Mem.tail))))); (case kB => k_asm); (case kF => k_asm); (case kX => k_asm); (case kT => k_asm); (case kK => exact rfl); (case kd => k_room); (case ku => k_room); (rename Fr _ _ _ _ => F8); (rename News _ _ _ _ => N8); have F9 := fr_stays F8 kS9; have N9 := news_stays N8 kS9; (try dsimp only)) | ((with_reducible show wpAny _ _ (call (Value.ref 204) _ _) _ _ _); refine' TellsC.tells (custW1 ?w ?k ?k2 ?h0 ?h1 ?h2 ?h3) _ _ _ _ _ _ _ _ _ _ _ _ _ _ _ _ _  ?kB ?kF ?kX ?kT ?kK ?kd ?ku (fun t9 h9 tk9 kS9 => ?_); (case w => assumption); (case k => omega); (case k2 => omega); (case h0 => first | assumption | exact ⟨by assumption, by assumption⟩); (case h1 => first | assumption | exact ⟨by assumption, by assumption⟩); (case h2 => first | assumption | exact ⟨by assumption, by assumption⟩); (case h3 => first | assumption | exact ⟨by assumption, by assumption⟩); (case kB => k_asm); (case kF => k_asm); (case kX => k_asm); (case kT => k_asm); (case kK => exact rfl); (case kd => k_room); (case ku => k_room); (rename Fr _ _ _ _ => F8); (rename News _ _ _ _ => N8); have F9 := fr_stays F8 kS9; have N9 := news_stays N8 kS9; (try dsimp only)) | ((with_reducible show wpAny _ _ (call (Value.ref 204) _ _) _ _ _); refine' TellsC.tells (custW2 ?w ?k ?k2 ?h0 ?h1 ?h2 ?h3) _ _ _ _ _ _ _ _ _ _ _ _ _ _ _ _ _  ?kB ?kF ?kX ?kT ?kK ?kd ?ku (fun t9 h9 tk9 kS9 => ?_); (case w => assumption); (case k => omega); (case k2 => omega); (case h0 => first | assumption | exact ⟨by assumption, by assumption⟩); (case h1 => first | assumption | exact ⟨by assumption, by assumption⟩); (case h2 => first | assumption | exact ⟨by assumption, by assumption⟩); (case h3 => first | assumption | exact ⟨by assumption, by assumption⟩); (case kB => k_asm); (case kF => k_asm); (case kX => k_asm); (case kT => k_asm); (case kK => exact rfl); (case kd => k_room); (case ku => k_room); (rename Fr _ _ _ _ => F8); (rename News _ _ _ _ => N8); have F9 := fr_stays F8 kS9; have N9 := news_stays N8 kS9; (try dsimp only)) | ((with_reducible show wpAny _ _ (call (Value.ref 197) _ _) _ _ _); refine' CodeClaim.cb (stdW1 ?w ?k ?k2 ?h0 ?h1 ?h2 ?h3) ?kB ?kF ?kX ?kN ?kT ?kK ?kd ?ku (fun t9 h9 tk9 F9 N9 => ?_); (case w => assumption); (case k => omega); (case k2 => omega); (case kN => k_asm); (case h0 => first | assumption | exact ⟨by assumption, by assumption⟩); (case h1 => first | assumption | exact ⟨by assumption, by assumption⟩); (case h2 => first | assumption | exact ⟨by assumption, by assumption⟩); (case h3 => first | assumption | exact ⟨by assumption, by assumption⟩); (case kB => k_asm); (case kF => k_asm); (case kX => k_asm); (case kT => k_asm); (case kK => exact rfl); (case kd => k_room); (case ku => k_room); (try dsimp only)) | ((with_reducible show wpAny _ _ (call (Value.ref 197) _ _) _ _ _); refine' CodeClaim.cb (stdW2 ?w ?k ?k2 ?h0 ?h1 ?h2 ?h3) ?kB ?kF ?kX ?kN ?kT ?kK ?kd ?ku (fun t9 h9 tk9 F9 N9 => ?_); (case w => assumption); (case k => omega); (case k2 => omega); (case kN => k_asm); (case h0 => first | assumption | exact ⟨by assumption, by assumption⟩); (case h1 => first | assumption | exact ⟨by assumption, by assumption⟩); (case h2 => first | assumption | exact ⟨by assumption, by assumption⟩); (case h3 => first | assumption | exact ⟨by assumption, by assumption⟩); (case kB => k_asm); (case kF => k_asm); (case kX => k_asm); (case kT => k_asm); (case kK => exact rfl); (case kd => k_room); (case ku => k_room); (try dsimp only)) | ((with_reducible show wpAny _ _ (call (Value.ref _) [Value.str _ _, Value.str _ _]) _ _ _); refine' wpAny_call ?_; refine' kco_code ?c1 ?c2 ?c3 ?c4 ?c5 ?c6 ?_; (case c1 => ((rename Fr _ _ _ _ => F7); exact Frag.In.keeps (by assumption) F7.keep)); (case c2 => k_inst); (case c3 => rfl); (case c4 => k_is); (case c5 => k_is); (case c6 => k_is); (try dsimp only); first | (refine' callSW _ _ _ _ _ _ _ _ _ _ _ _ _ _ _ _ _ _ _  ?w ?w1 ?w2 rfl ?k ?k2 ?h0 ?h1 ?h2 ?h3 _ _ _ _ _ _ _ _ _ _ _ _ _ _  ?kB ?kF ?kX ?kN ?kT ?kK (fun t9 h9 tk9 F9 NN9 => ?_); (case w => assumption); (case w1 => exact wide_pos (by assumption)); (case w2 => exact wide_max (by assumption) (by omega)); (case k => omega); (case k2 => omega); (case h0 => first | assumption | exact ⟨by assumption, by assumption⟩); (case h1 => first | assumption | exact ⟨by assumption, by assumption⟩); (case h2 => first | assumption | exact ⟨by assumption, by assumption⟩); (case h3 => first | assumption | exact ⟨by assumption, by assumption⟩); (case kB => k_asm); (case kF => k_asm); (case kX => k_asm); (case kT => k_asm); (case kK => exact rfl); (case kN => (refine' news_two ?n1 ?n2 ?n3; (case n1 => assumption); (case n2 => (repeat (first | exact List.Mem.head _ | apply List.Mem.tail))); (case n3 => (repeat (first | exact List.Mem.head _ | apply List.Mem.tail))))); have N9 := news_rest NN9; clear NN9; (try dsimp only)) | (rcases wide_cases (by assumption) with ⟨wl9, lo9⟩ | ⟨wl9, hi9⟩; rotate_left; (refine' callWShi _ _ _ _ _ _ _ _ _ _ _ _ _ _ _ _ _ _ _  ?w ?w1 ?w2 ?e rfl ?k ?k2 ?h0 ?h1 ?h2 ?h3 _ _ _ _ _ _ _ _ _ _ _ _ _ _  ?kB ?kF ?kX ?kN ?kT ?kK (fun t9 h9 tk9 F9 NN9 => ?_); (case w => assumption); (case w1 => exact wide_pos (by assumption)); (case w2 => exact wide_max (by assumption) (by omega)); (case e => assumption); (case k => omega); (case k2 => omega); (case h0 => first | assumption | exact ⟨by assumption, by assumption⟩); (case h1 => first | assumption | exact ⟨by assumption, by assumption⟩); (case h2 => first | assumption | exact ⟨by assumption, by assumption⟩); (case h3 => first | assumption | exact ⟨by assumption, by assumption⟩); (case kB => k_asm); (case kF => k_asm); (case kX => k_asm); (case kT => k_asm); (case kK => exact rfl); (case kN => (refine' news_two ?n1 ?n2 ?n3; (case n1 => assumption); (case n2 => (repeat (first | exact List.Mem.head _ | apply List.Mem.tail))); (case n3 => (repeat (first | exact List.Mem.head _ | apply List.Mem.tail))))); have N9 := news_rest NN9; clear NN9; (try dsimp only)); rotate_left; (refine' callWSlo _ _ _ _ _ _ _ _ _ _ _ _ _ _ _ _ _ _ _  ?w ?w1 ?w2 ?e rfl ?k ?k2 ?h0 ?h1 ?h2 ?h3 _ _ _ _ _ _ _ _ _ _ _ _ _ _  ?kB ?kF ?kX ?kN ?kT ?kK (fun t9 h9 tk9 F9 NN9 => ?_); (case w => assumption); (case w1 => exact wide_pos (by assumption)); (case w2 => exact wide_max (by assumption) (by omega)); (case e => assumption); (case k => omega); (case k2 => omega); (case h0 => first | assumption | exact ⟨by assumption, by assumption⟩); (case h1 => first | assumption | exact ⟨by assumption, by assumption⟩); (case h2 => first | assumption | exact ⟨by assumption, by assumption⟩); (case h3 => first | assumption | exact ⟨by assumption, by assumption⟩); (case kB => k_asm); (case kF => k_asm); (case kX => k_asm); (case kT => k_asm); (case kK => exact rfl); (case kN => (refine' news_two ?n1 ?n2 ?n3; (case n1 => assumption); (case n2 => (repeat (first | exact List.Mem.head _ | apply List.Mem.tail))); (case n3 => (repeat (first | exact List.Mem.head _ | apply List.Mem.tail))))); have N9 := news_rest NN9; clear NN9; (try dsimp only)))))))
local macro_rules | `(tactic| walk_at "callWith ref") => `(tactic| (k_here; kco_any "__call__"; kco_here; k_dflt (refine' kco_callWith ?k1 ?k2 ?k3 ?k4 ?_; (case k1 => ((rename Fr _ _ _ _ => F7); exact Frag.In.keeps (by assumption) F7.keep)); (case k2 => k_inst); (case k3 => rfl); (case k4 => k_is); k_whole)))
set_option maxHeartbeats 8000000 in
theorem whole : PySem.Challenge.rw_fq5032_01.Holds := Mine.hd (by
  k_go0
  (all_goals try k_fold)
  k_steps
  all_goals w_report)
end Mine
end
theorem PySem.Challenge.cw_fq5032_01_holds : PySem.Challenge.rw_fq5032_01.Holds :=
  Mine.whole
