import PyProof.Rows.All
import Wide.All
import OpenK.AllK
import Wide.FinOn
import PySem.Challenge.RW_ny0052_01
open PySem PySem.W PyProof.Rows
set_option Elab.async false
set_option maxRecDepth 100000
-- part MSeg
namespace Mine
section
variable {M : Model} {A : Around} {R : GenEnd} {Y : Protocol} {n : Nat} {s₀ : Shared} {c : Code} {fs : List Frame} {s : Shared} {env : Env}
  {K : Flow → Sem Fin} {H : Value → Sem Fin} {gd : Bool → Bool} {lv : List Value → List Value}

theorem seg_If {test : Expr} {body orelse : List Stmt} {pos : Pos}
    (h : wpAny M (A.over c fs) (isTrue test env (eval test env)) (fun b s' => if b = true then Seg M A R Y n s₀ c ((execs body env).wrap K H gd lv) fs s' else Seg M A R Y n s₀ c ((execs orelse env).wrap K H gd lv) fs s')
      (fun x s' => Seg M A R Y n s₀ c (H x) fs s') s) :
    Seg M A R Y n s₀ c ((exec (.If test body orelse pos) env).wrap K H gd lv) fs s := by
  rw [exec_If]
  refine seg_bind_wrap (wpAny_standAt ?_)
  refine seg_bind_wrap (wpAny_mono h (fun b s' hb => ?_) fun _ _ x => x)
  cases b with
  | true => simpa using hb
  | false => simpa using hb

theorem seg_For {target iter : Expr} {body orelse : List Stmt} {pos : Pos}
    (h : wpAny M (A.over c fs) (eval iter env) (fun x s₁ => wpAny M (A.over c fs) (pyIter x) (fun it s₂ =>
      ∀ p, Seg M A R Y n s₀ (.forLoop target it body orelse env) (M.den (.forLoop target it body orelse env))
        (.ret (fun r => ((match r with | .ok f => (.pure f : Sem Flow) | .error e => .raise e).onRaise fun (x : Value) => do
          if (← field x 1) == Value.none then unsupported "frame.own-activation:exception-without-traceback"
          setFlight x env.frame).wrap K H gd lv) none (gd false) (lv []) c p [] :: fs) s₂)
      (fun x s' => Seg M A R Y n s₀ c (H x) fs s') s₁) (fun x s' => Seg M A R Y n s₀ c (H x) fs s') s)
    (hs : ∀ x, foldedSetIterable iter env x = pure x := by intro _; rfl) :
    Seg M A R Y n s₀ c ((exec (.For target iter body orelse pos) env).wrap K H gd lv) fs s := by
  rw [exec_For]
  refine seg_bind_wrap (wpAny_standAt ?_)
  refine seg_bind_wrap (wpAny_mono h (fun x s₁ h₁ => ?_) fun _ _ x => x)
  refine seg_bind_wrap (wpAny_of_eq (hs x) ?_)
  refine seg_bind_wrap (wpAny_standAt ?_)
  refine seg_bind_wrap (wpAny_holding (wpAny_mono h₁ (fun it s₂ h₂ => ?_) fun _ _ x => x))
  exact seg_call h₂
end

section
variable {prog : Program} {w : World} {A : Around} {R : GenEnd} {Y : Protocol} {n : Nat} {s₀ : Shared} {fs : List Frame} {s : Shared} {env : Env}
theorem seg_forLoop {target : Expr} {it : Value} {body orelse : List Stmt}
    (h : wpAny (model prog w) (A.over (.forLoop target it body orelse env) fs) (pyNext it) (fun r s₁ => match r with
        | none => Seg (model prog w) A R Y n s₀ (.forLoop target it body orelse env) (.pure (.again (.block orelse env))) fs s₁
        | some v => wpAny (model prog w) (A.over (.forLoop target it body orelse env) fs) (letOwnedTupleGo target it v) (fun _ s₂ =>
            wpAny (model prog w) (A.over (.forLoop target it body orelse env) fs) (assign target env v) (fun _ s₃ =>
              Seg (model prog w) A R Y n s₀ (.forLoop target it body orelse env) ((execs body env).wrap (fun f => match f with
                | .next | .cont => .pure (.again (.forLoop target it body orelse env))
                | .brk => .pure (.done .next)
                | .ret v => .pure (.done (.ret v))) (fun e => (do noteFrame e env; theTreesLotGoes e : Sem Unit).wrap (fun _ => .raise e) .raise id id) id id) fs s₃)
              (fun _ _ => False) s₂) (fun _ _ => False) s₁) (fun _ _ => False) s) :
    Seg (model prog w) A R Y n s₀ (.forLoop target it body orelse env) ((model prog w).den (.forLoop target it body orelse env)) fs s := by
  show Seg _ A R Y n s₀ _ ((forTurn target it body orelse env).onRaise (fun x => do noteFrame x env; theTreesLotGoes x)) fs s
  unfold forTurn
  rw [Sem.onRaise_eq_wrap]
  refine seg_bind_wrap (wpAny_standAt ?_)
  refine seg_bind_wrap (wpAny_onRaise (wpAny_mono h (fun r s₁ h₁ => ?_) fun _ _ x => x.elim))
  cases r with
  | none => exact h₁
  | some v =>
    refine seg_bind_wrap (wpAny_mono h₁ (fun _ s₂ h₂ => ?_) fun _ _ x => x.elim)
    refine seg_bind_wrap (wpAny_mono h₂ (fun _ s₃ h₃ => ?_) fun _ _ x => x.elim)
    rw [Sem.bind_eq_wrap', Sem.wrap_wrap]
    rw [Sem.wrap_congr (execs body env) _ _ (K' := fun f => match f with
            | .next | .cont => .pure (.again (.forLoop target it body orelse env))
            | .brk => .pure (.done .next)
            | .ret v => .pure (.done (.ret v))) (H' := (fun e => (do noteFrame e env; theTreesLotGoes e : Sem Unit).wrap (fun _ => .raise e) .raise id id))
        (fun f => by cases f <;> rfl)
        (fun e => by first | exact Sem.bind_eq_wrap _ _ | (show (do noteFrame e env; theTreesLotGoes e : Sem Unit).bind (fun _ => .raise e) = _; rw [Sem.bind_eq_wrap]))]
    exact h₃

theorem seg_block_nil (h : Seg (model prog w) A R Y n s₀ (.block [] env) (.pure (.done .next)) fs s) {c : Code} :
    Seg (model prog w) A R Y n s₀ c (.pure (.again (.block [] env))) fs s := seg_again rfl h
end
end Mine
-- part MBase
namespace Mine
def fnParts (n : Nat) : Arguments × List Stmt × Scope := match PySem.Challenge.pw_ny0052_01.main.body[n]? with
  | some (.FunctionDef _ a b _ _ _ sc _ _ _) => (a, b, sc)
  | _ => default
def forTgt : List Stmt → Expr
  | .For t _ _ _ _ :: _ => t
  | _ :: r => forTgt r
  | [] => .Name "" default
def forBody : List Stmt → List Stmt
  | .For _ _ b _ _ :: _ => b
  | _ :: r => forBody r
  | [] => []
def forAfter : List Stmt → List Stmt
  | .For _ _ _ _ _ :: r => r
  | _ :: r => forAfter r
  | [] => []

theorem Fr.up {h₀ h h' : Heap} {L : Addr} {m : Str → Option Value} (F : Fr h₀ L h m) (hk : ∀ b o, h.get? b = some o → h'.get? b = some o) : Fr h₀ L h' m :=
  ⟨F.ns.keeps hk, fun b o e => hk b o (F.keep b o e), F.above⟩
theorem News.up {h₀ h h' : Heap} {L : Addr} {news : List (Addr × Obj)} (N : News h₀ L h news) (hk : ∀ b o, h.get? b = some o → h'.get? b = some o) : News h₀ L h' news :=
  fun p hp => ⟨hk _ _ (N p hp).1, (N p hp).2⟩
theorem extNew {h h' : Heap} (hx : Heap.ExtBut h.objs.size h h') : ∀ b o, h.get? b = some o → h'.get? b = some o :=
  fun b o e => hx b o (Nat.ne_of_lt (Heap.lt_size e)) e

section
variable {prog : Program} {w : World} {A : Around} {E : Value → Shared → Prop} {s : Shared} {h₀ : Heap} {L fa : Addr} {cd : Value} {m : Str → Option Value} {news : List (Addr × Obj)} {name : Str} {scope : Scope}

theorem stUp {x : Str} {v : Value} {Q : Unit → Shared → Prop} (F : Fr h₀ L s.heap m)
    (h : ∀ h', Fr h₀ L h' (fun y => if y = x then some v else m y) → Heap.SameBut L s.heap h' → Q () { s with heap := h', toks := s.toks + 1 })
    (hk : scope.kind = .function) (hl : (envOf name scope L fa cd).kindOf x = some .local) :
    wpAny (model prog w) A (storeName (envOf name scope L fa cd) x v) Q E s :=
  wpAny_storeName_local hl F.ns (fun h' hn hs => h h' (F.set hn hs) hs)
    (by show (scope.kind == .class || (scope.kind == .module && L != mainGlobals)) = false; rw [hk]; rfl)

def putAll : List (Str × Pos) → List Value → (Str → Option Value) → Str → Option Value
  | x :: xs, v :: vs, m => putAll xs vs (fun z => if z = x.1 then some v else m z)
  | _, _, m => m

theorem assignNames (hk : scope.kind = .function) : ∀ (xs : List (Str × Pos)) (vs : List Value) (m : Str → Option Value) (s : Shared) (Q : Unit → Shared → Prop),
    (∀ x ∈ xs, (envOf name scope L fa cd).kindOf x.1 = some .local) → Fr h₀ L s.heap m →
    (∀ h' tk, Fr h₀ L h' (putAll xs vs m) → (∀ b o, b ≠ L → s.heap.get? b = some o → h'.get? b = some o) → Q () { s with heap := h', toks := tk }) →
    wpAny (model prog w) A (assignInOrder (xs.map fun x => assign (.Name x.1 x.2) (envOf name scope L fa cd)) vs) Q E s
  | [], vs, m, s, Q, _, F, h => by cases vs <;> exact wpAny_pure (h s.heap s.toks F fun _ _ _ e => e)
  | x :: xs, [], m, s, Q, _, F, h => wpAny_pure (h s.heap s.toks F fun _ _ _ e => e)
  | x :: xs, v :: vs, m, s, Q, hl, F, h => by
    refine wpAny_assignInOrder_more (wpAny_assign_Name (stUp F (fun h' F' hs => ?_) hk (hl x (.head _))))
    refine assignNames hk xs vs _ _ Q (fun y hy => hl y (.tail _ hy)) F' fun h'' tk F'' e => ?_
    exact h h'' tk F'' fun b o hb q => e b o hb (hs.extBut b o hb q)

theorem assignTup {elts : List Expr} (xs : List (Str × Pos)) {pos : Pos} {k : Nat} {t : Addr} {vs : List Value} {Q : Unit → Shared → Prop} (hh : A.handled = none) (F : Fr h₀ L s.heap m)
    (ht : s.heap.IsTuple t vs.toArray) (hn : xs.length = vs.length)
    (h : ∀ h' tk, Fr h₀ L h' (putAll xs vs m) → (∀ b o, b ≠ L → s.heap.get? b = some o → h'.get? b = some o) → Q () { s with heap := h', toks := tk })
    (hk : scope.kind = .function := by rfl) (hx : ∀ x ∈ xs, (envOf name scope L fa cd).kindOf x.1 = some .local := by simp only [List.forall_mem_cons]; exact ⟨rfl, by first | exact ⟨rfl, by first | exact ⟨rfl, by first | exact ⟨rfl, by simp⟩ | simp⟩ | simp⟩ | simp⟩)
    (he : assignEach elts (envOf name scope L fa cd) = xs.map fun x => (false, assign (.Name x.1 x.2) (envOf name scope L fa cd)) := by rfl) :
    wpAny (model prog w) A (assign (.Tuple elts k pos) (envOf name scope L fa cd) (.ref t)) Q E s := by
  refine wpAny_assign_Tuple hh ht (by rw [he]; simp [hn]) (by rw [he]; simp) fun h₁ hx₁ => ?_
  have up := extNew hx₁
  rw [he, List.map_map]
  refine assignNames hk xs vs m _ Q hx (Fr.up F up) fun h' tk F' e => ?_
  exact h h' tk F' fun b o hb q => e b o hb (up b o q)
end
end Mine
-- part MGen
namespace Mine
def biNames : List Str := ["enumerate", "len", "range", "sum", "zip", "list", "ValueError"]
structure Gd (mg mb : Str → Option Value) (h : Heap) : Prop where
  g : h.Ns mainGlobals mg
  b : h.Ns builtinsNs mb
  lim : h.NoLimit
  bi : ∀ x : Str, x ≠ "__name__" → mb x = bootBuiltins x
  no : ∀ x ∈ biNames, mg x = none
theorem Gd.keeps {mg mb : Str → Option Value} {h h' : Heap} (G : Gd mg mb h) (hk : ∀ b o, h.get? b = some o → h'.get? b = some o) : Gd mg mb h' :=
  ⟨G.g.keeps hk, G.b.keeps hk, G.lim.keeps hk, G.bi, G.no⟩
theorem name_bi {M : Model} {A : Around} {E : Value → Shared → Prop} {s : Shared} {h₀ : Heap} {L fa : Addr} {cd : Value} {m mg mb : Str → Option Value} {name : Str} {scope : Scope}
    {x : Str} {pos : Pos} {v : Value} {Q : Value → Shared → Prop} (F : Fr h₀ L s.heap m) (G : Gd mg mb h₀) (hv : bootBuiltins x = some v) (h : Q v s)
    (hm : x ∈ biNames := by decide) (hn : x ≠ "__name__" := by decide)
    (hk : scope.kind = .function := by rfl) (hx : (envOf name scope L fa cd).kindOf x = some .globalImplicit := by rfl) (hd : (x == ("__debug__" : Str)) = false := by decide) :
    wpAny M A (eval (.Name x pos) (envOf name scope L fa cd)) Q E s := ld_builtin_at F G.g (G.no x hm) G.b ((G.bi x hn).trans hv) h hk hx hd

/-- what `_iter_escaped_chars` gives, from place i on, with a backslash waiting or not -/
def escF : Nat → Bool → List Nat → List (Nat × List Nat)
  | i, true, [] => [(i - 1, [92])]
  | _, false, [] => []
  | i, true, c :: cs => (i, [92, c]) :: escF (i + 1) false cs
  | i, false, c :: cs => if c = 92 then escF (i + 1) true cs else (i, [c]) :: escF (i + 1) false cs

theorem sign_eq (c d : Nat) {y : Str} (h : y = ⟨#[d]⟩) : ((⟨#[c]⟩ : Str) == y) = decide (c = d) := by
  subst h
  by_cases q : c = d
  · subst q; simp
  · have : (⟨#[c]⟩ : Str) ≠ ⟨#[d]⟩ := fun e => q (by injection e with e; injection e with e; injection e)
    rw [decide_eq_false q]; simpa using this
theorem of_bs : Str.ofString "\\" = ⟨#[92]⟩ := by decide +kernel
theorem of_lp : Str.ofString "(" = ⟨#[40]⟩ := by decide +kernel
theorem of_rp : Str.ofString ")" = ⟨#[41]⟩ := by decide +kernel
theorem of_qu : Str.ofString "\"" = ⟨#[34]⟩ := by decide +kernel
theorem of_a : Str.ofString "a" = ⟨#[97]⟩ := by decide +kernel

def bodyIter : List Stmt := (fnParts 1).2.1
def scIter : Scope := (fnParts 1).2.2
abbrev envIter (C fa : Addr) (cd : Value) : Env := envOf "_iter_escaped_chars" scIter C fa cd

def GenStep (B : Nat) (ga : Addr) (s₀ s : Shared) : Prop := ∃ h' tk, s = { s₀ with heap := h', toks := tk } ∧ ∀ b o, b < B ∨ b = ga → s₀.heap.get? b = some o → h'.get? b = some o
theorem GenStep.refl {B : Nat} {ga : Addr} {s : Shared} : GenStep B ga s s := ⟨s.heap, s.toks, rfl, fun _ _ _ e => e⟩

abbrev pairObj (p : Nat) (t : Tok) (ch : List Nat) (u : Tok) : Obj := { cls := .type "tuple", data := .seq #[.int p t, .str ⟨ch.toArray⟩ u] }

def low (h : Heap) (B : Nat) : Heap := ⟨h.objs.extract 0 B, h.life⟩
theorem low_get {h : Heap} {B : Nat} {b : Addr} {o : Obj} : (low h B).get? b = some o ↔ b < B ∧ h.get? b = some o := by
  rw [Heap.get?_some_iff, Heap.get?_some_iff]
  simp only [low]
  by_cases hb : b < B
  · have : (h.objs.extract 0 B)[b]? = h.objs[b]? := by
      rw [Array.getElem?_extract]
      by_cases q : b < min B h.objs.size
      · simp [q]
      · have q' : h.objs.size ≤ b := by
          have : ¬ (b < B ∧ b < h.objs.size) := fun z => q (by simp only [Nat.lt_min]; exact z)
          exact Nat.le_of_not_lt fun z => this ⟨hb, z⟩
        rw [Array.getElem?_eq_none q']
        simp
        intro z
        exact absurd (Nat.lt_of_lt_of_le z (Nat.min_le_right _ _)) (Nat.not_lt.mpr q')
    rw [this]; simp [hb]
  · have : (h.objs.extract 0 B)[b]? = none := by
      rw [Array.getElem?_eq_none]
      have : (h.objs.extract 0 B).size ≤ B := by simp; omega
      exact Nat.le_trans this (Nat.le_of_not_lt hb)
    rw [this]; simp [hb]
theorem low_size {h : Heap} {B : Nat} : (low h B).objs.size ≤ B := by simp [low]; omega

def Rest (s₀ s : Shared) : Prop := ∃ h tk, s = { s₀ with heap := h, toks := tk }
theorem Rest.refl {s : Shared} : Rest s s := ⟨s.heap, s.toks, rfl⟩
theorem Rest.step {s₀ s : Shared} (x : Rest s₀ s) {h : Heap} {tk : Nat} : Rest s₀ { s with heap := h, toks := tk } := by
  obtain ⟨h₁, tk₁, rfl⟩ := x; exact ⟨h, tk, rfl⟩
theorem genStep_of {B C ga : Nat} {s₀ s : Shared} {m : Str → Option Value} {oa : Obj} (x : Rest s₀ s) (F : Fr (low s₀.heap B) C s.heap m) (h1 : s₀.heap.get? ga = some oa) (h2 : s.heap.get? ga = some oa) : GenStep B ga s₀ s := by
  obtain ⟨h, tk, rfl⟩ := x
  refine ⟨h, tk, rfl, fun b o hb e => ?_⟩
  rcases hb with hb | rfl
  · exact F.keep b o (low_get.mpr ⟨hb, e⟩)
  · rw [h1] at e; cases e; exact h2

def genY (B : Nat) (ga : Addr) (items : List (Nat × List Nat)) : Protocol := fun m s₀ v s kap =>
  (∃ p ch T t u, items[items.length - 1 - m]? = some (p, ch) ∧ v = .ref T ∧ B ≤ T ∧ s.heap.get? T = some (pairObj p t ch u)) ∧ GenStep B ga s₀ s ∧
    ∀ s'' : Shared, (∀ b o, B ≤ b → s.heap.get? b = some o → s''.heap.get? b = some o) → kap (.send .none) s''
def genR (B : Nat) (ga : Addr) : GenEnd := fun n s₀ r s₁ => r = .ok (.ret .none) ∧ (n = 0 ∧ GenStep B ga s₀ s₁)

abbrev iterMap (x : Str) (tx : Tok) (p : Int) (tp : Tok) (esc : Bool) (u : Str → Option Value) : Str → Option Value :=
  fun z => if z = Str.ofString "escape" then some (.bool esc) else if z = Str.ofString "pos" then some (.int p tp) else if z = Str.ofString "addr" then some (.str x tx) else u z

theorem iterMap_self {x : Str} {tx : Tok} {p : Int} {tp : Tok} {esc : Bool} {M : Str → Option Value} (h1 : M (Str.ofString "escape") = some (.bool esc)) (h2 : M (Str.ofString "pos") = some (.int p tp)) (h3 : M (Str.ofString "addr") = some (.str x tx)) :
    M = iterMap x tx p tp esc M := by
  funext z
  unfold iterMap
  split
  · rename_i e; rw [e, h1]
  · split
    · rename_i e; rw [e, h2]
    · split
      · rename_i e; rw [e, h3]
      · rfl

theorem Fr.iter {b₀ h : Heap} {C : Addr} {x : Str} {tx : Tok} {p : Int} {tp : Tok} {esc : Bool} {M : Str → Option Value} (F : Fr b₀ C h M) (h1 : M (Str.ofString "escape") = some (.bool esc)) (h2 : M (Str.ofString "pos") = some (.int p tp)) (h3 : M (Str.ofString "addr") = some (.str x tx)) :
    Fr b₀ C h (iterMap x tx p tp esc M) := Eq.mp (congrArg (Fr b₀ C h) (iterMap_self h1 h2 h3)) F

section
variable {prog : Program} {w : World} {A : Around} {B : Nat} {x : Str} {tx : Tok} {C fa e it ga : Addr} {oa : Obj} {cd : Value} {fs : List Frame} {mg mb : Str → Option Value} {StI : Nat → Heap → Prop} {Mid : Nat → Addr → Heap → Prop} {items : List (Nat × List Nat)}

theorem iterLoop (hh : ∀ c, (A.over c fs).handled = none) (hsp : splitAtGen fs = none) (hgu : fs.any Frame.guarded = false)
    (W : ∀ A' : Around, A'.handled = none → WalksT prog w A' e [e, it] [e, it] x.cps.size (fun i vals => ∃ t v, SignAt x i v ∧ vals = #[.int i t, v]) StI Mid)
    (live : ∀ i h, StI i h → ∃ oe oi, h.get? e = some oe ∧ h.get? it = some oi)
    (hBC : B ≤ C) (hBe : B ≤ e) (hBi : B ≤ it) (heC : C ≠ e) (hiC : C ≠ it) (hBa : B ≤ ga) (haC : ga ≠ C) (hae : ga ≠ e) (hai : ga ≠ it) (hlen : x.cps.size ≤ 1048576)
    (after : ∀ esc p tp s₀ s u, (esc = true → p = (x.cps.size : Int) - 1) → Fr (low s₀.heap B) C s.heap (iterMap x tx p tp esc u) → Rest s₀ s → s₀.heap.get? ga = some oa → s.heap.get? ga = some oa →
      (∃ pre, items = pre ++ escF x.cps.size esc []) →
      Seg (model prog w) A (genR B ga) (genY B ga items) (escF x.cps.size esc []).length s₀ (.block [] (envIter C fa cd)) (.pure (.done .next)) fs s) :
    ∀ (k i : Nat) (esc : Bool) (p : Int) (tp : Tok) (s₀ s : Shared) (u : Str → Option Value), x.cps.size - i = k → i ≤ x.cps.size → (esc = true → p = (i : Int) - 1) →
      Fr (low s₀.heap B) C s.heap (iterMap x tx p tp esc u) → StI i s.heap → Rest s₀ s → s₀.heap.get? ga = some oa → s.heap.get? ga = some oa → (∃ pre, items = pre ++ escF i esc (x.cps.toList.drop i)) →
      Seg (model prog w) A (genR B ga) (genY B ga items) (escF i esc (x.cps.toList.drop i)).length s₀
        (.forLoop (forTgt bodyIter) (.ref e) (forBody bodyIter) [] (envIter C fa cd)) ((model prog w).den (.forLoop (forTgt bodyIter) (.ref e) (forBody bodyIter) [] (envIter C fa cd))) fs s := by
  have lowN : ∀ b : Addr, b < B → b ≠ e ∧ b ≠ it ∧ b ≠ C := fun b hb => ⟨Nat.ne_of_lt (Nat.lt_of_lt_of_le hb hBe), Nat.ne_of_lt (Nat.lt_of_lt_of_le hb hBi), Nat.ne_of_lt (Nat.lt_of_lt_of_le hb hBC)⟩
  have noB : ∀ (h : Heap) (b : Addr), B ≤ b → (low h B).get? b = none := fun h b hb => Heap.get?_none_of_le (Nat.le_trans low_size hb)
  intro k
  induction k with
  | zero =>
    intro i esc p tp s₀ s u hk hi hp F hst hg hga₀ hga hit
    have hin : i = x.cps.size := by omega
    subst hin
    have hd : x.cps.toList.drop x.cps.size = [] := by simp
    rw [hd] at hit ⊢
    refine seg_forLoop ((W _ (hh _)).done s _ _ hst fun h' tk hk' => ?_)
    refine seg_block_nil ?_
    have keepC : ∀ b o, b ≠ e → b ≠ it → s.heap.get? b = some o → h'.get? b = some o := fun b o h1 h2 q => hk' b o (by simp [h1, h2]) q
    refine after esc p tp s₀ _ u hp ⟨F.ns.at' fun o q => keepC _ o heC hiC q, fun b o q => ?_, F.above⟩ hg.step hga₀ (keepC _ _ hae hai hga) hit
    have := lowN b (low_get.mp q).1
    exact keepC b o this.1 this.2.1 (F.keep b o q)
  | succ k ih =>
    intro i esc p tp s₀ s u hk hi hp F hst hg hga₀ hga hit
    have hlt : i < x.cps.size := by omega
    have hdrop : x.cps.toList.drop i = x.cps[i] :: x.cps.toList.drop (i + 1) := by
      rw [List.drop_eq_getElem_cons (by simpa using hlt)]; simp
    rw [hdrop] at hit ⊢
    refine seg_forLoop ((W _ (hh _)).item i s _ _ hlt hst fun T vals h₁ tk₁ hP hTge hT hmid hk₁ => ?_)
    obtain ⟨t, v, ⟨c, tc, hc, rfl⟩, rfl⟩ := hP
    have hc' : x.cps[i] = c := by simpa [hlt] using hc
    rw [hc'] at hit ⊢
    refine (W _ (hh _)).go _ _ _ i T _ _ _ hmid fun h₂ hst₂ hk₂ => ?_
    have k12 : ∀ b o, b ≠ e → b ≠ it → s.heap.get? b = some o → h₂.get? b = some o := fun b o h1 h2 q => hk₂ b o (by simp [h1, h2]) (hk₁ b o (by simp [h1, h2]) q)
    have hTa := (W _ (hh (.block [] (envIter C fa cd)))).apart i T _ hmid
    have hT₂ : h₂.IsTuple T #[.int i t, .str ⟨#[c]⟩ tc] := let ⟨o, q, r⟩ := hT; ⟨o, hk₂ _ o hTa q, r⟩
    have hga₂ := k12 _ _ hae hai hga
    have F₂ : Fr (low s₀.heap B) C h₂ (iterMap x tx p tp esc u) := ⟨F.ns.at' fun o q => k12 _ o heC hiC q, fun b o q => by
      have := lowN b (low_get.mp q).1
      exact k12 b o this.1 this.2.1 (F.keep b o q), F.above⟩
    refine assignTup (s := { s with heap := h₂, toks := tk₁ }) [(Str.ofString "pos", _), (Str.ofString "ch", _)] (vs := [.int i t, .str ⟨#[c]⟩ tc]) (hh _) F₂ hT₂ rfl fun h₃ tk₃ F₃ k₃ => ?_
    have hst₃ : StI (i + 1) h₃ := (W _ (hh (.block [] (envIter C fa cd)))).frame _ _ _ hst₂ fun b hb o q => k₃ b o (by
      rcases List.mem_cons.mp hb with rfl | hb
      · exact heC.symm
      · rw [List.mem_singleton.mp hb]; exact hiC.symm) q
    simp only [putAll] at F₃
    obtain ⟨oe, oi, hoe, hoi⟩ := live _ _ hst₃
    have N₃ : News (low s₀.heap B) C h₃ [(e, oe), (it, oi), (ga, oa)] := fun q hq => by
      simp only [List.mem_cons, List.not_mem_nil, or_false] at hq
      rcases hq with rfl | rfl | rfl
      · exact ⟨hoe, heC.symm, noB _ _ hBe⟩
      · exact ⟨hoi, hiC.symm, noB _ _ hBi⟩
      · exact ⟨k₃ _ _ haC hga₂, haC, noB _ _ hBa⟩
    have stOf : ∀ {b₀ h : Heap} {news : List (Addr × Obj)}, News b₀ C h news → (e, oe) ∈ news → (it, oi) ∈ news → StI (i + 1) h := fun {b₀ h news} N h1 h2 =>
      (W _ (hh (.block [] (envIter C fa cd)))).frame _ _ _ hst₃ fun b hb o q => by
        rcases List.mem_cons.mp hb with rfl | hb
        · rw [hoe] at q; cases q; exact (N _ h1).1
        · rw [List.mem_singleton.mp hb] at q ⊢
          rw [hoi] at q; cases q; exact (N _ h2).1
    have wake : ∀ {b₀ h₄ : Heap} {m₄ : Str → Option Value} {news : List (Addr × Obj)}, Fr b₀ C h₄ m₄ → News b₀ C h₄ news → (e, oe) ∈ news → (it, oi) ∈ news → (ga, oa) ∈ news → ∀ s'' : Shared, (∀ b o, B ≤ b → h₄.get? b = some o → s''.heap.get? b = some o) →
        Fr (low s''.heap B) C s''.heap m₄ ∧ News (low s''.heap B) C s''.heap [(e, oe), (it, oi), (ga, oa)] := fun {b₀ h₄ m₄ news} F N h1 h2 h3 s'' hs =>
      ⟨⟨F.ns.at' fun o q => hs C o hBC q, fun b o q => (low_get.mp q).2, Nat.le_trans low_size hBC⟩, fun q hq => by
        simp only [List.mem_cons, List.not_mem_nil, or_false] at hq
        rcases hq with rfl | rfl | rfl
        · exact ⟨hs _ _ hBe (N _ h1).1, heC.symm, noB _ _ hBe⟩
        · exact ⟨hs _ _ hBi (N _ h2).1, hiC.symm, noB _ _ hBi⟩
        · exact ⟨hs _ _ hBa (N _ h3).1, haC, noB _ _ hBa⟩⟩
    have idx : ∀ (pre : List (Nat × List Nat)) (a : Nat × List Nat) (tl : List (Nat × List Nat)), (pre ++ a :: tl)[(pre ++ a :: tl).length - 1 - tl.length]? = some a := fun pre a tl => by
      have : (pre ++ a :: tl).length - 1 - tl.length = pre.length := by simp
      rw [this]; simp
    have hBT : B ≤ h₃.objs.size := Nat.le_trans hBC (Nat.le_of_lt F₃.ns.lt)
    clear F F₂ hT hT₂ hmid hk₁ hk₂ hst₂ k12 hTa k₃ hst
    refine seg_execs_cons (seg_If ?_)
    walk1
    walk1
    walk1
    cases esc with
    | true =>
      simp only [if_true]
      have hnum : (escF i true (c :: x.cps.toList.drop (i + 1))).length = (escF (i + 1) false (x.cps.toList.drop (i + 1))).length + 1 := by simp [escF]
      rw [hnum]
      refine seg_execs_cons (seg_Expr_Yield hsp rfl hgu ?_)
      repeat walk1
      rename_i h₄ F₄ N₄ kap hkap
      obtain ⟨pre, rfl⟩ := hit
      have h9 : (pre ++ escF i true (c :: x.cps.toList.drop (i + 1))) = pre ++ (i, [92, c]) :: escF (i + 1) false (x.cps.toList.drop (i + 1)) := rfl
      refine ⟨⟨i, [92, c], _, _, _, by rw [h9]; exact idx _ _ _, rfl, hBT, (N₄ _ (.head _)).1⟩, genStep_of hg.step F₄ hga₀ (N₄ _ (.tail _ (.tail _ (.tail _ (.head _))))).1, fun s'' hs'' => hkap .none s'' ?_⟩
      obtain ⟨F₅, N₅⟩ := wake F₄ N₄ (.tail _ (.head _)) (.tail _ (.tail _ (.head _))) (.tail _ (.tail _ (.tail _ (.head _)))) s'' hs''
      clear F₃ N₃ F₄ N₄ hkap
      show Seg _ _ _ _ _ _ _ _ _ _
      refine seg_execs_cons (seg_wrap ?_)
      repeat walk1
      rename_i h₆ F₆ N₆
      refine seg_execs_nil (seg_execs_nil (seg_again rfl ?_))
      exact ih (i + 1) false i t s'' _ _ (by omega) (by omega) (by simp) (Fr.iter F₆ rfl rfl rfl) (stOf N₆ (.head _) (.tail _ (.head _))) Rest.refl.step (N₅ _ (.tail _ (.tail _ (.head _)))).1 (N₆ _ (.tail _ (.tail _ (.head _)))).1 ⟨pre ++ [(i, [92, c])], by rw [h9]; simp⟩
    | false =>
      simp only [Bool.false_eq_true, if_false]
      refine seg_execs_cons (seg_If ?_)
      repeat walk1
      · rename_i hq
        rw [sign_eq c 92 of_bs] at hq
        have hq := of_decide_eq_true hq
        have h9 : escF i false (c :: x.cps.toList.drop (i + 1)) = escF (i + 1) true (x.cps.toList.drop (i + 1)) := by simp [escF, hq]
        rw [h9] at hit ⊢
        refine seg_execs_cons (seg_wrap ?_)
        repeat walk1
        rename_i h₆ F₆ N₆
        refine seg_execs_nil (seg_execs_nil (seg_execs_nil (seg_again rfl ?_)))
        exact ih (i + 1) true i t s₀ _ _ (by omega) (by omega) (by simp) (Fr.iter F₆ rfl rfl rfl) (stOf N₆ (.head _) (.tail _ (.head _))) hg.step hga₀ (N₆ _ (.tail _ (.tail _ (.head _)))).1 hit
      · rename_i hq
        rw [sign_eq c 92 of_bs] at hq
        have hq := of_decide_eq_false hq
        have h9 : escF i false (c :: x.cps.toList.drop (i + 1)) = (i, [c]) :: escF (i + 1) false (x.cps.toList.drop (i + 1)) := by simp [escF, hq]
        rw [h9] at hit ⊢
        rw [List.length_cons]
        refine seg_execs_cons (seg_Expr_Yield hsp rfl hgu ?_)
        repeat walk1
        rename_i h₄ F₄ N₄ kap hkap
        obtain ⟨pre, rfl⟩ := hit
        refine ⟨⟨i, [c], _, _, _, idx _ _ _, rfl, hBT, (N₄ _ (.head _)).1⟩, genStep_of hg.step F₄ hga₀ (N₄ _ (.tail _ (.tail _ (.tail _ (.head _))))).1, fun s'' hs'' => hkap .none s'' ?_⟩
        obtain ⟨F₅, N₅⟩ := wake F₄ N₄ (.tail _ (.head _)) (.tail _ (.tail _ (.head _))) (.tail _ (.tail _ (.tail _ (.head _)))) s'' hs''
        clear F₃ N₃ F₄ N₄ hkap
        show Seg _ _ _ _ _ _ _ _ _ _
        refine seg_execs_nil (seg_execs_nil (seg_execs_nil (seg_again rfl ?_)))
        exact ih (i + 1) false i t s'' _ _ (by omega) (by omega) (by simp) (Fr.iter F₅ rfl rfl rfl) (stOf N₅ (.head _) (.tail _ (.head _))) Rest.refl (N₅ _ (.tail _ (.tail _ (.head _)))).1 (N₅ _ (.tail _ (.tail _ (.head _)))).1 ⟨pre ++ [(i, [c])], by simp⟩
end
end Mine
-- part MGen2
namespace Mine
local macro_rules | `(tactic| walk_at "eval Name") => `(tactic| (refine name_bi (by assumption) (by assumption) (by first | exact Boot.enumerate | exact boot_range | exact boot_zip | decide +kernel) ?_))

section
variable {prog : Program} {w : World} {A : Around} {B : Nat} {x : Str} {tx : Tok} {C fa ga : Addr} {oa : Obj} {cd : Value} {mg mb : Str → Option Value}

theorem iterStart (hh : A.handled = none) (hBC : B ≤ C) (hBa : B ≤ ga) (haC : ga ≠ C) (hlen : x.cps.size ≤ 1048576) {s : Shared} (hga : s.heap.get? ga = some oa) (G : Gd mg mb (low s.heap B)) (hns : s.heap.Ns C (fun y => [(Str.ofString "addr", Value.str x tx)].reverse.lookup y)) :
    Seg (model prog w) A (genR B ga) (genY B ga (escF 0 false x.cps.toList)) (escF 0 false x.cps.toList).length s (.func bodyIter (envIter C fa cd)) ((model prog w).den (.func bodyIter (envIter C fa cd))) [] s := by
  have F : Fr (low s.heap B) C s.heap (fun y => [(Str.ofString "addr", Value.str x tx)].reverse.lookup y) := ⟨hns, fun b o q => (low_get.mp q).2, Nat.le_trans low_size hBC⟩
  have N : News (low s.heap B) C s.heap [(ga, oa)] := fun q hq => by
    rw [List.mem_singleton.mp hq]; exact ⟨hga, haC, Heap.get?_none_of_le (Nat.le_trans low_size hBa)⟩
  have hh1 : (A.over (.func bodyIter (envIter C fa cd)) []).handled = none := hh
  refine seg_func ?_
  refine seg_execs_cons (seg_wrap ?_)
  repeat walk1
  refine seg_execs_cons (seg_wrap ?_)
  repeat walk1
  refine seg_execs_cons (seg_For ?_)
  repeat walk1
  rename_i h₁ F₁ N₁ h₂ F₂ N₂
  refine call_enumerate_str (s := { s with heap := h₂, toks := s.toks + 1 + 1 + 1 }) fun h₃ he hit hsz hk => ?_
  refine wpAny_pyIter_enum he fun p => ?_
  replace hk : ∀ b o, h₂.get? b = some o → h₃.get? b = some o := hk
  have F₃ := Fr.up F₂ hk
  have hC : C < h₂.objs.size := F₂.ns.lt
  have hga₂ : ga < h₂.objs.size := Heap.lt_size (N₂ _ (.head _)).1
  have W : ∀ A' : Around, A'.handled = none → WalksT prog w A' (h₂.objs.size + 1) [h₂.objs.size + 1, h₂.objs.size] [h₂.objs.size + 1, h₂.objs.size] x.cps.size (fun i vals => ∃ t v, SignAt x i v ∧ vals = #[.int i t, v])
      (fun i h => (∃ old, IsEnum h (h₂.objs.size + 1) h₂.objs.size i old) ∧ h.IsStrIter h₂.objs.size (strIterType x) x tx i)
      (fun i T h => (∃ x, IsEnumOut h (h₂.objs.size + 1) h₂.objs.size ((i : Int) + 1) x T) ∧ h.IsStrIter h₂.objs.size (strIterType x) x tx (i + 1) ∧ T ≠ h₂.objs.size + 1 ∧ T ≠ h₂.objs.size) := fun A' hA' => by
    cases ha : x.cps.all (· < 128)
    · have e : strIterType x = "str_iterator" := by simp [strIterType, ha]
      rw [e]
      exact WalksT.enumerateD (Draws.strWide (A := A'.in1) hA' h₂.objs.size x tx) (h₂.objs.size + 1) (Nat.succ_ne_self _) (by simp) (by simp)
    · have e : strIterType x = "str_ascii_iterator" := by simp [strIterType, ha]
      rw [e]
      exact WalksT.enumerateD (Draws.strAscii (A := A'.in1) hA' h₂.objs.size x tx) (h₂.objs.size + 1) (Nat.succ_ne_self _) (by simp) (by simp)
  refine iterLoop (fun c => ?hov) rfl rfl W (fun i h st => ?_) hBC (Nat.le_trans hBC (Nat.le_of_lt (Nat.lt_succ_of_lt hC))) (Nat.le_trans hBC (Nat.le_of_lt hC)) (Nat.ne_of_lt (Nat.lt_succ_of_lt hC)) (Nat.ne_of_lt hC) hBa haC (Nat.ne_of_lt (Nat.lt_succ_of_lt hga₂)) (Nat.ne_of_lt hga₂) hlen ?_ x.cps.size 0 false 0 _ s _ _ (Nat.sub_zero _) (Nat.zero_le _) (by simp) (Fr.iter F₃ rfl rfl rfl) ⟨⟨_, he⟩, hit⟩ Rest.refl.step hga (hk _ _ (N₂ _ (.head _)).1) ⟨[], rfl⟩
  case hov => exact hh
  · obtain ⟨⟨old, q⟩, ⟨o, r, _⟩⟩ := st
    exact ⟨_, _, q, r⟩
  · intro esc p' tp s₀ s₄ u hp F₄ hr hga₀ hga₄ hpre
    refine seg_leaf (.ok .next) ?_
    show Seg _ _ _ _ _ _ _ ((execs _ (envIter C fa cd)).wrap _ _ _ _) _ _
    have N₄ : News (low s₀.heap B) C s₄.heap [(ga, oa)] := fun q hq => by
      rw [List.mem_singleton.mp hq]; exact ⟨hga₄, haC, Heap.get?_none_of_le (Nat.le_trans low_size hBa)⟩
    clear F N F₁ N₁ F₂ N₂ F₃ he hit hns
    refine seg_execs_cons (seg_If ?_)
    walk1
    walk1
    walk1
    cases esc with
    | true =>
      simp only [if_true]
      refine seg_execs_cons (seg_Expr_Yield rfl rfl rfl ?_)
      repeat walk1
      rename_i h₅ F₅ N₅ kap hkap
      obtain ⟨pre, hpre⟩ := hpre
      rw [hp rfl] at N₅
      have hx0 : 0 < x.cps.size := by
        rcases Nat.eq_zero_or_pos x.cps.size with q | q
        · exfalso
          have : x.cps.toList = [] := by simpa using q
          rw [this] at hpre
          simp [escF] at hpre
        · exact q
      have hcast : ((x.cps.size : Int) - 1) = ((x.cps.size - 1 : Nat) : Int) := by omega
      rw [hcast] at N₅
      have hT := (N₅ _ (.head _)).1
      refine ⟨⟨x.cps.size - 1, [92], _, _, _, by rw [hpre]; simp [escF], rfl, Nat.le_trans hBC (Nat.le_of_lt F₄.ns.lt), hT⟩, genStep_of hr.step F₅ hga₀ (N₅ _ (.tail _ (.head _))).1, fun s'' hs'' => hkap .none s'' ?_⟩
      · show Seg _ _ _ _ _ _ _ _ _ _
        exact seg_execs_nil (seg_execs_nil (seg_end (.ok (.ret .none)) ⟨rfl, rfl, GenStep.refl⟩))
    | false =>
      simp only [Bool.false_eq_true, if_false]
      exact seg_execs_nil (seg_execs_nil (seg_end (.ok (.ret .none)) ⟨rfl, rfl, genStep_of hr F₄ hga₀ hga₄⟩))
end
end Mine
-- part MGen3
namespace Mine
structure FnAt (mg : Str → Option Value) (h : Heap) (n : Nat) (nm : Str) (fa : Addr) (cd : Value) : Prop where
  glob : mg nm = some (.ref fa)
  obj : ∃ o pm doc, h.get? fa = some o ∧ o.data = .func (Calls.docDef nm (fnParts n).1 (fnParts n).2.1 (fnParts n).2.2 pm cd doc)
  code : h.CodeRec cd nm
theorem FnAt.keeps {mg : Str → Option Value} {h h' : Heap} {n : Nat} {nm : Str} {fa : Addr} {cd : Value} (f : FnAt mg h n nm fa cd) (hk : ∀ b o, h.get? b = some o → h'.get? b = some o) : FnAt mg h' n nm fa cd :=
  ⟨f.glob, let ⟨o, pm, doc, a, b⟩ := f.obj; ⟨o, pm, doc, hk _ _ a, b⟩, f.code.keeps hk⟩

structure GMoved (B g : Nat) (s s' : Shared) : Prop where
  keep : ∀ b o, b < B → s.heap.get? b = some o → s'.heap.get? b = some o
  os : s'.os = s.os
  drawn : s'.drawn = s.drawn
  size : s'.gens.size = s.gens.size
  gens : ∀ k, k ≠ g → s'.gens[k]? = s.gens[k]?
  bare : ∀ y, s'.gens[g]? = some y → y.bare = true

section
variable {prog : Program} {w : World} {A : Around} {B : Nat} {mg mb : Str → Option Value} {items : List (Nat × List Nat)} {a : Addr} {g : Nat} {E : Value → Shared → Prop} {s : Shared}

def IterAt (prog : Program) (w : World) (A : Around) (mg mb : Str → Option Value) (B : Nat) (items : List (Nat × List Nat)) (j : Nat) (a : Addr) (g : Nat) (s : Shared) : Prop :=
  B ≤ a ∧ s.heap.IsGen a g ∧ ∃ gs, s.gens[g]? = some gs ∧ ∀ s'' : Shared, (∀ b o, B ≤ b → s.heap.get? b = some o → s''.heap.get? b = some o) → Gd mg mb (low s''.heap B) →
    gs.Goes (model prog w) A.in1 (genR B a) (genY B a items) (items.length - j) (.send .none) s''

theorem setGen_bare {s : Shared} {g : Nat} {x : GenState} (h : x.bare = true) : ∀ y, (s.setGen g x).gens[g]? = some y → y.bare = true := by
  intro y hy
  by_cases q : g < s.gens.size
  · simp [Shared.setGen, q] at hy; subst hy; exact h
  · simp [Shared.setGen, q] at hy

theorem gmoved_of {s s₁ : Shared} {g : Nat} {x : GenState} {h' : Heap} (hb : x.bare = true) {ga : Addr} (hs : GenStep B ga (s.setGen g .running) s₁) (hk : ∀ b o, s₁.heap.get? b = some o → h'.get? b = some o) :
    GMoved B g s { s₁.setGen g x with heap := h' } := by
  obtain ⟨h₁, tk, rfl, k₁⟩ := hs
  refine ⟨fun b o hb e => hk b o (k₁ b o (.inl hb) e), rfl, rfl, by simp [Shared.setGen], fun k hk => by simp [Shared.setGen, Ne.symm hk], ?_⟩
  exact setGen_bare (s := { s.setGen g .running with heap := h₁, toks := tk }) hb

theorem iter_next {j : Nat} {Q : Option Value → Shared → Prop} (hh : A.handled = none) (hroom : A.depth < recursionLimit) (G : Gd mg mb (low s.heap B)) (I : IterAt prog w A mg mb B items j a g s) (hj : j ≤ items.length)
    (item : ∀ p ch s' T t u, items[j]? = some (p, ch) → IterAt prog w A mg mb B items (j + 1) a g s' → B ≤ T → s'.heap.get? T = some (pairObj p t ch u) → GMoved B g s s' → Q (some (.ref T)) s')
    (done : ∀ s', j = items.length → GMoved B g s s' → Q none s') :
    wpAny (model prog w) A (pyNext (.ref a)) Q E s := by
  obtain ⟨hBa, hg, gs, hgs, hgo⟩ := I
  have hl : s.heap.NoLimit := G.lim.keeps fun b o q => (low_get.mp q).2
  have hgo := hgo (s.setGen g .running) (fun _ _ _ q => q) G
  unfold pyNext
  refine wpAny_bind (wpAny_attempt (wpAny_callSpecial?_slot (name := Str.ofString "__next__") hg.typeIs slot_gen_next (wpAny_call_entry slot_gen_next hg.typeIs entry_gen_next ?_ (args_gen_next _))))
  show wpAny _ A.in1 (Builtin.Generator.genWake (.ref a) (.send .none)) _ _ s
  unfold Builtin.Generator.genWake
  refine wpAny_bind (wpAny_holding (wpAny_genNumber hg (wpAny_bind (wpAny_genState hgs ?_))))
  cases gs with
  | running => exact hgo.elim
  | finished => exact hgo.elim
  | _ =>
    refine wpAny_bind (wpAny_roomToWake hl hroom ?_)
    show wpAny _ A.in1 (.resume g (.send .none) [] _) _ _ s
    refine wpAny_resumeQ hgs hgo (fun x s₁ hx => ?_) (fun v s₁ gs' hb hv => ?_)
    · obtain ⟨rfl, hn, hst⟩ := hx
      show wpAny _ A.in1 (newExc (.type "StopIteration") [] >>= _) _ _ _
      refine wpAny_bind ?_
      simp only [newExc, newTuple]
      refine wpAny_bind (wpAny_newObj_type ?_ (by size_fits))
      refine wpAny_bind (m := firstArgMember _ _) (wpAny_of_eq (a := Value.none) (by first | rfl | (simp only [firstArgMember]; rfl)) ?_)
      refine wpAny_newObj_type ?_ (by size_fits)
      simp only [raiseNew]
      refine wpAny_bind (wpAny_bind (wpAny_handled ?_))
      rw [show A.in1.handled = none from hh]
      refine wpAny_throw ?_
      refine wpAny_bind (wpAny_isInstance (T := "StopIteration") (b := true) ⟨_, Heap.get?_push_size _ rfl, rfl⟩ isSubtype_stop ?_)
      exact wpAny_pure (done _ (by omega) (gmoved_of rfl hst fun b o q => Heap.get?_push_of_some _ (Heap.get?_push_of_some _ q)))
    · obtain ⟨⟨p, ch, T, t, u, hi, rfl, hT, ht⟩, hst, hkap⟩ := hv
      have hlt : j < items.length := by
        rcases Nat.lt_or_ge j items.length with q | q
        · exact q
        · have e : items.length - j = 0 := by omega
          rw [e] at hkap
          exact (hkap s₁ fun _ _ _ q => q).elim
      obtain ⟨m, hm⟩ : ∃ m, items.length - j = m + 1 := ⟨items.length - j - 1, by omega⟩
      rw [hm] at hkap hi
      have e : items.length - 1 - (m + 1 - 1) = j := by omega
      rw [e] at hi
      refine wpAny_pure ⟨_, rfl, wpAny_pure (item p ch _ T t u hi ⟨hBa, ?_, gs', ?_, fun s'' hs'' _ => ?_⟩ hT ht (gmoved_of hb hst fun _ _ q => q))⟩
      · obtain ⟨h₁, tk, rfl, k₁⟩ := hst
        exact let ⟨o, nm, qn, ho, r⟩ := hg; ⟨o, nm, qn, k₁ a o (.inr rfl) ho, r⟩
      · obtain ⟨h₁, tk, rfl, k₁⟩ := hst
        exact setGen_self (gs := .running) (setGen_self hgs)
      · have e2 : items.length - (j + 1) = m := by omega
        rw [e2]; exact hkap s'' hs''

/-- the call of the generator function -/
theorem iter_call {fa : Addr} {cd : Value} {x : Str} {tx : Tok} {Q : Value → Shared → Prop} (hh : A.handled = none) (hroom : A.depth < recursionLimit) (hlen : x.cps.size ≤ 1048576) (fn : FnAt mg s.heap 1 "_iter_escaped_chars" fa cd) (hlim : s.heap.NoLimit)
    (h : ∀ a g s', IterAt prog w A mg mb s.heap.objs.size (escF 0 false x.cps.toList) 0 a g s' → (∀ b o, s.heap.get? b = some o → s'.heap.get? b = some o) → s'.os = s.os → s'.drawn = s.drawn → g = s.gens.size →
      (∃ y, y.bare = true ∧ s'.gens = s.gens.push y) → Q (.ref a) s') :
    wpAny (model prog w) A (call (.ref fa) [.str x tx]) Q E s := by
  obtain ⟨o, pm, doc, ho, hd⟩ := fn.obj
  refine wpAny_call (codeAny_call_generator (body := bodyIter) hroom ho hd rfl rfl rfl fn.code ?_)
  refine wpAny_of_eq (a := [(Str.ofString "addr", .str x tx)]) (by rfl) ?_
  refine wpAny_newFunctionEnv (show ∀ x ∈ scIter.names, x.2 ≠ NameKind.cell by decide) (by intro y hy; rw [List.mem_singleton.mp hy]; rfl) (fun h₁ hn hs => ?_) rfl
  have keep : ∀ b o, s.heap.get? b = some o → h₁.get? b = some o := fun b o e => hs.extBut b o (Nat.ne_of_lt (Heap.lt_size e)) (Heap.get?_push_of_some _ e)
  have hsz : h₁.objs.size = s.heap.objs.size + 1 := by rw [hs.1, Heap.size_push]
  refine ⟨hlim.keeps keep, h _ _ _ ⟨?_, ⟨_, _, _, Heap.get?_push_size _ rfl, rfl, rfl, rfl⟩, _, Array.getElem?_push_size .., fun s'' hs'' G => ⟨rfl, ?_⟩⟩ (fun b o q => Heap.get?_push_of_some _ (keep b o q)) rfl rfl rfl ⟨_, rfl, rfl⟩⟩
  · show s.heap.objs.size ≤ h₁.objs.size; omega
  · have hC : s.heap.objs.size < h₁.objs.size := hn.lt
    refine iterStart (A := A.in1) (tx := tx) (ga := h₁.objs.size) hh (Nat.le_refl _) (Nat.le_of_lt hC) (Nat.ne_of_gt hC) hlen (hs'' _ _ (Nat.le_of_lt hC) (Heap.get?_push_size _ rfl)) G ?_
    exact hn.at' fun o q => hs'' _ _ (Nat.le_refl _) (Heap.get?_push_of_some _ q)
end
end Mine
-- part MLoop
namespace Mine
/-- all but the heap and the tokens, and the new generators, is as it was -/
structure Gx (s s' : Shared) : Prop where
  os : s'.os = s.os
  drawn : s'.drawn = s.drawn
  size : s.gens.size ≤ s'.gens.size
  gens : ∀ k, k < s.gens.size → s'.gens[k]? = s.gens[k]?
  bare : AllBare s.gens → AllBare s'.gens
theorem Gx.refl {s : Shared} : Gx s s := ⟨rfl, rfl, Nat.le_refl _, fun _ _ => rfl, fun h => h⟩
theorem Gx.trans {s s' s'' : Shared} (x : Gx s s') (y : Gx s' s'') : Gx s s'' :=
  ⟨y.os.trans x.os, y.drawn.trans x.drawn, Nat.le_trans x.size y.size, fun k hk => (y.gens k (Nat.lt_of_lt_of_le hk x.size)).trans (x.gens k hk), fun h => y.bare (x.bare h)⟩
theorem Gx.step {s s' : Shared} (x : Gx s s') {h : Heap} {tk : Nat} : Gx s { s' with heap := h, toks := tk } := ⟨x.os, x.drawn, x.size, x.gens, x.bare⟩
theorem Gx.step1 {s : Shared} {h : Heap} {tk : Nat} : Gx s { s with heap := h, toks := tk } := Gx.refl.step
theorem Gx.of_moved {s s' s'' : Shared} {B g : Nat} (x : Gx s s') (m : GMoved B g s' s'') (hg : s.gens.size ≤ g) : Gx s s'' := by
  refine ⟨m.os.trans x.os, m.drawn.trans x.drawn, m.size ▸ x.size, fun k hk => (m.gens k (Nat.ne_of_lt (Nat.lt_of_lt_of_le hk hg))).trans (x.gens k hk), fun h y hy => ?_⟩
  obtain ⟨i, hi, rfl⟩ := Array.mem_iff_getElem.mp hy
  by_cases e : i = g
  · subst e; exact m.bare _ (Array.getElem?_eq_getElem hi)
  · have h1 := m.gens i e
    rw [Array.getElem?_eq_getElem hi] at h1
    obtain ⟨hi', e'⟩ := Array.getElem?_eq_some_iff.mp h1.symm
    exact e' ▸ x.bare h _ (Array.getElem_mem hi')

structure Ext (s s' : Shared) : Prop where
  keep : ∀ b o, s.heap.get? b = some o → s'.heap.get? b = some o
  gx : Gx s s'
theorem Ext.refl {s : Shared} : Ext s s := ⟨fun _ _ e => e, .refl⟩
theorem Ext.trans {s s' s'' : Shared} (x : Ext s s') (y : Ext s' s'') : Ext s s'' := ⟨fun b o e => y.keep b o (x.keep b o e), x.gx.trans y.gx⟩

def tailOf (h : Heap) (B : Nat) : List (Addr × Obj) := (List.range h.objs.size).filterMap fun b => if B ≤ b then (h.get? b).map fun o => (b, o) else none
theorem mem_tailOf {h : Heap} {B : Nat} {b : Addr} {o : Obj} : (b, o) ∈ tailOf h B ↔ B ≤ b ∧ h.get? b = some o := by
  unfold tailOf
  rw [List.mem_filterMap]
  constructor
  · rintro ⟨a, _, ha⟩
    split at ha
    · rename_i hB
      cases q : h.get? a with
      | none => rw [q] at ha; cases ha
      | some o' => rw [q] at ha; cases ha; exact ⟨hB, q⟩
    · cases ha
  · rintro ⟨hB, q⟩
    exact ⟨b, List.mem_range.mpr (Heap.lt_size q), by rw [if_pos hB, q]; rfl⟩

section
variable {prog : Program} {w : World} {A : Around} {E : Value → Shared → Prop} {s₀ s : Shared} {h₀ : Heap} {L fa a : Addr} {cd : Value} {name : Str} {scope : Scope} {mg mb : Str → Option Value} {items : List (Nat × List Nat)} {B g : Nat}

theorem lowGd {h : Heap} {m : Str → Option Value} (G : Gd mg mb h₀) (F : Fr h₀ L h m) (hL : L < B) : Gd mg mb (low h B) :=
  G.keeps fun b o e => low_get.mpr ⟨Nat.lt_of_lt_of_le (Heap.lt_size e) (Nat.le_trans F.above (Nat.le_of_lt hL)), F.keep b o e⟩

theorem Fr.lows {h h' : Heap} {m : Str → Option Value} (F : Fr h₀ L h m) (hL : L < B) (k : ∀ b o, b < B → h.get? b = some o → h'.get? b = some o) : Fr h₀ L h' m :=
  ⟨F.ns.at' fun o q => k L o hL q, fun b o e => k b o (Nat.lt_of_lt_of_le (Heap.lt_size e) (Nat.le_trans F.above (Nat.le_of_lt hL))) (F.keep b o e), F.above⟩
theorem News.lows {h h' : Heap} {news : List (Addr × Obj)} (N : News h₀ L h news) (hn : ∀ q ∈ news, q.1 < B) (k : ∀ b o, b < B → h.get? b = some o → h'.get? b = some o) : News h₀ L h' news :=
  fun p hp => ⟨k _ _ (hn p hp) (N p hp).1, (N p hp).2⟩

/-- the end of a turn that goes on -/
def TurnEnd (h₀ : Heap) (L : Addr) (B : Nat) (tl : List (Addr × Obj)) (J : (Str → Option Value) → List (Addr × Obj) → Prop) (s₁ s₂ : Shared) : Prop :=
  ∃ h tk m' led', s₂ = { s₁ with heap := h, toks := tk } ∧ Fr h₀ L h m' ∧ News h₀ L h led' ∧ News h₀ L h tl ∧ (∀ q ∈ led', q.1 < B) ∧ J m' led'

theorem iterFor {R : Result → Shared → Prop} {x y : Str} {px py pos : Pos} {k : Nat} {body : List Stmt} (hh : A.handled = none) (hroom : A.depth < recursionLimit) (G : Gd mg mb h₀) (hL : L < B) (hg : s₀.gens.size ≤ g)
    (hk : scope.kind = .function) (hx : (envOf name scope L fa cd).kindOf x = some .local) (hy : (envOf name scope L fa cd).kindOf y = some .local)
    (J : Nat → (Str → Option Value) → List (Addr × Obj) → Prop) {m₀ : Str → Option Value} {led₀ : List (Addr × Obj)}
    (I : IterAt prog w A mg mb B items 0 a g s) (F : Fr h₀ L s.heap m₀) (N : News h₀ L s.heap led₀) (hlo : ∀ q ∈ led₀, q.1 < B) (X : Gx s₀ s) (j0 : J 0 m₀ led₀)
    (turn : ∀ (j p : Nat) (ch : List Nat) (t u : Tok) (s₁ : Shared) (m : Str → Option Value) (led tl : List (Addr × Obj)), items[j]? = some (p, ch) → J j m led → (∀ q ∈ led, q.1 < B) → (∀ q ∈ tl, B ≤ q.1) → Gx s₀ s₁ →
      Fr h₀ L s₁.heap (fun z => if z = y then some (.str ⟨ch.toArray⟩ u) else if z = x then some (.int p t) else m z) → News h₀ L s₁.heap (led ++ tl) →
      wpAny (model prog w) A (execs body (envOf name scope L fa cd)) (fun f s₂ => match f with
        | .next | .cont => TurnEnd h₀ L B tl (J (j + 1)) s₁ s₂
        | .brk => R (.ok .next) s₂
        | .ret v => R (.ok (.ret v)) s₂) (fun _ _ => False) s₁)
    (done : ∀ s₁ m led, J items.length m led → Gx s₀ s₁ → Fr h₀ L s₁.heap m → News h₀ L s₁.heap led → R (.ok .next) s₁) :
    codeAny (model prog w) A (.forLoop (.Tuple [.Name x px, .Name y py] k pos) (.ref a) body [] (envOf name scope L fa cd)) R s := by
  refine codeAny_forLoop_any (fun n s₁ => ∃ j m led, n = items.length - j ∧ j ≤ items.length ∧ IterAt prog w A mg mb B items j a g s₁ ∧ Fr h₀ L s₁.heap m ∧ News h₀ L s₁.heap led ∧ (∀ q ∈ led, q.1 < B) ∧ Gx s₀ s₁ ∧ J j m led) ?_
    items.length ⟨0, m₀, led₀, rfl, Nat.zero_le _, I, F, N, hlo, X, j0⟩
  rintro n s₁ ⟨j, m, led, rfl, hj, I₁, F₁, N₁, hlo₁, X₁, J₁⟩
  refine iter_next hh hroom (lowGd G F₁ hL) I₁ hj (fun p ch s₂ T t u hi I₂ hT ht mv => ?_) (fun s₂ hje mv => ?_)
  · have hjl : j < items.length := by
      rcases Nat.lt_or_ge j items.length with q | q
      · exact q
      · rw [List.getElem?_eq_none q] at hi; cases hi
    have F₂ := Fr.lows F₁ hL mv.keep
    have N₂ := News.lows N₁ hlo₁ mv.keep
    have X₂ := X₁.of_moved mv hg
    have hgo : letOwnedTupleGo (.Tuple [.Name x px, .Name y py] k pos) (.ref a) (.ref T) = (do
        let o ← load a
        match o.cls, o.data with
        | .type n, .fields vs =>
          if ["enumerate", "zip", "dict_itemiterator", "dict_reverseitemiterator", "odict_iterator", "itertools.zip_longest", "itertools.pairwise"].contains n && vs[0]? == some (rawInt T) then
            rule "for.unpacks-the-owned-tuple"
            updateField a 0 .none
        | _, _ => pure ()) := rfl
    obtain ⟨hBa, ⟨og, nm, qn, hog, hcl, hdt, hsl⟩, gs, hgs, hgo2⟩ := id I₂
    dsimp only
    rw [hgo]
    refine wpAny_bind (wpAny_load hog ?_)
    rw [hcl, hdt]
    refine wpAny_of_eq (a := ()) (by rfl) ?_
    have ht' : s₂.heap.IsTuple T (#[.int p t, .str ⟨ch.toArray⟩ u] : Array Value) := ⟨_, ht, rfl, _, rfl⟩
    refine assignTup [(x, px), (y, py)] (vs := [.int p t, .str ⟨ch.toArray⟩ u]) hh F₂ ht' rfl (fun h₃ tk₃ F₃ k₃ => ?_) hk (by
      intro z hz
      rcases List.mem_cons.mp hz with rfl | hz
      · exact hx
      · rw [List.mem_singleton.mp hz]; exact hy) rfl
    have nL : ∀ q ∈ led, q.1 ≠ L := fun q hq => (N₂ q hq).2.1
    have N₃ : News h₀ L h₃ (led ++ tailOf s₂.heap B) := fun q hq => by
      rcases List.mem_append.mp hq with hq | hq
      · exact ⟨k₃ _ _ (nL q hq) (N₂ q hq).1, (N₂ q hq).2⟩
      · obtain ⟨h1, h2⟩ := mem_tailOf.mp (show (q.1, q.2) ∈ _ from hq)
        exact ⟨k₃ _ _ (Nat.ne_of_gt (Nat.lt_of_lt_of_le hL h1)) h2, Nat.ne_of_gt (Nat.lt_of_lt_of_le hL h1), Heap.get?_none_of_le (Nat.le_trans F₂.above (Nat.le_trans (Nat.le_of_lt hL) h1))⟩
    refine wpAny_mono (turn j p ch t u { s₂ with heap := h₃, toks := tk₃ } m led (tailOf s₂.heap B) hi J₁ hlo₁ (fun q hq => (mem_tailOf.mp (show (q.1, q.2) ∈ _ from hq)).1) X₂.step F₃ N₃) (fun f s₄ h₄ => ?_) fun _ _ q => q.elim
    have fin : TurnEnd h₀ L B (tailOf s₂.heap B) (J (j + 1)) { s₂ with heap := h₃, toks := tk₃ } s₄ →
        ∃ n', n' < items.length - j ∧ ∃ j' m led, n' = items.length - j' ∧ j' ≤ items.length ∧ IterAt prog w A mg mb B items j' a g s₄ ∧ Fr h₀ L s₄.heap m ∧ News h₀ L s₄.heap led ∧ (∀ q ∈ led, q.1 < B) ∧ Gx s₀ s₄ ∧ J j' m led := by
      rintro ⟨h, tk, m', led', rfl, F', N', NT, hlo', J'⟩
      have up : ∀ b o, B ≤ b → s₂.heap.get? b = some o → h.get? b = some o := fun b o hb q => (NT (b, o) (mem_tailOf.mpr ⟨hb, q⟩)).1
      refine ⟨items.length - (j + 1), by omega, j + 1, m', led', rfl, hjl, ⟨hBa, ⟨og, nm, qn, up _ _ hBa hog, hcl, hdt, hsl⟩, gs, hgs, fun s'' hs'' => hgo2 s'' fun b o hb q => hs'' b o hb (up b o hb q)⟩, F', N', hlo', X₂.step, J'⟩
    cases f with
    | next => exact fin h₄
    | cont => exact fin h₄
    | brk => exact h₄
    | ret v => exact h₄
  · exact wpAny_execs_nil (done s₂ m led (hje ▸ J₁) (X₁.of_moved mv hg) (Fr.lows F₁ hL mv.keep) (News.lows N₁ hlo₁ mv.keep))

theorem iter_callX {fi : Addr} {ci : Value} {x : Str} {tx : Tok} {Q : Value → Shared → Prop} (hh : A.handled = none) (hroom : A.depth < recursionLimit) (hlen : x.cps.size ≤ 1048576) (fn : FnAt mg s.heap 1 "_iter_escaped_chars" fi ci) (hlim : s.heap.NoLimit)
    (h : ∀ a s', IterAt prog w A mg mb s.heap.objs.size (escF 0 false x.cps.toList) 0 a s.gens.size s' → (∀ b o, s.heap.get? b = some o → s'.heap.get? b = some o) → Gx s s' → Q (.ref a) s') :
    wpAny (model prog w) A (call (.ref fi) [.str x tx]) Q E s := by
  refine iter_call (mb := mb) hh hroom hlen fn hlim fun a g s' I k e1 e2 e3 e4 => ?_
  subst e3
  obtain ⟨y, hy, e5⟩ := e4
  refine h a s' I k ⟨e1, e2, by rw [e5]; simp, fun i hi => by rw [e5]; simp [Array.getElem?_push, Nat.ne_of_lt hi], fun hb => by rw [e5]; exact hb.push hy⟩
end
end Mine
-- part MStrip
namespace Mine
section
variable {prog : Program} {w : World} {A : Around} {E : Value → Shared → Prop} {s : Shared} {fa : Addr} {cd : Value} {mg mb : Str → Option Value}
theorem enter {n : Nat} {nm : Str} {args : List Value} {binds : List (Str × Value)} {Q : Value → Shared → Prop} (fn : FnAt mg s.heap n nm fa cd) (hroom : A.depth < recursionLimit) (hlim : s.heap.NoLimit)
    (hbind : ∀ pm doc, bindArgs (Calls.docDef nm (fnParts n).1 (fnParts n).2.1 (fnParts n).2.2 pm cd doc) ⟨args, []⟩ = pure binds)
    (hloc : ∀ x ∈ binds, (fnParts n).2.2.names.lookup x.1 = some .local)
    (hco : (fnParts n).2.2.isCoroutine = false) (hgen : (fnParts n).2.2.isGenerator = false) (hk : (fnParts n).2.2.kind = .function)
    (hcell : ∀ x ∈ (fnParts n).2.2.names, x.2 ≠ .cell)
    (h : ∀ h₁, Fr s.heap s.heap.objs.size h₁ (fun y => binds.reverse.lookup y) →
      wpAny (model prog w) (A.deeper (envOf nm (fnParts n).2.2 s.heap.objs.size fa cd)) (execs (fnParts n).2.1 (envOf nm (fnParts n).2.2 s.heap.objs.size fa cd))
        (fun f s' => Q (match f with | .ret v => v | _ => .none) s') (fun _ _ => False) { s with heap := h₁, toks := s.toks + binds.length }) :
    wpAny (model prog w) A (call (.ref fa) args) Q E s := by
  obtain ⟨o, pm, doc, ho, hd⟩ := fn.obj
  exact wpAny_call (call_plain_ret hroom ho hd hlim fn.code (hbind pm doc) hloc (fun h₁ F => h h₁ F) hco hgen hk hcell)

theorem name_fn {h₀ : Heap} {L fa' : Addr} {cd cd' : Value} {m : Str → Option Value} {name nm : Str} {scope : Scope} {n : Nat}
    {pos : Pos} {Q : Value → Shared → Prop} (F : Fr h₀ L s.heap m) (G : Gd mg mb h₀) (f : FnAt mg h₀ n nm fa cd) (h : Q (.ref fa) s)
    (hk : scope.kind = .function := by rfl) (hx : (envOf name scope L fa' cd').kindOf nm = some .globalImplicit := by rfl) (hd : (nm == ("__debug__" : Str)) = false := by decide) :
    wpAny (model prog w) A (eval (.Name nm pos) (envOf name scope L fa' cd')) Q E s := ld_global_at F G.g f.glob h hk hx hd
end
local macro_rules | `(tactic| walk_at "eval Name") => `(tactic| (refine name_bi (by assumption) (by assumption) (by first | exact Boot.enumerate | exact Boot.len | exact Boot.range | exact Boot.zip | exact Boot.sum | exact Boot.list | exact Boot.ValueError) ?_))
local macro_rules | `(tactic| walk_at "eval Name") => `(tactic| (refine name_fn (by assumption) (by assumption) (by assumption) ?_))

/-- one turn of `_strip_quoted_realnames`: where the next kept part begins, where a mark stands open, the parts kept -/
def sliceS (x : Str) (a b : Nat) : Str := Txt.slice x (some (a : Int)) (some (b : Int))
def stripStep (x : Str) (q : Nat × Option Nat × List Str) (it : Nat × List Nat) : Nat × Option Nat × List Str :=
  if it.2 = [34] then (match q.2.1 with
    | none => (q.1, some it.1, q.2.2)
    | some o => (it.1 + 1, none, if q.1 = o then q.2.2 else q.2.2 ++ [sliceS x q.1 o])) else q
abbrev listObj (vs : List Value) (n : Nat) : Obj := { cls := .type "list", data := .seq vs.toArray n }
abbrev stripMap (x : Str) (tx : Tok) (st : Nat) (ts : Tok) (op : Option Nat) (to : Tok) (D : Addr) (u : Str → Option Value) : Str → Option Value :=
  fun z => if z = Str.ofString "start" then some (.int st ts) else if z = Str.ofString "open_pos" then some (match op with | none => .none | some o => .int o to) else if z = Str.ofString "result" then some (.ref D) else if z = Str.ofString "addr" then some (.str x tx) else u z
theorem Fr.strip {b₀ h : Heap} {C : Addr} {x : Str} {tx : Tok} {st : Nat} {ts : Tok} {op : Option Nat} {to : Tok} {D : Addr} {M : Str → Option Value} (F : Fr b₀ C h M) (h1 : M (Str.ofString "start") = some (.int st ts)) (h2 : M (Str.ofString "open_pos") = some (match op with | none => .none | some o => .int o to))
    (h3 : M (Str.ofString "result") = some (.ref D)) (h4 : M (Str.ofString "addr") = some (.str x tx)) : Fr b₀ C h (stripMap x tx st ts op to D M) := by
  refine Eq.mp (congrArg (Fr b₀ C h) ?_) F
  funext z
  unfold stripMap
  split
  · rename_i e; rw [e, h1]
  · split
    · rename_i e; rw [e, h2]
    · split
      · rename_i e; rw [e, h3]
      · split
        · rename_i e; rw [e, h4]
        · rfl

def stripRun (x : Str) : Nat × Option Nat × List Str := (escF 0 false x.cps.toList).foldl (stripStep x) (0, none, [])
def stripStr (x : Str) : Str := if 34 ∈ x.cps.toList then
    Txt.join (Str.ofString "") (if (stripRun x).1 < x.cps.size then (stripRun x).2.2 ++ [Txt.slice x (some ((stripRun x).1 : Int)) none] else (stripRun x).2.2) else x
theorem strs_snoc {vs : List Value} {xs : List Str} (h : StrsAre vs xs) (x : Str) (t : Tok) : StrsAre (vs ++ [.str x t]) (xs ++ [x]) := by
  induction h with
  | nil => exact .cons _ _ .nil
  | cons y u _ ih => exact .cons _ _ ih
theorem sum_le_of {k : Nat} : ∀ (l : List Str), (∀ y ∈ l, y.length ≤ k) → (l.map (·.length)).sum ≤ l.length * k
  | [], _ => by simp
  | a :: l, h => by
    have h1 := sum_le_of l fun y hy => h y (.tail _ hy)
    have h2 := h a (.head _)
    simp only [List.map_cons, List.sum_cons, List.length_cons, Nat.add_mul, Nat.one_mul]
    omega
theorem strs_len {vs : List Value} {xs : List Str} (h : StrsAre vs xs) : vs.length = xs.length := by
  induction h with
  | nil => rfl
  | cons _ _ _ ih => simp [ih]
theorem signL_eq (ch : List Nat) (d : Nat) {y : Str} (h : y = ⟨#[d]⟩) : ((⟨ch.toArray⟩ : Str) == y) = decide (ch = [d]) := by
  subst h
  by_cases q : ch = [d]
  · subst q; simp
  · have : (⟨ch.toArray⟩ : Str) ≠ ⟨#[d]⟩ := fun e => q (by injection e with e; simpa using e)
    rw [decide_eq_false q]; simpa using this
theorem escF_lt : ∀ (cs : List Nat) (i : Nat) (e : Bool), (e = true → 0 < i) → ∀ it ∈ escF i e cs, it.1 < i + cs.length
  | [], i, true, h, it, hm => by simp [escF] at hm; subst hm; have := h rfl; simp; omega
  | [], i, false, _, it, hm => by simp [escF] at hm
  | c :: cs, i, true, _, it, hm => by
    simp only [escF, List.mem_cons] at hm
    rcases hm with rfl | hm
    · simp
    · have := escF_lt cs (i + 1) false (fun q => nomatch q) it hm; simp; omega
  | c :: cs, i, false, _, it, hm => by
    simp only [escF] at hm
    split at hm
    · have := escF_lt cs (i + 1) true (fun _ => by omega) it hm; simp; omega
    · rcases List.mem_cons.mp hm with rfl | hm
      · simp
      · have := escF_lt cs (i + 1) false (fun q => nomatch q) it hm; simp; omega
theorem escF_length : ∀ (cs : List Nat) (i : Nat) (e : Bool), (escF i e cs).length ≤ cs.length + 1
  | [], i, true => by simp [escF]
  | [], i, false => by simp [escF]
  | c :: cs, i, true => by have := escF_length cs (i + 1) false; simp [escF]; omega
  | c :: cs, i, false => by
    simp only [escF]
    split
    · have := escF_length cs (i + 1) true; simp; omega
    · have := escF_length cs (i + 1) false; simp; omega
theorem fold_take {α β : Type} {l : List α} {j : Nat} {a : α} (h : l[j]? = some a) (f : β → α → β) (b : β) : (l.take (j + 1)).foldl f b = f ((l.take j).foldl f b) a := by
  rw [List.take_add_one, h]; simp

section
variable {prog : Program} {w : World} {A : Around} {E : Value → Shared → Prop} {s : Shared} {fa fi : Addr} {cd ci : Value} {mg mb : Str → Option Value}
theorem append_led {h₀ : Heap} {L D : Addr} {m : Str → Option Value} {vs : List Value} {n : Nat} {v : Value} {tl : List (Addr × Obj)} {Q : Value → Shared → Prop} (F : Fr h₀ L s.heap m) (N : News h₀ L s.heap ((D, listObj vs n) :: tl)) (htl : ∀ q ∈ tl, q.1 ≠ D) (hsz : vs.length ≤ 10000)
    (h : ∀ h', Fr h₀ L h' m → News h₀ L h' ((D, listObj (vs ++ [v]) (n + 1)) :: tl) → Q .none { s with heap := h' }) : wpAny (model prog w) A (call (.builtin "list.append") [.ref D, v]) Q E s := by
  refine append_K F N (Upd.head htl) (fun h' F' N' => h h' F' ?_) (by rw [List.size_toArray, sizeLine_eq]; omega)
  have e : vs.toArray.push v = (vs ++ [v]).toArray := by simp
  rw [e] at N'
  exact N'
end
local macro_rules | `(tactic| walk_at "call builtin:list.append") => `(tactic| (refine append_led (by assumption) (by assumption) (by assumption) (by omega) ?_; intro _ _ _))
section
variable {prog : Program} {w : World} {A : Around} {E : Value → Shared → Prop} {s : Shared} {fa fi : Addr} {cd ci : Value} {mg mb : Str → Option Value}
def StripJ (x : Str) (tx : Tok) (D : Addr) (items : List (Nat × List Nat)) (j : Nat) (m : Str → Option Value) (led : List (Addr × Obj)) : Prop :=
  ∃ st ts op to res vs n u, m = stripMap x tx st ts op to D u ∧ led = [(D, listObj vs n)] ∧ StrsAre vs res ∧ (items.take j).foldl (stripStep x) (0, none, []) = (st, op, res) ∧
    st ≤ x.cps.size ∧ (∀ o, op = some o → o < x.cps.size) ∧ vs.length ≤ j ∧ ∀ y ∈ res, y.length ≤ 1000

theorem strip_spec {x : Str} {tx : Tok} {Q : Value → Shared → Prop} (hh : A.handled = none) (hroom : A.depth + 10 < recursionLimit) (hu : A.units + 100 < cLine) (hlen : x.cps.size ≤ 1000) (G : Gd mg mb s.heap)
    (fn : FnAt mg s.heap 2 "_strip_quoted_realnames" fa cd) (fnI : FnAt mg s.heap 1 "_iter_escaped_chars" fi ci)
    (h : ∀ s' t', Ext s s' → (stripStr x).cps.size ≤ 1048576 → Q (.str (stripStr x) t') s') :
    wpAny (model prog w) A (call (.ref fa) [.str x tx]) Q E s := by
  refine enter (binds := [(Str.ofString "addr", .str x tx)]) fn (by omega) G.lim (fun _ _ => rfl) (by intro y hy; rw [List.mem_singleton.mp hy]; rfl) rfl rfl rfl (by decide) fun h₁ F₁ => ?_
  have N₁ : News s.heap s.heap.objs.size h₁ [] := News.nil
  obtain ⟨oI, pmI, docI, hoI, hdI⟩ := id fnI.obj
  have hlenx : x.length ≤ 1048576 := by show x.cps.size ≤ _; omega
  have hh1 : (A.deeper (envOf "_strip_quoted_realnames" (fnParts 2).2.2 s.heap.objs.size fa cd)).handled = none := hh
  have hr1 : (A.deeper (envOf "_strip_quoted_realnames" (fnParts 2).2.2 s.heap.objs.size fa cd)).depth < recursionLimit := by show A.depth + 1 < _; omega
  have hq34 := StrLaws.found_one x 34
  rw [← of_qu] at hq34
  repeat walk1
  · rename_i hq
    rw [hq] at hq34
    have hn : ¬ 34 ∈ x.cps.toList := of_decide_eq_false hq34.symm
    have e : stripStr x = x := by unfold stripStr; rw [if_neg hn]
    have h' := fun s' (x' : Ext s s') => h s' tx x'
    rw [e] at h'
    exact h' _ ⟨F₁.keep, Gx.step1⟩ (by omega)
  · repeat walk1
    refine wpAny_For ?_
    repeat walk1
    rename_i hq h₂ F₂ N₂ h₃ F₃ N₃ h₄ F₄ N₄ h₅ F₅ N₅
    clear F₁ N₁ F₂ N₂ F₃ N₃ F₄ N₄
    have fnI5 := fnI.keeps F₅.keep
    refine iter_callX (mb := mb) hh1 hr1 (by omega) fnI5 (G.lim.keeps F₅.keep) fun a s₆ I k₆ X₆ => ?_
    refine wpAny_pyIter_gen I.2.1 ?_
    replace k₆ : ∀ b o, h₅.get? b = some o → s₆.heap.get? b = some o := k₆
    have hD : h₃.objs.size < h₅.objs.size := Heap.lt_size (N₅ _ (.head _)).1
    refine iterFor (s₀ := s) (fa := fa) (cd := cd) (name := Str.ofString "_strip_quoted_realnames") (scope := (fnParts 2).2.2) hh1 hr1 G F₅.ns.lt (Nat.le_refl _) rfl rfl rfl (StripJ x tx h₃.objs.size (escF 0 false x.cps.toList)) I (Fr.strip (st := 0) (op := none) (to := 0) (Fr.up F₅ k₆) rfl rfl rfl rfl) (News.up N₅ k₆) (fun q hq => by rw [List.mem_singleton.mp hq]; exact hD) (Gx.step1.trans X₆)
      ⟨_, _, _, _, _, _, _, _, rfl, rfl, .nil, rfl, Nat.zero_le _, (fun _ q => nomatch q), Nat.zero_le _, (fun _ q => nomatch q)⟩ ?_ ?_
    · rintro j p ch t u s₇ m led tl hit ⟨st, ts, op, to, res, vs, n, u', rfl, rfl, hvs, hfold, hst, hop, hvl, hres⟩ hlo htl X₇ F₇ N₇
      have htl' : ∀ q ∈ tl, q.1 ≠ h₃.objs.size := fun q hq => Nat.ne_of_gt (Nat.lt_of_lt_of_le hD (htl q hq))
      clear F₅ N₅ I k₆ X₆
      simp only [List.cons_append, List.nil_append] at N₇
      have hp : p < x.cps.size := by
        have := escF_lt x.cps.toList 0 false (fun q => nomatch q) (p, ch) (List.mem_of_getElem? hit)
        simpa using this
      have hj : j ≤ 1001 := by
        have h1 := escF_length x.cps.toList 0 false
        have h2 : j < (escF 0 false x.cps.toList).length := by
          rcases Nat.lt_or_ge j (escF 0 false x.cps.toList).length with q | q
          · exact q
          · rw [List.getElem?_eq_none q] at hit; cases hit
        simp at h1
        omega
      have one : ∀ {h : Heap} {o : Addr × Obj}, News s.heap s.heap.objs.size h (o :: tl) → News s.heap s.heap.objs.size h [o] := fun N q hq => N q (by rw [List.mem_singleton.mp hq]; exact .head _)
      have rst : ∀ {h : Heap} {o : Addr × Obj}, News s.heap s.heap.objs.size h (o :: tl) → News s.heap s.heap.objs.size h tl := fun N q hq => N q (.tail _ hq)
      have lo1 : ∀ (ob : Obj), ∀ q ∈ [(h₃.objs.size, ob)], q.1 < h₅.objs.size := fun ob q hq => by rw [List.mem_singleton.mp hq]; exact hD
      have hstep : ((escF 0 false x.cps.toList).take (j + 1)).foldl (stripStep x) (0, none, []) = stripStep x (st, op, res) (p, ch) := by rw [fold_take hit, hfold]
      cases op with
      | none =>
        try dsimp only at F₇
        (repeat walk1) <;> (repeat walk1)
        · rename_i hq h₈ F₈ N₈
          rw [signL_eq ch 34 of_qu] at hq
          have hq := of_decide_eq_true hq
          exact ⟨_, _, _, _, rfl, Fr.strip (op := some p) F₈ rfl rfl rfl rfl, one N₈, rst N₈, lo1 _, _, _, _, _, _, _, _, _, rfl, rfl, hvs, by rw [hstep]; simp [stripStep, hq], hst, (fun o q => by cases q; exact hp), by omega, hres⟩
        · rename_i hq
          rw [signL_eq ch 34 of_qu] at hq
          have hq := of_decide_eq_false hq
          exact ⟨_, _, _, _, rfl, Fr.strip (op := none) (to := to) F₇ rfl rfl rfl rfl, one N₇, rst N₇, lo1 _, _, _, _, _, _, _, _, _, rfl, rfl, hvs, by rw [hstep]; simp [stripStep, hq], hst, hop, by omega, hres⟩
      | some o =>
        have ho : o < x.cps.size := hop o rfl
        try dsimp only at F₇
        (repeat walk1) <;> (repeat walk1) <;> (repeat walk1)
        · rename_i hq hne h₈ t₈ k₈ F₈ N₈ hsl h₉ F₉ N₉ h₁₀ F₁₀ N₁₀ h₁₁ F₁₁ N₁₁
          rw [signL_eq ch 34 of_qu] at hq
          have hq := of_decide_eq_true hq
          have hne' : ¬ st = o := fun e => hne (by rw [e])
          exact ⟨_, _, _, _, rfl, Fr.strip (st := p + 1) (op := none) (to := to) F₁₁ rfl rfl rfl rfl, one N₁₁, rst N₁₁, lo1 _, _, _, _, _, res ++ [sliceS x st o], _, _, _, rfl, rfl, strs_snoc hvs _ _, by rw [hstep]; simp [stripStep, hq, hne', sliceS], hp, (fun _ q => nomatch q), by simp; omega, fun y hy => by
            rcases List.mem_append.mp hy with hy | hy
            · exact hres y hy
            · rw [List.mem_singleton.mp hy]; exact Nat.le_trans hsl hlen⟩
        · rename_i hq heq h₈ F₈ N₈ h₉ F₉ N₉
          rw [signL_eq ch 34 of_qu] at hq
          have hq := of_decide_eq_true hq
          have heq' : st = o := by omega
          exact ⟨_, _, _, _, rfl, Fr.strip (st := p + 1) (op := none) (to := to) F₉ rfl rfl rfl rfl, one N₉, rst N₉, lo1 _, _, _, _, _, _, _, _, _, rfl, rfl, hvs, by rw [hstep]; simp [stripStep, hq, heq'], hp, (fun _ q => nomatch q), by omega, hres⟩
        · rename_i hq
          rw [signL_eq ch 34 of_qu] at hq
          have hq := of_decide_eq_false hq
          exact ⟨_, _, _, _, rfl, Fr.strip (op := some o) F₇ rfl rfl rfl rfl, one N₇, rst N₇, lo1 _, _, _, _, _, _, _, _, _, rfl, rfl, hvs, by rw [hstep]; simp [stripStep, hq], hst, hop, by omega, hres⟩
    · rintro s₇ m led ⟨st, ts, op, to, res, vs, n, u', rfl, rfl, hvs, hfold, hst, hop, hvl, hres⟩ X₇ F₇ N₇
      clear F₅ N₅ I k₆ X₆
      rw [List.take_length] at hfold
      have hvl' : vs.length ≤ 1001 := by
        have h1 := escF_length x.cps.toList 0 false
        simp at h1
        omega
      have htl : ∀ q ∈ ([] : List (Addr × Obj)), q.1 ≠ h₃.objs.size := fun _ q => nomatch q
      have h34 : 34 ∈ x.cps.toList := by
        rw [hq] at hq34
        exact of_decide_eq_true hq34.symm
      have hrun : stripRun x = (st, op, res) := hfold
      dsimp only
      have bnd : ∀ l : List Str, (∀ y ∈ l, y.length ≤ 1000) → l.length ≤ 1002 → (l.map (·.length)).sum + l.length * (Str.ofString "").length ≤ 16777216 := fun l h1 h2 => by
        have h3 := sum_le_of l h1
        have h4 : l.length * 1000 ≤ 1002 * 1000 := Nat.mul_le_mul_right _ h2
        have h5 : (Str.ofString "").length = 0 := rfl
        rw [h5]; omega
      have bnd2 : ∀ l : List Str, (∀ y ∈ l, y.length ≤ 1000) → l.length ≤ 1002 → (Txt.join (Str.ofString "") l).cps.size ≤ 1048576 := fun l h1 h2 => by
        have h3 := sum_le_of l h1
        have h4 : l.length * 1000 ≤ 1002 * 1000 := Nat.mul_le_mul_right _ h2
        have h5 : (Str.ofString "").length = 0 := rfl
        have h6 := size_glued (Str.ofString "") l
        rw [h5, Nat.mul_zero, Nat.add_zero] at h6
        show (Builtin.Str.glued (Str.ofString "") l).length ≤ _
        omega
      have hlr := strs_len hvs
      (repeat walk1) <;> (repeat walk1)
      · rename_i hlt h₈ t₈ k₈ F₈ N₈ hsl h₉ F₉ N₉
        have hlt' : st < x.cps.size := by have : (st : Int) < (x.cps.size : Int) := hlt; omega
        have hres' : ∀ y ∈ res ++ [Txt.slice x (some (st : Int)) none], y.length ≤ 1000 := fun y hy => by
          rcases List.mem_append.mp hy with hy | hy
          · exact hres y hy
          · rw [List.mem_singleton.mp hy]; exact Nat.le_trans hsl hlen
        refine join_list (ys := res ++ [Txt.slice x (some (st : Int)) none]) ⟨_, (N₉ _ (.head _)).1, rfl, _, rfl⟩ (by simpa using strs_snoc hvs _ _) (bnd _ hres' (by simp; omega)) fun t' k => ?_
        · have e : stripStr x = Txt.join (Str.ofString "") (res ++ [Txt.slice x (some (st : Int)) none]) := by unfold stripStr; rw [if_pos h34, hrun]; simp [hlt']
          have h' := fun s' (x' : Ext s s') => h s' t' x'
          rw [e] at h'
          exact h' _ ⟨F₉.keep, X₇.step⟩ (bnd2 _ hres' (by simp; omega))
      · rename_i hge
        have hge' : ¬ st < x.cps.size := fun q => hge (by show (st : Int) < (x.cps.size : Int); omega)
        refine join_list (ys := res) ⟨_, (N₇ _ (.head _)).1, rfl, _, rfl⟩ (by simpa using hvs) (bnd _ hres (by omega)) fun t' k => ?_
        have e : stripStr x = Txt.join (Str.ofString "") res := by unfold stripStr; rw [if_pos h34, hrun]; simp [hge']
        have h' := fun s' (x' : Ext s s') => h s' t' x'
        rw [e] at h'
        exact h' _ ⟨F₇.keep, X₇.step⟩ (bnd2 _ hres (by omega))
end
end Mine
-- part MCheck
namespace Mine
local macro_rules | `(tactic| walk_at "eval Name") => `(tactic| (refine name_bi (by assumption) (by assumption) (by first | exact Boot.enumerate | exact Boot.len | exact Boot.range | exact Boot.zip | exact Boot.sum | exact Boot.list | exact Boot.ValueError) ?_))
local macro_rules | `(tactic| walk_at "eval Name") => `(tactic| (refine name_fn (by assumption) (by assumption) (by assumption) ?_))
def chkLoop : Int → List (Nat × List Nat) → Bool
  | o, [] => decide (o = 0)
  | o, it :: r => if it.2 = [40] then chkLoop (o + 1) r else if it.2 = [41] then (if o - 1 < 0 then false else chkLoop (o - 1) r) else chkLoop o r
def chkStr (x : Str) : Bool := chkLoop 0 (escF 0 false (stripStr x).cps.toList)

abbrev chkMap (y : Str) (ty : Tok) (o : Int) (to : Tok) (u : Str → Option Value) : Str → Option Value :=
  fun z => if z = Str.ofString "opens" then some (.int o to) else if z = Str.ofString "addr" then some (.str y ty) else u z
theorem Fr.chk {b₀ h : Heap} {C : Addr} {y : Str} {ty : Tok} {o : Int} {to : Tok} {M : Str → Option Value} (F : Fr b₀ C h M) (h1 : M (Str.ofString "opens") = some (.int o to)) (h2 : M (Str.ofString "addr") = some (.str y ty)) : Fr b₀ C h (chkMap y ty o to M) := by
  refine Eq.mp (congrArg (Fr b₀ C h) ?_) F
  funext z
  unfold chkMap
  split
  · rename_i e; rw [e, h1]
  · split
    · rename_i e; rw [e, h2]
    · rfl
section
variable {prog : Program} {w : World} {A : Around} {E : Value → Shared → Prop} {s : Shared} {fa fi fs : Addr} {cd ci cs : Value} {mg mb : Str → Option Value}
def ChkJ (y : Str) (ty : Tok) (items : List (Nat × List Nat)) (j : Nat) (m : Str → Option Value) (led : List (Addr × Obj)) : Prop :=
  ∃ o to u, m = chkMap y ty o to u ∧ led = [] ∧ 0 ≤ o ∧ o ≤ j ∧ chkLoop 0 items = chkLoop o (items.drop j)

theorem check_spec {x : Str} {tx : Tok} {Q : Value → Shared → Prop} (hh : A.handled = none) (hroom : A.depth + 20 < recursionLimit) (hu : A.units + 200 < cLine) (hlen : x.cps.size ≤ 1000) (G : Gd mg mb s.heap)
    (fn : FnAt mg s.heap 3 "_check_parenthesis" fa cd) (fnS : FnAt mg s.heap 2 "_strip_quoted_realnames" fs cs) (fnI : FnAt mg s.heap 1 "_iter_escaped_chars" fi ci)
    (h : ∀ s', Ext s s' → Q (.bool (chkStr x)) s') :
    wpAny (model prog w) A (call (.ref fa) [.str x tx]) Q E s := by
  refine enter (binds := [(Str.ofString "addr", .str x tx)]) fn (by omega) G.lim (fun _ _ => rfl) (by intro y hy; rw [List.mem_singleton.mp hy]; rfl) rfl rfl rfl (by decide) fun h₁ F₁ => ?_
  have N₁ : News s.heap s.heap.objs.size h₁ [] := News.nil
  obtain ⟨oI, pmI, docI, hoI, hdI⟩ := id fnI.obj
  obtain ⟨oS, pmS, docS, hoS, hdS⟩ := id fnS.obj
  have hlenx : x.length ≤ 1048576 := by show x.cps.size ≤ _; omega
  have hh1 : (A.deeper (envOf "_check_parenthesis" (fnParts 3).2.2 s.heap.objs.size fa cd)).handled = none := hh
  have hr1 : (A.deeper (envOf "_check_parenthesis" (fnParts 3).2.2 s.heap.objs.size fa cd)).depth + 10 < recursionLimit := by show A.depth + 1 + 10 < _; omega
  have hu1 : (A.deeper (envOf "_check_parenthesis" (fnParts 3).2.2 s.heap.objs.size fa cd)).units + 100 < cLine := by show A.units + 3 + 100 < _; omega
  repeat walk1
  refine strip_spec hh1 hr1 hu1 hlen (G.keeps F₁.keep) (fnS.keeps F₁.keep) (fnI.keeps F₁.keep) fun s₂ t₂ X₂ hl₂ => ?_
  have F₂ := Fr.up F₁ X₂.keep
  have N₂ : News s.heap s.heap.objs.size s₂.heap [] := News.nil
  have hleny : (stripStr x).length ≤ 1048576 := hl₂
  have X2 : Gx s s₂ := Gx.step1.trans X₂.gx
  clear F₁ N₁ X₂
  repeat walk1
  refine wpAny_For ?_
  repeat walk1
  rename_i h₃ F₃ N₃ h₄ F₄ N₄
  clear F₂ N₂ F₃ N₃
  have fnI5 := fnI.keeps F₄.keep
  refine iter_callX (mb := mb) hh1 (by omega) hl₂ fnI5 (G.lim.keeps F₄.keep) fun a s₆ I k₆ X₆ => ?_
  refine wpAny_pyIter_gen I.2.1 ?_
  replace k₆ : ∀ b o, h₄.get? b = some o → s₆.heap.get? b = some o := k₆
  refine iterFor (s₀ := s) (fa := fa) (cd := cd) (name := Str.ofString "_check_parenthesis") (scope := (fnParts 3).2.2) hh1 (by omega) G F₄.ns.lt X2.size rfl rfl rfl (ChkJ (stripStr x) t₂ (escF 0 false (stripStr x).cps.toList)) I (Fr.chk (Fr.up F₄ k₆) rfl rfl) (News.nil) (fun q hq => nomatch hq) (X2.step.trans X₆)
    ⟨_, _, _, rfl, rfl, Int.le_refl _, Int.le_refl _, rfl⟩ ?_ ?_
  · rintro j p ch t u s₇ m led tl hit ⟨o, to, u', rfl, rfl, ho, hoj, hch⟩ hlo htl X₇ F₇ N₇
    clear F₄ N₄ I k₆ X₆
    simp only [List.nil_append] at N₇
    have hj : j < (escF 0 false (stripStr x).cps.toList).length := by
      rcases Nat.lt_or_ge j (escF 0 false (stripStr x).cps.toList).length with q | q
      · exact q
      · rw [List.getElem?_eq_none q] at hit; cases hit
    have hdr : (escF 0 false (stripStr x).cps.toList).drop j = (p, ch) :: (escF 0 false (stripStr x).cps.toList).drop (j + 1) := by
      rw [List.drop_eq_getElem_cons hj]
      have := List.getElem?_eq_getElem hj
      rw [hit] at this
      rw [← Option.some.inj this]
    rw [hdr] at hch
    (repeat walk1) <;> (repeat walk1) <;> (repeat walk1)
    · rename_i hq h₈ F₈ N₈
      rw [signL_eq ch 40 of_lp] at hq
      have hq := of_decide_eq_true hq
      exact ⟨_, _, _, _, rfl, Fr.chk F₈ rfl rfl, News.nil, N₈, (fun q hq => nomatch hq), _, _, _, rfl, rfl, by omega, by omega, by rw [hch]; simp [chkLoop, hq]⟩
    · rename_i hq hq2 h₈ F₈ N₈ hneg
      rw [signL_eq ch 40 of_lp] at hq
      rw [signL_eq ch 41 of_rp] at hq2
      have hq := of_decide_eq_false hq
      have hq2 := of_decide_eq_true hq2
      have e : chkStr x = false := by unfold chkStr; rw [hch]; simp [chkLoop, hq2]; omega
      rw [e] at h
      exact h _ ⟨F₈.keep, X₇.step⟩
    · rename_i hq hq2 h₈ F₈ N₈ hneg
      rw [signL_eq ch 40 of_lp] at hq
      rw [signL_eq ch 41 of_rp] at hq2
      have hq := of_decide_eq_false hq
      have hq2 := of_decide_eq_true hq2
      exact ⟨_, _, _, _, rfl, Fr.chk F₈ rfl rfl, News.nil, N₈, (fun q hq => nomatch hq), _, _, _, rfl, rfl, by omega, by omega, by rw [hch]; simp [chkLoop, hq2]; intro q; omega⟩
    · rename_i hq hq2
      rw [signL_eq ch 40 of_lp] at hq
      rw [signL_eq ch 41 of_rp] at hq2
      have hq := of_decide_eq_false hq
      have hq2 := of_decide_eq_false hq2
      exact ⟨_, _, _, _, rfl, Fr.chk F₇ rfl rfl, News.nil, N₇, (fun q hq => nomatch hq), _, _, _, rfl, rfl, ho, by omega, by rw [hch]; simp [chkLoop, hq, hq2]⟩
  · rintro s₇ m led ⟨o, to, u', rfl, rfl, ho, hoj, hch⟩ X₇ F₇ N₇
    clear F₄ N₄ I k₆ X₆
    rw [List.drop_length] at hch
    repeat walk1
    have e : chkStr x = (o == 0) := by unfold chkStr; rw [hch]; simp only [chkLoop]; rw [Bool.eq_iff_iff]; simp
    rw [e] at h
    exact h _ ⟨F₇.keep, X₇.step⟩
end
end Mine
-- part MWalk
namespace Mine
/-- the walked things that the base does not hold -/
def tailIn (h₀ h : Heap) (fp : List Addr) : List (Addr × Obj) := fp.filterMap fun b => match h₀.get? b with
  | some _ => none
  | none => (h.get? b).map fun o => (b, o)
theorem mem_tailIn {h₀ h : Heap} {fp : List Addr} {b : Addr} {o : Obj} : (b, o) ∈ tailIn h₀ h fp ↔ b ∈ fp ∧ h₀.get? b = none ∧ h.get? b = some o := by
  unfold tailIn
  rw [List.mem_filterMap]
  constructor
  · rintro ⟨a, hm, ha⟩
    cases q0 : h₀.get? a with
    | some o' => rw [q0] at ha; cases ha
    | none =>
      rw [q0] at ha
      cases q : h.get? a with
      | none => rw [q] at ha; cases ha
      | some o' => rw [q] at ha; cases ha; exact ⟨hm, q0, q⟩
  · rintro ⟨hm, q0, q⟩
    exact ⟨b, hm, by rw [q0, q]; rfl⟩
theorem tailIn_news {h₀ h : Heap} {L : Addr} {fp : List Addr} (hL : L ∉ fp) : News h₀ L h (tailIn h₀ h fp) := fun q hq => by
  obtain ⟨h1, h2, h3⟩ := mem_tailIn.mp (show (q.1, q.2) ∈ _ from hq)
  exact ⟨h3, fun e => hL (e ▸ h1), h2⟩
theorem tailIn_keeps {h₀ h h' : Heap} {L : Addr} {fp : List Addr} {m m' : Str → Option Value} (F : Fr h₀ L h m) (F' : Fr h₀ L h' m') (NT : News h₀ L h' (tailIn h₀ h fp)) : ∀ b ∈ fp, ∀ o, h.get? b = some o → h'.get? b = some o := fun b hb o q => by
  cases q0 : h₀.get? b with
  | some o' =>
    have := F.keep b o' q0
    rw [q] at this; cases this
    exact F'.keep b _ q0
  | none => exact (NT (b, o) (mem_tailIn.mpr ⟨hb, q0, q⟩)).1

def TurnW (h₀ : Heap) (L : Addr) (wr : List Addr) (tl : List (Addr × Obj)) (J : (Str → Option Value) → List (Addr × Obj) → Prop) (s₀ s₂ : Shared) : Prop :=
  ∃ m' led', Fr h₀ L s₂.heap m' ∧ News h₀ L s₂.heap led' ∧ News h₀ L s₂.heap tl ∧ (∀ q ∈ led', q.1 ∉ wr) ∧ Gx s₀ s₂ ∧ J m' led'

section
variable {prog : Program} {w : World} {A : Around} {E : Value → Shared → Prop} {s₀ s : Shared} {h₀ : Heap} {L fa I : Addr} {cd : Value} {name : Str} {scope : Scope} {fp wr : List Addr} {n : Nat} {St : Nat → Heap → Prop}

theorem walkFor {R : Result → Shared → Prop} {x : Str} {px : Pos} {body : List Stmt} {P : Nat → Value → Prop} (W : Walks prog w A I fp wr n P St) (live : ∀ i h, St i h → ∀ b ∈ fp, ∃ o, h.get? b = some o) (hL : L ∉ fp) (hwr : ∀ b ∈ wr, h₀.get? b = none)
    (hk : scope.kind = .function) (hx : (envOf name scope L fa cd).kindOf x = some .local)
    (J : Nat → (Str → Option Value) → List (Addr × Obj) → Prop) {m₀ : Str → Option Value} {led₀ : List (Addr × Obj)}
    (hst : St 0 s.heap) (F : Fr h₀ L s.heap m₀) (N : News h₀ L s.heap led₀) (hap : ∀ q ∈ led₀, q.1 ∉ wr) (X : Gx s₀ s) (j0 : J 0 m₀ led₀)
    (turn : ∀ (i : Nat) (v : Value) (s₁ : Shared) (m : Str → Option Value) (led tl : List (Addr × Obj)), i < n → P i v → J i m led → (∀ q ∈ led, q.1 ∉ wr) → (∀ q ∈ tl, q.1 ∈ fp) → (∀ b ∈ fp, h₀.get? b = none → ∃ o, (b, o) ∈ tl) → Gx s₀ s₁ →
      Fr h₀ L s₁.heap (fun z => if z = x then some v else m z) → News h₀ L s₁.heap (led ++ tl) →
      wpAny (model prog w) A (execs body (envOf name scope L fa cd)) (fun f s₂ => match f with
        | .next | .cont => TurnW h₀ L wr tl (J (i + 1)) s₀ s₂
        | .brk => R (.ok .next) s₂
        | .ret v => R (.ok (.ret v)) s₂) (notedBy (model prog w) A (envOf name scope L fa cd) fun e s' => R (.error e) s') s₁)
    (done : ∀ s₁ m led, J n m led → Gx s₀ s₁ → Fr h₀ L s₁.heap m → News h₀ L s₁.heap led → R (.ok .next) s₁) :
    codeAny (model prog w) A (.forLoop (.Name x px) (.ref I) body [] (envOf name scope L fa cd)) R s := by
  have hLw : L ∉ wr := fun q => hL (W.sub _ q)
  have up : ∀ {h h' : Heap} {m : Str → Option Value}, Fr h₀ L h m → (∀ b o, b ∉ wr → h.get? b = some o → h'.get? b = some o) → Fr h₀ L h' m := fun F k =>
    ⟨F.ns.at' fun o q => k L o hLw q, fun b o e => k b o (fun q => by rw [hwr b q] at e; cases e) (F.keep b o e), F.above⟩
  refine codeAny_forLoop (fun k s₁ => ∃ i m led, k = n + 1 - i ∧ i ≤ n ∧ St i s₁.heap ∧ Fr h₀ L s₁.heap m ∧ News h₀ L s₁.heap led ∧ (∀ q ∈ led, q.1 ∉ wr) ∧ Gx s₀ s₁ ∧ J i m led) ?_ (n + 1) ⟨0, m₀, led₀, rfl, Nat.zero_le _, hst, F, N, hap, X, j0⟩
  rintro k s₁ ⟨i, m, led, rfl, hi, hst₁, F₁, N₁, hap₁, X₁, J₁⟩
  by_cases hlt : i < n
  · refine W.item i s₁ _ _ hlt hst₁ fun v h₂ tk₂ hP hst₂ k₂ => ?_
    have F₂ := up F₁ k₂
    have N₂ : News h₀ L h₂ led := fun q hq => ⟨k₂ _ _ (hap₁ q hq) (N₁ q hq).1, (N₁ q hq).2⟩
    refine wpAny_assign_Name (stUp (s := { s₁ with heap := h₂, toks := tk₂ }) F₂ (fun h₃ F₃ hs₃ => ?_) hk hx)
    replace hs₃ : Heap.SameBut L h₂ h₃ := hs₃
    have keepL : ∀ b o, b ≠ L → h₂.get? b = some o → h₃.get? b = some o := fun b o hb q => hs₃.extBut b o hb q
    have hst₃ : St (i + 1) h₃ := W.frame _ _ _ hst₂ fun b hb o q => keepL b o (fun e => hL (e ▸ hb)) q
    have N₃ : News h₀ L h₃ (led ++ tailIn h₀ h₃ fp) := fun q hq => by
      rcases List.mem_append.mp hq with hq | hq
      · exact ⟨keepL _ _ (N₂ q hq).2.1 (N₂ q hq).1, (N₂ q hq).2⟩
      · exact tailIn_news hL q hq
    refine wpAny_mono (turn i v { s₁ with heap := h₃, toks := tk₂ + 1 } m led (tailIn h₀ h₃ fp) hlt hP J₁ hap₁ (fun q hq => (mem_tailIn.mp (show (q.1, q.2) ∈ _ from hq)).1) (fun b hb h0 => let ⟨o, ho⟩ := live _ _ hst₃ b hb; ⟨o, mem_tailIn.mpr ⟨hb, h0, ho⟩⟩) X₁.step F₃ N₃) (fun f s₄ h₄ => ?_) fun _ _ q => q
    have fin : TurnW h₀ L wr (tailIn h₀ h₃ fp) (J (i + 1)) s₀ s₄ → ∃ k', k' < n + 1 - i ∧ ∃ i' m led, k' = n + 1 - i' ∧ i' ≤ n ∧ St i' s₄.heap ∧ Fr h₀ L s₄.heap m ∧ News h₀ L s₄.heap led ∧ (∀ q ∈ led, q.1 ∉ wr) ∧ Gx s₀ s₄ ∧ J i' m led := by
      rintro ⟨m', led', F', N', NT, hap', X', J'⟩
      exact ⟨n + 1 - (i + 1), by omega, i + 1, m', led', rfl, hlt, W.frame _ _ _ hst₃ (tailIn_keeps F₃ F' NT), F', N', hap', X', J'⟩
    cases f with
    | next => exact fin h₄
    | cont => exact fin h₄
    | brk => exact h₄
    | ret v => exact h₄
  · have hin : i = n := by omega
    subst hin
    refine W.done s₁ _ _ hst₁ fun h₂ tk₂ k₂ => wpAny_execs_nil ?_
    exact done _ m led J₁ X₁.step (up F₁ k₂) fun q hq => ⟨k₂ _ _ (hap₁ q hq) (N₁ q hq).1, (N₁ q hq).2⟩
end

theorem pyIter_strL {prog : Program} {w : World} {A : Around} {E : Value → Shared → Prop} {s : Shared} {x : Str} {t : Tok} {Q : Value → Shared → Prop}
    (hQ : ∀ (o : Obj) (St : Nat → Heap → Prop), (∀ A' : Around, A'.handled = none → Walks prog w A' s.heap.objs.size [s.heap.objs.size] [s.heap.objs.size] x.cps.size (SignAt x) St) →
      (∀ i h, St i h → ∀ b ∈ [s.heap.objs.size], ∃ o, h.get? b = some o) → St 0 (s.heap.push o) →
      Q (.ref s.heap.objs.size) { s with heap := s.heap.push o }) : wpAny (model prog w) A (pyIter (.str x t)) Q E s := by
  cases ha : x.cps.all (· < 128)
  · exact wpAny_pyIter_wide ha (hQ _ _ (fun A' hA => Walks.strWide hA _ x t) (fun i h st b hb => by rw [List.mem_singleton.mp hb]; obtain ⟨o, ho, _⟩ := st; exact ⟨o, ho⟩) ⟨_, Heap.get?_push_size _ rfl, rfl, rfl⟩)
  · exact wpAny_pyIter_ascii ha (hQ _ _ (fun A' hA => Walks.strAscii hA _ x t) (fun i h st b hb => by rw [List.mem_singleton.mp hb]; obtain ⟨o, ho, _⟩ := st; exact ⟨o, ho⟩) ⟨_, Heap.get?_push_size _ rfl, rfl, rfl⟩)
theorem live_list {I l : Addr} {vs : Array Value} (i : Nat) (h : Heap) (st : h.IsListIter I l i ∧ h.IsList l vs) : ∀ b ∈ [I, l], ∃ o, h.get? b = some o := fun b hb => by
  rcases List.mem_cons.mp hb with rfl | hb
  · obtain ⟨⟨o, ho, _⟩, _⟩ := st; exact ⟨o, ho⟩
  · rw [List.mem_singleton.mp hb]; obtain ⟨_, ⟨o, ho, _⟩⟩ := st; exact ⟨o, ho⟩

/-- the values bear the keys -/
inductive AreK {κ : Type} (R : Value → κ → Prop) : List Value → List κ → Prop
  | nil : AreK R [] []
  | cons {v : Value} {k : κ} {vs : List Value} {ks : List κ} : R v k → AreK R vs ks → AreK R (v :: vs) (k :: ks)
theorem AreK.len {κ : Type} {R : Value → κ → Prop} {vs : List Value} {ks : List κ} (h : AreK R vs ks) : vs.length = ks.length := by
  induction h with
  | nil => rfl
  | cons _ _ ih => simp [ih]
theorem AreK.mono {κ : Type} {R R' : Value → κ → Prop} {vs : List Value} {ks : List κ} (h : AreK R vs ks) (f : ∀ v k, R v k → R' v k) : AreK R' vs ks := by
  induction h with
  | nil => exact .nil
  | cons a _ ih => exact .cons (f _ _ a) ih
theorem AreK.append {κ : Type} {R : Value → κ → Prop} {vs vs' : List Value} {ks ks' : List κ} (h : AreK R vs ks) (h' : AreK R vs' ks') : AreK R (vs ++ vs') (ks ++ ks') := by
  induction h with
  | nil => exact h'
  | cons a _ ih => exact .cons a ih
theorem AreK.snoc {κ : Type} {R : Value → κ → Prop} {vs : List Value} {ks : List κ} {v : Value} {k : κ} (h : AreK R vs ks) (a : R v k) : AreK R (vs ++ [v]) (ks ++ [k]) := h.append (.cons a .nil)
theorem AreK.get {κ : Type} {R : Value → κ → Prop} {vs : List Value} {ks : List κ} (h : AreK R vs ks) {i : Nat} {v : Value} (e : vs[i]? = some v) : ∃ k, ks[i]? = some k ∧ R v k := by
  induction h generalizing i with
  | nil => simp at e
  | cons a _ ih =>
    cases i with
    | zero => simp at e; subst e; exact ⟨_, rfl, a⟩
    | succ i => simpa using ih (by simpa using e)
theorem AreK.mem {κ : Type} {R : Value → κ → Prop} {vs : List Value} {ks : List κ} (h : AreK R vs ks) {v : Value} (e : v ∈ vs) : ∃ k, k ∈ ks ∧ R v k := by
  obtain ⟨i, hi⟩ := List.mem_iff_getElem?.mp e
  obtain ⟨k, h1, h2⟩ := h.get hi
  exact ⟨k, List.mem_of_getElem? h1, h2⟩

structure Keys {κ : Type} [DecidableEq κ] (R : Heap → Value → κ → Prop) (u : Nat) : Prop where
  mono : ∀ h h' v k, R h v k → (∀ b o, h.get? b = some o → h'.get? b = some o) → R h' v k
  fn : ∀ h v k k', R h v k → R h v k' → k = k'
  eq : ∀ (A : Around) (s : Shared) v w k k', A.units + u < cLine → R s.heap v k → R s.heap w k' → SeqAt.EqAt A s v w (decide (k = k'))

theorem AreK.any {κ : Type} [DecidableEq κ] {R : Value → κ → Prop} (hf : ∀ v k k', R v k → R v k' → k = k') {vs : List Value} {ks : List κ} (h : AreK R vs ks) (k : κ) (e : Value → Bool) (he : ∀ v k', R v k' → e v = decide (k' = k)) : vs.any e = decide (k ∈ ks) := by
  induction h with
  | nil => simp
  | cons a _ ih =>
    rename_i v k₁ vs ks _
    rw [List.any_cons, ih, he _ _ a]
    by_cases q : k₁ = k
    · subst q
      rw [decide_eq_true rfl, Bool.true_or, decide_eq_true (List.mem_cons_self ..)]
    · rw [decide_eq_false q, Bool.false_or]
      by_cases q2 : k ∈ ks
      · rw [decide_eq_true q2, decide_eq_true (List.mem_cons_of_mem _ q2)]
      · rw [decide_eq_false q2, decide_eq_false (fun z => (List.mem_cons.mp z).elim (fun e => q e.symm) q2)]
/-- `x not in l` by the keys -/
theorem notIn_keys {κ : Type} [DecidableEq κ] {R : Heap → Value → κ → Prop} {u : Nat} (KS : Keys R u) {prog : Program} {w : World} {A : Around} {E : Value → Shared → Prop} {s : Shared} {l : Addr} {vs : List Value} {ks : List κ} {x : Value} {k : κ} {Q : Value → Shared → Prop}
    (hl : s.heap.IsList l vs.toArray) (hk : AreK (R s.heap) vs ks) (hx : R s.heap x k) (hu : A.units + u + 2 < cLine) (h : Q (.bool (!decide (k ∈ ks))) s) : wpAny (model prog w) A (compareOp .NotIn x (.ref l)) Q E s := by
  classical
  let e : Value → Bool := fun y => decide (∃ k', R s.heap y k' ∧ k' = k)
  have ee : ∀ y k', R s.heap y k' → e y = decide (k' = k) := fun y k' hy' => by
    by_cases q : k' = k
    · rw [decide_eq_true q]; exact decide_eq_true ⟨k', hy', q⟩
    · rw [decide_eq_false q]
      exact decide_eq_false fun ⟨k'', h1, h2⟩ => q ((KS.fn _ _ _ _ hy' h1).trans h2)
  have he : ∀ y, y ∈ vs.toArray → SeqAt.EqAt A.in1 s y x (e y) := fun y hy => by
    obtain ⟨k', hk', hy'⟩ := hk.mem (by simpa using hy)
    rw [ee y k' hy']
    exact KS.eq A.in1 s y x k' k (by show A.units + 1 + u < _; omega) hy' hx
  refine SeqAt.notIn_listAt e hl he ?_
  have : vs.toArray.any e = decide (k ∈ ks) := by
    rw [List.any_toArray]
    exact hk.any (KS.fn s.heap) k e ee
  rw [this]
  exact h

def strKey (_ : Heap) (v : Value) (x : Str) : Prop := ∃ t, v = .str x t
def rowKey (h : Heap) (v : Value) (xs : List Str) : Prop := ∃ l vs n, v = .ref l ∧ h.get? l = some (listObj vs n) ∧ AreK (strKey h) vs xs
abbrev MState := Bool × Int × Int × Bool
abbrev stateObj (m : Bool) (d : Int) (td : Tok) (i : Int) (ti : Tok) (wt : Bool) : Obj := { cls := .type "tuple", data := .seq #[.bool m, .int d td, .int i ti, .bool wt] }
def stateKey (h : Heap) (v : Value) (st : Option MState) : Prop := match st with
  | none => v = .none
  | some (m, d, i, wt) => ∃ T td ti, v = .ref T ∧ h.get? T = some (stateObj m d td i ti wt)
theorem AreK.fn {κ : Type} {R : Value → κ → Prop} (hf : ∀ v k k', R v k → R v k' → k = k') {vs : List Value} {ks ks' : List κ} (h : AreK R vs ks) (h' : AreK R vs ks') : ks = ks' := by
  induction h generalizing ks' with
  | nil => cases h'; rfl
  | cons a _ ih => cases h' with
    | cons b h'' => rw [hf _ _ _ a b, ih h'']

theorem strKeys : Keys strKey 0 where
  mono := fun _ _ _ _ r _ => r
  fn := fun _ v k k' ⟨t, e⟩ ⟨t', e'⟩ => by rw [e] at e'; injection e'
  eq := fun A s v w k k' _ ⟨t, e⟩ ⟨t', e'⟩ => by
    subst e e'
    have := SeqAt.EqAt.str_str (A := A) (s := s) k t k' t'
    have q : (k == k') = decide (k = k') := by by_cases z : k = k' <;> simp [z]
    rw [q] at this; exact this

theorem listEq_keys {κ : Type} [DecidableEq κ] {R : Heap → Value → κ → Prop} {u : Nat} (KS : Keys R u) {A : Around} {s : Shared} {l b : Addr} {vs ws : List Value} {ks ks' : List κ} (hu : A.units + u + 2 < cLine)
    (hl : s.heap.IsList l vs.toArray) (hb : s.heap.IsList b ws.toArray) (hk : AreK (R s.heap) vs ks) (hk' : AreK (R s.heap) ws ks') : SeqAt.RcAt A s (.ref l) (.ref b) (decide (ks = ks')) := by
  by_cases hsz : vs.length = ws.length
  · have he : ∀ j (h1 : j < vs.toArray.size) (h2 : j < ws.toArray.size), SeqAt.EqAt A.in1 s vs.toArray[j] ws.toArray[j] (decide (ks[j]? = ks'[j]?)) := fun j h1 h2 => by
      have h1' : j < vs.length := by simpa using h1
      have h2' : j < ws.length := by simpa using h2
      obtain ⟨k, e1, r1⟩ := hk.get (List.getElem?_eq_getElem h1')
      obtain ⟨k', e2, r2⟩ := hk'.get (List.getElem?_eq_getElem h2')
      have := KS.eq A.in1 s _ _ k k' (by show A.units + 1 + u < _; omega) r1 r2
      rw [e1, e2]
      have q : decide (some k = some k') = decide (k = k') := by simp
      rw [q]
      simpa using this
    have := SeqAt.RcAt.lists hl hb (by simpa using hsz) (by omega) he
    have q : (List.range vs.toArray.size).all (fun j => decide (ks[j]? = ks'[j]?)) = decide (ks = ks') := by
      rw [Bool.eq_iff_iff, List.all_eq_true, decide_eq_true_eq]
      constructor
      · intro h
        apply List.ext_getElem?
        intro i
        by_cases hi : i < vs.length
        · exact of_decide_eq_true (h i (by simpa using hi))
        · rw [List.getElem?_eq_none (by have := hk.len; omega), List.getElem?_eq_none (by have := hk'.len; omega)]
      · rintro rfl j _
        simp
    rw [q] at this; exact this
  · have hne : ks ≠ ks' := fun e => hsz (by rw [hk.len, hk'.len, e])
    rw [decide_eq_false hne]
    exact SeqAt.RcAt.lists_lengths hl hb (by simpa using hsz) (by omega)

theorem rowKeys : Keys rowKey 5 where
  mono := fun h h' v k ⟨l, vs, n, e, g, a⟩ up => ⟨l, vs, n, e, up _ _ g, a.mono fun v x q => q⟩
  fn := fun h v k k' ⟨l, vs, n, e, g, a⟩ ⟨l', vs', n', e', g', a'⟩ => by
    rw [e] at e'; injection e' with e'; subst e'
    rw [g] at g'
    injection g' with g'
    injection g' with _ _ g' _
    injection g' with g' _
    have : vs = vs' := by simpa using congrArg Array.toList g'
    subst this
    exact a.fn (strKeys.fn h) a'
  eq := fun A s v w k k' hu ⟨l, vs, n, e, g, a⟩ ⟨l', vs', n', e', g', a'⟩ => by
    subst e e'
    by_cases q : l = l'
    · subst q
      rw [g] at g'
      injection g' with g'
      injection g' with _ _ g' _
      injection g' with g' _
      have : vs = vs' := by simpa using congrArg Array.toList g'
      subst this
      rw [decide_eq_true (a.fn (strKeys.fn s.heap) a')]
      exact SeqAt.EqAt.same _
    · refine SeqAt.EqAt.of_refs q ?_
      exact listEq_keys strKeys (by omega) ⟨_, g, rfl, _, rfl⟩ ⟨_, g', rfl, _, rfl⟩ a a'

def encState : Option MState → PyData
  | none => .none
  | some (m, d, i, wt) => .tuple [.bool m, .int d, .int i, .bool wt]
theorem stateKey_reads {h : Heap} {v : Value} {st : Option MState} (r : stateKey h v st) : ∃ as, Reads h v (encState st) as := by
  cases st with
  | none => cases r; exact ⟨_, .none⟩
  | some p =>
    obtain ⟨m, d, i, wt⟩ := p
    obtain ⟨T, td, ti, rfl, g⟩ := r
    exact ⟨_, .tuple g rfl rfl (.cons (.bool _) (.cons (.int _ _) (.cons (.int _ _) (.cons (.bool _) .nil))))⟩
theorem encState_eqv (a b : Option MState) : PyData.eqv (encState a) (encState b) = decide (a = b) := by
  cases a with
  | none => cases b with
    | none => rfl
    | some p => rfl
  | some p => cases b with
    | none => rfl
    | some q =>
      obtain ⟨m, d, i, wt⟩ := p
      obtain ⟨m', d', i', wt'⟩ := q
      show (m == m' && (d == d' && (i == i' && (wt == wt' && true)))) = _
      rw [Bool.eq_iff_iff]
      simp
theorem stateKeys : Keys stateKey 5 where
  mono := fun h h' v k r up => by
    cases k with
    | none => exact r
    | some p => obtain ⟨m, d, i, wt⟩ := p; obtain ⟨T, td, ti, e, g⟩ := r; exact ⟨T, td, ti, e, up _ _ g⟩
  fn := fun h v k k' r r' => by
    cases k with
    | none => cases k' with
      | none => rfl
      | some p => obtain ⟨T, td, ti, e, g⟩ := r'; cases r; cases e
    | some p => cases k' with
      | none => obtain ⟨T, td, ti, e, g⟩ := r; cases r'; cases e
      | some q =>
        obtain ⟨m, d, i, wt⟩ := p
        obtain ⟨m', d', i', wt'⟩ := q
        obtain ⟨T, td, ti, e, g⟩ := r
        obtain ⟨T', td', ti', e', g'⟩ := r'
        rw [e] at e'; injection e' with e'; subst e'
        rw [g] at g'; cases g'; rfl
  eq := fun A s v w k k' hu r r' => by
    obtain ⟨as, ra⟩ := stateKey_reads r
    obtain ⟨bs, rb⟩ := stateKey_reads r'
    rw [← encState_eqv]
    have hc : ∀ k : Option MState, (encState k).canLay0 = true := fun k => by cases k <;> rfl
    have hd : ∀ k : Option MState, (encState k).depth ≤ 1 := fun k => by cases k with
      | none => exact Nat.zero_le _
      | some p => exact Nat.le_refl _
    exact SeqAt.eqAt_reads _ _ A s v w as bs ra rb (hc k) (hc k') (by have := hd k; omega)
end Mine
-- part MDedup
namespace Mine
local macro_rules | `(tactic| walk_at "eval Name") => `(tactic| (refine name_bi (by assumption) (by assumption) (by first | exact Boot.enumerate | exact Boot.len | exact Boot.range | exact Boot.zip | exact Boot.sum | exact Boot.list | exact Boot.ValueError) ?_))
local macro_rules | `(tactic| walk_at "eval Name") => `(tactic| (refine name_fn (by assumption) (by assumption) (by assumption) ?_))
local macro_rules | `(tactic| walk_at "call builtin:list.append") => `(tactic| (refine append_led (by assumption) (by assumption) (by assumption) (by omega) ?_; intro _ _ _))

local macro_rules | `(tactic| walk_at "W") => `(tactic| repeat ((fail_if_success (with_reducible show wpAny _ _ (exec (Stmt.For _ _ _ _ _) _) _ _ _)); walk1))

def dedupStep {κ : Type} [DecidableEq κ] (acc : List κ) (k : κ) : List κ := if k ∈ acc then acc else acc ++ [k]
def dedupF {κ : Type} [DecidableEq κ] (ks : List κ) : List κ := ks.foldl dedupStep []

theorem Fr.map2 {b₀ h : Heap} {C : Addr} {a b : Str} {va vb : Value} {M : Str → Option Value} (F : Fr b₀ C h M) (h1 : M a = some va) (h2 : M b = some vb) :
    Fr b₀ C h (fun z => if z = a then some va else if z = b then some vb else M z) := by
  refine Eq.mp (congrArg (Fr b₀ C h) ?_) F
  funext z
  split
  · rename_i e; rw [e, h1]
  · split
    · rename_i e; rw [e, h2]
    · rfl

theorem iterObj_list {prog : Program} {w : World} {A : Around} (hh : A.handled = none) {s : Shared} {l : Addr} {vs : List Value} (hl : s.heap.IsList l vs.toArray) :
    Walks prog w A s.heap.objs.size [s.heap.objs.size, l] [s.heap.objs.size] vs.length (fun i v => vs[i]? = some v) (fun i h => h.IsListIter s.heap.objs.size l i ∧ h.IsList l vs.toArray) := by
  obtain ⟨o, ho, _⟩ := id hl
  have W := Walks.list (prog := prog) (w := w) hh s.heap.objs.size l (Nat.ne_of_lt (Heap.lt_size ho)) vs.toArray
  simpa using W

section
variable {κ : Type} [DecidableEq κ] {R : Heap → Value → κ → Prop} {u : Nat}
variable {prog : Program} {w : World} {A : Around} {E : Value → Shared → Prop} {s : Shared} {fa : Addr} {cd : Value} {mg mb : Str → Option Value}
def DedupJ (R : Heap → Value → κ → Prop) (h₀ : Heap) (l D : Addr) (ks : List κ) (i : Nat) (m : Str → Option Value) (led : List (Addr × Obj)) : Prop :=
  ∃ vs n, ∃ u₀ : Str → Option Value, m = (fun z => if z = Str.ofString "new_unhashable" then some (.ref D) else if z = Str.ofString "unhashable_params" then some (.ref l) else u₀ z) ∧ led = [(D, listObj vs n)] ∧
    AreK (R h₀) vs ((ks.take i).foldl dedupStep []) ∧ vs.length ≤ i

theorem dedup_spec (KS : Keys R u) {l : Addr} {vs : List Value} {n : Nat} {ks : List κ} {Q : Value → Shared → Prop} (hh : A.handled = none) (hroom : A.depth + 10 < recursionLimit) (hu : A.units + u + 100 < cLine) (hlen : vs.length ≤ 5000) (G : Gd mg mb s.heap)
    (fn : FnAt mg s.heap 5 "_deduplicate_unhashable" fa cd) (hl : s.heap.get? l = some (listObj vs n)) (hk : AreK (R s.heap) vs ks)
    (h : ∀ s' D vs' n', Ext s s' → s.heap.objs.size ≤ D → s'.heap.get? D = some (listObj vs' n') → vs'.length ≤ vs.length → AreK (R s.heap) vs' (dedupF ks) → Q (.ref D) s') :
    wpAny (model prog w) A (call (.ref fa) [.ref l]) Q E s := by
  refine enter (binds := [(Str.ofString "unhashable_params", .ref l)]) fn (by omega) G.lim (fun _ _ => rfl) (by intro y hy; rw [List.mem_singleton.mp hy]; rfl) rfl rfl rfl (by decide) fun h₁ F₁ => ?_
  have N₁ : News s.heap s.heap.objs.size h₁ [] := News.nil
  have hh1 : (A.deeper (envOf "_deduplicate_unhashable" (fnParts 5).2.2 s.heap.objs.size fa cd)).handled = none := hh
  have hu1 : (A.deeper (envOf "_deduplicate_unhashable" (fnParts 5).2.2 s.heap.objs.size fa cd)).units + u + 10 < cLine := by show A.units + 3 + u + 10 < _; omega
  walk_at "W"
  refine wpAny_For ?_
  walk_at "W"
  rename_i h₂ F₂ N₂ h₃ F₃ N₃
  have hL1 : s.heap.objs.size < h₁.objs.size := F₁.ns.lt
  clear F₁ N₁ F₂ N₂
  have hlH : h₃.IsList l vs.toArray := ⟨_, F₃.keep _ _ hl, rfl, _, rfl⟩
  refine wpAny_pyIter_list hlH ?_
  have hD : h₁.objs.size < h₃.objs.size := Heap.lt_size (N₃ _ (.head _)).1
  have hLlt : s.heap.objs.size < h₃.objs.size := F₃.ns.lt
  have hlL : l < s.heap.objs.size := Heap.lt_size hl
  have up : ∀ b o, h₃.get? b = some o → (h₃.push { cls := .type "list_iterator", data := .fields #[.ref l, .int 0 0] }).get? b = some o := fun b o q => Heap.get?_push_of_some _ q
  refine walkFor (s₀ := s) (fa := fa) (cd := cd) (name := Str.ofString "_deduplicate_unhashable") (scope := (fnParts 5).2.2)
    (iterObj_list (s := { s with heap := h₃ }) hh1 hlH) live_list ?_ ?_ rfl rfl (DedupJ R s.heap l h₁.objs.size ks) ⟨⟨_, Heap.get?_push_size _ rfl, rfl, rfl⟩, hlH.push _⟩ (Fr.map2 (a := Str.ofString "new_unhashable") (b := Str.ofString "unhashable_params") (Fr.up F₃ up) rfl rfl) (News.up N₃ up) ?_ Gx.step1 ⟨[], 0, _, rfl, rfl, .nil, Nat.le_refl _⟩ ?_ ?_
  · intro q
    rcases List.mem_cons.mp q with q | q
    · exact Nat.ne_of_lt hLlt q
    · exact Nat.ne_of_gt hlL (List.mem_singleton.mp q)
  · intro b hb
    rw [List.mem_singleton.mp hb]
    exact Heap.get?_none_of_le (Nat.le_of_lt hLlt)
  · intro q hq z
    rw [List.mem_singleton.mp hq] at z
    exact Nat.ne_of_lt hD (List.mem_singleton.mp z)
  · rintro i v s₁ m led tl hi hv ⟨vs', n', u₀, rfl, rfl, hAre, hvl⟩ hap htl hin X₁ F₄ N₄
    clear F₃ N₃ up
    simp only [List.cons_append, List.nil_append] at N₄
    have htl' : ∀ q ∈ tl, q.1 ≠ h₁.objs.size := fun q hq e => by
      rcases List.mem_cons.mp (htl q hq) with z | z
      · rw [e] at z; exact Nat.ne_of_lt hD z
      · rw [e] at z
        have z := List.mem_singleton.mp z
        have := (N₄ _ (.head _)).2.2
        rw [z, hl] at this; cases this
    obtain ⟨k, hkk, hRk⟩ := hk.get hv
    have one : ∀ {h : Heap} {o : Addr × Obj}, News s.heap s.heap.objs.size h (o :: tl) → News s.heap s.heap.objs.size h [o] := fun N q hq => N q (by rw [List.mem_singleton.mp hq]; exact .head _)
    have rst : ∀ {h : Heap} {o : Addr × Obj}, News s.heap s.heap.objs.size h (o :: tl) → News s.heap s.heap.objs.size h tl := fun N q hq => N q (.tail _ hq)
    have apx : ∀ (ob : Obj), ∀ q ∈ [(h₁.objs.size, ob)], q.1 ∉ [h₃.objs.size] := fun ob q hq z => by
      rw [List.mem_singleton.mp hq] at z
      exact Nat.ne_of_lt hD (List.mem_singleton.mp z)
    walk_at "W"
    refine notIn_keys KS ⟨_, (N₄ _ (.head _)).1, rfl, _, rfl⟩ (hAre.mono fun v k q => KS.mono _ _ _ _ q F₄.keep) (KS.mono _ _ _ _ hRk F₄.keep) (by omega) ?_
    have hstep : (ks.take (i + 1)).foldl dedupStep [] = dedupStep ((ks.take i).foldl dedupStep []) k := fold_take hkk _ _
    by_cases hm : k ∈ (ks.take i).foldl dedupStep []
    · have e : dedupStep ((ks.take i).foldl dedupStep []) k = (ks.take i).foldl dedupStep [] := if_pos hm
      rw [decide_eq_true hm]
      walk_at "W"
      exact ⟨_, _, Fr.map2 (a := Str.ofString "new_unhashable") (b := Str.ofString "unhashable_params") F₄ rfl rfl, one N₄, rst N₄, apx _, X₁.step, _, _, _, rfl, rfl, by rw [hstep, e]; exact hAre, by omega⟩
    · have e : dedupStep ((ks.take i).foldl dedupStep []) k = (ks.take i).foldl dedupStep [] ++ [k] := if_neg hm
      rw [decide_eq_false hm]
      walk_at "W"
      rename_i h₅ F₅ N₅
      exact ⟨_, _, Fr.map2 (a := Str.ofString "new_unhashable") (b := Str.ofString "unhashable_params") F₅ rfl rfl, one N₅, rst N₅, apx _, X₁.step, _, _, _, rfl, rfl, by rw [hstep, e]; exact hAre.snoc hRk, by simp; omega⟩
  · rintro s₁ m led ⟨vs', n', u₀, rfl, rfl, hAre, hvl⟩ X₁ F₄ N₄
    clear F₃ N₃ up
    have : ks.take vs.length = ks := by rw [hk.len]; exact List.take_length
    rw [this] at hAre
    dsimp only
    walk_at "W"
    exact h _ _ _ _ ⟨F₄.keep, X₁.step⟩ (Nat.le_of_lt hL1) (N₄ _ (.head _)).1 hvl hAre
end
end Mine
-- part MReach
namespace Mine
local macro_rules | `(tactic| walk_at "eval Name") => `(tactic| (refine name_bi (by assumption) (by assumption) (by first | exact Boot.enumerate | exact Boot.len | exact Boot.range | exact Boot.zip | exact Boot.sum | exact Boot.list | exact Boot.ValueError) ?_))
local macro_rules | `(tactic| walk_at "eval Name") => `(tactic| (refine name_fn (by assumption) (by assumption) (by assumption) ?_))
local macro_rules | `(tactic| walk_at "call builtin:list.append") => `(tactic| (refine append_led (by assumption) (by assumption) (by assumption) (by omega) ?_; intro _ _ _))
local macro_rules | `(tactic| walk_at "W") => `(tactic| repeat ((fail_if_success (with_reducible show wpAny _ _ (exec (Stmt.For _ _ _ _ _) _) _ _ _)); walk1))

def stepF : Option MState → Nat → Option MState
  | none, _ => none
  | some (m, d, i, wt), c =>
    if wt = true ∨ c = 97 then some (m, d, i, false)
    else if c = 92 then some (m, d, i, true)
    else if c = 34 then some (!m, d, d, false)
    else if m = true then some (true, d, if i ≥ 0 then i + (if c = 40 then 1 else -1) else -1, false)
    else if d + (if c = 40 then 1 else -1) < 0 then none else some (false, d + (if c = 40 then 1 else -1), d + (if c = 40 then 1 else -1), false)
def reachF (st : Option MState) (cs : List Nat) : Option MState := cs.foldl stepF st
theorem reachF_none (cs : List Nat) : reachF none cs = none := by
  induction cs with
  | nil => rfl
  | cons c cs ih => exact ih

/-- `x` is the other way about for an iterator over a str -/
theorem Fr.map1 {b₀ h : Heap} {C : Addr} {a : Str} {va : Value} {M : Str → Option Value} (F : Fr b₀ C h M) (h1 : M a = some va) :
    Fr b₀ C h (fun z => if z = a then some va else M z) := by
  refine Eq.mp (congrArg (Fr b₀ C h) ?_) F
  funext z
  split
  · rename_i e; rw [e, h1]
  · rfl

section
variable {prog : Program} {w : World} {A : Around} {E : Value → Shared → Prop} {s : Shared} {fa : Addr} {cd : Value} {mg mb : Str → Option Value}
def ReachJ (h₀ : Heap) (L : Addr) (v₀ : Value) (st₀ : Option MState) (cs : List Nat) (i : Nat) (m : Str → Option Value) (led : List (Addr × Obj)) : Prop :=
  ∃ v, ∃ u₀ : Str → Option Value, m = (fun z => if z = Str.ofString "state" then some v else u₀ z) ∧ (∀ h m', Fr h₀ L h m' → News h₀ L h led → stateKey h v (reachF st₀ (cs.take i))) ∧
    (v = v₀ ∨ v = .none ∨ ∃ T, v = .ref T ∧ h₀.objs.size ≤ T)

set_option maxHeartbeats 4000000 in
theorem reached_spec {v₀ : Value} {st₀ : Option MState} {x : Str} {tx : Tok} {Q : Value → Shared → Prop} (hh : A.handled = none) (hroom : A.depth + 10 < recursionLimit) (hu : A.units + 100 < cLine) (hlen : x.cps.size ≤ 1000) (G : Gd mg mb s.heap)
    (fn : FnAt mg s.heap 9 "_law_reached" fa cd) (hv : stateKey s.heap v₀ st₀)
    (h : ∀ s' v, Ext s s' → stateKey s'.heap v (reachF st₀ x.cps.toList) → (v = v₀ ∨ v = .none ∨ ∃ T, v = .ref T ∧ s.heap.objs.size ≤ T) → Q v s') :
    wpAny (model prog w) A (call (.ref fa) [v₀, .str x tx]) Q E s := by
  refine enter (binds := [(Str.ofString "state", v₀), (Str.ofString "text", .str x tx)]) fn (by omega) G.lim (fun _ _ => rfl) (by
    intro y hy
    rcases List.mem_cons.mp hy with rfl | hy
    · rfl
    · rw [List.mem_singleton.mp hy]; rfl) rfl rfl rfl (by decide) fun h₁ F₁ => ?_
  have N₁ : News s.heap s.heap.objs.size h₁ [] := News.nil
  have hh1 : (A.deeper (envOf "_law_reached" (fnParts 9).2.2 s.heap.objs.size fa cd)).handled = none := hh
  have hlenx : x.length ≤ 1048576 := by show x.cps.size ≤ _; omega
  walk_at "W"
  refine wpAny_For ?_
  walk_at "W"
  refine pyIter_strL fun o St W live hst => ?_
  have hLlt : s.heap.objs.size < h₁.objs.size := F₁.ns.lt
  refine walkFor (s₀ := s) (fa := fa) (cd := cd) (name := Str.ofString "_law_reached") (scope := (fnParts 9).2.2)
    (W _ hh1) live ?_ ?_ rfl rfl (ReachJ s.heap s.heap.objs.size v₀ st₀ x.cps.toList) hst (Fr.map1 (a := Str.ofString "state") (F₁.push o) rfl) News.nil (fun q hq => nomatch hq) Gx.step1
    ⟨v₀, _, rfl, fun h m' F' _ => stateKeys.mono _ _ _ _ hv F'.keep, .inl rfl⟩ ?_ ?_
  · intro q
    exact Nat.ne_of_lt hLlt (List.mem_singleton.mp q)
  · intro b hb
    rw [List.mem_singleton.mp hb]
    exact Heap.get?_none_of_le (Nat.le_of_lt hLlt)
  · rintro i v s₁ m led tl hi ⟨c, tc, hc, rfl⟩ ⟨v, u₀, rfl, hkey, hwh⟩ hap htl hin X₁ F₄ N₄
    clear F₁ N₁ hst
    have hkey' := hkey s₁.heap _ F₄ (fun q hq => N₄ q (List.mem_append_left _ hq))
    have htake : reachF st₀ (x.cps.toList.take (i + 1)) = stepF (reachF st₀ (x.cps.toList.take i)) c := fold_take (by simpa using hc) _ _
    have NT : News s.heap s.heap.objs.size s₁.heap tl := fun q hq => N₄ q (List.mem_append_right _ hq)
    cases hst : reachF st₀ (x.cps.toList.take i) with
    | none =>
      rw [hst] at hkey'
      cases hkey'
      walk_at "W"
      have e : reachF st₀ x.cps.toList = none := by
        have : x.cps.toList = x.cps.toList.take i ++ x.cps.toList.drop i := (List.take_append_drop _ _).symm
        rw [this]
        unfold reachF at hst ⊢
        rw [List.foldl_append, hst]
        exact reachF_none _
      exact h _ _ ⟨F₄.keep, X₁.step⟩ (by rw [e]; rfl) (.inr (.inl rfl))
    | some p =>
      obtain ⟨mk, d, inn, wt⟩ := p
      rw [hst] at hkey'
      obtain ⟨T, td, ti, rfl, hT⟩ := hkey'
      rw [hst] at htake
      obtain ⟨oI, hoI⟩ := hin _ (.head _) (Heap.get?_none_of_le (Nat.le_of_lt hLlt))
      have closeSome : ∀ {h' hX : Heap} {mk' : Bool} {d' : Int} {td' : Tok} {i' : Int} {ti' : Tok} {wt' : Bool} {m' m'' : Str → Option Value} {tk : Nat}, Fr s.heap s.heap.objs.size h' m' → News s.heap s.heap.objs.size h' ((hX.objs.size, stateObj mk' d' td' i' ti' wt') :: tl) →
          Fr s.heap s.heap.objs.size hX m'' → News s.heap s.heap.objs.size hX tl → m' (Str.ofString "state") = some (.ref hX.objs.size) → stepF (some (mk, d, inn, wt)) c = some (mk', d', i', wt') →
          TurnW s.heap s.heap.objs.size [h₁.objs.size] tl (ReachJ s.heap s.heap.objs.size v₀ st₀ x.cps.toList (i + 1)) s { s₁ with heap := h', toks := tk } := fun {h' hX mk' d' td' i' ti' wt' m' m'' tk} F' N' FX NX hm hs => by
        refine ⟨_, [(hX.objs.size, stateObj mk' d' td' i' ti' wt')], Fr.map1 (a := Str.ofString "state") F' hm, fun q hq => N' q (by rw [List.mem_singleton.mp hq]; exact .head _), fun q hq => N' q (.tail _ hq), fun q hq z => ?_, X₁.step, _, _, rfl, fun h m' _ N => ?_, .inr (.inr ⟨_, rfl, Nat.le_of_lt FX.ns.lt⟩)⟩
        · rw [List.mem_singleton.mp hq] at z
          exact Nat.ne_of_gt (Heap.lt_size (NX _ hoI).1) (List.mem_singleton.mp z)
        · rw [htake, hs]
          exact ⟨_, _, _, rfl, (N _ (.head _)).1⟩
      have closeNone : ∀ {h' : Heap} {m' : Str → Option Value} {tk : Nat}, Fr s.heap s.heap.objs.size h' m' → News s.heap s.heap.objs.size h' tl → m' (Str.ofString "state") = some .none → stepF (some (mk, d, inn, wt)) c = none →
          TurnW s.heap s.heap.objs.size [h₁.objs.size] tl (ReachJ s.heap s.heap.objs.size v₀ st₀ x.cps.toList (i + 1)) s { s₁ with heap := h', toks := tk } := fun {h' m' tk} F' N' hm hs => by
        refine ⟨_, [], Fr.map1 (a := Str.ofString "state") F' hm, News.nil, N', (fun q hq => nomatch hq), X₁.step, _, _, rfl, fun h m' _ N => ?_, .inr (.inl rfl)⟩
        rw [htake, hs]; rfl
      walk_at "W"
      refine assignTup [(Str.ofString "marked", _), (Str.ofString "depth", _), (Str.ofString "inner", _), (Str.ofString "waits", _)] (vs := [.bool mk, .int d td, .int inn ti, .bool wt]) hh1 F₄ ⟨_, hT, rfl, _, rfl⟩ rfl fun h₅ tk₅ F₅ k₅ => ?_
      simp only [putAll] at F₅
      have N₅ : News s.heap s.heap.objs.size h₅ tl := fun q hq => ⟨k₅ _ _ (NT q hq).2.1 (NT q hq).1, (NT q hq).2⟩
      clear F₄ N₄ NT
      cases wt <;> cases mk <;> (walk_at "W") <;> (walk_at "W") <;> (walk_at "W") <;> (walk_at "W") <;> (walk_at "W") <;> (walk_at "W")
      all_goals (try simp only [sign_eq c 40 of_lp, sign_eq c 97 of_a, sign_eq c 92 of_bs, sign_eq c 34 of_qu, decide_eq_true_eq, decide_eq_false_iff_not] at *)
      all_goals first
        | (exfalso; omega)
        | exact closeSome (by assumption) (by assumption) (by assumption) (by assumption) rfl (by simp [stepF, *] <;> omega)
        | exact closeNone (by assumption) (by assumption) rfl (by simp [stepF, *] <;> omega)
  · rintro s₁ m led ⟨v, u₀, rfl, hkey, hwh⟩ X₁ F₄ N₄
    clear F₁ N₁ hst
    have : x.cps.toList.take x.cps.size = x.cps.toList := List.take_of_length_le (by rw [Array.length_toList]; exact Nat.le_refl _)
    have hk' := hkey s₁.heap _ F₄ N₄
    rw [this] at hk'
    dsimp only
    walk_at "W"
    exact h _ _ ⟨F₄.keep, X₁.step⟩ hk' hwh
end
end Mine
-- part MList
namespace Mine
section
variable {prog : Program} {w : World} {A : Around} {E : Value → Shared → Prop} {s₀ s : Shared} {h₀ : Heap} {L fa : Addr} {cd : Value} {name : Str} {scope : Scope}

theorem listFor {Q : Flow → Shared → Prop} {x : Str} {px : Pos} {body : List Stmt} {l : Addr} {vs : List Value} {n : Nat} (hh : A.handled = none) (hl : s.heap.get? l = some (listObj vs n)) (hlL : l ≠ L)
    (hk : scope.kind = .function) (hx : (envOf name scope L fa cd).kindOf x = some .local)
    (J : Nat → (Str → Option Value) → List (Addr × Obj) → Prop) {m₀ : Str → Option Value} {led₀ : List (Addr × Obj)}
    (F : Fr h₀ L s.heap m₀) (N : News h₀ L s.heap led₀) (X : Gx s₀ s) (j0 : J 0 m₀ led₀)
    (turn : ∀ (i : Nat) (v : Value) (s₁ : Shared) (m : Str → Option Value) (led tl : List (Addr × Obj)), vs[i]? = some v → J i m led → (∀ q ∈ led, q.1 ≠ s.heap.objs.size) → (∀ q ∈ tl, q.1 = s.heap.objs.size ∨ q.1 = l) →
      (∃ o, (s.heap.objs.size, o) ∈ tl) → Gx s₀ s₁ →
      Fr h₀ L s₁.heap (fun z => if z = x then some v else m z) → News h₀ L s₁.heap (led ++ tl) →
      wpAny (model prog w) A (execs body (envOf name scope L fa cd)) (fun f s₂ => match f with
        | .next | .cont => TurnW h₀ L [s.heap.objs.size] tl (J (i + 1)) s₀ s₂
        | .brk => Q .next s₂
        | .ret v => Q (.ret v) s₂) E s₁)
    (done : ∀ s₁ m led, J vs.length m led → (∀ q ∈ led, q.1 ≠ s.heap.objs.size) → Gx s₀ s₁ → Fr h₀ L s₁.heap m → News h₀ L s₁.heap led → Q .next s₁)
    (hE : PassesOwn (model prog w) A (envOf name scope L fa cd) E := by passes_own) :
    wpAny (model prog w) A (pyIter (.ref l)) (fun it s₂ => codeAny (model prog w) A (.forLoop (.Name x px) it body [] (envOf name scope L fa cd)) (fun r s' => match r with
      | .ok f => Q f s'
      | .error e => cameBackBy (model prog w) A (envOf name scope L fa cd) E e s') s₂) E s := by
  have hlH : s.heap.IsList l vs.toArray := ⟨_, hl, rfl, _, rfl⟩
  refine wpAny_pyIter_list hlH ?_
  have hLlt : L < s.heap.objs.size := F.ns.lt
  have up : ∀ b o, s.heap.get? b = some o → (s.heap.push { cls := .type "list_iterator", data := .fields #[.ref l, .int 0 0] }).get? b = some o := fun b o q => Heap.get?_push_of_some _ q
  have fresh : h₀.get? s.heap.objs.size = none := by
    cases q : h₀.get? s.heap.objs.size with
    | none => rfl
    | some o => exact absurd (Heap.lt_size (F.keep _ _ q)) (Nat.lt_irrefl _)
  refine walkFor (s₀ := s₀) (iterObj_list (s := s) hh hlH) live_list ?_ ?_ hk hx (fun i m led => (∀ q ∈ led, q.1 ≠ s.heap.objs.size) ∧ J i m led) ⟨⟨_, Heap.get?_push_size _ rfl, rfl, rfl⟩, hlH.push _⟩ (Fr.up F up) (News.up N up) ?_ X.step ⟨?_, j0⟩ ?_ ?_
  · intro q
    rcases List.mem_cons.mp q with q | q
    · exact Nat.ne_of_lt hLlt q
    · exact hlL (List.mem_singleton.mp q).symm
  · intro b hb
    rw [List.mem_singleton.mp hb]; exact fresh
  · intro q hq z
    exact Nat.ne_of_lt (Heap.lt_size (N q hq).1) (List.mem_singleton.mp z)
  · intro q hq
    exact Nat.ne_of_lt (Heap.lt_size (N q hq).1)
  · rintro i v s₁ m led tl hi hv ⟨hap, hJ⟩ _ htl hin X₁ F₁ N₁
    refine wpAny_mono (turn i v s₁ m led tl hv hJ hap (fun q hq => ?_) (hin _ (.head _) fresh) X₁ F₁ N₁) (fun f s₂ h₂ => ?_) hE
    · rcases List.mem_cons.mp (htl q hq) with z | z
      · exact .inl z
      · exact .inr (List.mem_singleton.mp z)
    · have fin : TurnW h₀ L [s.heap.objs.size] tl (J (i + 1)) s₀ s₂ → TurnW h₀ L [s.heap.objs.size] tl (fun m led => (∀ q ∈ led, q.1 ≠ s.heap.objs.size) ∧ J (i + 1) m led) s₀ s₂ := by
        rintro ⟨m', led', F', N', NT, hap', X', J'⟩
        exact ⟨m', led', F', N', NT, hap', X', fun q hq z => hap' q hq (by rw [z]; exact .head _), J'⟩
      cases f with
      | next => exact fin h₂
      | cont => exact fin h₂
      | brk => exact h₂
      | ret v => exact h₂
  · rintro s₁ m led ⟨hap, hJ⟩ X₁ F₁ N₁
    exact done s₁ m led hJ hap X₁ F₁ N₁
end
end Mine
-- part MEnds
namespace Mine
local macro_rules | `(tactic| walk_at "eval Name") => `(tactic| (refine name_bi (by assumption) (by assumption) (by first | exact Boot.enumerate | exact Boot.len | exact Boot.range | exact Boot.zip | exact Boot.sum | exact Boot.list | exact Boot.ValueError) ?_))
local macro_rules | `(tactic| walk_at "eval Name") => `(tactic| (refine name_fn (by assumption) (by assumption) (by assumption) ?_))
local macro_rules | `(tactic| walk_at "call builtin:list.append") => `(tactic| (refine append_led (by assumption) (by assumption) (by assumption) (by omega) ?_; intro _ _ _))
local macro_rules | `(tactic| walk_at "W") => `(tactic| repeat ((fail_if_success (with_reducible show wpAny _ _ (exec (Stmt.For _ _ _ _ _) _) _ _ _)); walk1))

section
variable {prog : Program} {w : World} {A : Around} {E : Value → Shared → Prop} {s : Shared} {fa : Addr} {cd : Value} {mg mb : Str → Option Value}
def forOf : List Stmt → List Stmt
  | .For t i b o p :: _ => [.For t i b o p]
  | .If _ b _ _ :: _ => forOf b
  | _ :: r => forOf r
  | [] => []
def endsBody : List Stmt := forBody (fnParts 10).2.1
/-- the body of `for ahead in ..` -/
def aheadBody : List Stmt := forBody (match endsBody with | .If _ b _ _ :: _ => b | _ => [])
def behindBody : List Stmt := forBody aheadBody
def BehindJ (h₀ : Heap) (D : Addr) (mF : Str → Option Value) (a : Str) (ks bs : List Str) (len : Nat) (tl : List (Addr × Obj)) (i : Nat) (m : Str → Option Value) (led : List (Addr × Obj)) : Prop :=
  ∃ vs n, led = (D, listObj vs n) :: tl ∧ (∀ z, z ≠ Str.ofString "behind" → m z = mF z) ∧ AreK (strKey h₀) vs (((bs.take i).map (a ++ ·)).foldl dedupStep ks) ∧ vs.length ≤ len + i
set_option maxHeartbeats 4000000 in
theorem behind_loop {s₀ : Shared} {h₀ : Heap} {L D lb : Addr} {px : Pos} {mF : Str → Option Value} {a : Str} {ta : Tok} {vs bvs : List Value} {n nb : Nat} {ks bs : List Str} {tl : List (Addr × Obj)} {Q : Flow → Shared → Prop}
    (hh : A.handled = none) (hu : A.units + 10 < cLine) (hlb : s.heap.get? lb = some (listObj bvs nb)) (hlL : lb ≠ L) (hlD : lb ≠ D) (hk : AreK (strKey h₀) bvs bs) (hal : a.length ≤ 10) (hbs : ∀ b ∈ bs, b.length ≤ 200)
    (hmD : mF (Str.ofString "endings") = some (.ref D)) (hmA : mF (Str.ofString "ahead") = some (.str a ta))
    (F : Fr h₀ L s.heap mF) (N : News h₀ L s.heap ((D, listObj vs n) :: tl)) (htl : ∀ q ∈ tl, q.1 ≠ D) (hAre : AreK (strKey h₀) vs ks) (hlen : vs.length + bvs.length ≤ 9000) (X : Gx s₀ s)
    (h : ∀ s₁ m vs' n', Gx s₀ s₁ → Fr h₀ L s₁.heap m → (∀ z, z ≠ Str.ofString "behind" → m z = mF z) → News h₀ L s₁.heap ((D, listObj vs' n') :: tl) → AreK (strKey h₀) vs' ((bs.map (a ++ ·)).foldl dedupStep ks) → vs'.length ≤ vs.length + bvs.length → Q .next s₁) :
    wpAny (model prog w) A (pyIter (.ref lb)) (fun it s₂ => codeAny (model prog w) A (.forLoop (.Name "behind" px) it behindBody [] (envOf "_law_endings" (fnParts 10).2.2 L fa cd)) (fun r s' => match r with
      | .ok f => Q f s'
      | .error e => cameBackBy (model prog w) A (envOf "_law_endings" (fnParts 10).2.2 L fa cd) (fun _ _ => False) e s') s₂) (fun _ _ => False) s := by
  refine listFor (s₀ := s₀) hh hlb hlL rfl rfl (BehindJ h₀ D mF a ks bs vs.length tl) F N X ⟨_, _, rfl, fun _ _ => rfl, hAre, Nat.le_refl _⟩ ?_ ?_
  · rintro i v s₁ m led tl2 hv ⟨vs₁, n₁, rfl, hm, hA₁, hl₁⟩ hap htl2 hin X₁ F₁ N₁
    obtain ⟨b, hb, ⟨tb, rfl⟩⟩ := hk.get hv
    have hbl : b.length ≤ 200 := hbs b (List.mem_of_getElem? hb)
    have hib : i < bvs.length := by
      rcases Nat.lt_or_ge i bvs.length with q | q
      · exact q
      · rw [List.getElem?_eq_none q] at hv; cases hv
    have F₂ := Fr.map2 (a := Str.ofString "endings") (b := Str.ofString "ahead") F₁ (va := .ref D) (vb := .str a ta) (by rw [if_neg (by decide)]; exact (hm _ (by decide)).trans hmD) (by rw [if_neg (by decide)]; exact (hm _ (by decide)).trans hmA)
    have F₃ := Fr.map1 (a := Str.ofString "behind") F₂ (va := .str b tb) (by rw [if_neg (by decide), if_neg (by decide), if_pos rfl])
    have N₂ : News h₀ L s₁.heap ((D, listObj vs₁ n₁) :: (tl ++ tl2)) := N₁
    have htl' : ∀ q ∈ tl ++ tl2, q.1 ≠ D := fun q hq => by
      rcases List.mem_append.mp hq with hq | hq
      · exact htl q hq
      · rcases htl2 q hq with z | z
        · rw [z]; exact fun e => hap _ (.head _) e.symm
        · rw [z]; exact hlD
    have one : ∀ {h : Heap} {o : Addr × Obj}, News h₀ L h (o :: (tl ++ tl2)) → News h₀ L h (o :: tl) := fun N q hq => N q (by
      rcases List.mem_cons.mp hq with rfl | hq
      · exact .head _
      · exact .tail _ (List.mem_append_left _ hq))
    have rst : ∀ {h : Heap} {o : Addr × Obj}, News h₀ L h (o :: (tl ++ tl2)) → News h₀ L h tl2 := fun N q hq => N q (.tail _ (List.mem_append_right _ hq))
    have apx : ∀ (ob : Obj), ∀ q ∈ (D, ob) :: tl, q.1 ∉ [s.heap.objs.size] := fun ob q hq z => by
      rcases List.mem_cons.mp hq with rfl | hq
      · exact hap _ (.head _) (List.mem_singleton.mp z)
      · exact hap _ (.tail _ hq) (List.mem_singleton.mp z)
    have hstep : ((bs.take (i + 1)).map (a ++ ·)).foldl dedupStep ks = dedupStep (((bs.take i).map (a ++ ·)).foldl dedupStep ks) (a ++ b) := by
      rw [List.take_add_one, hb]; simp
    have fin : ∀ {h' : Heap} {m' : Str → Option Value} {tk : Nat} {vs' : List Value} {n' : Nat}, Fr h₀ L h' m' → (∀ z, z ≠ Str.ofString "behind" → m' z = mF z) → News h₀ L h' ((D, listObj vs' n') :: (tl ++ tl2)) →
        AreK (strKey h₀) vs' (dedupStep (((bs.take i).map (a ++ ·)).foldl dedupStep ks) (a ++ b)) → vs'.length ≤ vs₁.length + 1 → TurnW h₀ L [s.heap.objs.size] tl2 (BehindJ h₀ D mF a ks bs vs.length tl (i + 1)) s₀ { s₁ with heap := h', toks := tk } := fun {h' m' tk vs' n'} F' hm' N' hA' hl' =>
      ⟨m', _, F', one N', rst N', apx _, X₁.step, _, _, rfl, hm', by rw [hstep]; exact hA', by omega⟩
    have hmF : ∀ z, z ≠ Str.ofString "behind" → (if z = Str.ofString "behind" then some (Value.str b tb) else if z = Str.ofString "endings" then some (.ref D) else if z = Str.ofString "ahead" then some (.str a ta) else if z = Str.ofString "behind" then some (Value.str b tb) else m z) = mF z := fun z hz => by
      rw [if_neg hz]
      split
      · rename_i e; rw [e, hmD]
      · split
        · rename_i e; rw [e, hmA]
        · exact hm z hz
    clear F₁ F₂ N₁
    walk_at "W"
    refine notIn_keys (R := strKey) (k := a ++ b) strKeys ⟨_, (N₂ _ (.head _)).1, rfl, _, rfl⟩ (hA₁.mono fun v k q => q) ⟨_, rfl⟩ (by omega) ?_
    by_cases hmem : (a ++ b) ∈ ((bs.take i).map (a ++ ·)).foldl dedupStep ks
    · rw [decide_eq_true hmem]
      walk_at "W"
      exact fin F₃ hmF N₂ (by rw [show dedupStep (((bs.take i).map (a ++ ·)).foldl dedupStep ks) (a ++ b) = _ from if_pos hmem]; exact hA₁) (by omega)
    · rw [decide_eq_false hmem]
      walk_at "W"
      rename_i h₅ F₅ N₅
      exact fin F₅ hmF N₅ (by rw [show dedupStep (((bs.take i).map (a ++ ·)).foldl dedupStep ks) (a ++ b) = _ from if_neg hmem]; exact hA₁.snoc ⟨_, rfl⟩) (by simp)
  · rintro s₁ m led ⟨vs₁, n₁, rfl, hm, hA₁, hl₁⟩ hap X₁ F₁ N₁
    have : bs.take bvs.length = bs := by rw [hk.len]; exact List.take_length
    rw [this] at hA₁
    exact h s₁ m vs₁ n₁ X₁ F₁ hm N₁ hA₁ hl₁
theorem rep_le {n : Int} (h : n ≤ 100) : (Txt.mul (Str.ofString ")") n).length ≤ 100 := len_mul_one of_rp h
def rep (n : Int) : Str := Txt.mul (Str.ofString ")") n
def endBehind (mk : Bool) (d inn : Int) : List Str := [rep inn, (if mk then Str.ofString "\"" else Str.ofString "\"(\"") ++ rep d]
def AheadJ (h₀ : Heap) (D : Addr) (mF : Str → Option Value) (ks as : List Str) (mk : Bool) (d inn : Int) (len : Nat) (tl : List (Addr × Obj)) (i : Nat) (m : Str → Option Value) (led : List (Addr × Obj)) : Prop :=
  ∃ vs n, led = (D, listObj vs n) :: tl ∧ (∀ z, z ≠ Str.ofString "behind" → z ≠ Str.ofString "ahead" → m z = mF z) ∧ AreK (strKey h₀) vs (((as.take i).flatMap fun a => (endBehind mk d inn).map (a ++ ·)).foldl dedupStep ks) ∧ vs.length ≤ len + 2 * i
set_option maxHeartbeats 4000000 in
theorem ahead_loop {s₀ : Shared} {h₀ : Heap} {L D la : Addr} {px : Pos} {mF : Str → Option Value} {mk : Bool} {d inn : Int} {td ti : Tok} {vs avs : List Value} {n na : Nat} {ks as : List Str} {tl : List (Addr × Obj)} {Q : Flow → Shared → Prop}
    (hh : A.handled = none) (hu : A.units + 10 < cLine) (hd : d ≤ 100) (hd0 : 0 ≤ d) (hi : inn ≤ 100) (hi0 : -1 ≤ inn) (hla : s.heap.get? la = some (listObj avs na)) (hlL : la ≠ L) (hlD : la ≠ D) (hk : AreK (strKey h₀) avs as) (has : ∀ a ∈ as, a.length ≤ 10)
    (hmD : mF (Str.ofString "endings") = some (.ref D)) (hmM : mF (Str.ofString "marked") = some (.bool mk)) (hmd : mF (Str.ofString "depth") = some (.int d td)) (hmi : mF (Str.ofString "inner") = some (.int inn ti))
    (F : Fr h₀ L s.heap mF) (N : News h₀ L s.heap ((D, listObj vs n) :: tl)) (htl : ∀ q ∈ tl, q.1 ≠ D) (hAre : AreK (strKey h₀) vs ks) (hlen : vs.length + 2 * avs.length ≤ 8000) (X : Gx s₀ s)
    (h : ∀ s₁ m vs' n', Gx s₀ s₁ → Fr h₀ L s₁.heap m → (∀ z, z ≠ Str.ofString "behind" → z ≠ Str.ofString "ahead" → m z = mF z) → News h₀ L s₁.heap ((D, listObj vs' n') :: tl) → AreK (strKey h₀) vs' ((as.flatMap fun a => (endBehind mk d inn).map (a ++ ·)).foldl dedupStep ks) → vs'.length ≤ vs.length + 2 * avs.length → Q .next s₁) :
    wpAny (model prog w) A (pyIter (.ref la)) (fun it s₂ => codeAny (model prog w) A (.forLoop (.Name "ahead" px) it aheadBody [] (envOf "_law_endings" (fnParts 10).2.2 L fa cd)) (fun r s' => match r with
      | .ok f => Q f s'
      | .error e => cameBackBy (model prog w) A (envOf "_law_endings" (fnParts 10).2.2 L fa cd) (fun _ _ => False) e s') s₂) (fun _ _ => False) s := by
  refine listFor (s₀ := s₀) hh hla hlL rfl rfl (AheadJ h₀ D mF ks as mk d inn vs.length tl) F N X ⟨_, _, rfl, fun _ _ _ => rfl, hAre, Nat.le_refl _⟩ ?_ ?_
  · rintro i v s₁ m led tl2 hv ⟨vs₁, n₁, rfl, hm, hA₁, hl₁⟩ hap htl2 hin X₁ F₁ N₁
    obtain ⟨a, ha, ⟨ta, rfl⟩⟩ := hk.get hv
    have hal : a.length ≤ 10 := has a (List.mem_of_getElem? ha)
    have hib : i < avs.length := by
      rcases Nat.lt_or_ge i avs.length with q | q
      · exact q
      · rw [List.getElem?_eq_none q] at hv; cases hv
    have hr1 := rep_le hi
    have hr2 := rep_le hd
    have F₂ := Fr.map2 (a := Str.ofString "endings") (b := Str.ofString "marked") F₁ (va := .ref D) (vb := .bool mk) (by rw [if_neg (by decide)]; exact (hm _ (by decide) (by decide)).trans hmD) (by rw [if_neg (by decide)]; exact (hm _ (by decide) (by decide)).trans hmM)
    have F₃ := Fr.map2 (a := Str.ofString "depth") (b := Str.ofString "inner") F₂ (va := .int d td) (vb := .int inn ti) (by rw [if_neg (by decide), if_neg (by decide), if_neg (by decide)]; exact (hm _ (by decide) (by decide)).trans hmd) (by rw [if_neg (by decide), if_neg (by decide), if_neg (by decide)]; exact (hm _ (by decide) (by decide)).trans hmi)
    have N₂ : News h₀ L s₁.heap ((D, listObj vs₁ n₁) :: (tl ++ tl2)) := N₁
    have htl' : ∀ q ∈ tl ++ tl2, q.1 ≠ D := fun q hq => by
      rcases List.mem_append.mp hq with hq | hq
      · exact htl q hq
      · rcases htl2 q hq with z | z
        · rw [z]; exact fun e => hap _ (.head _) e.symm
        · rw [z]; exact hlD
    have hstep : ((as.take (i + 1)).flatMap fun a => (endBehind mk d inn).map (a ++ ·)).foldl dedupStep ks = ((endBehind mk d inn).map (a ++ ·)).foldl dedupStep (((as.take i).flatMap fun a => (endBehind mk d inn).map (a ++ ·)).foldl dedupStep ks) := by
      rw [List.take_add_one, ha]; simp [List.flatMap_append]
    have next : ∀ {s₂ : Shared} {lb : Addr} {mB : Str → Option Value} {bvs : List Value} {nb : Nat} {px : Pos}, s₂.heap.get? lb = some (listObj bvs nb) → lb ≠ L → lb ≠ D → AreK (strKey h₀) bvs (endBehind mk d inn) →
        mB (Str.ofString "endings") = some (.ref D) → mB (Str.ofString "ahead") = some (.str a ta) → (∀ z, z ≠ Str.ofString "behind" → z ≠ Str.ofString "ahead" → mB z = mF z) → Fr h₀ L s₂.heap mB → News h₀ L s₂.heap ((D, listObj vs₁ n₁) :: (tl ++ tl2)) → Gx s₀ s₂ →
        wpAny (model prog w) A (pyIter (.ref lb)) (fun it s₃ => codeAny (model prog w) A (.forLoop (.Name "behind" px) it behindBody [] (envOf "_law_endings" (fnParts 10).2.2 L fa cd)) (fun r s' => match r with
          | .ok f => (match f with
            | .next => wpAny (model prog w) A (execs [] (envOf "_law_endings" (fnParts 10).2.2 L fa cd)) (fun f s₂ => match f with
              | .next | .cont => TurnW h₀ L [s.heap.objs.size] tl2 (AheadJ h₀ D mF ks as mk d inn vs.length tl (i + 1)) s₀ s₂
              | .brk => Q .next s₂
              | .ret v => Q (.ret v) s₂) (fun _ _ => False) s'
            | f => (match f with
              | .next | .cont => TurnW h₀ L [s.heap.objs.size] tl2 (AheadJ h₀ D mF ks as mk d inn vs.length tl (i + 1)) s₀ s'
              | .brk => Q .next s'
              | .ret v => Q (.ret v) s'))
          | .error e => cameBackBy (model prog w) A (envOf "_law_endings" (fnParts 10).2.2 L fa cd) (fun _ _ => False) e s') s₃) (fun _ _ => False) s₂ := fun {s₂ lb mB bvs nb px} hlb h1 h2 hkb q1 q2 q3 FB NB XB => by
      refine behind_loop (s₀ := s₀) (Q := fun f s' => match f with
            | .next => wpAny (model prog w) A (execs [] (envOf "_law_endings" (fnParts 10).2.2 L fa cd)) (fun f s₂ => match f with
              | .next | .cont => TurnW h₀ L [s.heap.objs.size] tl2 (AheadJ h₀ D mF ks as mk d inn vs.length tl (i + 1)) s₀ s₂
              | .brk => Q .next s₂
              | .ret v => Q (.ret v) s₂) (fun _ _ => False) s'
            | f => (match f with
              | .next | .cont => TurnW h₀ L [s.heap.objs.size] tl2 (AheadJ h₀ D mF ks as mk d inn vs.length tl (i + 1)) s₀ s'
              | .brk => Q .next s'
              | .ret v => Q (.ret v) s')) hh hu hlb h1 h2 hkb hal ?_ q1 q2 FB NB htl' hA₁ (by have := hkb.len; simp [endBehind] at this; omega) XB fun s₄ m₄ vs₄ n₄ X₄ F₄ hm₄ N₄ hA₄ hl₄ => ?_
      · intro b hb
        simp only [endBehind, List.mem_cons, List.not_mem_nil, or_false] at hb
        rcases hb with rfl | rfl
        · exact Nat.le_trans hr1 (by omega)
        · rw [Str.length_append]
          have : (if mk then Str.ofString "\"" else Str.ofString "\"(\"").length ≤ 3 := by cases mk <;> decide +kernel
          have : (rep d).length ≤ 100 := hr2
          omega
      · refine wpAny_execs_nil ⟨m₄, (D, listObj vs₄ n₄) :: tl, F₄, fun q hq => N₄ q ?_, fun q hq => N₄ q (.tail _ (List.mem_append_right _ hq)), fun q hq z => ?_, X₄, _, _, rfl, fun z z1 z2 => (hm₄ z z1).trans (q3 z z1 z2), by rw [hstep]; exact hA₄, ?_⟩
        · rcases List.mem_cons.mp hq with rfl | hq
          · exact .head _
          · exact .tail _ (List.mem_append_left _ hq)
        · rcases List.mem_cons.mp hq with rfl | hq
          · exact hap _ (.head _) (List.mem_singleton.mp z)
          · exact hap _ (.tail _ hq) (List.mem_singleton.mp z)
        · have := hkb.len; simp [endBehind] at this; omega
    have hmF : ∀ z, z ≠ Str.ofString "behind" → z ≠ Str.ofString "ahead" → (if z = Str.ofString "depth" then some (.int d td) else if z = Str.ofString "inner" then some (.int inn ti) else if z = Str.ofString "endings" then some (.ref D) else if z = Str.ofString "marked" then some (.bool mk) else if z = Str.ofString "ahead" then some (Value.str a ta) else m z) = mF z := fun z z1 z2 => by
      split
      · rename_i e; rw [e, hmd]
      · split
        · rename_i e; rw [e, hmi]
        · split
          · rename_i e; rw [e, hmD]
          · split
            · rename_i e; rw [e, hmM]
            · exact hm z z1 z2
    have hDlt : D < s₁.heap.objs.size := Heap.lt_size (N₂ _ (.head _)).1
    clear F₁ F₂ N₁
    refine wpAny_execs_cons ?_
    refine wpAny_For ?_
    cases mk <;> walk_at "W"
    all_goals
      rename_i h₅ F₅ N₅
      exact next (nb := 0) (N₅ _ (.head _)).1 (N₅ _ (.head _)).2.1 (Nat.ne_of_gt hDlt) (.cons ⟨_, rfl⟩ (.cons ⟨_, rfl⟩ .nil)) rfl rfl hmF F₅ (fun q hq => N₅ q (.tail _ hq)) X₁.step
  · rintro s₁ m led ⟨vs₁, n₁, rfl, hm, hA₁, hl₁⟩ hap X₁ F₁ N₁
    have : as.take avs.length = as := by rw [hk.len]; exact List.take_length
    rw [this] at hA₁
    exact h s₁ m vs₁ n₁ X₁ F₁ hm N₁ hA₁ hl₁
def endAhead (wt : Bool) : List Str := if wt then [Str.ofString "a", Str.ofString ")"] else [Str.ofString ""]
def candS : Option MState → List Str
  | none => []
  | some (m, d, i, wt) => (endAhead wt).flatMap fun a => (endBehind m d i).map (a ++ ·)
def endsF (sts : List (Option MState)) : List Str := (sts.flatMap candS).foldl dedupStep [Str.ofString "("]
def EndsJ (h₀ : Heap) (D : Addr) (sts : List (Option MState)) (i : Nat) (m : Str → Option Value) (led : List (Addr × Obj)) : Prop :=
  ∃ vs n, led = [(D, listObj vs n)] ∧ m (Str.ofString "endings") = some (.ref D) ∧ AreK (strKey h₀) vs (((sts.take i).flatMap candS).foldl dedupStep [Str.ofString "("]) ∧ vs.length ≤ 1 + 4 * i
set_option maxHeartbeats 4000000 in
theorem ends_spec {l : Addr} {vs : List Value} {n : Nat} {sts : List (Option MState)} {Q : Value → Shared → Prop} (hh : A.handled = none) (hroom : A.depth + 10 < recursionLimit) (hu : A.units + 100 < cLine) (hlen : vs.length ≤ 100) (G : Gd mg mb s.heap)
    (fn : FnAt mg s.heap 10 "_law_endings" fa cd) (hl : s.heap.get? l = some (listObj vs n)) (hk : AreK (stateKey s.heap) vs sts) (hb : ∀ m d i wt, some (m, d, i, wt) ∈ sts → (0 ≤ d ∧ d ≤ 100) ∧ -1 ≤ i ∧ i ≤ 100)
    (h : ∀ s' D vs' n', Ext s s' → s.heap.objs.size ≤ D → s'.heap.get? D = some (listObj vs' n') → AreK (strKey s.heap) vs' (endsF sts) → vs'.length ≤ 1 + 4 * vs.length → Q (.ref D) s') :
    wpAny (model prog w) A (call (.ref fa) [.ref l]) Q E s := by
  refine enter (binds := [(Str.ofString "states", .ref l)]) fn (by omega) G.lim (fun _ _ => rfl) (by intro y hy; rw [List.mem_singleton.mp hy]; rfl) rfl rfl rfl (by decide) fun h₁ F₁ => ?_
  have N₁ : News s.heap s.heap.objs.size h₁ [] := News.nil
  have hh1 : (A.deeper (envOf "_law_endings" (fnParts 10).2.2 s.heap.objs.size fa cd)).handled = none := hh
  have hu1 : (A.deeper (envOf "_law_endings" (fnParts 10).2.2 s.heap.objs.size fa cd)).units + 10 < cLine := by show A.units + 3 + 10 < _; omega
  walk_at "W"
  refine wpAny_For ?_
  walk_at "W"
  rename_i h₂ F₂ N₂ h₃ F₃ N₃
  have hL1 : s.heap.objs.size < h₁.objs.size := F₁.ns.lt
  have hlD : l < h₁.objs.size := Nat.lt_trans (Heap.lt_size hl) hL1
  clear F₁ N₁ F₂ N₂
  refine listFor (s₀ := s) (fa := fa) (cd := cd) (name := Str.ofString "_law_endings") (scope := (fnParts 10).2.2) (E := fun _ _ => False) hh1 (F₃.keep _ _ hl) (Nat.ne_of_lt (Heap.lt_size hl)) rfl rfl (EndsJ s.heap h₁.objs.size sts) F₃ N₃ Gx.step1 ⟨_, _, rfl, rfl, .cons ⟨_, rfl⟩ .nil, Nat.le_refl _⟩ ?_ ?_
  · rintro i v s₁ m led tl hv ⟨vs', n', rfl, hmD, hAre, hvl⟩ hap htl hin X₁ F₄ N₄
    obtain ⟨st, hst, hR⟩ := hk.get hv
    have hib : i < vs.length := by
      rcases Nat.lt_or_ge i vs.length with q | q
      · exact q
      · rw [List.getElem?_eq_none q] at hv; cases hv
    have hstep : ((sts.take (i + 1)).flatMap candS).foldl dedupStep [Str.ofString "("] = (candS st).foldl dedupStep (((sts.take i).flatMap candS).foldl dedupStep [Str.ofString "("]) := by
      rw [List.take_add_one, hst]; simp [List.flatMap_append]
    have N₅ : News s.heap s.heap.objs.size s₁.heap ((h₁.objs.size, listObj vs' n') :: tl) := N₄
    have htl' : ∀ q ∈ tl, q.1 ≠ h₁.objs.size := fun q hq => by
      rcases htl q hq with z | z
      · rw [z]; exact fun e => hap _ (.head _) e.symm
      · rw [z]; exact Nat.ne_of_lt hlD
    have fin : ∀ {s₂ : Shared} {m' : Str → Option Value} {vs₂ : List Value} {n₂ : Nat}, Fr s.heap s.heap.objs.size s₂.heap m' → m' (Str.ofString "endings") = some (.ref h₁.objs.size) → News s.heap s.heap.objs.size s₂.heap ((h₁.objs.size, listObj vs₂ n₂) :: tl) → Gx s s₂ →
        AreK (strKey s.heap) vs₂ ((candS st).foldl dedupStep (((sts.take i).flatMap candS).foldl dedupStep [Str.ofString "("])) → vs₂.length ≤ vs'.length + 4 → TurnW s.heap s.heap.objs.size [h₃.objs.size] tl (EndsJ s.heap h₁.objs.size sts (i + 1)) s s₂ := fun {s₂ m' vs₂ n₂} F' hm' N' X' hA' hl' =>
      ⟨m', [(h₁.objs.size, listObj vs₂ n₂)], F', fun q hq => N' q (by rw [List.mem_singleton.mp hq]; exact .head _), fun q hq => N' q (.tail _ hq), fun q hq z => by
        rw [List.mem_singleton.mp hq] at z
        exact hap _ (.head _) (List.mem_singleton.mp z), X', _, _, rfl, hm', by rw [hstep]; exact hA', by omega⟩
    cases st with
    | none =>
      cases hR
      walk_at "W"
      exact fin F₄ (by rw [if_neg (by decide)]; exact hmD) N₅ X₁.step hAre (by omega)
    | some p =>
      obtain ⟨mk, d, inn, wt⟩ := p
      obtain ⟨T, td, ti, rfl, hT⟩ := hR
      obtain ⟨⟨hd0, hd1⟩, hi0, hi1⟩ := hb mk d inn wt (List.mem_of_getElem? hst)
      walk_at "W"
      refine assignTup [(Str.ofString "marked", _), (Str.ofString "depth", _), (Str.ofString "inner", _), (Str.ofString "waits", _)] (vs := [.bool mk, .int d td, .int inn ti, .bool wt]) hh1 F₄ ⟨_, F₄.keep _ _ hT, rfl, _, rfl⟩ rfl fun h₅ tk₅ F₅ k₅ => ?_
      simp only [putAll] at F₅
      have N₆ : News s.heap s.heap.objs.size h₅ ((h₁.objs.size, listObj vs' n') :: tl) := fun q hq => ⟨k₅ _ _ (N₅ q hq).2.1 (N₅ q hq).1, (N₅ q hq).2⟩
      have F₆ := Fr.map1 (a := Str.ofString "endings") F₅ (va := .ref h₁.objs.size) (by rw [if_neg (by decide), if_neg (by decide), if_neg (by decide), if_neg (by decide), if_neg (by decide)]; exact hmD)
      have hDlt : h₁.objs.size < h₅.objs.size := Heap.lt_size (N₆ _ (.head _)).1
      clear F₄ N₄ N₅ F₅
      cases wt <;> (walk_at "W") <;> (refine wpAny_For ?_) <;> (walk_at "W")
      · rename_i h₇ F₇ N₇
        refine ahead_loop (s₀ := s) (na := 0) (vs := vs') (n := n') (tl := tl) (td := td) (ti := ti) (mk := mk) (d := d) (inn := inn) (as := endAhead false) hh1 hu1 hd1 hd0 hi1 hi0 (N₇ _ (.head _)).1 (N₇ _ (.head _)).2.1 (Nat.ne_of_gt hDlt) (.cons ⟨_, rfl⟩ .nil) (by decide +kernel) rfl rfl rfl rfl F₇ (fun q hq => N₇ q (.tail _ hq)) htl' hAre (by simp; omega) X₁.step fun s₈ m₈ vs₈ n₈ X₈ F₈ hm₈ N₈ hA₈ hl₈ => ?_
        exact wpAny_execs_nil (wpAny_execs_nil (fin F₈ (hm₈ _ (by decide) (by decide)) N₈ X₈ hA₈ (by simp at hl₈; omega)))
      · rename_i h₇ F₇ N₇
        refine ahead_loop (s₀ := s) (na := 0) (vs := vs') (n := n') (tl := tl) (td := td) (ti := ti) (mk := mk) (d := d) (inn := inn) (as := endAhead true) hh1 hu1 hd1 hd0 hi1 hi0 (N₇ _ (.head _)).1 (N₇ _ (.head _)).2.1 (Nat.ne_of_gt hDlt) (.cons ⟨_, rfl⟩ (.cons ⟨_, rfl⟩ .nil)) (by decide +kernel) rfl rfl rfl rfl F₇ (fun q hq => N₇ q (.tail _ hq)) htl' hAre (by simp; omega) X₁.step fun s₈ m₈ vs₈ n₈ X₈ F₈ hm₈ N₈ hA₈ hl₈ => ?_
        exact wpAny_execs_nil (wpAny_execs_nil (fin F₈ (hm₈ _ (by decide) (by decide)) N₈ X₈ hA₈ (by simp at hl₈; omega)))
  · rintro s₁ m led ⟨vs', n', rfl, hmD, hAre, hvl⟩ hap X₁ F₄ N₄
    have : sts.take vs.length = sts := by rw [hk.len]; exact List.take_length
    rw [this] at hAre
    have F₅ := Fr.map1 (a := Str.ofString "endings") F₄ hmD
    clear F₃ N₃ F₄
    dsimp only
    walk_at "W"
    exact h _ _ _ _ ⟨F₅.keep, X₁.step⟩ (Nat.le_of_lt hL1) (N₄ _ (.head _)).1 hAre hvl
end
end Mine
-- part MComp
namespace Mine
local macro_rules | `(tactic| walk_at "eval Name") => `(tactic| (refine name_bi (by assumption) (by assumption) (by first | exact Boot.enumerate | exact Boot.len | exact Boot.range | exact Boot.zip | exact Boot.sum | exact Boot.list | exact Boot.ValueError) ?_))
local macro_rules | `(tactic| walk_at "eval Name") => `(tactic| (refine name_fn (by assumption) (by assumption) (by assumption) ?_))
local macro_rules | `(tactic| walk_at "call builtin:list.append") => `(tactic| (refine append_led (by assumption) (by assumption) (by assumption) (by omega) ?_; intro _ _ _))
local macro_rules | `(tactic| walk_at "W") => `(tactic| repeat ((fail_if_success (with_reducible show wpAny _ _ (exec (Stmt.For _ _ _ _ _) _) _ _ _)); walk1))

section
variable {prog : Program} {w : World} {A : Around} {E : Value → Shared → Prop} {s : Shared}
theorem copy_led {h₀ : Heap} {L l : Addr} {m : Str → Option Value} {vs : List Value} {n : Nat} {tl : List (Addr × Obj)} {Q : Value → Shared → Prop} (F : Fr h₀ L s.heap m) (N : News h₀ L s.heap ((l, listObj vs n) :: tl)) (hsz : vs.length ≤ 10000)
    (h : ∀ D c h', (∀ q ∈ (l, listObj vs n) :: tl, q.1 < D) → Fr h₀ L h' m → News h₀ L h' ((D, listObj vs c) :: (l, listObj vs n) :: tl) → Q (.ref D) { s with heap := h' }) : wpAny (model prog w) A (call (.type "list") [.ref l]) Q E s := by
  refine list_copyK F N ⟨_, (N _ (.head _)).1, rfl, _, rfl⟩ (fun D c h' F' N' l1 => h D c h' l1 F' N') (by rw [List.size_toArray, sizeLine_eq]; omega)
end
local macro_rules | `(tactic| walk_at "call type:list") => `(tactic| (refine copy_led (by assumption) (by assumption) (by omega) ?_; intro _ _ _ _ _ _))

def remF : List Str → List Str → Option (List Str)
  | cur, [] => some cur
  | cur, k :: r => if k ∈ cur then remF (cur.erase k) r else none
def compF (a b : List Str) : Bool := decide (remF (dedupF b) (dedupF a) = some [])
theorem AreK.remove {h : Heap} {vs : List Value} {ks : List Str} (hk : AreK (strKey h) vs ks) (k : Str) (hm : k ∈ ks) :
    ∃ j, ∃ hj : j < vs.length, isStrOf k vs[j] = true ∧ (∀ i (hi : i < vs.length), i < j → isStrOf k vs[i] = false) ∧ AreK (strKey h) (vs.eraseIdx j) (ks.erase k) := by
  induction hk with
  | nil => simp at hm
  | cons a r ih =>
    rename_i v k₁ vs ks
    obtain ⟨t, rfl⟩ := a
    by_cases q : k₁ = k
    · subst q
      exact ⟨0, by simp, by simp [isStrOf], fun i _ h => by omega, by simpa using r⟩
    · obtain ⟨j, hj, h1, h2, h3⟩ := ih ((List.mem_cons.mp hm).resolve_left fun e => q e.symm)
      refine ⟨j + 1, by simpa using hj, by simpa using h1, fun i hi h => ?_, ?_⟩
      · cases i with
        | zero => simpa [isStrOf] using q
        | succ i => simpa using h2 i (by simpa using hi) (by omega)
      · rw [List.erase_cons_tail (by simpa using q)]
        exact .cons ⟨t, rfl⟩ h3
theorem AreK.absent {h : Heap} {vs : List Value} {ks : List Str} (hk : AreK (strKey h) vs ks) (k : Str) (hm : ¬ k ∈ ks) : ∀ i (hi : i < vs.length), isStrOf k vs[i] = false := fun i hi => by
  obtain ⟨k', e, ⟨t, q⟩⟩ := hk.get (List.getElem?_eq_getElem hi)
  rw [q]
  have : k' ≠ k := fun z => hm (z ▸ List.mem_of_getElem? e)
  simpa [isStrOf] using this
theorem AreK.eqg {h : Heap} {vs : List Value} {ks : List Str} (hk : AreK (strKey h) vs ks) (k : Str) (t : Tok) : ∀ y, y ∈ vs.toArray → MeetsSeq.EqGives y (.str k t) (isStrOf k y) := fun y hy => by
  obtain ⟨k', _, ⟨t', q⟩⟩ := hk.mem (by simpa using hy)
  rw [q]
  exact eqGives_str k' k t' t

theorem goneFr {h h₁ : Heap} {L L₀ : Addr} {m : Str → Option Value} (F : Fr h L h₁ m) : Fr (TI.gone h [L₀]) L h₁ m :=
  ⟨F.ns, fun b o e => F.keep b o (TI.gone_some e).2, by rw [show (TI.gone h [L₀]).objs.size = h.objs.size from Heap.size_update _ _ _]; exact F.above⟩

section
variable {prog : Program} {w : World} {A : Around} {E : Value → Shared → Prop} {s : Shared} {fa fd : Addr} {cd cdd : Value} {mg mb : Str → Option Value}

/-- all is as it was, up to the slots of the caller's frame -/
structure ExtB (L₀ : Addr) (oL : Obj) (s s' : Shared) : Prop where
  keep : ∀ b o, b ≠ L₀ → s.heap.get? b = some o → s'.heap.get? b = some o
  fr : ∃ sl, s'.heap.get? L₀ = some { oL with slots := sl }
  gx : Gx s s'

theorem compare_spec {hb : Heap} {env : Env} {L₀ : Addr} {oL : Obj} {l₁ l₂ : Addr} {vs₁ vs₂ : List Value} {n₁ n₂ : Nat} {ks₁ ks₂ : List Str} {Q : Value → Shared → Prop} (hh : A.handled = none) (hroom : A.depth + 20 < recursionLimit) (hu : A.units + 200 < cLine) (hA : A.frames = some [env]) (Fs : TI.Frs [env] [(L₀, oL)]) (hL₀ : s.heap.get? L₀ = some oL)
    (hbL : hb.get? L₀ = none) (hbk : ∀ b o, hb.get? b = some o → s.heap.get? b = some o) (G : Gd mg mb hb)
    (fn : FnAt mg hb 6 "_compare_args_orderless" fa cd) (fnD : FnAt mg hb 5 "_deduplicate_unhashable" fd cdd) (hl₁ : s.heap.get? l₁ = some (listObj vs₁ n₁)) (hl₂ : s.heap.get? l₂ = some (listObj vs₂ n₂)) (hk₁ : AreK (strKey s.heap) vs₁ ks₁) (hk₂ : AreK (strKey s.heap) vs₂ ks₂)
    (hz₁ : vs₁.length ≤ 5000) (hz₂ : vs₂.length ≤ 5000)
    (h : ∀ s', ExtB L₀ oL s s' → Q (.bool (compF ks₁ ks₂)) s') :
    wpAny (model prog w) A (call (.ref fa) [.ref l₁, .ref l₂]) Q E s := by
  have G0 : Gd mg mb s.heap := G.keeps hbk
  have hbg : ∀ b o, hb.get? b = some o → (TI.gone s.heap [L₀]).get? b = some o := fun b o e => (TI.gone_get (l := [L₀]) (fun q => by rw [List.mem_singleton.mp q, hbL] at e; cases e)).trans (hbk b o e)
  have Gg := G.keeps hbg
  have fnDg := fnD.keeps hbg
  refine enter (binds := [(Str.ofString "first_args", .ref l₁), (Str.ofString "second_args", .ref l₂)]) (fn.keeps hbk) (by omega) G0.lim (fun _ _ => rfl) (by
    intro y hy
    rcases List.mem_cons.mp hy with rfl | hy
    · rfl
    · rw [List.mem_singleton.mp hy]; rfl) rfl rfl rfl (by decide) fun h₁ F₁' => ?_
  have F₁ : Fr (TI.gone s.heap [L₀]) s.heap.objs.size h₁ _ := goneFr F₁'
  have hLlt : L₀ < s.heap.objs.size := Heap.lt_size hL₀
  have goneL : (TI.gone s.heap [L₀]).get? L₀ = none := TI.gone_none (.head _)
  have N₁ : News (TI.gone s.heap [L₀]) s.heap.objs.size h₁ [(L₀, oL)] := fun q hq => by
    rw [List.mem_singleton.mp hq]
    exact ⟨F₁'.keep _ _ hL₀, Nat.ne_of_lt hLlt, goneL⟩
  have hh1 : (A.deeper (envOf "_compare_args_orderless" (fnParts 6).2.2 s.heap.objs.size fa cd)).handled = none := hh
  have hr1 : (A.deeper (envOf "_compare_args_orderless" (fnParts 6).2.2 s.heap.objs.size fa cd)).depth + 10 < recursionLimit := by show A.depth + 1 + 10 < _; omega
  have hu1 : (A.deeper (envOf "_compare_args_orderless" (fnParts 6).2.2 s.heap.objs.size fa cd)).units + 0 + 100 < cLine := by show A.units + 3 + 0 + 100 < _; omega
  obtain ⟨oD, pmD, docD, hoD, hdD⟩ := id fnDg.obj
  walk_at "W"
  refine dedup_spec (vs := vs₁) (n := n₁) (ks := ks₁) strKeys hh1 hr1 hu1 hz₁ (G0.keeps F₁'.keep) ((fnD.keeps hbk).keeps F₁'.keep) (F₁'.keep _ _ hl₁) (hk₁.mono fun v k q => q) fun s₂ D₁ ws₁ c₁ X₂ hD₁ hg₁ hl₁' hAk₁ => ?_
  have F₂ := Fr.up F₁ X₂.keep
  have szg : (TI.gone s.heap [L₀]).objs.size = s.heap.objs.size := Heap.size_update _ _ _
  have hL1 : s.heap.objs.size < h₁.objs.size := F₁.ns.lt
  have hD₁' : h₁.objs.size ≤ D₁ := hD₁
  have hDL : D₁ ≠ L₀ := Nat.ne_of_gt (Nat.lt_of_lt_of_le (Nat.lt_trans hLlt hL1) hD₁')
  have N₂ : News (TI.gone s.heap [L₀]) s.heap.objs.size s₂.heap [(D₁, listObj ws₁ c₁), (L₀, oL)] := fun q hq => by
    rcases List.mem_cons.mp hq with rfl | hq
    · exact ⟨hg₁, Nat.ne_of_gt (Nat.lt_of_lt_of_le hL1 hD₁'), Heap.get?_none_of_le (by rw [szg]; exact Nat.le_trans (Nat.le_of_lt hL1) hD₁')⟩
    · exact ⟨X₂.keep _ _ (N₁ q hq).1, (N₁ q hq).2⟩
  have X2 : Gx s s₂ := Gx.step1.trans X₂.gx
  have hl₂s : s₂.heap.get? l₂ = some (listObj vs₂ n₂) := X₂.keep _ _ (F₁'.keep _ _ hl₂)
  have keep₂ : ∀ b o, s.heap.get? b = some o → s₂.heap.get? b = some o := fun b o e => X₂.keep _ _ (F₁'.keep _ _ e)
  clear F₁ N₁ X₂ F₁'
  walk_at "W"
  rename_i h₃ F₃ N₃
  have L₀L : L₀ ≠ s.heap.objs.size := Nat.ne_of_lt hLlt
  have keep₃ : ∀ b o, s.heap.get? b = some o → h₃.get? b = some o := fun b o e => by
    by_cases q : b = L₀
    · subst q; rw [hL₀] at e; cases e; exact (N₃ _ (.tail _ (.head _))).1
    · exact F₃.keep _ _ ((TI.gone_get (l := [L₀]) (fun z => q (List.mem_singleton.mp z))).trans e)
  refine dedup_spec (vs := vs₂) (n := n₂) (ks := ks₂) strKeys hh1 hr1 hu1 hz₂ (G0.keeps keep₃) ((fnD.keeps hbk).keeps keep₃) (keep₃ _ _ hl₂) (hk₂.mono fun v k q => q) fun s₄ D₂ ws₂ c₂ X₄ hD₂ hg₂ hl₂' hAk₂ => ?_
  have F₄ := Fr.up F₃ X₄.keep
  have hL3 : s.heap.objs.size < h₃.objs.size := F₃.ns.lt
  have hD₁3 : D₁ < h₃.objs.size := Heap.lt_size (N₃ _ (.head _)).1
  have hD₂' : h₃.objs.size ≤ D₂ := hD₂
  have N₄ : News (TI.gone s.heap [L₀]) s.heap.objs.size s₄.heap [(D₂, listObj ws₂ c₂), (D₁, listObj ws₁ c₁), (L₀, oL)] := fun q hq => by
    rcases List.mem_cons.mp hq with rfl | hq
    · exact ⟨hg₂, Nat.ne_of_gt (Nat.lt_of_lt_of_le hL3 hD₂'), Heap.get?_none_of_le (by rw [szg]; exact Nat.le_trans (Nat.le_of_lt hL3) hD₂')⟩
    · exact ⟨X₄.keep _ _ (N₃ q hq).1, (N₃ q hq).2⟩
  have X4 : Gx s s₄ := X2.step.trans X₄.gx
  clear F₃ N₃ X₄ keep₃ F₂ N₂ keep₂
  walk_at "W"
  refine wpAny_For ?_
  walk_at "W"
  rename_i T c₅ h₅ hT F₅ N₅ h₆ F₆ N₆
  clear F₄ N₄ F₅ N₅
  have hT₂ : D₂ < T := hT _ (.head _)
  have hT₁ : D₁ < T := hT _ (.tail _ (.head _))
  have hT₀ : L₀ < T := hT _ (.tail _ (.tail _ (.head _)))
  have hcomp : compF ks₁ ks₂ = decide (remF (dedupF ks₂) (dedupF ks₁) = some []) := rfl
  refine listFor (s₀ := s) (fa := fa) (cd := cd) (name := Str.ofString "_compare_args_orderless") (scope := (fnParts 6).2.2) hh1 (l := D₁) (vs := ws₁) (n := c₁) (N₆ _ (.tail _ (.tail _ (.head _)))).1 (N₆ _ (.tail _ (.tail _ (.head _)))).2.1 rfl rfl
    (fun i m led => ∃ cs vs n, led = (T, listObj vs n) :: [(D₂, listObj ws₂ c₂), (D₁, listObj ws₁ c₁), (L₀, oL)] ∧ m (Str.ofString "t") = some (.ref T) ∧ AreK (strKey s.heap) vs cs ∧ vs.length ≤ 5000 ∧ remF (dedupF ks₂) (dedupF ks₁) = remF cs ((dedupF ks₁).drop i)) F₆ N₆ X4.step ⟨_, _, _, rfl, rfl, hAk₂.mono fun v k q => q, by omega, rfl⟩ ?_ ?_
  · rintro i v s₇ m led tl hv ⟨cs, vs, n, rfl, hm, hAk, hvl, hrem⟩ hap htl hin X₇ F₇ N₇
    obtain ⟨k, hk, ⟨tk, rfl⟩⟩ := hAk₁.get hv
    have hi : i < (dedupF ks₁).length := by
      rcases Nat.lt_or_ge i (dedupF ks₁).length with q | q
      · exact q
      · rw [List.getElem?_eq_none q] at hk; cases hk
    have hdr : (dedupF ks₁).drop i = k :: (dedupF ks₁).drop (i + 1) := by
      rw [List.drop_eq_getElem_cons hi]
      have := List.getElem?_eq_getElem hi
      rw [hk] at this
      rw [← Option.some.inj this]
    rw [hdr] at hrem
    have F₈ := Fr.map2 (a := Str.ofString "t") (b := Str.ofString "elem") F₇ (va := .ref T) (vb := .str k tk) (by rw [if_neg (by decide)]; exact hm) (by rw [if_pos rfl])
    have N₈ : News (TI.gone s.heap [L₀]) s.heap.objs.size s₇.heap ((T, listObj vs n) :: ([(D₂, listObj ws₂ c₂), (D₁, listObj ws₁ c₁), (L₀, oL)] ++ tl)) := N₇
    have hTlt := (N₈ _ (.head _)).2.1
    have htl' : ∀ q ∈ [(D₂, listObj ws₂ c₂), (D₁, listObj ws₁ c₁), (L₀, oL)] ++ tl, q.1 ≠ T := fun q hq => by
      rcases List.mem_append.mp hq with hq | hq
      · exact Nat.ne_of_lt (hT q hq)
      · rcases htl q hq with z | z
        · rw [z]; exact fun e => hap _ (.head _) e.symm
        · rw [z]; exact Nat.ne_of_lt hT₁
    have hszT : vs.length ≤ 10000 := by omega
    clear F₇ N₇ F₆ N₆
    walk_at "W"
    refine kf_method N₈ (.head _) PySem.F.slot_list_remove PySem.F.type_list_remove ?_
    walk_at "W"
    by_cases hmem : k ∈ cs
    · obtain ⟨j, hj, hj1, hj2, hj3⟩ := hAk.remove k hmem
      refine call_meets PySem.F.slot_list_remove ⟨_, (N₈ _ (.head _)).1, rfl⟩ PySem.F.entry_list_remove (PySem.F.args_list_remove_2 _ _)
        (MeetsSeq.list_remove T vs.toArray n (.str k tk) (isStrOf k) (hAk.eqg k tk) j (by simpa using hj) (by simpa using hj1) (fun i hi hlt => by simpa using hj2 i (by simpa using hi) hlt) (by rw [List.size_toArray, sizeLine_eq]; omega)) ⟨(N₈ _ (.head _)).1, ?_⟩
      have F₉ := F₈.change (Heap.SameBut.update s₇.heap T (Obj.mapSeq fun xs => xs.eraseIdxIfInBounds j)) (N₈ _ (.head _)).2.1 (N₈ _ (.head _)).2.2
      obtain ⟨n', hn'⟩ : ∃ n', (if (vs.eraseIdx j).toArray.size == vs.toArray.size then n else n + 1) = n' := ⟨_, rfl⟩
      have N₉ := ki_turn (pre := []) (D := T) (post := [(D₂, listObj ws₂ c₂), (D₁, listObj ws₁ c₁), (L₀, oL)] ++ tl) (its' := (vs.eraseIdx j).toArray) (fun xs => xs.eraseIdxIfInBounds j) N₈ (fun p hp => nomatch hp) htl' (by
        apply Array.toList_inj.mp
        simp) hn'
      refine wpAny_execs_nil ⟨_, _, F₉, fun q hq => N₉ q ?_, fun q hq => N₉ q (.tail _ (List.mem_append_right _ hq)), fun q hq z => ?_, X₇.step, cs.erase k, vs.eraseIdx j, n', rfl, rfl, hj3, ?_, ?_⟩
      · rcases List.mem_cons.mp hq with rfl | hq
        · exact .head _
        · exact .tail _ (List.mem_append_left _ hq)
      · have z := List.mem_singleton.mp z
        rcases List.mem_cons.mp hq with rfl | hq
        · exact hap _ (.head _) z
        · exact hap _ (.tail _ hq) z
      · have := List.length_eraseIdx_le vs j; omega
      · rw [hrem, remF, if_pos hmem]
    · refine call_meets PySem.F.slot_list_remove ⟨_, (N₈ _ (.head _)).1, rfl⟩ PySem.F.entry_list_remove (PySem.F.args_list_remove_2 _ _)
        (MeetsSeq.list_remove_none T vs.toArray n (.str k tk) (isStrOf k) (hAk.eqg k tk) (fun i hi => by simpa using hAk.absent k hmem i (by simpa using hi))) ⟨(N₈ _ (.head _)).1, hh1, fun h₉ tk₉ e hx => ?_⟩
      show wpAny _ _ (noteFrame _ _) _ _ _
      refine TLg.noted_newA (new := []) (frs := [(L₀, oL)]) (l := [env]) hA Fs hx F₈ (fun q hq => N₈ q (.tail _ (List.mem_append_left _ (.tail _ (.tail _ hq))))) (fun p hp => nomatch hp) (fun h₁₀ frs' SU Fs' H => ?_)
      obtain ⟨sl, rfl⟩ := TLg.one_up SU
      refine H.land fun h₁₁ H' => ?_
      refine wpAny_handleBy_builtin (X := "ValueError") (T := "ValueError") (b := true) PySem.F.isExc_ValueError PySem.F.notTuple_ValueError (isSubtype_of_subB (by decide +kernel)) (name_bi H'.held.fr Gg Boot.ValueError ⟨rfl, H'.isA, ?_⟩)
      rw [if_pos rfl]
      refine H'.lands fun h₁₂ F' N' => ?_
      walk_at "W"
      have e : compF ks₁ ks₂ = false := by rw [hcomp, hrem, remF, if_neg hmem]; rfl
      rw [e] at h
      exact h _ ⟨fun b o hb q => F'.keep _ _ ((TI.gone_get (l := [L₀]) fun z => hb (List.mem_singleton.mp z)).trans q), ⟨sl, (N' _ (.head _)).1⟩, X₇.step⟩
  · rintro s₇ m led ⟨cs, vs, n, rfl, hm, hAk, hvl, hrem⟩ hap X₇ F₇ N₇
    have F₈ := Fr.map1 (a := Str.ofString "t") F₇ hm
    clear F₇ F₆ N₆
    dsimp only
    walk_at "W"
    refine wpAny_truthy_list (items := vs.toArray) ⟨_, (N₇ _ (.head _)).1, rfl, _, rfl⟩ (by rw [List.size_toArray]; omega) ?_
    have e : compF ks₁ ks₂ = (!!vs.toArray.isEmpty) := by
      rw [hcomp, hrem, hAk₁.len, List.drop_length]
      have := hAk.len
      cases vs <;> cases cs <;> simp_all [remF]
    rw [e] at h
    exact h _ ⟨fun b o hb q => F₈.keep _ _ ((TI.gone_get (l := [L₀]) fun z => hb (List.mem_singleton.mp z)).trans q), ⟨oL.slots, (N₇ _ (.tail _ (.tail _ (.tail _ (.head _))))).1⟩, X₇.step⟩
end
end Mine
-- part MLc
namespace Mine
/-- the end of a turn of a list comprehension -/
def LcEnd (b₁ : Heap) (C D : Addr) (wr : List Addr) (tl : List (Addr × Obj)) (ys : List Value) (c : Nat) (J : List Value → List (Addr × Obj) → Prop) (s₀ : Shared) (y : Value) (s₂ : Shared) : Prop :=
  ∃ m' led', Fr b₁ C s₂.heap m' ∧ News b₁ C s₂.heap ((D, listObj ys c) :: led') ∧ News b₁ C s₂.heap tl ∧ (∀ q ∈ led', q.1 ∉ wr ∧ q.1 ≠ D) ∧ Gx s₀ s₂ ∧ J (ys ++ [y]) led'

section
variable {prog : Program} {w : World} {A : Around} {E : Value → Shared → Prop} {s₀ s₂ : Shared} {b₁ : Heap} {I : Addr} {fp wr : List Addr} {n : Nat} {St : Nat → Heap → Prop} {env : Env}

theorem compFor {elt iter : Expr} {x : Str} {px : Pos} {scope : Scope} {cl : List (Str × Addr)} {pos : Pos} {P : Nat → Value → Prop} {RR : Value → Addr → Result → Shared → Prop}
    (W : Walks prog w A I fp wr n P St) (live : ∀ i h, St i h → ∀ b ∈ fp, ∃ o, h.get? b = some o) (hn : n ≤ 10000)
    (hcell : ∀ y ∈ scope.names, y.2 ≠ .cell) (hkind : scope.kind = .function) (hx : scope.names.lookup x = some .local)
    (hb : ∀ b o, b₁.get? b = some o → s₂.heap.get? b = some o) (hbs : b₁.objs.size ≤ s₂.heap.objs.size) (hwr : ∀ b ∈ wr, b₁.get? b = none) (hst : St 0 s₂.heap) (hfp : ∀ b ∈ fp, b < s₂.heap.objs.size)
    (J : Nat → List Value → List (Addr × Obj) → Prop) (j0 : J 0 [] []) (X : Gx s₀ s₂)
    (turn : ∀ (i : Nat) (v : Value) (C D : Addr) (s₁ : Shared) (m : Str → Option Value) (ys : List Value) (c : Nat) (led tl : List (Addr × Obj)) (E' : Value → Shared → Prop), i < n → P i v → J i ys led → ys.length = i →
      (∀ q ∈ led, q.1 ∉ wr ∧ q.1 ≠ D) → (∀ q ∈ tl, q.1 ∈ fp) → (∀ q ∈ tl, q.1 < s₂.heap.objs.size) → s₂.heap.objs.size ≤ C → s₂.heap.objs.size ≤ D → Gx s₀ s₁ →
      Fr b₁ C s₁.heap (fun z => if z = x then some v else m z) → News b₁ C s₁.heap ((D, listObj ys c) :: (led ++ tl)) →
      wpAny (model prog w) A (eval elt (compEnvC scope cl C env)) (LcEnd b₁ C D wr tl ys c (J (i + 1)) s₀) E' s₁)
    (done : ∀ (D C : Addr) s₁ m ys c led, J n ys led → ys.length = n → (∀ q ∈ led, q.1 ∉ wr ∧ q.1 ≠ D) → s₂.heap.objs.size ≤ D → s₂.heap.objs.size ≤ C → D ≠ C → Gx s₀ s₁ → Fr b₁ C s₁.heap m → News b₁ C s₁.heap ((D, listObj ys c) :: led) → RR (.ref D) C (.ok .next) s₁) :
    wpAny (model prog w) A (newList []) (fun acc s₃ => wpAny (model prog w) A (newFunctionEnv scope env.globals cl [] env.qual none .none (some env)) (fun cenv s₄ =>
      codeAny (model prog w) A (.compStart (.ListComp elt [⟨.Name x px, iter, [], 0⟩] scope pos) 0 (.ref I) acc { cenv with scope := relabel scope env }) (RR acc cenv.locals) s₄) E s₃) E s₂ := by
  refine wpAny_newObj_type (wpAny_newFunctionEnv hcell (by intro y hy; simp at hy) (fun h₁ hns₁ hsb₁ => ?_) hkind)
  dsimp only at hns₁ hsb₁ ⊢
  generalize hH2 : s₂.heap.push { cls := .type "list", dict := none, data := .seq ([] : List Value).toArray } = H2 at hns₁ hsb₁ ⊢
  have hC : H2.objs.size = s₂.heap.objs.size + 1 := by rw [← hH2, Heap.size_push]
  have hCle : s₂.heap.objs.size ≤ H2.objs.size := by rw [hC]; exact Nat.le_succ _
  have hDC : s₂.heap.objs.size ≠ H2.objs.size := by rw [hC]; exact Nat.ne_of_lt (Nat.lt_succ_self _)
  have below : ∀ b, b < s₂.heap.objs.size → b ≠ H2.objs.size ∧ b ≠ s₂.heap.objs.size := fun b hb => ⟨by rw [hC]; exact Nat.ne_of_lt (Nat.lt_succ_of_lt hb), Nat.ne_of_lt hb⟩
  have hDf : s₂.heap.objs.size ∉ fp := fun hm => Nat.lt_irrefl _ (hfp _ hm)
  have hCf : H2.objs.size ∉ fp := fun hm => by have := hfp _ hm; rw [hC] at this; exact Nat.lt_irrefl _ (Nat.lt_of_succ_lt this)
  have old : ∀ b o, s₂.heap.get? b = some o → h₁.get? b = some o := fun b o e => hsb₁.extBut b o (below b (Heap.lt_size e)).1 (Heap.get?_push_of_some _ (hH2 ▸ Heap.get?_push_of_some _ e))
  have hacc : h₁.get? s₂.heap.objs.size = some (listObj [] 0) := hsb₁.extBut _ _ hDC (Heap.get?_push_of_some _ (hH2 ▸ Heap.get?_push_size _ rfl))
  have hst₁ : St 0 h₁ := W.frame _ _ _ hst fun b _ o e => old b o e
  have fresh₁ : ∀ a, s₂.heap.objs.size ≤ a → b₁.get? a = none := fun a ha => Heap.get?_none_of_le (Nat.le_trans hbs ha)
  have hCw : H2.objs.size ∉ wr := fun q => hCf (W.sub _ q)
  have hDw : s₂.heap.objs.size ∉ wr := fun q => hDf (W.sub _ q)
  have F₁ : Fr b₁ H2.objs.size h₁ (fun x => ([] : List (Str × Value)).reverse.lookup x) := ⟨hns₁, fun b o e => old b o (hb b o e), Nat.le_trans hbs hCle⟩
  have N₁ : News b₁ H2.objs.size h₁ [(s₂.heap.objs.size, listObj [] 0)] := fun q hq => by
    rw [List.mem_singleton.mp hq]
    exact ⟨hacc, hDC, fresh₁ _ (Nat.le_refl _)⟩
  have up : ∀ {h h' : Heap} {m : Str → Option Value}, Fr b₁ H2.objs.size h m → (∀ b o, b ∉ wr → h.get? b = some o → h'.get? b = some o) → Fr b₁ H2.objs.size h' m := fun F k =>
    ⟨F.ns.at' fun o q => k _ o hCw q, fun b o e => k b o (fun q => by rw [hwr b q] at e; cases e) (F.keep b o e), F.above⟩
  have loop : ∀ s₃ : Shared, s₃ = { s₂ with heap := h₁, toks := s₂.toks + ([] : List (Str × Value)).length } →
      codeAny (model prog w) A (.compLoop (.ListComp elt [⟨.Name x px, iter, [], 0⟩] scope pos) 0 (.ref I) (.ref s₂.heap.objs.size) (compEnvC scope cl H2.objs.size env))
        (RR (.ref s₂.heap.objs.size) H2.objs.size) s₃ := by
    rintro s₃ rfl
    refine codeAny_compLoop_tests
      (fun k s' => ∃ i m ys c led, k = n + 1 - i ∧ i ≤ n ∧ ys.length = i ∧ St i s'.heap ∧ Fr b₁ H2.objs.size s'.heap m ∧ News b₁ H2.objs.size s'.heap ((s₂.heap.objs.size, listObj ys c) :: led) ∧ (∀ q ∈ led, q.1 ∉ wr ∧ q.1 ≠ s₂.heap.objs.size) ∧ Gx s₀ s' ∧ J i ys led) ?_ (n + 1)
      ⟨0, _, [], 0, [], rfl, Nat.zero_le _, rfl, hst₁, F₁, N₁, (fun q hq => nomatch hq), X.step, j0⟩
    rintro k s' ⟨i, m, ys, c, led, rfl, hi, hyl, hst', F', N', hap, X', J'⟩
    have apw : ∀ q ∈ (s₂.heap.objs.size, listObj ys c) :: led, q.1 ∉ wr := fun q hq => by
      rcases List.mem_cons.mp hq with rfl | hq
      · exact hDw
      · exact (hap q hq).1
    by_cases hlt : i < n
    · refine W.item i _ _ _ hlt hst' fun v h₂ tk₂ hPv hst₂ k₂ => ?_
      have F₂ := up F' k₂
      have N₂ : News b₁ H2.objs.size h₂ ((s₂.heap.objs.size, listObj ys c) :: led) := fun q hq => ⟨k₂ _ _ (apw q hq) (N' q hq).1, (N' q hq).2⟩
      refine wpAny_assign_Name (wpAny_storeName_local (lookup_relabel_local hx) F₂.ns (fun h₃ hn₃ hs₃ => ?_) (by simp [compEnvC, relabel, hkind]))
      refine wpAny_tests_nil ?_
      simp only [if_true]
      have F₃ : Fr b₁ H2.objs.size h₃ _ := F₂.set hn₃ hs₃
      have keepC : ∀ b o, b ≠ H2.objs.size → h₂.get? b = some o → h₃.get? b = some o := fun b o hb q => hs₃.extBut b o hb q
      have hst₃ : St (i + 1) h₃ := W.frame _ _ _ hst₂ fun b hb o q => keepC b o (fun e => hCf (e ▸ hb)) q
      have N₃ : News b₁ H2.objs.size h₃ ((s₂.heap.objs.size, listObj ys c) :: (led ++ tailIn b₁ h₃ fp)) := fun q hq => by
        rw [← List.cons_append] at hq
        rcases List.mem_append.mp hq with hq | hq
        · exact ⟨keepC _ _ (N₂ q hq).2.1 (N₂ q hq).1, (N₂ q hq).2⟩
        · exact tailIn_news hCf q hq
      have tin : ∀ q ∈ tailIn b₁ h₃ fp, q.1 ∈ fp := fun q hq => (mem_tailIn.mp (show (q.1, q.2) ∈ _ from hq)).1
      refine wpAny_mono (turn i v H2.objs.size s₂.heap.objs.size { s' with heap := h₃, toks := tk₂ + 1 } m ys c led (tailIn b₁ h₃ fp) _ hlt hPv J' hyl hap tin (fun q hq => hfp _ (tin q hq)) hCle (Nat.le_refl _) X'.step F₃ N₃) (fun y s₄ h₄ => ?_) fun _ _ e => e
      obtain ⟨m', led', F₄, N₄, NT, hap₄, X₄, J₄⟩ := h₄
      have hst₄ : St (i + 1) s₄.heap := W.frame _ _ _ hst₃ (tailIn_keeps F₃ F₄ NT)
      have N₄' : News b₁ H2.objs.size s₄.heap ((s₂.heap.objs.size, listObj ys c) :: (led' ++ tailIn b₁ s₄.heap fp)) := fun q hq => by
        rw [← List.cons_append] at hq
        rcases List.mem_append.mp hq with hq | hq
        · exact N₄ q hq
        · exact tailIn_news hCf q hq
      refine append_led F₄ N₄' (fun q hq => ?_) (by omega) fun h₅ F₅ N₅ => ?_
      · rcases List.mem_append.mp hq with hq | hq
        · exact (hap₄ q hq).2
        · exact fun e => hDf (e ▸ (mem_tailIn.mp (show (q.1, q.2) ∈ _ from hq)).1)
      refine ⟨n + 1 - (i + 1), by omega, i + 1, m', ys ++ [y], c + 1, led', rfl, hlt, by simp [hyl], ?_, F₅, fun q hq => N₅ q ?_, hap₄, X₄.step, J₄⟩
      · exact W.frame _ _ _ hst₄ (tailIn_keeps F₄ F₅ fun q hq => N₅ q (.tail _ (List.mem_append_right _ hq)))
      · rcases List.mem_cons.mp hq with rfl | hq
        · exact .head _
        · exact .tail _ (List.mem_append_left _ hq)
    · obtain rfl : i = n := Nat.le_antisymm hi (Nat.not_lt.mp hlt)
      refine W.done _ _ _ hst' fun h₂ tk₂ k₂ => ?_
      exact done _ _ _ m ys c led J' hyl hap (Nat.le_refl _) hCle hDC X'.step (up F' k₂) fun q hq => ⟨k₂ _ _ (apw q hq) (N' q hq).1, (N' q hq).2⟩
  exact codeAny_compStart_list (loop _ rfl) (W.self 0 _ _ _ hst₁ (loop _ rfl))
end
end Mine
-- part MSigns
namespace Mine
section
variable {M : Model} {prog : Program} {w : World} {A : Around} {E : Value → Shared → Prop} {s : Shared} {fa : Addr} {cd : Value} {mg mb : Str → Option Value} {env : Env} {h₀ : Heap} {L : Addr} {m : Str → Option Value}

theorem enterC {n : Nat} {nm : Str} {args : List Value} {binds : List (Str × Value)} {Q : Value → Shared → Prop} (fn : FnAt mg s.heap n nm fa cd) (hroom : A.depth < recursionLimit) (hlim : s.heap.NoLimit)
    (hbind : ∀ pm doc, bindArgs (Calls.docDef nm (fnParts n).1 (fnParts n).2.1 (fnParts n).2.2 pm cd doc) ⟨args, []⟩ = pure binds)
    (hkind : ∀ x ∈ binds, (fnParts n).2.2.names.lookup x.1 = some .local ∨ ((fnParts n).2.2.names.lookup x.1 = some .cell ∧ ((cellsFrom (s.heap.objs.size + 1) (fnParts n).2.2.names []).lookup x.1).isSome = true))
    (hnd : ((cellsFrom 0 (fnParts n).2.2.names []).map (·.1)).Nodup)
    (hco : (fnParts n).2.2.isCoroutine = false) (hgen : (fnParts n).2.2.isGenerator = false) (hk : (fnParts n).2.2.kind = .function)
    (h : ∀ h₁ tk cells, Fr s.heap s.heap.objs.size h₁ (bindL (envOfC nm (fnParts n).2.2 s.heap.objs.size fa cd).kindOf binds fun _ => none) → News s.heap s.heap.objs.size h₁ cells →
      CellsAre (bindC (envOfC nm (fnParts n).2.2 s.heap.objs.size fa cd).kindOf binds fun _ => none) (cellsFrom (s.heap.objs.size + 1) (fnParts n).2.2.names []) cells →
      wpAny (model prog w) (A.deeper (envOfC nm (fnParts n).2.2 s.heap.objs.size fa cd)) (execs (fnParts n).2.1 (envOfC nm (fnParts n).2.2 s.heap.objs.size fa cd))
        (fun f s' => Q (match f with | .ret v => v | _ => .none) s') (fun _ _ => False) { s with heap := h₁, toks := tk }) :
    wpAny (model prog w) A (call (.ref fa) args) Q E s := by
  obtain ⟨o, pm, doc, ho, hd⟩ := fn.obj
  exact wpAny_call (call_cellsN_ret hroom ho hd hlim fn.code (hbind pm doc) hkind hnd (fun h₁ tk cells F N X => h h₁ tk cells F N X) hco hgen hk)

theorem gName_bi {x : Str} {pos : Pos} {v : Value} {Q : Value → Shared → Prop} (F : Fr h₀ L s.heap m) (G : Gd mg mb h₀) (hv : bootBuiltins x = some v) (h : Q v s)
    (hm : x ∈ biNames := by decide) (hn : x ≠ "__name__" := by decide) (hg : env.globals = mainGlobals := by rfl) (hb : env.builtins = builtinsNs := by rfl)
    (hk : env.scope.kind = .function := by rfl) (hx : env.kindOf x = some .globalImplicit := by rfl) (hd : (x == ("__debug__" : Str)) = false := by decide) :
    wpAny M A (eval (.Name x pos) env) Q E s :=
  Calls.Name_function_global hk hx (Calls.loadGlobal_builtin (hg ▸ G.g.keeps F.keep) (G.no x hm) (hb ▸ G.b.keeps F.keep) ((G.bi x hn).trans hv) h) hd
theorem gName_fn {n : Nat} {nm : Str} {pos : Pos} {Q : Value → Shared → Prop} (F : Fr h₀ L s.heap m) (G : Gd mg mb h₀) (f : FnAt mg h₀ n nm fa cd) (h : Q (.ref fa) s)
    (hg : env.globals = mainGlobals := by rfl)
    (hk : env.scope.kind = .function := by rfl) (hx : env.kindOf nm = some .globalImplicit := by rfl) (hd : (nm == ("__debug__" : Str)) = false := by decide) :
    wpAny M A (eval (.Name nm pos) env) Q E s :=
  Calls.Name_function_global hk hx (Calls.loadGlobal_global (hg ▸ G.g.keeps F.keep) f.glob h) hd
theorem gName_loc {x : Str} {pos : Pos} {v : Value} {Q : Value → Shared → Prop} (F : Fr h₀ L s.heap m) (hv : m x = some v) (h : Q v s) (hL : env.locals = L := by rfl)
    (hk : env.scope.kind = .function := by rfl) (hx : env.kindOf x = some .local := by rfl) (hd : (x == ("__debug__" : Str)) = false := by decide) :
    wpAny M A (eval (.Name x pos) env) Q E s := by
  subst hL
  exact wpAny_Name (wpAny_loadName_local hk hx F.ns hv h) hd
theorem gName_cell {x : Str} {pos : Pos} {c : Addr} {v : Value} {Q : Value → Shared → Prop} (F : Fr h₀ L s.heap m) (hc : h₀.IsCell c (some v)) (h : Q v s) (hl : env.cells.lookup x = some c := by rfl)
    (hk : env.scope.kind = .function := by rfl) (hx : env.kindOf x = some .cell := by rfl) (hd : (x == ("__debug__" : Str)) = false := by decide) :
    wpAny M A (eval (.Name x pos) env) Q E s := wpAny_Name (wpAny_loadName_cell hk hx hl (hc.keeps F.keep) h) hd
end
local macro_rules | `(tactic| walk_at "eval Name") => `(tactic| (refine gName_bi (by assumption) (by assumption) (by first | exact Boot.enumerate | exact Boot.len | exact Boot.range | exact Boot.zip | exact Boot.sum | exact Boot.list | exact Boot.ValueError) ?_))
local macro_rules | `(tactic| walk_at "eval Name") => `(tactic| (refine gName_fn (by assumption) (by assumption) (by assumption) ?_))
local macro_rules | `(tactic| walk_at "eval Name") => `(tactic| (refine gName_cell (by assumption) (by assumption) ?_))
local macro_rules | `(tactic| walk_at "eval Name") => `(tactic| (refine gName_loc (by assumption) (by rfl) ?_))
local macro_rules | `(tactic| walk_at "storeName") => `(tactic| ((with_reducible show wpAny _ _ (storeName (envOfC _ _ _ _ _) _ _) _ _ _); refine stLocN (by assumption) (by assumption) ?_; intro _ _ _))
local macro_rules | `(tactic| walk_at "W") => `(tactic| repeat ((fail_if_success (with_reducible show wpAny _ _ (eval (Expr.ListComp _ _ _ _) _) _ _ _)); (fail_if_success (with_reducible show wpAny _ _ (exec (Stmt.For _ _ _ _ _) _) _ _ _)); walk1))

section
variable {prog : Program} {w : World} {A : Around} {E : Value → Shared → Prop} {s : Shared} {env : Env}
theorem lcEval {elt iter : Expr} {x : Str} {px : Pos} {scope : Scope} {cl : List (Str × Addr)} {pos : Pos} {Q : Value → Shared → Prop} (hclos : closureFor scope env = pure cl) (hkind : scope.kind = .function)
    (hnames : ∀ y ∈ scope.names, y.2 = .local → scope.names.lookup y.1 = some .local)
    (h : wpAny (model prog w) A (eval iter env) (fun xv s₁ => wpAny (model prog w) A (pyIter xv) (fun it s₂ => wpAny (model prog w) A (newList []) (fun acc s₃ => wpAny (model prog w) A (newFunctionEnv scope env.globals cl [] env.qual none .none (some env)) (fun cenv s₄ =>
      codeAny (model prog w) A (.compStart (.ListComp elt [⟨.Name x px, iter, [], 0⟩] scope pos) 0 it acc { cenv with scope := relabel scope env }) (compPost (model prog w) A E none Q acc cenv.locals) s₄) E s₃) E s₂) E s₁) E s)
    (hs : ∀ x, foldedSetIterable iter env x = pure x := by intro _; rfl) :
    wpAny (model prog w) A (eval (.ListComp elt [⟨.Name x px, iter, [], 0⟩] scope pos) env) Q E s := by
  rw [eval_ListComp]
  exact wpAny_comprehension_free (use := none) rfl hs hclos hkind hnames h
end
section
variable {prog : Program} {w : World} {A : Around} {E : Value → Shared → Prop} {s : Shared} {env : Env}
theorem rangeComp {elt iter : Expr} {x : Str} {px : Pos} {scope : Scope} {cl : List (Str × Addr)} {pos : Pos} {RR : Value → Addr → Result → Shared → Prop} {r : Addr} {k : Nat} {t u v : Tok} (hh : A.handled = none) (hr : IsRange s.heap r 0 k 1 t u v) (hk : k ≤ 10)
    (hcell : ∀ y ∈ scope.names, y.2 ≠ .cell) (hkind : scope.kind = .function) (hx : scope.names.lookup x = some .local)
    (J : Nat → List Value → List (Addr × Obj) → Prop) (j0 : J 0 [] [])
    (turn : ∀ (i : Nat) (tk : Tok) (C D : Addr) (s₁ : Shared) (m : Str → Option Value) (ys : List Value) (c : Nat) (led tl : List (Addr × Obj)) (E' : Value → Shared → Prop), i < k → J i ys led → ys.length = i →
      (∀ q ∈ led, q.1 ∉ [s.heap.objs.size] ∧ q.1 ≠ D) → (∀ q ∈ tl, q.1 = s.heap.objs.size) → s.heap.objs.size < C → s.heap.objs.size < D → Gx s s₁ →
      Fr s.heap C s₁.heap (fun z => if z = x then some (.int i tk) else m z) → News s.heap C s₁.heap ((D, listObj ys c) :: (led ++ tl)) →
      wpAny (model prog w) A (eval elt (compEnvC scope cl C env)) (LcEnd s.heap C D [s.heap.objs.size] tl ys c (J (i + 1)) s) E' s₁)
    (done : ∀ (D C : Addr) s₁ m ys c led, J k ys led → ys.length = k → s.heap.objs.size < D → s.heap.objs.size < C → D ≠ C → Gx s s₁ → Fr s.heap C s₁.heap m → News s.heap C s₁.heap ((D, listObj ys c) :: led) → RR (.ref D) C (.ok .next) s₁) :
    wpAny (model prog w) A (pyIter (.ref r)) (fun it s₂ => wpAny (model prog w) A (newList []) (fun acc s₃ => wpAny (model prog w) A (newFunctionEnv scope env.globals cl [] env.qual none .none (some env)) (fun cenv s₄ =>
      codeAny (model prog w) A (.compStart (.ListComp elt [⟨.Name x px, iter, [], 0⟩] scope pos) 0 it acc { cenv with scope := relabel scope env }) (RR acc cenv.locals) s₄) E s₃) E s₂) E s := by
  have hsz : Builtin.Range.rangeSize 0 k 1 = k := by
    unfold Builtin.Range.rangeSize
    simp
    omega
  refine wpAny_pyIter_range hr ?_ ?_
  · rcases k with _ | _ | _ | _ | _ | _ | _ | _ | _ | _ | _ | k
    all_goals first | decide | (exfalso; omega)
  have hp : (s.heap.push { cls := .type "range_iterator", data := .fields #[rawInt 0, rawInt (Builtin.Range.rangeSize 0 k 1), rawInt 1] }).objs.size = s.heap.objs.size + 1 := Heap.size_push _ _
  refine compFor (b₁ := s.heap) (s₀ := s) (Walks.range hh s.heap.objs.size 0 1 k) ?_ (by omega) hcell hkind hx ?_ ?_ ?_ ?_ ?_ J j0 Gx.step1 ?_ ?_
  · intro i h st b hb
    rw [List.mem_singleton.mp hb]
    exact ⟨_, st⟩
  · intro b o e; exact Heap.get?_push_of_some _ e
  · rw [hp]; omega
  · intro b hb
    rw [List.mem_singleton.mp hb]
    exact Heap.get?_none_of_le (Nat.le_refl _)
  · show (s.heap.push _).get? _ = some _
    rw [hsz]
    simpa using Heap.get?_push_size _ rfl
  · intro b hb
    rw [List.mem_singleton.mp hb, hp]; exact Nat.lt_succ_self _
  · rintro i v C D s₁ m ys c led tl E' hi ⟨tk, rfl⟩ hJ hyl hap htl _ hC hD X₁ F₁ N₁
    rw [hp] at hC hD
    have e : (0 + (i : Int) * 1) = (i : Int) := by omega
    rw [e] at F₁
    exact turn i tk C D s₁ m ys c led tl E' hi hJ hyl hap (fun q hq => List.mem_singleton.mp (htl q hq)) hC hD X₁ F₁ N₁
  · intro D C s₁ m ys c led hJ hyl _ hD hC hDC X₁ F₁ N₁
    rw [hp] at hC hD
    exact done D C s₁ m ys c led hJ hyl hD hC hDC X₁ F₁ N₁
end
section
variable {prog : Program} {w : World} {A : Around} {E : Value → Shared → Prop} {s : Shared} {fa : Addr} {cd : Value} {mg mb : Str → Option Value}
theorem ints_of : ∀ (l : List Value), (∀ v ∈ l, ∃ n t, v = .int n t) → ∃ ms, IntsAre l ms
  | [], _ => ⟨[], .nil⟩
  | v :: l, h => by
    obtain ⟨n, t, rfl⟩ := h v (.head _)
    obtain ⟨ms, hm⟩ := ints_of l fun y hy => h y (.tail _ hy)
    exact ⟨n :: ms, .cons n t hm⟩
theorem ints_mem {vs : List Value} {ns : List Int} (h : IntsAre vs ns) : ∀ v ∈ vs, ∃ n t, v = .int n t := by
  induction h with
  | nil => intro v hv; cases hv
  | cons n t _ ih =>
    intro v hv
    rcases List.mem_cons.mp hv with rfl | hv
    · exact ⟨_, _, rfl⟩
    · exact ih v hv
theorem ints_pick {vs : List Value} {ns : List Int} (h : IntsAre vs ns) (a b c : Option Int) : ∃ ms, IntsAre (slicePick vs.toArray a b c).toList ms := by
  refine ints_of _ fun v hv => ?_
  unfold slicePick at hv
  simp only [List.mem_filterMap] at hv
  obtain ⟨i, _, e⟩ := hv
  exact ints_mem h v (by simpa using Array.mem_of_getElem? e)
def isSign (x : Str) : Prop := ∃ c, (c = 40 ∨ c = 34 ∨ c = 41 ∨ c = 92 ∨ c = 97) ∧ x = ⟨#[c]⟩
theorem signs_comp {h₀ : Heap} {L c l : Addr} {vs : List Value} {ns : List Int} {k : Nat} {t : Tok} {m : Str → Option Value} {oc : Obj} {Q : Value → Shared → Prop} (hh : A.handled = none) (hc : c = L + 1) (hlen : vs.length ≤ 5000) (hk : k ≤ 4)
    (G : Gd mg mb h₀) (hl : h₀.IsList l vs.toArray) (hi : IntsAre vs ns) (F : Fr h₀ L s.heap m) (N : News h₀ L s.heap [(c, oc)]) (hoc : oc.data = .cell (some (.ref l))) (hm : m (Str.ofString "count") = some (.int k t))
    (h : ∀ s' D ys c xs, Ext s s' → s.heap.objs.size ≤ D → s'.heap.get? D = some (listObj ys c) → AreK (strKey h₀) ys xs → xs.length = k → (∀ x ∈ xs, isSign x) → Q (.ref D) s') :
    wpAny (model prog w) A (eval (match (fnParts 8).2.1 with | _ :: .Return (some e) _ :: _ => e | _ => .Name "" default) (envOfC "_law_signs" (fnParts 8).2.2 L fa cd)) Q E s := by
  subst hc
  refine lcEval (cl := [(Str.ofString "script", L + 1)]) rfl rfl (by decide) ?_
  have hcell : s.heap.IsCell (L + 1) (some (.ref l)) := ⟨oc, (N _ (.head _)).1, hoc⟩
  have hlS : s.heap.IsList l vs.toArray := Heap.IsList.at hl fun o e => F.keep _ o e
  have GS := G.keeps F.keep
  have F' := Fr.map1 (a := Str.ofString "count") F hm
  clear F
  walk_at "W"
  rename_i h₂ tk₂ t₁ u₁ v₁ hr F₂ N₂ k₂
  have G2 : Gd mg mb h₂ := GS.keeps k₂
  have hc2 : h₂.IsCell (L + 1) (some (.ref l)) := hcell.keeps k₂
  have hl2 : h₂.IsList l vs.toArray := Heap.IsList.at hlS fun o e => k₂ _ o e
  refine rangeComp (k := k) hh hr (by omega) (by decide) rfl rfl (fun i ys led => led = [] ∧ ∃ xs, AreK (strKey h₀) ys xs ∧ ∀ x ∈ xs, isSign x) ⟨rfl, [], .nil, fun x hx => nomatch hx⟩ ?_ ?_
  · rintro i tk C D s₁ m' ys c led tl E' hik ⟨rfl, xs, hAk, hxs⟩ hyl hap htl hC hD X₁ F₁ N₁
    replace F₁ : Fr h₂ C s₁.heap _ := F₁
    replace N₁ : News h₂ C s₁.heap ((D, listObj ys c) :: tl) := N₁
    clear F₂ N₂
    walk_at "W"
    rename_i h₃ F₃ N₃
    obtain ⟨ms, hms⟩ := ints_pick hi (some (i : Int)) none (some 4)
    have hz : (ys.toArray).size ≤ 10000 := by rw [List.size_toArray]; omega
    refine LSm.sum_ints (vs := (slicePick vs.toArray (some (i : Int)) none (some 4)).toList) F₃ N₃ hh ⟨_, (N₃ _ (.head _)).1, rfl, _, by simp; rfl⟩ hms fun h₄ tk₄ t₄ F₄ N₄ => ?_
    clear F₁ N₁ F₃ N₃
    walk_at "W"
    have htl0 : ∀ q ∈ (D, listObj ys c) :: tl, News h₂ C h₄ [q] := fun q hq p hp => by rw [List.mem_singleton.mp hp]; exact N₄ q (.tail _ hq)
    have fin : ∀ (y : Str) (u : Tok) (s₅ : Shared), s₅.heap = h₄ → Gx s₁ s₅ → isSign y → LcEnd h₂ C D [h₂.objs.size] tl ys c (fun ys led => led = [] ∧ ∃ xs, AreK (strKey h₀) ys xs ∧ ∀ x ∈ xs, isSign x) { s with heap := h₂, toks := tk₂ } (.str y u) s₅ := fun y u s₅ e5 X5 hy => by
      subst e5
      refine ⟨_, [], F₄, fun q hq => ?_, fun q hq => htl0 q (.tail _ hq) q (.head _), (fun q hq => nomatch hq), X₁.trans X5, rfl, xs ++ [y], hAk.snoc ⟨u, rfl⟩, fun x hx => ?_⟩
      · rw [List.mem_singleton.mp hq]; exact htl0 _ (.head _) _ (.head _)
      · rcases List.mem_append.mp hx with hx | hx
        · exact hxs x hx
        · rw [List.mem_singleton.mp hx]; exact hy
    have hj0 : 0 ≤ ((i : Int) + ms.sum).fmod 5 := Int.fmod_nonneg_of_pos _ (by decide)
    have hj5 : ((i : Int) + ms.sum).fmod 5 < 5 := Int.fmod_lt_of_pos _ (by decide)
    generalize ((i : Int) + ms.sum).fmod 5 = j at hj0 hj5
    have hj : j = 0 ∨ j = 1 ∨ j = 2 ∨ j = 3 ∨ j = 4 := by omega
    rcases hj with rfl | rfl | rfl | rfl | rfl
    all_goals
      refine item_str (by decide) (by decide) (by decide) fun _ => ?_
      first
        | exact fin _ _ _ rfl Gx.step1 ⟨40, by decide, by decide +kernel⟩
        | exact fin _ _ _ rfl Gx.step1 ⟨34, by decide, by decide +kernel⟩
        | exact fin _ _ _ rfl Gx.step1 ⟨41, by decide, by decide +kernel⟩
        | exact fin _ _ _ rfl Gx.step1 ⟨92, by decide, by decide +kernel⟩
        | exact fin _ _ _ rfl Gx.step1 ⟨97, by decide, by decide +kernel⟩
  · rintro D C s₁ m' ys c led ⟨rfl, xs, hAk, hxs⟩ hyl hD hC hDC X₁ F₁ N₁
    replace F₁ : Fr h₂ C s₁.heap _ := F₁
    refine ⟨m', F₁.ns, fun h' hs' => ?_⟩
    have hD' : h₂.objs.size < D := hD
    have hC' : h₂.objs.size < C := hC
    refine h _ D ys c xs ⟨fun b o e => ?_, Gx.step1.trans X₁.step⟩ ?_ (hs'.extBut _ _ hDC (N₁ _ (.head _)).1) hAk (by rw [← hAk.len, hyl]) hxs
    · have := k₂ b o e
      exact hs'.extBut b o (Nat.ne_of_lt (Nat.lt_trans (Heap.lt_size this) hC')) (F₁.keep _ _ this)
    · have : s.heap.objs.size ≤ h₂.objs.size := Nat.le_of_lt (Heap.lt_size hr)
      exact Nat.le_trans this (Nat.le_of_lt hD')
theorem signs_spec {l : Addr} {vs : List Value} {ns : List Int} {Q : Value → Shared → Prop} (hh : A.handled = none) (hroom : A.depth + 10 < recursionLimit) (hu : A.units + 100 < cLine) (hlen : vs.length ≤ 5000) (G : Gd mg mb s.heap)
    (fn : FnAt mg s.heap 8 "_law_signs" fa cd) (hl : s.heap.IsList l vs.toArray) (hi : IntsAre vs ns)
    (h : ∀ s' D vs' n' xs, Ext s s' → s.heap.objs.size ≤ D → s'.heap.get? D = some (listObj vs' n') → AreK (strKey s.heap) vs' xs → (xs.length = 3 ∨ xs.length = 4) → (∀ x ∈ xs, isSign x) → Q (.ref D) s') :
    wpAny (model prog w) A (call (.ref fa) [.ref l]) Q E s := by
  refine enterC (binds := [(Str.ofString "script", .ref l)]) fn (by omega) G.lim (fun _ _ => rfl) (by
    intro y hy; rw [List.mem_singleton.mp hy]; exact .inr ⟨rfl, rfl⟩) (by decide) rfl rfl rfl fun h₁ tk₁ cells F₁ N₁ X₁ => ?_
  obtain ⟨oc, rfl, hoc⟩ := X₁.one
  obtain ⟨ol, hol, hcl, nl, hdl⟩ := hl
  replace hoc : oc.data = .cell (some (.ref l)) := hoc
  have hh1 : (A.deeper (envOfC "_law_signs" (fnParts 8).2.2 s.heap.objs.size fa cd)).handled = none := hh
  walk_at "W"
  refine Calls.call_len_list (items := vs.toArray) ⟨ol, F₁.keep _ _ hol, hcl, nl, hdl⟩ (by rw [List.size_toArray]; omega) ?_
  walk_at "W"
  · rename_i hgt
    walk_at "W"
    (rename Fr _ _ _ _ => F₂); (rename News _ _ _ _ => N₂)
    refine signs_comp (k := 4) hh1 rfl hlen (by omega) G ⟨ol, hol, hcl, nl, hdl⟩ hi F₂ N₂ hoc rfl fun s' D ys c xs X' hD hg hAk hx hs => ?_
    exact h s' D ys c xs ⟨fun b o e => X'.keep _ _ (F₂.keep _ _ e), Gx.step1.trans X'.gx⟩ (Nat.le_trans (Nat.le_of_lt F₂.ns.lt) hD) hg hAk (.inr hx) hs
  · rename_i hgt
    walk_at "W"
    (rename Fr _ _ _ _ => F₂); (rename News _ _ _ _ => N₂)
    refine signs_comp (k := 3) hh1 rfl hlen (by omega) G ⟨ol, hol, hcl, nl, hdl⟩ hi F₂ N₂ hoc rfl fun s' D ys c xs X' hD hg hAk hx hs => ?_
    exact h s' D ys c xs ⟨fun b o e => X'.keep _ _ (F₂.keep _ _ e), Gx.step1.trans X'.gx⟩ (Nat.le_trans (Nat.le_of_lt F₂.ns.lt) hD) hg hAk (.inl hx) hs

end
end Mine
-- part MLaw0
namespace Mine
section
variable {prog : Program} {w : World} {A : Around} {E : Value → Shared → Prop} {s : Shared} {h₀ : Heap} {L : Addr} {m : Str → Option Value} {env : Env}

theorem stUpG {x : Str} {v : Value} {Q : Unit → Shared → Prop} (hL : env.locals = L) (F : Fr h₀ L s.heap m)
    (h : ∀ h', Fr h₀ L h' (fun y => if y = x then some v else m y) → Heap.SameBut L s.heap h' → Q () { s with heap := h', toks := s.toks + 1 })
    (hk : env.scope.kind = .function) (hl : env.kindOf x = some .local) :
    wpAny (model prog w) A (storeName env x v) Q E s := by
  subst hL
  exact wpAny_storeName_local hl F.ns (fun h' hn hs => h h' (F.set hn hs) hs) (by rw [hk]; rfl)

theorem assignNamesG (hL : env.locals = L) (hk : env.scope.kind = .function) : ∀ (xs : List (Str × Pos)) (vs : List Value) (m : Str → Option Value) (s : Shared) (Q : Unit → Shared → Prop),
    (∀ x ∈ xs, env.kindOf x.1 = some .local) → Fr h₀ L s.heap m →
    (∀ h' tk, Fr h₀ L h' (putAll xs vs m) → (∀ b o, b ≠ L → s.heap.get? b = some o → h'.get? b = some o) → Q () { s with heap := h', toks := tk }) →
    wpAny (model prog w) A (assignInOrder (xs.map fun x => assign (.Name x.1 x.2) env) vs) Q E s
  | [], vs, m, s, Q, _, F, h => by cases vs <;> exact wpAny_pure (h s.heap s.toks F fun _ _ _ e => e)
  | x :: xs, [], m, s, Q, _, F, h => wpAny_pure (h s.heap s.toks F fun _ _ _ e => e)
  | x :: xs, v :: vs, m, s, Q, hl, F, h => by
    refine wpAny_assignInOrder_more (wpAny_assign_Name (stUpG hL F (fun h' F' hs => ?_) hk (hl x (.head _))))
    refine assignNamesG hL hk xs vs _ _ Q (fun y hy => hl y (.tail _ hy)) F' fun h'' tk F'' e => ?_
    exact h h'' tk F'' fun b o hb q => e b o hb (hs.extBut b o hb q)

theorem assignTupG {elts : List Expr} (xs : List (Str × Pos)) {pos : Pos} {k : Nat} {t : Addr} {vs : List Value} {Q : Unit → Shared → Prop} (hL : env.locals = L) (hh : A.handled = none) (F : Fr h₀ L s.heap m)
    (ht : s.heap.IsTuple t vs.toArray) (hn : xs.length = vs.length)
    (h : ∀ h' tk, Fr h₀ L h' (putAll xs vs m) → (∀ b o, b ≠ L → s.heap.get? b = some o → h'.get? b = some o) → Q () { s with heap := h', toks := tk })
    (hk : env.scope.kind = .function) (hx : ∀ x ∈ xs, env.kindOf x.1 = some .local)
    (he : assignEach elts env = xs.map fun x => (false, assign (.Name x.1 x.2) env)) :
    wpAny (model prog w) A (assign (.Tuple elts k pos) env (.ref t)) Q E s := by
  refine wpAny_assign_Tuple hh ht (by rw [he]; simp [hn]) (by rw [he]; simp) fun h₁ hx₁ => ?_
  have up := extNew hx₁
  rw [he, List.map_map]
  refine assignNamesG hL hk xs vs m _ Q hx (Fr.up F up) fun h' tk F' e => ?_
  exact h h' tk F' fun b o hb q => e b o hb (up b o q)
end

section
variable {prog : Program} {w : World} {A : Around} {E : Value → Shared → Prop} {s₀ s : Shared} {h₀ : Heap} {L I : Addr} {fp wr : List Addr} {n : Nat} {St : Nat → Heap → Prop} {env : Env}

theorem walkForG {R : Result → Shared → Prop} {x : Str} {px : Pos} {body : List Stmt} {P : Nat → Value → Prop} (W : Walks prog w A I fp wr n P St) (live : ∀ i h, St i h → ∀ b ∈ fp, ∃ o, h.get? b = some o) (hL : L ∉ fp) (hwr : ∀ b ∈ wr, h₀.get? b = none) (hlo : env.locals = L)
    (hk : env.scope.kind = .function) (hx : env.kindOf x = some .local)
    (J : Nat → (Str → Option Value) → List (Addr × Obj) → Prop) {m₀ : Str → Option Value} {led₀ : List (Addr × Obj)}
    (hst : St 0 s.heap) (F : Fr h₀ L s.heap m₀) (N : News h₀ L s.heap led₀) (hap : ∀ q ∈ led₀, q.1 ∉ wr) (X : Gx s₀ s) (j0 : J 0 m₀ led₀)
    (turn : ∀ (i : Nat) (v : Value) (s₁ : Shared) (m : Str → Option Value) (led tl : List (Addr × Obj)), i < n → P i v → J i m led → (∀ q ∈ led, q.1 ∉ wr) → (∀ q ∈ tl, q.1 ∈ fp) → (∀ b ∈ fp, h₀.get? b = none → ∃ o, (b, o) ∈ tl) → Gx s₀ s₁ →
      Fr h₀ L s₁.heap (fun z => if z = x then some v else m z) → News h₀ L s₁.heap (led ++ tl) →
      wpAny (model prog w) A (execs body env) (fun f s₂ => match f with
        | .next | .cont => TurnW h₀ L wr tl (J (i + 1)) s₀ s₂
        | .brk => R (.ok .next) s₂
        | .ret v => R (.ok (.ret v)) s₂) (notedBy (model prog w) A env fun e s' => R (.error e) s') s₁)
    (done : ∀ s₁ m led, J n m led → Gx s₀ s₁ → Fr h₀ L s₁.heap m → News h₀ L s₁.heap led → R (.ok .next) s₁) :
    codeAny (model prog w) A (.forLoop (.Name x px) (.ref I) body [] env) R s := by
  have hLw : L ∉ wr := fun q => hL (W.sub _ q)
  have up : ∀ {h h' : Heap} {m : Str → Option Value}, Fr h₀ L h m → (∀ b o, b ∉ wr → h.get? b = some o → h'.get? b = some o) → Fr h₀ L h' m := fun F k =>
    ⟨F.ns.at' fun o q => k L o hLw q, fun b o e => k b o (fun q => by rw [hwr b q] at e; cases e) (F.keep b o e), F.above⟩
  refine codeAny_forLoop (fun k s₁ => ∃ i m led, k = n + 1 - i ∧ i ≤ n ∧ St i s₁.heap ∧ Fr h₀ L s₁.heap m ∧ News h₀ L s₁.heap led ∧ (∀ q ∈ led, q.1 ∉ wr) ∧ Gx s₀ s₁ ∧ J i m led) ?_ (n + 1) ⟨0, m₀, led₀, rfl, Nat.zero_le _, hst, F, N, hap, X, j0⟩
  rintro k s₁ ⟨i, m, led, rfl, hi, hst₁, F₁, N₁, hap₁, X₁, J₁⟩
  by_cases hlt : i < n
  · refine W.item i s₁ _ _ hlt hst₁ fun v h₂ tk₂ hP hst₂ k₂ => ?_
    have F₂ := up F₁ k₂
    have N₂ : News h₀ L h₂ led := fun q hq => ⟨k₂ _ _ (hap₁ q hq) (N₁ q hq).1, (N₁ q hq).2⟩
    refine wpAny_assign_Name (stUpG hlo (s := { s₁ with heap := h₂, toks := tk₂ }) F₂ (fun h₃ F₃ hs₃ => ?_) hk hx)
    replace hs₃ : Heap.SameBut L h₂ h₃ := hs₃
    have keepL : ∀ b o, b ≠ L → h₂.get? b = some o → h₃.get? b = some o := fun b o hb q => hs₃.extBut b o hb q
    have hst₃ : St (i + 1) h₃ := W.frame _ _ _ hst₂ fun b hb o q => keepL b o (fun e => hL (e ▸ hb)) q
    have N₃ : News h₀ L h₃ (led ++ tailIn h₀ h₃ fp) := fun q hq => by
      rcases List.mem_append.mp hq with hq | hq
      · exact ⟨keepL _ _ (N₂ q hq).2.1 (N₂ q hq).1, (N₂ q hq).2⟩
      · exact tailIn_news hL q hq
    refine wpAny_mono (turn i v { s₁ with heap := h₃, toks := tk₂ + 1 } m led (tailIn h₀ h₃ fp) hlt hP J₁ hap₁ (fun q hq => (mem_tailIn.mp (show (q.1, q.2) ∈ _ from hq)).1) (fun b hb h0 => let ⟨o, ho⟩ := live _ _ hst₃ b hb; ⟨o, mem_tailIn.mpr ⟨hb, h0, ho⟩⟩) X₁.step F₃ N₃) (fun f s₄ h₄ => ?_) fun _ _ q => q
    have fin : TurnW h₀ L wr (tailIn h₀ h₃ fp) (J (i + 1)) s₀ s₄ → ∃ k', k' < n + 1 - i ∧ ∃ i' m led, k' = n + 1 - i' ∧ i' ≤ n ∧ St i' s₄.heap ∧ Fr h₀ L s₄.heap m ∧ News h₀ L s₄.heap led ∧ (∀ q ∈ led, q.1 ∉ wr) ∧ Gx s₀ s₄ ∧ J i' m led := by
      rintro ⟨m', led', F', N', NT, hap', X', J'⟩
      exact ⟨n + 1 - (i + 1), by omega, i + 1, m', led', rfl, hlt, W.frame _ _ _ hst₃ (tailIn_keeps F₃ F' NT), F', N', hap', X', J'⟩
    cases f with
    | next => exact fin h₄
    | cont => exact fin h₄
    | brk => exact h₄
    | ret v => exact h₄
  · have hin : i = n := by omega
    subst hin
    refine W.done s₁ _ _ hst₁ fun h₂ tk₂ k₂ => wpAny_execs_nil ?_
    exact done _ m led J₁ X₁.step (up F₁ k₂) fun q hq => ⟨k₂ _ _ (hap₁ q hq) (N₁ q hq).1, (N₁ q hq).2⟩

theorem walkForT {R : Result → Shared → Prop} {x y : Str} {px py pos : Pos} {kk : Nat} {body : List Stmt} {Pt : Nat → Array Value → Prop} {Mid : Nat → Addr → Heap → Prop} (W : WalksT prog w A I fp wr n Pt St Mid) (hh : A.handled = none)
    (live : ∀ i h, St i h → ∀ b ∈ fp, ∃ o, h.get? b = some o) (hL : L ∉ fp) (hwr : ∀ b ∈ wr, h₀.get? b = none) (hlo : env.locals = L)
    (hk : env.scope.kind = .function) (hx : env.kindOf x = some .local) (hy : env.kindOf y = some .local) (hPt : ∀ i vals, Pt i vals → vals.size = 2)
    (J : Nat → (Str → Option Value) → List (Addr × Obj) → Prop) {m₀ : Str → Option Value} {led₀ : List (Addr × Obj)}
    (hst : St 0 s.heap) (F : Fr h₀ L s.heap m₀) (N : News h₀ L s.heap led₀) (hap : ∀ q ∈ led₀, q.1 ∉ wr) (X : Gx s₀ s) (j0 : J 0 m₀ led₀)
    (turn : ∀ (i : Nat) (v u : Value) (s₁ : Shared) (m : Str → Option Value) (led tl : List (Addr × Obj)), i < n → Pt i #[v, u] → J i m led → (∀ q ∈ led, q.1 ∉ wr) → (∀ q ∈ tl, q.1 ∈ fp) → (∀ b ∈ fp, h₀.get? b = none → ∃ o, (b, o) ∈ tl) → Gx s₀ s₁ →
      Fr h₀ L s₁.heap (fun z => if z = y then some u else if z = x then some v else m z) → News h₀ L s₁.heap (led ++ tl) →
      wpAny (model prog w) A (execs body env) (fun f s₂ => match f with
        | .next | .cont => TurnW h₀ L wr tl (J (i + 1)) s₀ s₂
        | .brk => R (.ok .next) s₂
        | .ret v => R (.ok (.ret v)) s₂) (notedBy (model prog w) A env fun e s' => R (.error e) s') s₁)
    (done : ∀ s₁ m led, J n m led → (∀ q ∈ led, q.1 ∉ wr) → Gx s₀ s₁ → Fr h₀ L s₁.heap m → News h₀ L s₁.heap led → R (.ok .next) s₁) :
    codeAny (model prog w) A (.forLoop (.Tuple [.Name x px, .Name y py] kk pos) (.ref I) body [] env) R s := by
  have hLw : L ∉ wr := fun q => hL (W.sub _ q)
  have up : ∀ {h h' : Heap} {m : Str → Option Value}, Fr h₀ L h m → (∀ b o, b ∉ wr → h.get? b = some o → h'.get? b = some o) → Fr h₀ L h' m := fun F k =>
    ⟨F.ns.at' fun o q => k L o hLw q, fun b o e => k b o (fun q => by rw [hwr b q] at e; cases e) (F.keep b o e), F.above⟩
  refine codeAny_forLoop_any (fun k s₁ => ∃ i m led, k = n + 1 - i ∧ i ≤ n ∧ St i s₁.heap ∧ Fr h₀ L s₁.heap m ∧ News h₀ L s₁.heap led ∧ (∀ q ∈ led, q.1 ∉ wr) ∧ Gx s₀ s₁ ∧ J i m led) ?_ (n + 1) ⟨0, m₀, led₀, rfl, Nat.zero_le _, hst, F, N, hap, X, j0⟩
  rintro k s₁ ⟨i, m, led, rfl, hi, hst₁, F₁, N₁, hap₁, X₁, J₁⟩
  by_cases hlt : i < n
  · refine W.item i s₁ _ _ hlt hst₁ fun T vals h₂ tk₂ hP hT hTt hM k₂ => ?_
    have F₂ := up F₁ k₂
    have N₂ : News h₀ L h₂ led := fun q hq => ⟨k₂ _ _ (hap₁ q hq) (N₁ q hq).1, (N₁ q hq).2⟩
    refine W.go _ _ _ i T { s₁ with heap := h₂, toks := tk₂ } _ _ hM fun h₅ hst₅ k₅ => ?_
    have F₅ := up F₂ k₅
    have N₅ : News h₀ L h₅ led := fun q hq => ⟨k₅ _ _ (hap₁ q hq) (N₂ q hq).1, (N₂ q hq).2⟩
    obtain ⟨v, u, rfl⟩ : ∃ v u, vals = #[v, u] := by
      have h2 := hPt i vals hP
      obtain ⟨l⟩ := vals
      match l, h2 with
      | [a, b], _ => exact ⟨a, b, rfl⟩
    have hTt5 : h₅.IsTuple T (#[v, u] : Array Value) := hTt.at fun o e => k₅ _ o (W.apart _ _ _ hM) e
    refine assignTupG [(x, px), (y, py)] (vs := [v, u]) hlo hh F₅ hTt5 rfl (fun h₃ tk₃ F₃ keepL => ?_) hk (by
      intro z hz
      rcases List.mem_cons.mp hz with rfl | hz
      · exact hx
      · rw [List.mem_singleton.mp hz]; exact hy) rfl
    replace keepL : ∀ b o, b ≠ L → h₅.get? b = some o → h₃.get? b = some o := keepL
    have hst₃ : St (i + 1) h₃ := W.frame _ _ _ hst₅ fun b hb o q => keepL b o (fun e => hL (e ▸ hb)) q
    have N₃ : News h₀ L h₃ (led ++ tailIn h₀ h₃ fp) := fun q hq => by
      rcases List.mem_append.mp hq with hq | hq
      · exact ⟨keepL _ _ (N₅ q hq).2.1 (N₅ q hq).1, (N₅ q hq).2⟩
      · exact tailIn_news hL q hq
    refine wpAny_mono (turn i v u { s₁ with heap := h₃, toks := tk₃ } m led (tailIn h₀ h₃ fp) hlt hP J₁ hap₁ (fun q hq => (mem_tailIn.mp (show (q.1, q.2) ∈ _ from hq)).1) (fun b hb h0 => let ⟨o, ho⟩ := live _ _ hst₃ b hb; ⟨o, mem_tailIn.mpr ⟨hb, h0, ho⟩⟩) X₁.step F₃ N₃) (fun f s₄ h₄ => ?_) fun _ _ q => q
    have fin : TurnW h₀ L wr (tailIn h₀ h₃ fp) (J (i + 1)) s₀ s₄ → ∃ k', k' < n + 1 - i ∧ ∃ i' m led, k' = n + 1 - i' ∧ i' ≤ n ∧ St i' s₄.heap ∧ Fr h₀ L s₄.heap m ∧ News h₀ L s₄.heap led ∧ (∀ q ∈ led, q.1 ∉ wr) ∧ Gx s₀ s₄ ∧ J i' m led := by
      rintro ⟨m', led', F', N', NT, hap', X', J'⟩
      exact ⟨n + 1 - (i + 1), by omega, i + 1, m', led', rfl, hlt, W.frame _ _ _ hst₃ (tailIn_keeps F₃ F' NT), F', N', hap', X', J'⟩
    cases f with
    | next => exact fin h₄
    | cont => exact fin h₄
    | brk => exact h₄
    | ret v => exact h₄
  · have hin : i = n := by omega
    subst hin
    refine W.done s₁ _ _ hst₁ fun h₂ tk₂ k₂ => wpAny_execs_nil ?_
    exact done _ m led J₁ hap₁ X₁.step (up F₁ k₂) fun q hq => ⟨k₂ _ _ (hap₁ q hq) (N₁ q hq).1, (N₁ q hq).2⟩
end
end Mine
-- part MLaw1
namespace Mine
section
variable {prog : Program} {w : World} {A : Around} {s₀ s : Shared} {h₀ : Heap} {L : Addr} {env : Env}

theorem listForG {Q : Flow → Shared → Prop} {x : Str} {px : Pos} {body : List Stmt} {l : Addr} {vs : List Value} {n : Nat} (hh : A.handled = none) (hl : s.heap.get? l = some (listObj vs n)) (hlL : l ≠ L) (hlo : env.locals = L)
    (hk : env.scope.kind = .function) (hx : env.kindOf x = some .local)
    (J : Nat → (Str → Option Value) → List (Addr × Obj) → Prop) {m₀ : Str → Option Value} {led₀ : List (Addr × Obj)}
    (F : Fr h₀ L s.heap m₀) (N : News h₀ L s.heap led₀) (X : Gx s₀ s) (j0 : J 0 m₀ led₀)
    (turn : ∀ (i : Nat) (v : Value) (s₁ : Shared) (m : Str → Option Value) (led tl : List (Addr × Obj)), vs[i]? = some v → J i m led → (∀ q ∈ led, q.1 ≠ s.heap.objs.size) → (∀ q ∈ tl, q.1 = s.heap.objs.size ∨ q.1 = l) →
      (∃ o, (s.heap.objs.size, o) ∈ tl) → Gx s₀ s₁ →
      Fr h₀ L s₁.heap (fun z => if z = x then some v else m z) → News h₀ L s₁.heap (led ++ tl) →
      wpAny (model prog w) A (execs body env) (fun f s₂ => match f with
        | .next | .cont => TurnW h₀ L [s.heap.objs.size] tl (J (i + 1)) s₀ s₂
        | .brk => Q .next s₂
        | .ret v => Q (.ret v) s₂) (fun _ _ => False) s₁)
    (done : ∀ s₁ m led, J vs.length m led → (∀ q ∈ led, q.1 ≠ s.heap.objs.size) → Gx s₀ s₁ → Fr h₀ L s₁.heap m → News h₀ L s₁.heap led → Q .next s₁) :
    wpAny (model prog w) A (pyIter (.ref l)) (fun it s₂ => codeAny (model prog w) A (.forLoop (.Name x px) it body [] env) (fun r s' => match r with
      | .ok f => Q f s'
      | .error e => cameBackBy (model prog w) A env (fun _ _ => False) e s') s₂) (fun _ _ => False) s := by
  have hlH : s.heap.IsList l vs.toArray := ⟨_, hl, rfl, _, rfl⟩
  refine wpAny_pyIter_list hlH ?_
  have hLlt : L < s.heap.objs.size := F.ns.lt
  have up : ∀ b o, s.heap.get? b = some o → (s.heap.push { cls := .type "list_iterator", data := .fields #[.ref l, .int 0 0] }).get? b = some o := fun b o q => Heap.get?_push_of_some _ q
  have fresh : h₀.get? s.heap.objs.size = none := by
    cases q : h₀.get? s.heap.objs.size with
    | none => rfl
    | some o => exact absurd (Heap.lt_size (F.keep _ _ q)) (Nat.lt_irrefl _)
  refine walkForG (s₀ := s₀) (iterObj_list (s := s) hh hlH) live_list ?_ ?_ hlo hk hx (fun i m led => (∀ q ∈ led, q.1 ≠ s.heap.objs.size) ∧ J i m led) ⟨⟨_, Heap.get?_push_size _ rfl, rfl, rfl⟩, hlH.push _⟩ (Fr.up F up) (News.up N up) ?_ X.step ⟨?_, j0⟩ ?_ ?_
  · intro q
    rcases List.mem_cons.mp q with q | q
    · exact Nat.ne_of_lt hLlt q
    · exact hlL (List.mem_singleton.mp q).symm
  · intro b hb
    rw [List.mem_singleton.mp hb]; exact fresh
  · intro q hq z
    exact Nat.ne_of_lt (Heap.lt_size (N q hq).1) (List.mem_singleton.mp z)
  · intro q hq
    exact Nat.ne_of_lt (Heap.lt_size (N q hq).1)
  · rintro i v s₁ m led tl hi hv ⟨hap, hJ⟩ _ htl hin X₁ F₁ N₁
    refine wpAny_mono (turn i v s₁ m led tl hv hJ hap (fun q hq => ?_) (hin _ (.head _) fresh) X₁ F₁ N₁) (fun f s₂ h₂ => ?_) fun _ _ q => q.elim
    · rcases List.mem_cons.mp (htl q hq) with z | z
      · exact .inl z
      · exact .inr (List.mem_singleton.mp z)
    · have fin : TurnW h₀ L [s.heap.objs.size] tl (J (i + 1)) s₀ s₂ → TurnW h₀ L [s.heap.objs.size] tl (fun m led => (∀ q ∈ led, q.1 ≠ s.heap.objs.size) ∧ J (i + 1) m led) s₀ s₂ := by
        rintro ⟨m', led', F', N', NT, hap', X', J'⟩
        exact ⟨m', led', F', N', NT, hap', X', fun q hq z => hap' q hq (by rw [z]; exact .head _), J'⟩
      cases f with
      | next => exact fin h₂
      | cont => exact fin h₂
      | brk => exact h₂
      | ret v => exact h₂
  · rintro s₁ m led ⟨hap, hJ⟩ X₁ F₁ N₁
    exact done s₁ m led hJ hap X₁ F₁ N₁

def TurnZ (h₀ : Heap) (L : Addr) (n : Nat) (tl : List (Addr × Obj)) (J : (Str → Option Value) → List (Addr × Obj) → Prop) (s₀ s₂ : Shared) : Prop :=
  ∃ m' led', Fr h₀ L s₂.heap m' ∧ News h₀ L s₂.heap led' ∧ News h₀ L s₂.heap tl ∧ (∀ q ∈ led', Nat.lt q.1 n ∨ Nat.le (n + 5) q.1) ∧ Gx s₀ s₂ ∧ J m' led'
def zipWr (n : Nat) : List Addr := [n + 4, n + 3, n, n + 1]
theorem zipWr_in {n b : Nat} (hb : b ∈ zipWr n) : n ≤ b ∧ b < n + 5 := by
  unfold zipWr at hb
  simp only [List.mem_cons, List.not_mem_nil, or_false] at hb
  rcases hb with rfl | rfl | rfl | rfl <;> exact ⟨by omega, by omega⟩
theorem zipWr_out {n b : Nat} (h : Nat.lt b n ∨ Nat.le (n + 5) b) : b ∉ zipWr n := fun q => by
  have := zipWr_in q
  rcases h with h | h
  · exact Nat.not_le_of_lt h this.1
  · exact Nat.not_lt_of_le h this.2
/-- a for over a zip of two lists -/
theorem zipFor {Q : Flow → Shared → Prop} {x y : Str} {px py pos : Pos} {kk : Nat} {body : List Stmt} {l₁ l₂ : Addr} {vs us : List Value} {n₁ n₂ : Nat} (hh : A.handled = none) (hl₁ : s.heap.get? l₁ = some (listObj vs n₁)) (hl₂ : s.heap.get? l₂ = some (listObj us n₂)) (h1L : l₁ ≠ L) (h2L : l₂ ≠ L) (hlen : vs.length = us.length) (hlo : env.locals = L)
    (hk : env.scope.kind = .function) (hx : env.kindOf x = some .local) (hy : env.kindOf y = some .local)
    (J : Nat → (Str → Option Value) → List (Addr × Obj) → Prop) {m₀ : Str → Option Value} {led₀ : List (Addr × Obj)}
    (F : Fr h₀ L s.heap m₀) (N : News h₀ L s.heap led₀) (X : Gx s₀ s) (j0 : J 0 m₀ led₀)
    (turn : ∀ (i : Nat) (v u : Value) (s₁ : Shared) (m : Str → Option Value) (led tl : List (Addr × Obj)), vs[i]? = some v → us[i]? = some u → J i m led → (∀ q ∈ led, Nat.lt q.1 s.heap.objs.size ∨ Nat.le (s.heap.objs.size + 5) q.1) → (∀ q ∈ tl, (Nat.le s.heap.objs.size q.1 ∧ Nat.lt q.1 (s.heap.objs.size + 5)) ∨ q.1 = l₁ ∨ q.1 = l₂) → Gx s₀ s₁ →
      Fr h₀ L s₁.heap (fun z => if z = y then some u else if z = x then some v else m z) → News h₀ L s₁.heap (led ++ tl) → (s.heap.objs.size + 5 ≤ s₁.heap.objs.size) →
      wpAny (model prog w) A (execs body env) (fun f s₂ => match f with
        | .next | .cont => TurnZ h₀ L s.heap.objs.size tl (J (i + 1)) s₀ s₂
        | .brk => Q .next s₂
        | .ret v => Q (.ret v) s₂) (fun _ _ => False) s₁)
    (done : ∀ s₁ m led, J vs.length m led → Gx s₀ s₁ → Fr h₀ L s₁.heap m → News h₀ L s₁.heap led → Q .next s₁) :
    wpAny (model prog w) A (call (.type "zip") [.ref l₁, .ref l₂]) (fun v s₁ => wpAny (model prog w) A (pyIter v) (fun it s₂ => codeAny (model prog w) A (.forLoop (.Tuple [.Name x px, .Name y py] kk pos) it body [] env) (fun r s' => match r with
      | .ok f => Q f s'
      | .error e => cameBackBy (model prog w) A env (fun _ _ => False) e s') s₂) (fun _ _ => False) s₁) (fun _ _ => False) s := by
  have hH₁ : s.heap.IsList l₁ vs.toArray := ⟨_, hl₁, rfl, _, rfl⟩
  have hH₂ : s.heap.IsList l₂ us.toArray := ⟨_, hl₂, rfl, _, rfl⟩
  have a1 : l₁ < s.heap.objs.size := Heap.lt_size hl₁
  have a2 : l₂ < s.heap.objs.size := Heap.lt_size hl₂
  have hLlt : L < s.heap.objs.size := F.ns.lt
  refine call_zip_2 hH₁ hH₂ fun h' hz hTI hTO hi1 hi2 hsz hkp => ?_
  have W := WalksT.zip2 (prog := prog) (w := w) (A := A) hh (s.heap.objs.size + 4) (s.heap.objs.size + 2) (s.heap.objs.size + 3) s.heap.objs.size (s.heap.objs.size + 1) l₁ l₂ (zipApart_new a1 a2) vs.toArray us.toArray
  have hst : IsZip h' (s.heap.objs.size + 4) (s.heap.objs.size + 2) (s.heap.objs.size + 3) .none ∧ IsPair h' (s.heap.objs.size + 2) (.ref s.heap.objs.size) (.ref (s.heap.objs.size + 1)) ∧ (∃ a b, IsPair h' (s.heap.objs.size + 3) a b) ∧ h'.IsListIter s.heap.objs.size l₁ 0 ∧ h'.IsListIter (s.heap.objs.size + 1) l₂ 0 ∧ h'.IsList l₁ vs.toArray ∧ h'.IsList l₂ us.toArray :=
    ⟨hz, hTI, ⟨_, _, hTO⟩, hi1, hi2, ⟨_, hkp _ _ hl₁, rfl, _, rfl⟩, ⟨_, hkp _ _ hl₂, rfl, _, rfl⟩⟩
  refine W.self 0 { s with heap := h' } _ _ hst ?_
  have hn : min vs.toArray.size us.toArray.size = vs.length := by simp [hlen]
  rw [hn] at W
  have fresh : ∀ b : Nat, s.heap.objs.size ≤ b → h₀.get? b = none := fun b hb => Heap.get?_none_of_le (Nat.le_trans F.above (Nat.le_trans (Nat.le_of_lt hLlt) hb))
  have ltn : ∀ q ∈ led₀, Nat.lt q.1 s.heap.objs.size := fun q hq => Heap.lt_size (N q hq).1
  have live : ∀ (i : Nat) (h : Heap), (IsZip h (s.heap.objs.size + 4) (s.heap.objs.size + 2) (s.heap.objs.size + 3) .none ∧ IsPair h (s.heap.objs.size + 2) (.ref s.heap.objs.size) (.ref (s.heap.objs.size + 1)) ∧ (∃ a b, IsPair h (s.heap.objs.size + 3) a b) ∧ h.IsListIter s.heap.objs.size l₁ i ∧ h.IsListIter (s.heap.objs.size + 1) l₂ i ∧ h.IsList l₁ vs.toArray ∧ h.IsList l₂ us.toArray) →
      ∀ b ∈ [s.heap.objs.size + 4, s.heap.objs.size + 2, s.heap.objs.size + 3, s.heap.objs.size, s.heap.objs.size + 1, l₁, l₂], ∃ o, h.get? b = some o := by
    rintro i h ⟨z1, z2, ⟨a, b, z3⟩, ⟨o4, z4, _⟩, ⟨o5, z5, _⟩, ⟨o6, z6, _⟩, ⟨o7, z7, _⟩⟩ b hb
    simp only [List.mem_cons, List.not_mem_nil, or_false] at hb
    rcases hb with rfl | rfl | rfl | rfl | rfl | rfl | rfl
    · exact ⟨_, z1⟩
    · exact ⟨_, z2⟩
    · exact ⟨_, z3⟩
    · exact ⟨_, z4⟩
    · exact ⟨_, z5⟩
    · exact ⟨_, z6⟩
    · exact ⟨_, z7⟩
  have fpIn : ∀ b : Nat, b ∈ [s.heap.objs.size + 4, s.heap.objs.size + 2, s.heap.objs.size + 3, s.heap.objs.size, s.heap.objs.size + 1, l₁, l₂] → (Nat.le s.heap.objs.size b ∧ Nat.lt b (s.heap.objs.size + 5)) ∨ b = l₁ ∨ b = l₂ := by
    intro b hb
    simp only [List.mem_cons, List.not_mem_nil, or_false] at hb
    rcases hb with rfl | rfl | rfl | rfl | rfl | rfl | rfl
    · exact .inl ⟨Nat.le_add_right _ _, Nat.lt_succ_self _⟩
    · exact .inl ⟨Nat.le_add_right _ _, Nat.add_lt_add_left (by decide) _⟩
    · exact .inl ⟨Nat.le_add_right _ _, Nat.add_lt_add_left (by decide) _⟩
    · exact .inl ⟨Nat.le_refl _, Nat.lt_add_of_pos_right (by decide)⟩
    · exact .inl ⟨Nat.le_add_right _ _, Nat.add_lt_add_left (by decide) _⟩
    · exact .inr (.inl rfl)
    · exact .inr (.inr rfl)
  refine walkForT (s₀ := s₀) W hh live ?_ ?_ hlo hk hx hy ?_ (fun i m led => (∀ q ∈ led, Nat.lt q.1 s.heap.objs.size ∨ Nat.le (s.heap.objs.size + 5) q.1) ∧ J i m led) hst (Fr.up F hkp) (News.up N hkp) (fun q hq => zipWr_out (.inl (ltn q hq))) X.step ⟨fun q hq => .inl (ltn q hq), j0⟩ ?_ ?_
  · intro q
    rcases fpIn L q with z | z | z
    · exact Nat.not_lt_of_le z.1 hLlt
    · exact h1L z.symm
    · exact h2L z.symm
  · intro b hb
    exact fresh b (zipWr_in hb).1
  · rintro i vals ⟨a, b, _, _, rfl⟩; rfl
  · rintro i v u s₁ m led tl hi ⟨a, b, ha, hb, hvu⟩ ⟨hap, hJ⟩ _ htl hin X₁ F₁ N₁
    have hva : v = a ∧ u = b := by
      have := congrArg Array.toList hvu
      simpa using this
    obtain ⟨rfl, rfl⟩ := hva
    have hsz1 : s.heap.objs.size + 5 ≤ s₁.heap.objs.size := by
      obtain ⟨o, ho⟩ := hin (s.heap.objs.size + 4) (.head _) (fresh _ (Nat.le_add_right _ _))
      exact Heap.lt_size (N₁ _ (List.mem_append_right _ ho)).1
    refine wpAny_mono (turn i v u s₁ m led tl (by simpa using ha) (by simpa using hb) hJ hap (fun q hq => fpIn _ (htl q hq)) X₁ F₁ N₁ hsz1) (fun f s₂ h₂ => ?_) fun _ _ q => q.elim
    have fin : TurnZ h₀ L s.heap.objs.size tl (J (i + 1)) s₀ s₂ → TurnW h₀ L [s.heap.objs.size + 4, s.heap.objs.size + 3, s.heap.objs.size, s.heap.objs.size + 1] tl (fun m led => (∀ q ∈ led, Nat.lt q.1 s.heap.objs.size ∨ Nat.le (s.heap.objs.size + 5) q.1) ∧ J (i + 1) m led) s₀ s₂ := by
      rintro ⟨m', led', F', N', NT, hap', X', J'⟩
      exact ⟨m', led', F', N', NT, fun q hq => zipWr_out (hap' q hq), X', hap', J'⟩
    cases f with
    | next => exact fin h₂
    | cont => exact fin h₂
    | brk => exact h₂
    | ret v => exact h₂
  · rintro s₁ m led ⟨hap, hJ⟩ _ X₁ F₁ N₁
    exact done s₁ m led hJ X₁ F₁ N₁
end
end Mine
-- part MPlain
namespace Mine
/-- what the stripping keeps, over the codes; `some p`: a mark stands open, p is what was read since -/
def K : Bool → Option (List Nat) → List Nat → List Nat
  | _, none, [] => []
  | _, some p, [] => p
  | true, none, c :: r => c :: K false none r
  | true, some p, c :: r => K false (some (p ++ [c])) r
  | false, none, c :: r => if c = 92 then c :: K true none r else if c = 34 then K false (some [34]) r else c :: K false none r
  | false, some p, c :: r => if c = 92 then K true (some (p ++ [c])) r else if c = 34 then K false none r else K false (some (p ++ [c])) r
/-- the count over the codes -/
def C : Bool → Int → List Nat → Bool
  | _, o, [] => decide (o = 0)
  | true, o, _ :: r => C false o r
  | false, o, c :: r => if c = 92 then C true o r else if c = 40 then C false (o + 1) r else if c = 41 then (if o - 1 < 0 then false else C false (o - 1) r) else C false o r
theorem chk_C : ∀ (cs : List Nat) (i : Nat) (e : Bool) (o : Int), chkLoop o (escF i e cs) = C e o cs
  | [], i, true, o => by simp [escF, chkLoop, C]
  | [], i, false, o => by simp [escF, chkLoop, C]
  | c :: cs, i, true, o => by
    simp only [escF, chkLoop, C]
    rw [if_neg (by simp), if_neg (by simp)]
    exact chk_C cs (i + 1) false o
  | c :: cs, i, false, o => by
    simp only [escF, C]
    by_cases h : c = 92
    · rw [if_pos h, if_pos h]; exact chk_C cs (i + 1) true o
    · rw [if_neg h, if_neg h]
      simp only [chkLoop, List.cons.injEq, and_true]
      rw [chk_C cs (i + 1) false, chk_C cs (i + 1) false, chk_C cs (i + 1) false]
def run : Bool → Int → List Nat → Option (Bool × Int)
  | e, o, [] => some (e, o)
  | true, o, _ :: r => run false o r
  | false, o, c :: r => if c = 92 then run true o r else if c = 40 then run false (o + 1) r else if c = 41 then (if o - 1 < 0 then none else run false (o - 1) r) else run false o r
theorem C_append : ∀ (p : List Nat) (e : Bool) (o : Int) (r : List Nat), C e o (p ++ r) = match run e o p with
    | none => false
    | some (e', o') => C e' o' r
  | [], e, o, r => by simp [run]
  | c :: p, true, o, r => by simpa [run, C] using C_append p false o r
  | c :: p, false, o, r => by
    simp only [List.cons_append, C, run]
    by_cases h1 : c = 92
    · rw [if_pos h1, if_pos h1]; exact C_append p _ _ r
    · rw [if_neg h1, if_neg h1]
      by_cases h2 : c = 40
      · rw [if_pos h2, if_pos h2]; exact C_append p _ _ r
      · rw [if_neg h2, if_neg h2]
        by_cases h3 : c = 41
        · rw [if_pos h3, if_pos h3]
          by_cases h4 : o - 1 < 0
          · rw [if_pos h4, if_pos h4]
          · rw [if_neg h4, if_neg h4]; exact C_append p _ _ r
        · rw [if_neg h3, if_neg h3]; exact C_append p _ _ r
theorem run_snoc : ∀ (p : List Nat) (e : Bool) (o : Int) (c : Nat), run e o (p ++ [c]) = match run e o p with
    | none => none
    | some (e', o') => run e' o' [c]
  | [], e, o, c => by simp [run]
  | d :: p, true, o, c => by simpa [run] using run_snoc p false o c
  | d :: p, false, o, c => by
    rw [List.cons_append, run, run.eq_def false o (d :: p)]
    dsimp only
    by_cases h1 : d = 92
    · rw [if_pos h1, if_pos h1]; exact run_snoc p _ _ c
    · rw [if_neg h1, if_neg h1]
      by_cases h2 : d = 40
      · rw [if_pos h2, if_pos h2]; exact run_snoc p _ _ c
      · rw [if_neg h2, if_neg h2]
        by_cases h3 : d = 41
        · rw [if_pos h3, if_pos h3]
          by_cases h4 : o - 1 < 0
          · rw [if_pos h4, if_pos h4]
          · rw [if_neg h4, if_neg h4]; exact run_snoc p _ _ c
        · rw [if_neg h3, if_neg h3]; exact run_snoc p _ _ c
def due : Option MState → Bool
  | none => false
  | some (_, _, i, _) => decide (i = 0)
def okCode (c : Nat) : Prop := c = 40 ∨ c = 34 ∨ c = 41 ∨ c = 92 ∨ c = 97
/-- the count of what is kept answers as the machine -/
theorem machine : ∀ (cs : List Nat), (∀ c ∈ cs, okCode c) →
    (∀ (e : Bool) (d : Int), 0 ≤ d → C e d (K e none cs) = due (reachF (some (false, d, d, e)) cs)) ∧
    (∀ (e : Bool) (d i : Int) (p : List Nat), 0 ≤ d → -1 ≤ i → run false d p = (if i < 0 then none else some (e, i)) ∨ (i < 0 ∧ run false d p = none) → C false d (K e (some p) cs) = due (reachF (some (true, d, i, e)) cs))
  | [], _ => by
    constructor
    · intro e d _
      simp [K, C, due, reachF]
    · intro e d i p _ hi hr
      have hC := C_append p false d []
      rw [List.append_nil] at hC
      simp only [K, reachF, List.foldl_nil, due]
      rw [hC]
      by_cases h : i < 0
      · have : run false d p = none := by
          rcases hr with hr | hr
          · rw [hr, if_pos h]
          · exact hr.2
        rw [this]
        have : ¬ i = 0 := by omega
        simp [this]
      · have : run false d p = some (e, i) := by
          rcases hr with hr | hr
          · rw [hr, if_neg h]
          · exact absurd hr.1 h
        rw [this]
        simp [C]
  | c :: cs, hok => by
    have hc := hok c (.head _)
    obtain ⟨ih1, ih2⟩ := machine cs fun x hx => hok x (.tail _ hx)
    constructor
    · intro e d hd
      show _ = due (reachF (stepF (some (false, d, d, e)) c) cs)
      cases e with
      | true => simpa [K, C, stepF] using ih1 false d hd
      | false =>
        rcases hc with rfl | rfl | rfl | rfl | rfl
        · have e1 : ¬ d + 1 < 0 := by omega
          simpa [K, C, stepF, e1] using ih1 false (d + 1) (by omega)
        · simpa [K, stepF] using ih2 false d d [34] hd (by omega) (.inl (by rw [if_neg (by omega)]; simp [run]))
        · by_cases e1 : d + -1 < 0
          · have e2 : d - 1 < 0 := by omega
            have e3 : ∀ l, reachF none l = none := reachF_none
            simp [K, C, stepF, e1, e2, e3, due]
          · have e2 : ¬ d - 1 < 0 := by omega
            have := ih1 false (d + -1) (by omega)
            have e4 : d - 1 = d + -1 := by omega
            simpa [K, C, stepF, e4, e1] using this
        · simpa [K, C, stepF] using ih1 true d hd
        · simpa [K, C, stepF] using ih1 false d hd
    · intro e d i p hd hi hr
      have hr' : run false d p = if i < 0 then none else some (e, i) := by
        rcases hr with hr | hr
        · exact hr
        · rw [hr.2, if_pos hr.1]
      have sn : ∀ c', run false d (p ++ [c']) = if i < 0 then none else run e i [c'] := fun c' => by
        rw [run_snoc, hr']
        by_cases h : i < 0
        · rw [if_pos h, if_pos h]
        · rw [if_neg h, if_neg h]
      show _ = due (reachF (stepF (some (true, d, i, e)) c) cs)
      cases e with
      | true =>
        have := ih2 false d i (p ++ [c]) hd hi (.inl (by rw [sn]; simp [run]))
        simpa [K, stepF] using this
      | false =>
        rcases hc with rfl | rfl | rfl | rfl | rfl
        · by_cases h : i < 0
          · have h' : ¬ 0 ≤ i := by omega
            have := ih2 false d (-1) (p ++ [40]) hd (by omega) (.inr ⟨by omega, by rw [sn, if_pos h]⟩)
            simpa [K, stepF, h'] using this
          · have h' : 0 ≤ i := by omega
            have := ih2 false d (i + 1) (p ++ [40]) hd (by omega) (.inl (by rw [sn, if_neg h, if_neg (by omega)]; simp [run]))
            simpa [K, stepF, h'] using this
        · simpa [K, stepF] using ih1 false d hd
        · by_cases h : i < 0
          · have h' : ¬ 0 ≤ i := by omega
            have := ih2 false d (-1) (p ++ [41]) hd (by omega) (.inr ⟨by omega, by rw [sn, if_pos h]⟩)
            simpa [K, stepF, h'] using this
          · have h' : 0 ≤ i := by omega
            have := ih2 false d (i + -1) (p ++ [41]) hd (by omega) (.inl (by
              rw [sn, if_neg h]
              by_cases h2 : i + -1 < 0
              · rw [if_pos h2]
                have : i - 1 < 0 := by omega
                simp [run, this]
              · rw [if_neg h2]
                have : ¬ i - 1 < 0 := by omega
                simp [run, this]; omega))
            simpa [K, stepF, h'] using this
        · have := ih2 true d i (p ++ [92]) hd hi (.inl (by rw [sn]; simp [run]))
          simpa [K, stepF] using this
        · have := ih2 false d i (p ++ [97]) hd hi (.inl (by rw [sn]; simp [run]))
          simpa [K, stepF] using this
/-- the codes of the parts kept, glued -/
def gl (res : List Str) : List Nat := res.flatMap fun y => y.cps.toList
theorem slice_codes {x : Str} {a b : Nat} (hab : a ≤ b) (hb : b ≤ x.cps.toList.length) : (sliceS x a b).cps.toList = (x.cps.toList.drop a).take (b - a) := by
  have := StrLaws.sliceText_nat x hab (by simpa [Str.length] using hb)
  show (StrLaws.sliceText x (some (a : Int)) (some (b : Int))).cps.toList = _
  rw [this]
theorem take_step {cs : List Nat} {st i c : Nat} {r : List Nat} (hr : cs.drop i = c :: r) (hst : st ≤ i) : (cs.drop st).take (i + 1 - st) = (cs.drop st).take (i - st) ++ [c] := by
  have e : (cs.drop st)[i - st]? = some c := by
    rw [List.getElem?_drop]
    have : st + (i - st) = i := by omega
    rw [this]
    have h := congrArg List.head? hr
    simpa using h
  have e2 : i + 1 - st = (i - st) + 1 := by omega
  rw [e2, List.take_add_one, e]
  rfl
theorem drop_step {cs : List Nat} {i c : Nat} {r : List Nat} (hr : cs.drop i = c :: r) : cs.drop (i + 1) = r ∧ i < cs.length := by
  constructor
  · have : cs.drop (i + 1) = (cs.drop i).drop 1 := by rw [List.drop_drop]
    rw [this, hr]; rfl
  · rcases Nat.lt_or_ge i cs.length with q | q
    · exact q
    · rw [List.drop_eq_nil_of_le q] at hr; cases hr
def fin (x : Str) (q : Nat × Option Nat × List Str) : List Nat := gl q.2.2 ++ x.cps.toList.drop q.1
theorem strip_K (x : Str) : ∀ (rest : List Nat) (i : Nat) (e : Bool) (st : Nat) (res : List Str), x.cps.toList.drop i = rest → st ≤ i → i ≤ x.cps.toList.length →
    fin x ((escF i e rest).foldl (stripStep x) (st, none, res)) = gl res ++ (x.cps.toList.drop st).take (i - st) ++ K e none rest ∧
    ∀ o, st ≤ o → o ≤ i → fin x ((escF i e rest).foldl (stripStep x) (st, some o, res)) = gl res ++ (x.cps.toList.drop st).take (o - st) ++ K e (some ((x.cps.toList.drop o).take (i - o))) rest
  | [], i, e, st, res, hr, hst, hi => by
    have hil : i = x.cps.toList.length := by
      have := congrArg List.length hr
      simp only [List.length_drop, List.length_nil] at this
      omega
    have e0 : ∀ (op : Option Nat), (escF i e []).foldl (stripStep x) (st, op, res) = (st, op, res) := fun op => by
      cases e <;> simp [escF, stripStep]
    refine ⟨?_, fun o h1 h2 => ?_⟩
    · rw [e0]
      have : (x.cps.toList.drop st).take (i - st) = x.cps.toList.drop st := List.take_of_length_le (by simp only [List.length_drop]; omega)
      simp only [fin, K, List.append_nil, this]
    · rw [e0]
      have a1 : (x.cps.toList.drop o).take (i - o) = x.cps.toList.drop o := List.take_of_length_le (by simp only [List.length_drop]; omega)
      have a2 : (x.cps.toList.drop st).take (o - st) ++ x.cps.toList.drop o = x.cps.toList.drop st := by
        have : x.cps.toList.drop o = (x.cps.toList.drop st).drop (o - st) := by rw [List.drop_drop]; congr 1; omega
        rw [this, List.take_append_drop]
      simp only [fin, K, a1, List.append_assoc, a2]
  | c :: r, i, e, st, res, hr, hst, hi => by
    obtain ⟨hr', hlt⟩ := drop_step hr
    have ih := fun e st res h => strip_K x r (i + 1) e st res hr' h (by omega)
    have tk : ∀ st, st ≤ i → (x.cps.toList.drop st).take (i + 1 - st) = (x.cps.toList.drop st).take (i - st) ++ [c] := fun st h => take_step hr h
    cases e with
    | true =>
      have e0 : ∀ (op : Option Nat), stripStep x (st, op, res) (i, [92, c]) = (st, op, res) := fun op => by simp [stripStep]
      refine ⟨?_, fun o h1 h2 => ?_⟩
      · simp only [escF, List.foldl_cons, e0, K]
        rw [(ih false st res (by omega)).1, tk st hst]; simp
      · simp only [escF, List.foldl_cons, e0, K]
        rw [(ih false st res (by omega)).2 o h1 (by omega), tk o h2]
    | false =>
      by_cases h92 : c = 92
      · subst h92
        refine ⟨?_, fun o h1 h2 => ?_⟩
        · simp only [escF, if_true, K]
          rw [(ih true st res (by omega)).1, tk st hst]; simp
        · simp only [escF, if_true, K]
          rw [(ih true st res (by omega)).2 o h1 (by omega), tk o h2]
      · by_cases h34 : c = 34
        · subst h34
          refine ⟨?_, fun o h1 h2 => ?_⟩
          · have e0 : stripStep x (st, none, res) (i, [34]) = (st, some i, res) := by simp [stripStep]
            simp only [escF, h92, if_false, List.foldl_cons, e0, K, if_true]
            rw [(ih false st res (by omega)).2 i hst (by omega), tk i (Nat.le_refl _)]; simp
          · have e0 : stripStep x (st, some o, res) (i, [34]) = (i + 1, none, if st = o then res else res ++ [sliceS x st o]) := by simp [stripStep]
            have e1 : gl (if st = o then res else res ++ [sliceS x st o]) = gl res ++ (x.cps.toList.drop st).take (o - st) := by
              by_cases h : st = o
              · rw [if_pos h, h, Nat.sub_self, List.take_zero, List.append_nil]
              · rw [if_neg h]
                simp only [gl, List.flatMap_append, List.flatMap_cons, List.flatMap_nil, List.append_nil]
                rw [slice_codes h1 (by omega)]
            simp only [escF, h92, if_false, List.foldl_cons, e0, K, if_true]
            rw [(ih false (i + 1) _ (Nat.le_refl _)).1, e1, Nat.sub_self, List.take_zero, List.append_nil]
        · have e0 : ∀ (op : Option Nat), stripStep x (st, op, res) (i, [c]) = (st, op, res) := fun op => by simp [stripStep, h34]
          refine ⟨?_, fun o h1 h2 => ?_⟩
          · simp only [escF, h92, if_false, List.foldl_cons, e0, K, h34]
            rw [(ih false st res (by omega)).1, tk st hst]; simp
          · simp only [escF, h92, if_false, List.foldl_cons, e0, K, h34]
            rw [(ih false st res (by omega)).2 o h1 (by omega), tk o h2]
theorem join_codes : ∀ (l : List Str), (Txt.join (Str.ofString "") l).cps.toList = gl l := by
  intro l
  have e : Txt.join (Str.ofString "") l = Str.join (Str.ofString "") l := StrLaws.glued_eq_join _ _
  rw [e]
  induction l with
  | nil => rfl
  | cons a l ih =>
    cases l with
    | nil => simp [gl, Str.join]
    | cons b l =>
      have : Str.join (Str.ofString "") (a :: b :: l) = a ++ Str.ofString "" ++ Str.join (Str.ofString "") (b :: l) := rfl
      rw [this, Str.cps_append, Str.cps_append, Array.toList_append, Array.toList_append, ih (StrLaws.glued_eq_join _ _)]
      simp [gl]
      rfl
theorem K_plain : ∀ (cs : List Nat) (e : Bool), 34 ∉ cs → K e none cs = cs
  | [], e, _ => by cases e <;> rfl
  | c :: cs, true, h => by simp only [K]; rw [K_plain cs false fun q => h (.tail _ q)]
  | c :: cs, false, h => by
    have h1 : ¬ c = 34 := fun q => h (by rw [q]; exact .head _)
    simp only [K, h1, if_false]
    rw [K_plain cs false fun q => h (.tail _ q), K_plain cs true fun q => h (.tail _ q)]
    simp
theorem strip_codes (x : Str) : (stripStr x).cps.toList = K false none x.cps.toList := by
  unfold stripStr
  by_cases h : 34 ∈ x.cps.toList
  · rw [if_pos h]
    have key := (strip_K x x.cps.toList 0 false 0 [] rfl (Nat.le_refl _) (Nat.zero_le _)).1
    simp only [gl, List.flatMap_nil, List.nil_append, Nat.sub_self, List.take_zero] at key
    rw [← key]
    show _ = fin x (stripRun x)
    rw [join_codes]
    by_cases h2 : (stripRun x).1 < x.cps.size
    · rw [if_pos h2]
      have e : (Txt.slice x (some ((stripRun x).1 : Int)) none).cps.toList = x.cps.toList.drop (stripRun x).1 := by
        have h3 := StrLaws.sliceText_from (x := x) (i := ((stripRun x).1 : Int)) ⟨by omega, by simp; omega⟩
        show (StrLaws.sliceText x (some ((stripRun x).1 : Int)) none).cps.toList = _
        rw [h3]
        simp
        exact List.take_of_length_le (by simp)
      simp only [gl, List.flatMap_append, List.flatMap_cons, List.flatMap_nil, List.append_nil, fin, e]
    · rw [if_neg h2]
      simp only [fin]
      rw [List.drop_eq_nil_of_le (by simpa using Nat.le_of_not_lt h2), List.append_nil]
  · rw [if_neg h, K_plain _ _ h]
theorem chk_machine {x : Str} (h : ∀ c ∈ x.cps.toList, okCode c) : chkStr x = due (reachF (some (false, 0, 0, false)) x.cps.toList) := by
  unfold chkStr
  rw [chk_C, strip_codes]
  exact (machine _ h).1 false 0 (Int.le_refl _)
end Mine
-- part MPlain2
namespace Mine
theorem mem_dedup {κ : Type} [DecidableEq κ] : ∀ (l acc : List κ) (k : κ), k ∈ l.foldl dedupStep acc ↔ k ∈ acc ∨ k ∈ l
  | [], acc, k => by simp
  | a :: l, acc, k => by
    rw [List.foldl_cons, mem_dedup l]
    unfold dedupStep
    split
    · rename_i h
      constructor
      · rintro (q | q)
        · exact .inl q
        · exact .inr (.tail _ q)
      · rintro (q | q)
        · exact .inl q
        · rcases List.mem_cons.mp q with rfl | q
          · exact .inl h
          · exact .inr q
    · constructor
      · rintro (q | q)
        · rcases List.mem_append.mp q with q | q
          · exact .inl q
          · rw [List.mem_singleton.mp q]; exact .inr (.head _)
        · exact .inr (.tail _ q)
      · rintro (q | q)
        · exact .inl (List.mem_append_left _ q)
        · rcases List.mem_cons.mp q with rfl | q
          · exact .inl (List.mem_append_right _ (.head _))
          · exact .inr q
theorem nodup_dedup {κ : Type} [DecidableEq κ] : ∀ (l acc : List κ), acc.Nodup → (l.foldl dedupStep acc).Nodup
  | [], acc, h => h
  | a :: l, acc, h => by
    rw [List.foldl_cons]
    refine nodup_dedup l _ ?_
    unfold dedupStep
    split
    · exact h
    · rename_i hn
      rw [List.nodup_append]
      refine ⟨h, by simp, fun x hx y hy => ?_⟩
      rw [List.mem_singleton.mp hy]
      exact fun e => hn (e ▸ hx)
def letters : List Nat := [40, 34, 41, 92, 97]
def nextS (l : List (Option MState)) : List (Option MState) := (l.flatMap fun s => letters.map (stepF s)).foldl dedupStep l
def st0 : Option MState := some (false, 0, 0, false)
def S4 : List (Option MState) := nextS (nextS (nextS (nextS [st0])))
theorem next_sub {l : List (Option MState)} {s : Option MState} (h : s ∈ l) : s ∈ nextS l := (mem_dedup _ _ _).mpr (.inl h)
theorem next_step {l : List (Option MState)} {s : Option MState} {c : Nat} (h : s ∈ l) (hc : okCode c) : stepF s c ∈ nextS l :=
  (mem_dedup _ _ _).mpr (.inr (List.mem_flatMap.mpr ⟨s, h, List.mem_map.mpr ⟨c, by
    unfold letters
    rcases hc with rfl | rfl | rfl | rfl | rfl <;> simp, rfl⟩⟩))
theorem reach_S4 {cs : List Nat} (h : ∀ c ∈ cs, okCode c) (hl : cs.length ≤ 4) : reachF st0 cs ∈ S4 := by
  have key : ∀ (cs : List Nat) (s : Option MState) (l : List (Option MState)) (n : Nat), (∀ c ∈ cs, okCode c) → cs.length ≤ n → s ∈ l → reachF s cs ∈ (List.range n).foldl (fun l _ => nextS l) l := by
    intro cs
    induction cs with
    | nil =>
      intro s l n _ _ hs
      show s ∈ _
      induction n with
      | zero => exact hs
      | succ n ih => rw [List.range_succ, List.foldl_append]; exact next_sub (ih (Nat.zero_le _))
    | cons c cs ih =>
      intro s l n hok hn hs
      obtain ⟨n, rfl⟩ : ∃ n', n = n' + 1 := ⟨n - 1, by simp at hn; omega⟩
      have := ih (stepF s c) (nextS l) n (fun x hx => hok x (.tail _ hx)) (by simpa using hn) (next_step hs (hok c (.head _)))
      have e : (List.range (n + 1)).foldl (fun l _ => nextS l) l = (List.range n).foldl (fun l _ => nextS l) (nextS l) := by
        rw [List.range_succ_eq_map, List.foldl_cons, List.foldl_map]
      rw [e]; exact this
  have := key cs st0 [st0] 4 h hl (.head _)
  rw [show List.range 4 = [0, 1, 2, 3] from rfl] at this
  simp only [List.foldl_cons, List.foldl_nil] at this
  exact this
def sepOk (s t : Option MState) : Bool := decide (s = t) || (Str.ofString "(" :: (candS s ++ candS t)).any fun e => due (reachF s e.cps.toList) != due (reachF t e.cps.toList)
theorem sep_all : (S4.all fun s => S4.all fun t => sepOk s t) = true := by decide +kernel
def stOk (s : Option MState) : Bool := (match s with
  | none => true
  | some (_, d, i, _) => decide (0 ≤ d) && decide (d ≤ 100) && decide (-1 ≤ i) && decide (i ≤ 100)) && (candS s).all fun e => decide (e.cps.size ≤ 100) && e.cps.toList.all fun c => letters.contains c
theorem st_all : (S4.all stOk) = true := by decide +kernel
theorem okCode_of {c : Nat} (h : letters.contains c = true) : okCode c := by
  unfold letters at h
  simp at h
  unfold okCode
  omega
structure StOk (s : Option MState) : Prop where
  num : ∀ m d i wt, s = some (m, d, i, wt) → (0 ≤ d ∧ d ≤ 100) ∧ -1 ≤ i ∧ i ≤ 100
  len : ∀ e ∈ candS s, e.cps.size ≤ 100
  ok : ∀ e ∈ candS s, ∀ c ∈ e.cps.toList, okCode c
theorem st_ok {s : Option MState} (h : s ∈ S4) : StOk s := by
  have h1 := List.all_eq_true.mp st_all s h
  unfold stOk at h1
  rw [Bool.and_eq_true] at h1
  obtain ⟨h1, h2⟩ := h1
  have h3 : ∀ e ∈ candS s, e.cps.size ≤ 100 ∧ ∀ c ∈ e.cps.toList, okCode c := fun e he => by
    have := List.all_eq_true.mp h2 e he
    rw [Bool.and_eq_true] at this
    exact ⟨of_decide_eq_true this.1, fun c hc => okCode_of (List.all_eq_true.mp this.2 c hc)⟩
  refine ⟨fun m d i wt e => ?_, fun e he => (h3 e he).1, fun e he => (h3 e he).2⟩
  subst e
  simp only [Bool.and_eq_true, decide_eq_true_eq] at h1
  omega
theorem sep {s t : Option MState} (hs : s ∈ S4) (ht : t ∈ S4) (hne : s ≠ t) : ∃ e ∈ Str.ofString "(" :: (candS s ++ candS t), due (reachF s e.cps.toList) ≠ due (reachF t e.cps.toList) := by
  have h1 := List.all_eq_true.mp (List.all_eq_true.mp sep_all s hs) t ht
  unfold sepOk at h1
  rw [Bool.or_eq_true] at h1
  rcases h1 with h1 | h1
  · exact absurd (of_decide_eq_true h1) hne
  · obtain ⟨e, he, h2⟩ := List.any_eq_true.mp h1
    exact ⟨e, he, by simpa using h2⟩
theorem mem_ends {sts : List (Option MState)} {e : Str} : e ∈ endsF sts ↔ e = Str.ofString "(" ∨ ∃ s ∈ sts, e ∈ candS s := by
  unfold endsF
  rw [mem_dedup]
  simp [List.mem_flatMap]
theorem ends_nodup (sts : List (Option MState)) : (endsF sts).Nodup := nodup_dedup _ _ (by simp)
/-- the endings that a state takes -/
def rowF (sts : List (Option MState)) (s : Option MState) : List Str := (endsF sts).filter fun e => due (reachF s e.cps.toList)
theorem row_inj {sts : List (Option MState)} (h4 : ∀ s ∈ sts, s ∈ S4) {s t : Option MState} (hs : s ∈ sts) (ht : t ∈ sts) : rowF sts s = rowF sts t ↔ s = t := by
  constructor
  · intro h
    by_cases q : s = t
    · exact q
    · obtain ⟨e, he, hd⟩ := sep (h4 s hs) (h4 t ht) q
      have hm : e ∈ endsF sts := mem_ends.mpr (by
        rcases List.mem_cons.mp he with rfl | he
        · exact .inl rfl
        · rcases List.mem_append.mp he with he | he
          · exact .inr ⟨s, hs, he⟩
          · exact .inr ⟨t, ht, he⟩)
      exfalso
      apply hd
      have h1 : e ∈ rowF sts s ↔ e ∈ rowF sts t := by rw [h]
      unfold rowF at h1
      rw [List.mem_filter, List.mem_filter] at h1
      cases a : due (reachF s e.cps.toList) <;> cases b : due (reachF t e.cps.toList) <;> simp_all
  · rintro rfl; rfl
theorem dedup_id {κ : Type} [DecidableEq κ] : ∀ (l acc : List κ), (acc ++ l).Nodup → l.foldl dedupStep acc = acc ++ l
  | [], acc, _ => by simp
  | a :: l, acc, h => by
    have hn : a ∉ acc := fun q => by
      rw [List.nodup_append] at h
      exact h.2.2 a q a (.head _) rfl
    rw [List.foldl_cons, show dedupStep acc a = acc ++ [a] from if_neg hn, dedup_id l _ (by simpa using h)]
    simp
theorem dedup_sub {κ : Type} [DecidableEq κ] : ∀ (l acc : List κ), (∀ x ∈ l, x ∈ acc) → l.foldl dedupStep acc = acc
  | [], acc, _ => rfl
  | a :: l, acc, h => by
    rw [List.foldl_cons, show dedupStep acc a = acc from if_pos (h a (.head _)), dedup_sub l acc fun x hx => h x (.tail _ hx)]
theorem remF_perm : ∀ (l cur : List Str), cur.Nodup → l.Nodup → (remF cur l = some [] ↔ ∀ x, x ∈ cur ↔ x ∈ l)
  | [], cur, _, _ => by
    constructor
    · intro h
      simp only [remF, Option.some.injEq] at h
      subst h; simp
    · intro h
      have : cur = [] := List.eq_nil_iff_forall_not_mem.mpr fun x hx => by simpa using (h x).mp hx
      subst this; rfl
  | a :: l, cur, hc, hl => by
    have hal : a ∉ l := (List.nodup_cons.mp hl).1
    simp only [remF]
    by_cases h : a ∈ cur
    · rw [if_pos h, remF_perm l (cur.erase a) (hc.erase a) (List.nodup_cons.mp hl).2]
      constructor
      · intro q x
        by_cases e : x = a
        · subst e; simp [h]
        · have := q x
          rw [hc.mem_erase_iff] at this
          simp [e] at this ⊢
          exact this
      · intro q x
        rw [hc.mem_erase_iff]
        have := q x
        rw [List.mem_cons] at this
        constructor
        · rintro ⟨h1, h2⟩
          exact (this.mp h2).resolve_left h1
        · intro h1
          exact ⟨fun e => hal (e ▸ h1), this.mpr (.inr h1)⟩
    · rw [if_neg h]
      constructor
      · intro q; cases q
      · intro q; exact absurd ((q a).mpr (.head _)) h
theorem filter_eq_of {l : List Str} {p q : Str → Bool} (h : ∀ x, x ∈ l.filter p ↔ x ∈ l.filter q) : l.filter p = l.filter q := by
  apply List.filter_congr
  intro x hx
  have := h x
  simp only [List.mem_filter, hx, true_and] at this
  cases a : p x <;> cases b : q x <;> simp_all
theorem comp_rows {sts : List (Option MState)} (h4 : ∀ s ∈ sts, s ∈ S4) {s t : Option MState} (hs : s ∈ sts) (ht : t ∈ sts) : compF (rowF sts s ++ rowF sts s) (rowF sts t).reverse = decide (s = t) := by
  have n1 : (rowF sts s).Nodup := (ends_nodup sts).filter _
  have n2 : (rowF sts t).reverse.Nodup := (List.reverse_perm _).nodup_iff.mpr ((ends_nodup sts).filter _)
  have d1 : dedupF (rowF sts s ++ rowF sts s) = rowF sts s := by
    unfold dedupF
    rw [List.foldl_append, show (rowF sts s).foldl dedupStep [] = rowF sts s from by rw [dedup_id _ _ (by simpa using n1), List.nil_append], dedup_sub _ _ fun x hx => hx]
  have d2 : dedupF (rowF sts t).reverse = (rowF sts t).reverse := by
    unfold dedupF
    rw [dedup_id _ _ (by simpa using n2), List.nil_append]
  unfold compF
  rw [d1, d2]
  have key : remF (rowF sts t).reverse (rowF sts s) = some [] ↔ s = t := by
    rw [remF_perm _ _ n2 n1, ← row_inj h4 hs ht]
    constructor
    · intro h
      refine filter_eq_of fun x => ?_
      have := h x
      rw [List.mem_reverse] at this
      exact this.symm
    · intro h x
      rw [List.mem_reverse, h]
  by_cases q : s = t
  · rw [decide_eq_true q, decide_eq_true (key.mpr q)]
  · rw [decide_eq_false q, decide_eq_false fun z => q (key.mp z)]
/-- the last comprehension: the rows whose state stands here for the first time -/
def firsts {κ : Type} (rows : List κ) (sts : List (Option MState)) : List κ := (List.range rows.length).filterMap fun k => match rows[k]?, sts[k]? with
  | some r, some s => if s ∈ sts.take k then none else some r
  | _, _ => none
theorem dedup_rows {κ : Type} [DecidableEq κ] (f : Option MState → κ) (sts : List (Option MState)) (hf : ∀ s ∈ sts, ∀ t ∈ sts, f s = f t ↔ s = t) : dedupF (sts.map f) = firsts (sts.map f) sts := by
  have key : ∀ n, n ≤ sts.length → ((sts.map f).take n).foldl dedupStep [] = (List.range n).filterMap fun k => match (sts.map f)[k]?, sts[k]? with
      | some r, some s => if s ∈ sts.take k then none else some r
      | _, _ => none := by
    intro n
    induction n with
    | zero => intro _; simp
    | succ n ih =>
      intro hn
      have hlt : n < sts.length := by omega
      have e1 : (sts.map f)[n]? = some (f sts[n]) := by simp [hlt]
      have e2 : sts[n]? = some sts[n] := by simp [hlt]
      rw [fold_take e1, List.range_succ, List.filterMap_append, ← ih (by omega)]
      simp only [List.filterMap_cons, List.filterMap_nil, e1, e2]
      have hm : f sts[n] ∈ ((sts.map f).take n).foldl dedupStep [] ↔ sts[n] ∈ sts.take n := by
        rw [mem_dedup, ← List.map_take]
        simp only [List.not_mem_nil, false_or, List.mem_map]
        constructor
        · rintro ⟨s, hs, e⟩
          rw [← (hf s (List.mem_of_mem_take hs) _ (List.getElem_mem hlt)).mp e]; exact hs
        · intro h; exact ⟨_, h, rfl⟩
      by_cases q : sts[n] ∈ sts.take n
      · rw [if_pos q, show dedupStep _ (f sts[n]) = _ from if_pos (hm.mpr q)]
        simp
      · rw [if_neg q, show dedupStep _ (f sts[n]) = _ from if_neg fun z => q (hm.mp z)]
  have := key sts.length (Nat.le_refl _)
  rw [show (sts.map f).take sts.length = sts.map f from List.take_of_length_le (by simp)] at this
  unfold dedupF firsts
  rw [this]
  simp
end Mine
-- part MLaw2
namespace Mine
theorem gName_cellH {M : Model} {A : Around} {E : Value → Shared → Prop} {s : Shared} {env : Env} {x : Str} {pos : Pos} {c : Addr} {v : Value} {Q : Value → Shared → Prop} (hc : s.heap.IsCell c (some v)) (h : Q v s) (hl : env.cells.lookup x = some c := by rfl)
    (hk : env.scope.kind = .function := by rfl) (hx : env.kindOf x = some .cell := by rfl) (hd : (x == ("__debug__" : Str)) = false := by decide) :
    wpAny M A (eval (.Name x pos) env) Q E s := wpAny_Name (wpAny_loadName_cell hk hx hl hc h) hd
local macro_rules | `(tactic| walk_at "eval Name") => `(tactic| (refine gName_bi (by assumption) (by assumption) (by first | exact Boot.enumerate | exact Boot.len | exact Boot.range | exact Boot.zip | exact Boot.sum | exact Boot.list | exact Boot.ValueError) ?_))
local macro_rules | `(tactic| walk_at "eval Name") => `(tactic| (refine gName_fn (by assumption) (by assumption) (by assumption) ?_))
local macro_rules | `(tactic| walk_at "eval Name") => `(tactic| (refine gName_cell (by assumption) (by assumption) ?_))
local macro_rules | `(tactic| walk_at "eval Name") => `(tactic| (name_kind "local"; refine gName_loc (by assumption) (by rfl) ?_))
local macro_rules | `(tactic| walk_at "eval Name") => `(tactic| (name_kind "cell"; refine gName_cellH (by assumption) ?_))
local macro_rules | `(tactic| walk_at "call builtin:list.append") => `(tactic| (refine append_led (by assumption) (by assumption) (by assumption) (by omega) ?_; intro _ _ _))
local macro_rules | `(tactic| walk_at "W") => `(tactic| repeat ((fail_if_success (with_reducible show wpAny _ _ (exec (Stmt.Assign _ (Expr.ListComp _ _ _ _) _) _) _ _ _)); (fail_if_success (with_reducible show wpAny _ _ (eval (Expr.ListComp _ _ _ _) _) _ _ _)); (fail_if_success (with_reducible show wpAny _ _ (exec (Stmt.For _ _ _ _ _) _) _ _ _)); walk1))

section
variable {prog : Program} {w : World} {A : Around} {E : Value → Shared → Prop} {s : Shared} {env : Env}
theorem lcAssign {elt iter : Expr} {x y : Str} {px py : Pos} {scope : Scope} {cl : List (Str × Addr)} {pos spos : Pos} {Q : Flow → Shared → Prop}
    (hsw : swapsWith (.ListComp elt [⟨.Name x px, iter, [], 0⟩] scope pos) (some (.Name y py)) spos.line env = pure true) (hclos : closureFor scope env = pure cl) (hkind : scope.kind = .function)
    (hnames : ∀ y ∈ scope.names, y.2 = .local → scope.names.lookup y.1 = some .local)
    (h : wpAny (model prog w) A (eval iter env) (fun xv s₁ => wpAny (model prog w) A (pyIter xv) (fun it s₂ => wpAny (model prog w) A (newList []) (fun acc s₃ => wpAny (model prog w) A (newFunctionEnv scope env.globals cl [] env.qual none .none (some env)) (fun cenv s₄ =>
      codeAny (model prog w) A (.compStart (.ListComp elt [⟨.Name x px, iter, [], 0⟩] scope pos) 0 it acc { cenv with scope := relabel scope env }) (compPost (model prog w) A E (some (assign (.Name y py) env)) (fun _ s' => Q .next s') acc cenv.locals) s₄) E s₃) E s₂) E s₁) E s)
    (hs : ∀ x, foldedSetIterable iter env x = pure x := by intro _; rfl) :
    wpAny (model prog w) A (exec (.Assign [.Name y py] (.ListComp elt [⟨.Name x px, iter, [], 0⟩] scope pos) spos) env) Q E s := by
  rw [exec_Assign_Name_used _ _ _ _ hsw]
  refine wpAny_bind (wpAny_standAt (wpAny_bind ?_))
  show wpAny _ A (do let _ ← comprehension (.ListComp elt [⟨.Name x px, iter, [], 0⟩] scope pos) scope env _ (newList []) false (eval iter env) (some (assign (.Name y py) env))) _ _ s
  exact wpAny_bind (wpAny_mono (wpAny_comprehension_free (use := some (assign (.Name y py) env)) (Q := fun _ s' => Q .next s') rfl hs hclos hkind hnames h) (fun _ s' hq => wpAny_pure (wpAny_pure hq)) fun _ _ e => e)
/-- what a comprehension leaves, seen from the frame around it -/
theorem lcOut {h₀ hb h₁ : Heap} {L C D : Addr} {m mc : Str → Option Value} {o : Obj} {news led : List (Addr × Obj)} (F : Fr h₀ L hb m) (N : News h₀ L hb news) (Fc : Fr hb C h₁ mc) (Nc : News hb C h₁ ((D, o) :: led)) :
    Fr h₀ L h₁ m ∧ News h₀ L h₁ ((D, o) :: (led ++ news)) ∧ (∀ q ∈ (D, o) :: (led ++ news), q.1 ≠ C) ∧ C ≠ L ∧ h₀.get? C = none := by
  have hLC : L < C := Nat.lt_of_lt_of_le F.ns.lt Fc.above
  have none0 : ∀ b, hb.get? b = none → h₀.get? b = none := fun b e => TT.none_of F.keep e
  have neL : ∀ b, hb.get? b = none → b ≠ L := fun b e q => by
    obtain ⟨o, _, _, ho, _⟩ := F.ns
    rw [q, ho] at e; cases e
  refine ⟨Fr.up F Fc.keep, fun q hq => ?_, fun q hq => ?_, Nat.ne_of_gt hLC, Heap.get?_none_of_le (Nat.le_trans F.above (Nat.le_of_lt hLC))⟩
  · rw [← List.cons_append] at hq
    rcases List.mem_append.mp hq with hq | hq
    · exact ⟨(Nc q hq).1, neL _ (Nc q hq).2.2, none0 _ (Nc q hq).2.2⟩
    · exact ⟨Fc.keep _ _ (N q hq).1, (N q hq).2⟩
  · rw [← List.cons_append] at hq
    rcases List.mem_append.mp hq with hq | hq
    · exact (Nc q hq).2.1
    · exact Nat.ne_of_lt (Nat.lt_of_lt_of_le (Heap.lt_size (N q hq).1) Fc.above)
theorem lcGone {h₀ h h' : Heap} {L C : Addr} {m : Str → Option Value} {news : List (Addr × Obj)} (F : Fr h₀ L h m) (N : News h₀ L h news) (hs : Heap.SameBut C h h') (hCL : C ≠ L) (hC0 : h₀.get? C = none) (hne : ∀ q ∈ news, q.1 ≠ C) : Fr h₀ L h' m ∧ News h₀ L h' news :=
  ⟨F.change hs hCL hC0, fun q hq => ⟨hs.extBut _ _ (hne q hq) (N q hq).1, (N q hq).2⟩⟩
end
theorem pick_upto (l : List Value) (i : Nat) : kms_pick l none (some (i : Int)) = l.take i := by
  unfold kms_pick kms_lo kms_hi
  have : ¬ ((i : Int) < 0) := by omega
  simp [this]
theorem AreK.take {κ : Type} {R : Value → κ → Prop} {vs : List Value} {ks : List κ} (h : AreK R vs ks) : ∀ i, AreK R (vs.take i) (ks.take i) := by
  induction h with
  | nil => intro i; simp; exact .nil
  | cons a _ ih =>
    intro i
    cases i with
    | zero => exact .nil
    | succ i => exact .cons a (ih i)
theorem strs_are {h : Heap} {vs : List Value} {xs : List Str} (hk : AreK (strKey h) vs xs) : StrsAre vs xs := by
  induction hk with
  | nil => exact .nil
  | cons a _ ih => obtain ⟨t, rfl⟩ := a; exact .cons _ _ ih
def stmtAt (n k : Nat) : Stmt := (fnParts n).2.1.getD k (.Pass default)
def startsF (xs : List Str) : List Str := (List.range (xs.length + 1)).map fun k => Txt.join (Str.ofString "") (xs.take k)
section
variable {prog : Program} {w : World} {A : Around} {E : Value → Shared → Prop} {s : Shared} {fa f1 f2 f3 f5 f6 f8 f9 f10 : Addr} {cd c1 c2 c3 c5 c6 c8 c9 c10 : Value} {mg mb : Str → Option Value}
structure Fns (mg : Str → Option Value) (h : Heap) (f1 f2 f3 f5 f6 f8 f9 f10 : Addr) (c1 c2 c3 c5 c6 c8 c9 c10 : Value) : Prop where
  f1 : FnAt mg h 1 "_iter_escaped_chars" f1 c1
  f2 : FnAt mg h 2 "_strip_quoted_realnames" f2 c2
  f3 : FnAt mg h 3 "_check_parenthesis" f3 c3
  f5 : FnAt mg h 5 "_deduplicate_unhashable" f5 c5
  f6 : FnAt mg h 6 "_compare_args_orderless" f6 c6
  f8 : FnAt mg h 8 "_law_signs" f8 c8
  f9 : FnAt mg h 9 "_law_reached" f9 c9
  f10 : FnAt mg h 10 "_law_endings" f10 c10
theorem Fns.keeps {h h' : Heap} (X : Fns mg h f1 f2 f3 f5 f6 f8 f9 f10 c1 c2 c3 c5 c6 c8 c9 c10) (k : ∀ b o, h.get? b = some o → h'.get? b = some o) : Fns mg h' f1 f2 f3 f5 f6 f8 f9 f10 c1 c2 c3 c5 c6 c8 c9 c10 :=
  ⟨X.f1.keeps k, X.f2.keeps k, X.f3.keeps k, X.f5.keeps k, X.f6.keeps k, X.f8.keeps k, X.f9.keeps k, X.f10.keeps k⟩

set_option maxHeartbeats 400000 in
theorem starts_comp {s₀ : Shared} {h₀ : Heap} {L cS D : Addr} {m : Str → Option Value} {led : List (Addr × Obj)} {oS : Obj} {sv : List Value} {sn : Nat} {xs : List Str} {Q : Flow → Shared → Prop} (hh : A.handled = none) (hcS : cS = L + 1) (G : Gd mg mb h₀) (F : Fr h₀ L s.heap m) (N : News h₀ L s.heap led) (X : Gx s₀ s)
    (hm : (cS, oS) ∈ led) (hoS : oS.data = .cell (some (.ref D))) (hD : (D, listObj sv sn) ∈ led) (hk : AreK (strKey h₀) sv xs) (hl : xs.length ≤ 4) (hsg : ∀ x ∈ xs, isSign x)
    (h : ∀ s' D' ys c, Gx s₀ s' → Fr h₀ L s'.heap (fun z => if z = Str.ofString "starts" then some (.ref D') else m z) → News h₀ L s'.heap ((D', listObj ys c) :: led) → (∀ q ∈ led, q.1 ≠ D') → AreK (strKey h₀) ys (startsF xs) → Q .next s') :
    wpAny (model prog w) A (exec (stmtAt 11 1) (envOfC "law" (fnParts 11).2.2 L fa cd)) Q E s := by
  subst hcS
  have hcell : s.heap.IsCell (L + 1) (some (.ref D)) := ⟨oS, (N _ hm).1, hoS⟩
  have hlS : s.heap.IsList D sv.toArray := ⟨_, (N _ hD).1, rfl, _, rfl⟩
  have GS := G.keeps F.keep
  refine lcAssign (cl := [(Str.ofString "signs", L + 1)]) rfl rfl rfl (by decide) ?_
  walk_at "W"
  obtain ⟨oD, hoD, hcD, nD, hdD⟩ := hlS
  refine Calls.call_len_list (items := sv.toArray) ⟨oD, hoD, hcD, nD, hdD⟩ (by rw [List.size_toArray, hk.len]; omega) ?_
  walk_at "W"
  rename_i h₂ tk₂ t₁ u₁ v₁ hr F₂ N₂ k₂
  have hr' : IsRange h₂ s.heap.objs.size 0 ((xs.length + 1 : Nat) : Int) 1 t₁ u₁ v₁ := by
    have e : ((sv.toArray.size : Int) + 1) = ((xs.length + 1 : Nat) : Int) := by rw [List.size_toArray, hk.len]; push_cast; rfl
    rw [← e]; exact hr
  have G2 : Gd mg mb h₂ := GS.keeps k₂
  have hc2 : h₂.IsCell (L + 1) (some (.ref D)) := hcell.keeps k₂
  have hl2 : h₂.IsList D sv.toArray := ⟨oD, k₂ _ _ hoD, hcD, nD, hdD⟩
  refine rangeComp (k := xs.length + 1) hh hr' (by omega) (by decide) rfl rfl (fun i ys lg => lg = [] ∧ AreK (strKey h₀) ys ((List.range i).map fun k => Txt.join (Str.ofString "") (xs.take k))) ⟨rfl, .nil⟩ ?_ ?_
  · rintro i tk C D' s₁ m' ys c lg tl E' hik ⟨rfl, hAk⟩ hyl hap htl hC hD' X₁ F₁ N₁
    replace F₁ : Fr h₂ C s₁.heap _ := F₁
    replace N₁ : News h₂ C s₁.heap ((D', listObj ys c) :: tl) := N₁
    clear F₂ N₂ hcell
    walk_at "W"
    obtain ⟨oD2, hoD2, hcD2, nD2, hdD2⟩ := hl2
    refine kms_slice_lit (s := { s₁ with toks := s₁.toks + 1 }) (zs := sv.take i) F₁ N₁ ⟨oD2, F₁.keep _ _ hoD2, hcD2, nD2, hdD2⟩ IsPart.none (IsPart.int _ _) (pick_upto sv i) (fun D₃ h₃ F₃ N₃ lt₃ => ?_) (by with_unfolding_all rfl) (by intro _; with_unfolding_all rfl) (by rw [List.size_toArray, hk.len, sizeLine_eq]; omega)
    have hAt : AreK (strKey h₀) (sv.take i) (xs.take i) := hk.take i
    clear F₁ N₁
    walk_at "W"
    have hlen1 : ∀ y ∈ xs.take i, y.length ≤ 1 := fun y hy => by
      obtain ⟨c, _, rfl⟩ := hsg y (List.mem_of_mem_take hy)
      exact Nat.le_refl _
    have hsum := sum_le_of (xs.take i) hlen1
    have hti : (xs.take i).length ≤ 4 := by rw [List.length_take]; omega
    refine join_list (ys := xs.take i) ⟨_, (N₃ _ (.head _)).1, rfl, _, rfl⟩ (strs_are hAt) (by
      have h5 : (Str.ofString "").length = 0 := rfl
      rw [h5]; omega) fun t' k => ?_
    refine ⟨_, [], F₃, fun q hq => N₃ q (.tail _ (by rw [List.mem_singleton.mp hq]; exact .head _)), fun q hq => N₃ q (.tail _ (.tail _ hq)), (fun q hq => nomatch hq), X₁.step, rfl, ?_⟩
    rw [List.range_succ, List.map_append]
    exact hAk.snoc ⟨t', rfl⟩
  · rintro D' C s₁ m' ys c lg ⟨rfl, hAk⟩ hyl hD' hC hDC X₁ F₁ N₁
    replace F₁ : Fr h₂ C s₁.heap _ := F₁
    replace N₁ : News h₂ C s₁.heap [(D', listObj ys c)] := N₁
    obtain ⟨F₃, N₃, hne, hCL, hC0⟩ := lcOut F₂ N₂ F₁ N₁
    refine wpAny_assign_Name (stUpG rfl F₃ (fun h₄ F₄ hs₄ => ?_) rfl rfl)
    have N₄ : News h₀ L h₄ ((D', listObj ys c) :: ([] ++ led)) := fun q hq => ⟨hs₄.extBut _ _ (N₃ q hq).2.1 (N₃ q hq).1, (N₃ q hq).2⟩
    refine ⟨_, F₁.ns.sameBut hs₄ hCL, fun h₅ hs₅ => ?_⟩
    obtain ⟨F₅, N₅⟩ := lcGone F₄ N₄ hs₅ hCL hC0 hne
    have hD2 : h₂.objs.size < D' := hD'
    exact h _ D' ys c ((X.trans Gx.step1).trans X₁.step) F₅ N₅ (fun q hq => Nat.ne_of_lt (Nat.lt_trans (Heap.lt_size (N₂ q hq).1) hD2)) hAk
end
end Mine
-- part MLaw3
namespace Mine
local macro_rules | `(tactic| walk_at "eval Name") => `(tactic| (refine gName_bi (by assumption) (by assumption) (by first | exact Boot.enumerate | exact Boot.len | exact Boot.range | exact Boot.zip | exact Boot.sum | exact Boot.list | exact Boot.ValueError) ?_))
local macro_rules | `(tactic| walk_at "eval Name") => `(tactic| (refine gName_fn (by assumption) (by assumption) (by assumption) ?_))
local macro_rules | `(tactic| walk_at "eval Name") => `(tactic| (refine gName_cell (by assumption) (by assumption) ?_))
local macro_rules | `(tactic| walk_at "eval Name") => `(tactic| (name_kind "local"; refine gName_loc (by assumption) (by rfl) ?_))
local macro_rules | `(tactic| walk_at "eval Name") => `(tactic| (name_kind "cell"; refine gName_cellH (by assumption) ?_))
local macro_rules | `(tactic| walk_at "call builtin:list.append") => `(tactic| (refine append_led (by assumption) (by assumption) (by assumption) (by omega) ?_; intro _ _ _))
local macro_rules | `(tactic| walk_at "W") => `(tactic| repeat ((fail_if_success (with_reducible show wpAny _ _ (exec (Stmt.Assign _ (Expr.ListComp _ _ _ _) _) _) _ _ _)); (fail_if_success (with_reducible show wpAny _ _ (eval (Expr.ListComp _ _ _ _) _) _ _ _)); (fail_if_success (with_reducible show wpAny _ _ (exec (Stmt.For _ _ _ _ _) _) _ _ _)); walk1))

section
variable {prog : Program} {w : World} {A : Around} {E : Value → Shared → Prop} {s : Shared} {env : Env}
theorem listComp {elt iter : Expr} {x : Str} {px : Pos} {scope : Scope} {cl : List (Str × Addr)} {pos : Pos} {RR : Value → Addr → Result → Shared → Prop} {l : Addr} {vs : List Value} {nl : Nat} (hh : A.handled = none) (hl : s.heap.get? l = some (listObj vs nl)) (hlen : vs.length ≤ 1000)
    (hcell : ∀ y ∈ scope.names, y.2 ≠ .cell) (hkind : scope.kind = .function) (hx : scope.names.lookup x = some .local)
    (J : Nat → List Value → List (Addr × Obj) → Prop) (j0 : J 0 [] [])
    (turn : ∀ (i : Nat) (v : Value) (C D : Addr) (s₁ : Shared) (m : Str → Option Value) (ys : List Value) (c : Nat) (led tl : List (Addr × Obj)) (E' : Value → Shared → Prop), vs[i]? = some v → J i ys led → ys.length = i →
      (∀ q ∈ led, q.1 ∉ [s.heap.objs.size] ∧ q.1 ≠ D) → (∀ q ∈ tl, q.1 = s.heap.objs.size) → s.heap.objs.size < C → s.heap.objs.size < D → Gx s s₁ →
      Fr s.heap C s₁.heap (fun z => if z = x then some v else m z) → News s.heap C s₁.heap ((D, listObj ys c) :: (led ++ tl)) →
      wpAny (model prog w) A (eval elt (compEnvC scope cl C env)) (LcEnd s.heap C D [s.heap.objs.size] tl ys c (J (i + 1)) s) E' s₁)
    (done : ∀ (D C : Addr) s₁ m ys c led, J vs.length ys led → ys.length = vs.length → (∀ q ∈ led, q.1 ≠ D) → s.heap.objs.size < D → s.heap.objs.size < C → D ≠ C → Gx s s₁ → Fr s.heap C s₁.heap m → News s.heap C s₁.heap ((D, listObj ys c) :: led) → RR (.ref D) C (.ok .next) s₁) :
    wpAny (model prog w) A (pyIter (.ref l)) (fun it s₂ => wpAny (model prog w) A (newList []) (fun acc s₃ => wpAny (model prog w) A (newFunctionEnv scope env.globals cl [] env.qual none .none (some env)) (fun cenv s₄ =>
      codeAny (model prog w) A (.compStart (.ListComp elt [⟨.Name x px, iter, [], 0⟩] scope pos) 0 it acc { cenv with scope := relabel scope env }) (RR acc cenv.locals) s₄) E s₃) E s₂) E s := by
  have hlH : s.heap.IsList l vs.toArray := ⟨_, hl, rfl, _, rfl⟩
  refine wpAny_pyIter_list hlH ?_
  have hp : (s.heap.push { cls := .type "list_iterator", data := .fields #[.ref l, .int 0 0] }).objs.size = s.heap.objs.size + 1 := Heap.size_push _ _
  have hll : l < s.heap.objs.size := Heap.lt_size hl
  refine compFor (b₁ := s.heap) (s₀ := s) (iterObj_list (s := s) hh hlH) live_list (by omega) hcell hkind hx ?_ ?_ ?_ ⟨⟨_, Heap.get?_push_size _ rfl, rfl, rfl⟩, hlH.push _⟩ ?_ J j0 Gx.step1 ?_ ?_
  · intro b o e; exact Heap.get?_push_of_some _ e
  · rw [hp]; omega
  · intro b hb
    rw [List.mem_singleton.mp hb]
    exact Heap.get?_none_of_le (Nat.le_refl _)
  · intro b hb
    rw [hp]
    rcases List.mem_cons.mp hb with rfl | hb
    · exact Nat.lt_succ_self _
    · rw [List.mem_singleton.mp hb]; exact Nat.lt_succ_of_lt hll
  · rintro i v C D s₁ m ys c led tl E' hi hv hJ hyl hap htl _ hC hD X₁ F₁ N₁
    rw [hp] at hC hD
    refine turn i v C D s₁ m ys c led tl E' hv hJ hyl hap (fun q hq => ?_) hC hD X₁ F₁ N₁
    rcases List.mem_cons.mp (htl q hq) with z | z
    · exact z
    · exfalso
      have := (N₁ q (.tail _ (List.mem_append_right _ hq))).2.2
      rw [List.mem_singleton.mp z, hl] at this; cases this
  · intro D C s₁ m ys c led hJ hyl hap hD hC hDC X₁ F₁ N₁
    rw [hp] at hC hD
    exact done D C s₁ m ys c led hJ hyl (fun q hq => (hap q hq).2) hD hC hDC X₁ F₁ N₁
end
def Held (led : List (Addr × Obj)) (h : Heap) : Prop := ∀ q ∈ led, h.get? q.1 = some q.2
section
variable {prog : Program} {w : World} {A : Around} {E : Value → Shared → Prop} {s : Shared} {fa f9 : Addr} {cd c9 : Value} {mg mb : Str → Option Value}
set_option maxHeartbeats 400000 in
theorem states_comp {s₀ : Shared} {h₀ : Heap} {L cT D : Addr} {m : Str → Option Value} {led own rest : List (Addr × Obj)} {oT : Obj} {sv : List Value} {sn : Nat} {xs : List Str} {Q : Flow → Shared → Prop} (hh : A.handled = none) (hroom : A.depth + 40 < recursionLimit) (hu : A.units + 400 < cLine) (hcT : cT = L + 1 + 1) (G : Gd mg mb h₀) (x9 : FnAt mg h₀ 9 "_law_reached" f9 c9)
    (F : Fr h₀ L s.heap m) (N : News h₀ L s.heap led) (X : Gx s₀ s) (hled : led = own ++ (cT, oT) :: rest) (h1 : ∀ p ∈ own, p.1 ≠ cT) (h2 : ∀ p ∈ rest, p.1 ≠ cT) (hoT : oT.data = .cell none)
    (hms : m (Str.ofString "starts") = some (.ref D)) (hD : (D, listObj sv sn) ∈ led) (hk : AreK (strKey h₀) sv xs) (hl : xs.length ≤ 5) (hsg : ∀ x ∈ xs, x.cps.size ≤ 1000)
    (h : ∀ s' D' ys c lg oT', Gx s₀ s' → Fr h₀ L s'.heap m → News h₀ L s'.heap ((D', listObj ys c) :: (lg ++ (own ++ (cT, oT') :: rest))) → oT'.data = .cell (some (.ref D')) → (∀ q ∈ led, q.1 ≠ D') → (∀ q ∈ lg, q.1 ≠ D') → (∀ h, Held lg h → AreK (stateKey h) ys (xs.map fun x => reachF st0 x.cps.toList)) → Q .next s') :
    wpAny (model prog w) A (exec (stmtAt 11 2) (envOfC "law" (fnParts 11).2.2 L fa cd)) Q E s := by
  have GS := G.keeps F.keep
  have x9S := x9.keeps F.keep
  have FN : Fr h₀ L s.heap m ∧ News h₀ L s.heap led := ⟨F, N⟩
  have F' := Fr.map1 (a := Str.ofString "starts") F hms
  have hgD : s.heap.get? D = some (listObj sv sn) := (N _ hD).1
  show wpAny _ _ (exec (.Assign [.Name _ _] (.ListComp _ _ _ _) _) _) _ _ _
  walk1
  refine lcEval (cl := []) rfl rfl (by decide) ?_
  walk_at "W"
  refine listComp hh hgD (by rw [hk.len]; omega) (by decide) rfl rfl (fun i ys lg => ∀ h, Held lg h → AreK (stateKey h) ys ((xs.take i).map fun x => reachF st0 x.cps.toList)) (fun h _ => .nil) ?_ ?_
  · rintro i v C D' s₁ m' ys c lg tl E' hv hJ hyl hap htl hC hD' X₁ F₁ N₁
    obtain ⟨x, hx, ⟨tx, rfl⟩⟩ := hk.get hv
    replace F₁ : Fr s.heap C s₁.heap _ := F₁
    replace N₁ : News s.heap C s₁.heap ((D', listObj ys c) :: (lg ++ tl)) := N₁
    obtain ⟨oD9, pmD9, docD9, hoD9, hdD9⟩ := id x9S.obj
    clear F' 
    walk_at "W"
    rename_i h₃ F₃ N₃
    refine reached_spec (st₀ := st0) hh (by omega) (by omega) (hsg x (List.mem_of_getElem? hx)) (GS.keeps F₃.keep) (x9S.keeps F₃.keep) ⟨_, _, _, rfl, (N₃ _ (.head _)).1⟩ fun s₄ v X₄ hkey hv' => ?_
    have F₄ := Fr.up F₃ X₄.keep
    have N₄ := News.up N₃ X₄.keep
    have htake : (xs.take (i + 1)).map (fun x => reachF st0 x.cps.toList) = (xs.take i).map (fun x => reachF st0 x.cps.toList) ++ [reachF st0 x.cps.toList] := by
      rw [List.take_add_one, hx]; simp
    have X4 : Gx s s₄ := (X₁.trans Gx.step1).trans X₄.gx
    have lgN : ∀ q ∈ (D', listObj ys c) :: (lg ++ tl), News s.heap C s₄.heap [q] := fun q hq p hp => by rw [List.mem_singleton.mp hp]; exact N₄ q (.tail _ hq)
    cases hst : reachF st0 x.cps.toList with
    | none =>
      rw [hst] at hkey
      cases hkey
      refine ⟨_, lg, F₄, fun q hq => ?_, fun q hq => lgN q (.tail _ (List.mem_append_right _ hq)) q (.head _), hap, X4, fun h hH => ?_⟩
      · rcases List.mem_cons.mp hq with rfl | hq
        · exact lgN _ (.head _) _ (.head _)
        · exact lgN q (.tail _ (List.mem_append_left _ hq)) q (.head _)
      · rw [htake, hst]; exact (hJ h hH).snoc rfl
    | some p =>
      obtain ⟨mk, d, inn, wt⟩ := p
      rw [hst] at hkey
      obtain ⟨T, td, ti, rfl, hT⟩ := hkey
      have h13 : s₁.heap.objs.size < h₃.objs.size := Heap.lt_size (N₃ _ (.head _)).1
      have hTge : s₁.heap.objs.size ≤ T := by
        rcases hv' with e | e | ⟨T', e, hT'⟩
        · injection e with e; rw [e]; exact Nat.le_refl _
        · cases e
        · injection e with e; rw [e]; exact Nat.le_trans (Nat.le_of_lt h13) hT'
      have lt1 : ∀ q ∈ (D', listObj ys c) :: (lg ++ tl), q.1 < s₁.heap.objs.size := fun q hq => Heap.lt_size (N₁ q hq).1
      have hC1 : C < s₁.heap.objs.size := F₁.ns.lt
      have hs1 : s.heap.objs.size < s₁.heap.objs.size := Nat.lt_trans hC hC1
      refine ⟨_, (T, stateObj mk d td inn ti wt) :: lg, F₄, fun q hq => ?_, fun q hq => lgN q (.tail _ (List.mem_append_right _ hq)) q (.head _), fun q hq => ?_, X4, fun h hH => ?_⟩
      · rcases List.mem_cons.mp hq with rfl | hq
        · exact lgN _ (.head _) _ (.head _)
        · rcases List.mem_cons.mp hq with rfl | hq
          · exact ⟨hT, Nat.ne_of_gt (Nat.lt_of_lt_of_le hC1 hTge), Heap.get?_none_of_le (Nat.le_trans (Nat.le_of_lt hs1) hTge)⟩
          · exact lgN q (.tail _ (List.mem_append_left _ hq)) q (.head _)
      · rcases List.mem_cons.mp hq with rfl | hq
        · exact ⟨fun z => Nat.ne_of_gt (Nat.lt_of_lt_of_le hs1 hTge) (List.mem_singleton.mp z), Nat.ne_of_gt (Nat.lt_of_lt_of_le (lt1 _ (.head _)) hTge)⟩
        · exact hap q hq
      · rw [htake, hst]
        exact (hJ h fun q hq => hH q (.tail _ hq)).snoc ⟨T, td, ti, rfl, hH _ (.head _)⟩
  · rintro D' C s₁ m' ys c lg hJ hyl hapl hD' hC hDC X₁ F₁ N₁
    replace F₁ : Fr s.heap C s₁.heap _ := F₁
    replace N₁ : News s.heap C s₁.heap ((D', listObj ys c) :: lg) := N₁
    refine ⟨m', F₁.ns, fun h₅ hs₅ => ?_⟩
    obtain ⟨F₃, N₃, hne, hCL, hC0⟩ := lcOut FN.1 FN.2 F₁ N₁
    obtain ⟨F₅, N₅⟩ := lcGone F₃ N₃ hs₅ hCL hC0 hne
    have ltD : ∀ q ∈ led, q.1 ≠ D' := fun q hq => Nat.ne_of_lt (Nat.lt_trans (Heap.lt_size (FN.2 q hq).1) hD')
    have hcTl : (cT, oT) ∈ led := by rw [hled]; exact List.mem_append_right _ (.head _)
    have lgD : ∀ q ∈ lg, q.1 ≠ D' := fun q hq => hapl q hq
    have lgT : ∀ q ∈ lg, q.1 ≠ cT := fun q hq e => by
      have h3 := (N₁ q (.tail _ hq)).2.2
      rw [e, (FN.2 _ hcTl).1] at h3; cases h3
    rw [hled, ← List.append_assoc, ← List.cons_append] at N₅
    refine stCN (x := Str.ofString "states") F₅ N₅ (by rw [hcT]; rfl) hoT (fun p hp => ?_) h2 (fun h₆ o' F₆ N₆ ho' => ?_) rfl rfl
    · rcases List.mem_cons.mp hp with rfl | hp
      · exact fun e => ltD _ hcTl e.symm
      · rcases List.mem_append.mp hp with hp | hp
        · exact lgT p hp
        · exact h1 p hp
    · have hJ' := hJ
      rw [show xs.take sv.length = xs from List.take_of_length_le (by rw [hk.len]; exact Nat.le_refl _)] at hJ'
      refine h _ D' ys c lg o' (X.trans X₁.step) F₆ ?_ ho' ltD lgD hJ'
      rw [List.cons_append, List.append_assoc] at N₆
      exact N₆
end
end Mine
-- part MLcT
namespace Mine
/-- the end of a turn of a list comprehension that takes nothing -/
def LcSkip (b₁ : Heap) (C D : Addr) (wr : List Addr) (tl : List (Addr × Obj)) (ys : List Value) (c : Nat) (J : List Value → List (Addr × Obj) → Prop) (s₀ : Shared) (s₂ : Shared) : Prop :=
  ∃ m' led', Fr b₁ C s₂.heap m' ∧ News b₁ C s₂.heap ((D, listObj ys c) :: led') ∧ News b₁ C s₂.heap tl ∧ (∀ q ∈ led', q.1 ∉ wr ∧ q.1 ≠ D) ∧ Gx s₀ s₂ ∧ J ys led'

section
variable {prog : Program} {w : World} {A : Around} {E : Value → Shared → Prop} {s : Shared} {env : Env}
theorem compLoopPT {elt iter test : Expr} {elts : List Expr} {x1} {tp : Pos} {scope : Scope} {pos : Pos} {it acc : Value} {env : Env} {R : Result → Shared → Prop} (I : Nat → Shared → Prop)
    (turn : ∀ n s, I n s → wpAny (model prog w) A (pyNext it) (fun r s₁ => match r with
      | none => R (.ok .next) s₁
      | some v => wpAny (model prog w) A (letOwnedTupleGo (.Tuple elts x1 tp) it v) (fun _ s₁' => wpAny (model prog w) A (assign (.Tuple elts x1 tp) env v) (fun _ s₂ =>
          wpAny (model prog w) A (isTrue test env (eval test env)) (fun ok s₃ =>
            if ok = true then wpAny (model prog w) A (eval elt env) (fun x s₄ =>
              wpAny (model prog w) A (call (.builtin "list.append") [acc, x]) (fun _ s₅ => ∃ m, m < n ∧ I m s₅) (notedBy (model prog w) A env fun e s' => R (.error e) s') s₄) (notedBy (model prog w) A env fun e s' => R (.error e) s') s₃
            else ∃ m, m < n ∧ I m s₃) (notedBy (model prog w) A env fun e s' => R (.error e) s') s₂)
          (notedBy (model prog w) A env fun e s' => R (.error e) s') s₁') (notedBy (model prog w) A env fun e s' => R (.error e) s') s₁) (notedBy (model prog w) A env fun e s' => R (.error e) s') s)
    (n : Nat) (h : I n s) : codeAny (model prog w) A (.compLoop (.ListComp elt [⟨.Tuple elts x1 tp, iter, [test], 0⟩] scope pos) 0 it acc env) R s := by
  refine codeAny_loop rfl I (fun n s hI => ?_) n h
  show wpAny _ A ((compTurn (.ListComp elt [⟨.Tuple elts x1 tp, iter, [test], 0⟩] scope pos) 0 it acc env).onRaise (fun x => do noteFrame x env; theTreesLotGoes x)) _ _ s
  refine wpAny_noted ?_
  rw [compTurn_list]
  refine wpAny_bind (wpAny_standAt (wpAny_bind (wpAny_mono (turn n s hI) (fun r s₁ h₁ => ?_) fun _ _ h' => h')))
  cases r with
  | none => exact wpAny_pure h₁
  | some v =>
    refine wpAny_bind (wpAny_mono h₁ (fun _ s₁' h₁' => ?_) fun _ _ h' => h')
    refine wpAny_bind (wpAny_mono h₁' (fun _ s₂ h₂ => wpAny_bind (wpAny_mono (wpAny_tests_one h₂) (fun ok s₃ h₃ => ?_) fun _ _ h' => h')) fun _ _ h' => h')
    cases ok with
    | false => exact wpAny_pure ⟨rfl, h₃⟩
    | true =>
      exact wpAny_bind (wpAny_bind (wpAny_mono h₃ (fun x s₄ h₄ => wpAny_bind (wpAny_mono h₄ (fun _ s₅ h₅ => wpAny_pure (wpAny_pure ⟨rfl, h₅⟩)) fun _ _ h' => h')) fun _ _ h' => h'))

theorem lcEvalT {elt iter target test : Expr} {scope : Scope} {cl : List (Str × Addr)} {pos : Pos} {Q : Value → Shared → Prop} (hclos : closureFor scope env = pure cl) (hkind : scope.kind = .function)
    (hnames : ∀ y ∈ scope.names, y.2 = .local → scope.names.lookup y.1 = some .local)
    (h : wpAny (model prog w) A (eval iter env) (fun xv s₁ => wpAny (model prog w) A (pyIter xv) (fun it s₂ => wpAny (model prog w) A (newList []) (fun acc s₃ => wpAny (model prog w) A (newFunctionEnv scope env.globals cl [] env.qual none .none (some env)) (fun cenv s₄ =>
      codeAny (model prog w) A (.compStart (.ListComp elt [⟨target, iter, [test], 0⟩] scope pos) 0 it acc { cenv with scope := relabel scope env }) (compPost (model prog w) A E none Q acc cenv.locals) s₄) E s₃) E s₂) E s₁) E s)
    (hs : ∀ x, foldedSetIterable iter env x = pure x := by intro _; rfl) :
    wpAny (model prog w) A (eval (.ListComp elt [⟨target, iter, [test], 0⟩] scope pos) env) Q E s := by
  rw [eval_ListComp]
  exact wpAny_comprehension_free (use := none) rfl hs hclos hkind hnames h
end

section
variable {prog : Program} {w : World} {A : Around} {E : Value → Shared → Prop} {s₀ s₂ : Shared} {b₁ : Heap} {I : Addr} {fp wr : List Addr} {n : Nat} {St : Nat → Heap → Prop} {env : Env}

theorem compForT {elt iter test : Expr} {x y : Str} {px py tp : Pos} {kk : Nat} {scope : Scope} {cl : List (Str × Addr)} {pos : Pos} {Pt : Nat → Array Value → Prop} {Mid : Nat → Addr → Heap → Prop} {RR : Value → Addr → Result → Shared → Prop}
    (W : WalksT prog w A I fp wr n Pt St Mid) (hh : A.handled = none) (live : ∀ i h, St i h → ∀ b ∈ fp, ∃ o, h.get? b = some o) (hn : n ≤ 10000)
    (hcell : ∀ y ∈ scope.names, y.2 ≠ .cell) (hkind : scope.kind = .function) (hx : scope.names.lookup x = some .local) (hy : scope.names.lookup y = some .local) (hPt : ∀ i vals, Pt i vals → vals.size = 2)
    (hb : ∀ b o, b₁.get? b = some o → s₂.heap.get? b = some o) (hbs : b₁.objs.size ≤ s₂.heap.objs.size) (hwr : ∀ b ∈ wr, b₁.get? b = none) (hst : St 0 s₂.heap) (hfp : ∀ b ∈ fp, b < s₂.heap.objs.size)
    (J : Nat → List Value → List (Addr × Obj) → Prop) (j0 : J 0 [] []) (X : Gx s₀ s₂)
    (turn : ∀ (i : Nat) (v u : Value) (C D : Addr) (s₁ : Shared) (m : Str → Option Value) (ys : List Value) (c : Nat) (led tl : List (Addr × Obj)) (E' : Value → Shared → Prop), i < n → Pt i #[v, u] → J i ys led → ys.length ≤ i →
      (∀ q ∈ led, q.1 ∉ wr ∧ q.1 ≠ D) → (∀ q ∈ tl, q.1 ∈ fp) → (∀ q ∈ tl, q.1 < s₂.heap.objs.size) → s₂.heap.objs.size ≤ C → s₂.heap.objs.size ≤ D → Gx s₀ s₁ →
      Fr b₁ C s₁.heap (fun z => if z = y then some u else if z = x then some v else m z) → News b₁ C s₁.heap ((D, listObj ys c) :: (led ++ tl)) →
      wpAny (model prog w) A (isTrue test (compEnvC scope cl C env) (eval test (compEnvC scope cl C env))) (fun ok s₃ => if ok = true then wpAny (model prog w) A (eval elt (compEnvC scope cl C env)) (LcEnd b₁ C D wr tl ys c (J (i + 1)) s₀) E' s₃ else LcSkip b₁ C D wr tl ys c (J (i + 1)) s₀ s₃) E' s₁)
    (done : ∀ (D C : Addr) s₁ m ys c led, J n ys led → ys.length ≤ n → (∀ q ∈ led, q.1 ∉ wr ∧ q.1 ≠ D) → s₂.heap.objs.size ≤ D → s₂.heap.objs.size ≤ C → D ≠ C → Gx s₀ s₁ → Fr b₁ C s₁.heap m → News b₁ C s₁.heap ((D, listObj ys c) :: led) → RR (.ref D) C (.ok .next) s₁) :
    wpAny (model prog w) A (newList []) (fun acc s₃ => wpAny (model prog w) A (newFunctionEnv scope env.globals cl [] env.qual none .none (some env)) (fun cenv s₄ =>
      codeAny (model prog w) A (.compStart (.ListComp elt [⟨.Tuple [.Name x px, .Name y py] kk tp, iter, [test], 0⟩] scope pos) 0 (.ref I) acc { cenv with scope := relabel scope env }) (RR acc cenv.locals) s₄) E s₃) E s₂ := by
  refine wpAny_newObj_type (wpAny_newFunctionEnv hcell (by intro y hy; simp at hy) (fun h₁ hns₁ hsb₁ => ?_) hkind)
  dsimp only at hns₁ hsb₁ ⊢
  generalize hH2 : s₂.heap.push { cls := .type "list", dict := none, data := .seq ([] : List Value).toArray } = H2 at hns₁ hsb₁ ⊢
  have hC : H2.objs.size = s₂.heap.objs.size + 1 := by rw [← hH2, Heap.size_push]
  have hCle : s₂.heap.objs.size ≤ H2.objs.size := by rw [hC]; exact Nat.le_succ _
  have hDC : s₂.heap.objs.size ≠ H2.objs.size := by rw [hC]; exact Nat.ne_of_lt (Nat.lt_succ_self _)
  have below : ∀ b, b < s₂.heap.objs.size → b ≠ H2.objs.size ∧ b ≠ s₂.heap.objs.size := fun b hb => ⟨by rw [hC]; exact Nat.ne_of_lt (Nat.lt_succ_of_lt hb), Nat.ne_of_lt hb⟩
  have hDf : s₂.heap.objs.size ∉ fp := fun hm => Nat.lt_irrefl _ (hfp _ hm)
  have hCf : H2.objs.size ∉ fp := fun hm => by have := hfp _ hm; rw [hC] at this; exact Nat.lt_irrefl _ (Nat.lt_of_succ_lt this)
  have old : ∀ b o, s₂.heap.get? b = some o → h₁.get? b = some o := fun b o e => hsb₁.extBut b o (below b (Heap.lt_size e)).1 (Heap.get?_push_of_some _ (hH2 ▸ Heap.get?_push_of_some _ e))
  have hacc : h₁.get? s₂.heap.objs.size = some (listObj [] 0) := hsb₁.extBut _ _ hDC (Heap.get?_push_of_some _ (hH2 ▸ Heap.get?_push_size _ rfl))
  have hst₁ : St 0 h₁ := W.frame _ _ _ hst fun b _ o e => old b o e
  have fresh₁ : ∀ a, s₂.heap.objs.size ≤ a → b₁.get? a = none := fun a ha => Heap.get?_none_of_le (Nat.le_trans hbs ha)
  have hCw : H2.objs.size ∉ wr := fun q => hCf (W.sub _ q)
  have hDw : s₂.heap.objs.size ∉ wr := fun q => hDf (W.sub _ q)
  have F₁ : Fr b₁ H2.objs.size h₁ (fun x => ([] : List (Str × Value)).reverse.lookup x) := ⟨hns₁, fun b o e => old b o (hb b o e), Nat.le_trans hbs hCle⟩
  have N₁ : News b₁ H2.objs.size h₁ [(s₂.heap.objs.size, listObj [] 0)] := fun q hq => by
    rw [List.mem_singleton.mp hq]
    exact ⟨hacc, hDC, fresh₁ _ (Nat.le_refl _)⟩
  have up : ∀ {h h' : Heap} {m : Str → Option Value}, Fr b₁ H2.objs.size h m → (∀ b o, b ∉ wr → h.get? b = some o → h'.get? b = some o) → Fr b₁ H2.objs.size h' m := fun F k =>
    ⟨F.ns.at' fun o q => k _ o hCw q, fun b o e => k b o (fun q => by rw [hwr b q] at e; cases e) (F.keep b o e), F.above⟩
  have loop : ∀ s₃ : Shared, s₃ = { s₂ with heap := h₁, toks := s₂.toks + ([] : List (Str × Value)).length } →
      codeAny (model prog w) A (.compLoop (.ListComp elt [⟨.Tuple [.Name x px, .Name y py] kk tp, iter, [test], 0⟩] scope pos) 0 (.ref I) (.ref s₂.heap.objs.size) (compEnvC scope cl H2.objs.size env))
        (RR (.ref s₂.heap.objs.size) H2.objs.size) s₃ := by
    rintro s₃ rfl
    refine compLoopPT
      (fun k s' => ∃ i m ys c led, k = n + 1 - i ∧ i ≤ n ∧ ys.length ≤ i ∧ St i s'.heap ∧ Fr b₁ H2.objs.size s'.heap m ∧ News b₁ H2.objs.size s'.heap ((s₂.heap.objs.size, listObj ys c) :: led) ∧ (∀ q ∈ led, q.1 ∉ wr ∧ q.1 ≠ s₂.heap.objs.size) ∧ Gx s₀ s' ∧ J i ys led) ?_ (n + 1)
      ⟨0, _, [], 0, [], rfl, Nat.zero_le _, Nat.le_refl _, hst₁, F₁, N₁, (fun q hq => nomatch hq), X.step, j0⟩
    rintro k s' ⟨i, m, ys, c, led, rfl, hi, hyl, hst', F', N', hap, X', J'⟩
    have apw : ∀ q ∈ (s₂.heap.objs.size, listObj ys c) :: led, q.1 ∉ wr := fun q hq => by
      rcases List.mem_cons.mp hq with rfl | hq
      · exact hDw
      · exact (hap q hq).1
    by_cases hlt : i < n
    · refine W.item i _ _ _ hlt hst' fun T vals h₂ tk₂ hPv hT hTt hM k₂ => ?_
      have F₂ := up F' k₂
      have N₂ : News b₁ H2.objs.size h₂ ((s₂.heap.objs.size, listObj ys c) :: led) := fun q hq => ⟨k₂ _ _ (apw q hq) (N' q hq).1, (N' q hq).2⟩
      refine W.go _ _ _ i T { s' with heap := h₂, toks := tk₂ } _ _ hM fun h₅ hst₅ k₅ => ?_
      have F₅ := up F₂ k₅
      have N₅ : News b₁ H2.objs.size h₅ ((s₂.heap.objs.size, listObj ys c) :: led) := fun q hq => ⟨k₅ _ _ (apw q hq) (N₂ q hq).1, (N₂ q hq).2⟩
      obtain ⟨v, u, rfl⟩ : ∃ v u, vals = #[v, u] := by
        have h2 := hPt i vals hPv
        obtain ⟨l⟩ := vals
        match l, h2 with
        | [a, b], _ => exact ⟨a, b, rfl⟩
      have hTt5 : h₅.IsTuple T (#[v, u] : Array Value) := hTt.at fun o e => k₅ _ o (W.apart _ _ _ hM) e
      refine assignTupG [(x, px), (y, py)] (vs := [v, u]) (L := H2.objs.size) rfl hh F₅ hTt5 rfl (fun h₃ tk₃ F₃ keepC => ?_) (by simp [compEnvC, relabel, hkind]) (by
        intro z hz
        rcases List.mem_cons.mp hz with rfl | hz
        · exact lookup_relabel_local hx
        · rw [List.mem_singleton.mp hz]; exact lookup_relabel_local hy) rfl
      replace keepC : ∀ b o, b ≠ H2.objs.size → h₅.get? b = some o → h₃.get? b = some o := keepC
      have hst₃ : St (i + 1) h₃ := W.frame _ _ _ hst₅ fun b hb o q => keepC b o (fun e => hCf (e ▸ hb)) q
      have N₃ : News b₁ H2.objs.size h₃ ((s₂.heap.objs.size, listObj ys c) :: (led ++ tailIn b₁ h₃ fp)) := fun q hq => by
        rw [← List.cons_append] at hq
        rcases List.mem_append.mp hq with hq | hq
        · exact ⟨keepC _ _ (N₅ q hq).2.1 (N₅ q hq).1, (N₅ q hq).2⟩
        · exact tailIn_news hCf q hq
      have tin : ∀ q ∈ tailIn b₁ h₃ fp, q.1 ∈ fp := fun q hq => (mem_tailIn.mp (show (q.1, q.2) ∈ _ from hq)).1
      refine wpAny_mono (turn i v u H2.objs.size s₂.heap.objs.size { s' with heap := h₃, toks := tk₃ } m ys c led (tailIn b₁ h₃ fp) _ hlt hPv J' hyl hap tin (fun q hq => hfp _ (tin q hq)) hCle (Nat.le_refl _) X'.step F₃ N₃) (fun ok s₆ h₆ => ?_) fun _ _ e => e
      cases ok with
      | false =>
        obtain ⟨m', led', F₄, N₄, NT, hap₄, X₄, J₄⟩ := h₆
        exact ⟨n + 1 - (i + 1), by omega, i + 1, m', ys, c, led', rfl, hlt, by omega, W.frame _ _ _ hst₃ (tailIn_keeps F₃ F₄ NT), F₄, N₄, hap₄, X₄, J₄⟩
      | true =>
      refine wpAny_mono h₆ (fun y s₄ h₄ => ?_) fun _ _ e => e
      obtain ⟨m', led', F₄, N₄, NT, hap₄, X₄, J₄⟩ := h₄
      have hst₄ : St (i + 1) s₄.heap := W.frame _ _ _ hst₃ (tailIn_keeps F₃ F₄ NT)
      have N₄' : News b₁ H2.objs.size s₄.heap ((s₂.heap.objs.size, listObj ys c) :: (led' ++ tailIn b₁ s₄.heap fp)) := fun q hq => by
        rw [← List.cons_append] at hq
        rcases List.mem_append.mp hq with hq | hq
        · exact N₄ q hq
        · exact tailIn_news hCf q hq
      refine append_led F₄ N₄' (fun q hq => ?_) (by omega) fun h₅ F₅ N₅ => ?_
      · rcases List.mem_append.mp hq with hq | hq
        · exact (hap₄ q hq).2
        · exact fun e => hDf (e ▸ (mem_tailIn.mp (show (q.1, q.2) ∈ _ from hq)).1)
      refine ⟨n + 1 - (i + 1), by omega, i + 1, m', ys ++ [y], c + 1, led', rfl, hlt, by simp; omega, ?_, F₅, fun q hq => N₅ q ?_, hap₄, X₄.step, J₄⟩
      · exact W.frame _ _ _ hst₄ (tailIn_keeps F₄ F₅ fun q hq => N₅ q (.tail _ (List.mem_append_right _ hq)))
      · rcases List.mem_cons.mp hq with rfl | hq
        · exact .head _
        · exact .tail _ (List.mem_append_left _ hq)
    · obtain rfl : i = n := Nat.le_antisymm hi (Nat.not_lt.mp hlt)
      refine W.done _ _ _ hst' fun h₂ tk₂ k₂ => ?_
      exact done _ _ _ m ys c led J' hyl hap (Nat.le_refl _) hCle hDC X'.step (up F' k₂) fun q hq => ⟨k₂ _ _ (apw q hq) (N' q hq).1, (N' q hq).2⟩
  exact codeAny_compStart_list (loop _ rfl) (W.self 0 _ _ _ hst₁ (loop _ rfl))
end
end Mine
-- part MLaw4
namespace Mine
local macro_rules | `(tactic| walk_at "eval Name") => `(tactic| (refine gName_bi (by assumption) (by assumption) (by first | exact Boot.enumerate | exact Boot.len | exact Boot.range | exact Boot.zip | exact Boot.sum | exact Boot.list | exact Boot.ValueError) ?_))
local macro_rules | `(tactic| walk_at "eval Name") => `(tactic| (refine gName_fn (by assumption) (by assumption) (by assumption) ?_))
local macro_rules | `(tactic| walk_at "eval Name") => `(tactic| (refine gName_cell (by assumption) (by assumption) ?_))
local macro_rules | `(tactic| walk_at "eval Name") => `(tactic| (name_kind "local"; refine gName_loc (by assumption) (by rfl) ?_))
local macro_rules | `(tactic| walk_at "eval Name") => `(tactic| (name_kind "cell"; refine gName_cellH (by assumption) ?_))
local macro_rules | `(tactic| walk_at "call builtin:list.append") => `(tactic| (refine append_led (by assumption) (by assumption) (by assumption) (by omega) ?_; intro _ _ _))
local macro_rules | `(tactic| walk_at "W") => `(tactic| repeat ((fail_if_success (with_reducible show wpAny _ _ (exec (Stmt.Assign _ (Expr.ListComp _ _ _ _) _) _) _ _ _)); (fail_if_success (with_reducible show wpAny _ _ (eval (Expr.ListComp _ _ _ _) _) _ _ _)); (fail_if_success (with_reducible show wpAny _ _ (exec (Stmt.For _ _ _ _ _) _) _ _ _)); walk1))
section
variable {prog : Program} {w : World} {A : Around} {s : Shared} {fa f1 f2 f3 f5 f6 f8 f9 f10 : Addr} {cd c1 c2 c3 c5 c6 c8 c9 c10 : Value} {mg mb : Str → Option Value}
def rowsBody : List Stmt := forBody (fnParts 11).2.1
def rowBody : List Stmt := forBody rowsBody
/-- the endings so far that the state takes -/
def rowTo (es : List Str) (st : Option MState) (i : Nat) : List Str := (es.take i).filter fun e => due (reachF st e.cps.toList)
def RowJ (h₀ : Heap) (R : Addr) (mF : Str → Option Value) (es : List Str) (st : Option MState) (tl : List (Addr × Obj)) (i : Nat) (m : Str → Option Value) (led : List (Addr × Obj)) : Prop :=
  ∃ vs n, led = (R, listObj vs n) :: tl ∧ (∀ z, z ≠ Str.ofString "ending" → z ≠ Str.ofString "stands" → z ≠ Str.ofString "due" → m z = mF z) ∧ AreK (strKey h₀) vs (rowTo es st i) ∧ vs.length ≤ i
theorem rowTo_step {es : List Str} {st : Option MState} {i : Nat} {e : Str} (he : es[i]? = some e) : rowTo es st (i + 1) = rowTo es st i ++ (if due (reachF st e.cps.toList) = true then [e] else []) := by
  unfold rowTo
  rw [take_succ_filter _ _ _ _ he]
theorem row_close {s₀ s₂ : Shared} {h₀ : Heap} {L R : Addr} {mF m' : Str → Option Value} {es : List Str} {st : Option MState} {tl tl2 : List (Addr × Obj)} {i I : Nat} {e : Str} {vs : List Value} {n : Nat} (he : es[i]? = some e) (F : Fr h₀ L s₂.heap m') (N : News h₀ L s₂.heap ((R, listObj vs n) :: (tl ++ tl2)))
    (hap : ∀ q ∈ (R, listObj vs n) :: tl, q.1 ≠ I) (X : Gx s₀ s₂) (hm : ∀ z, z ≠ Str.ofString "ending" → z ≠ Str.ofString "stands" → z ≠ Str.ofString "due" → m' z = mF z) (hA : AreK (strKey h₀) vs (rowTo es st i ++ (if due (reachF st e.cps.toList) = true then [e] else []))) (hl : vs.length ≤ i + 1) :
    TurnW h₀ L [I] tl2 (RowJ h₀ R mF es st tl (i + 1)) s₀ s₂ := by
  refine ⟨m', (R, listObj vs n) :: tl, F, fun q hq => N q ?_, fun q hq => N q (.tail _ (List.mem_append_right _ hq)), fun q hq z => hap q hq (List.mem_singleton.mp z), X, vs, n, rfl, hm, ?_, hl⟩
  · rw [← List.cons_append]; exact List.mem_append_left _ hq
  · rw [rowTo_step he]; exact hA
set_option maxHeartbeats 400000 in
theorem row_loop {s₀ : Shared} {h₀ : Heap} {L R le : Addr} {px : Pos} {mF : Str → Option Value} {x : Str} {tx : Tok} {sv : Value} {st : Option MState} {evs : List Value} {ne : Nat} {es : List Str} {tl : List (Addr × Obj)} {Q : Flow → Shared → Prop} {rn : Nat}
    (hh : A.handled = none) (hroom : A.depth + 40 < recursionLimit) (hu : A.units + 400 < cLine) (G : Gd mg mb h₀) (X : Fns mg h₀ f1 f2 f3 f5 f6 f8 f9 f10 c1 c2 c3 c5 c6 c8 c9 c10)
    (hle : s.heap.get? le = some (listObj evs ne)) (hlL : le ≠ L) (hlR : le ≠ R) (hk : AreK (strKey h₀) evs es) (hxl : x.cps.size ≤ 100) (hes : ∀ e ∈ es, e.cps.size ≤ 100) (hel : evs.length ≤ 1000)
    (hst : ∀ h, Held tl h → stateKey h sv st) (hplain : ∀ e ∈ es, chkStr (x ++ e) = due (reachF st e.cps.toList))
    (hmR : mF (Str.ofString "row") = some (.ref R)) (hmx : mF (Str.ofString "start") = some (.str x tx)) (hms : mF (Str.ofString "state") = some sv)
    (F : Fr h₀ L s.heap mF) (N : News h₀ L s.heap ((R, listObj [] rn) :: tl)) (htl : ∀ q ∈ tl, q.1 ≠ R) (Xg : Gx s₀ s)
    (h : ∀ s₁ m vs' n', Gx s₀ s₁ → Fr h₀ L s₁.heap m → (∀ z, z ≠ Str.ofString "ending" → z ≠ Str.ofString "stands" → z ≠ Str.ofString "due" → m z = mF z) → News h₀ L s₁.heap ((R, listObj vs' n') :: tl) → AreK (strKey h₀) vs' (es.filter fun e => due (reachF st e.cps.toList)) → vs'.length ≤ evs.length → Q .next s₁) :
    wpAny (model prog w) A (pyIter (.ref le)) (fun it s₂ => codeAny (model prog w) A (.forLoop (.Name "ending" px) it rowBody [] (envOfC "law" (fnParts 11).2.2 L fa cd)) (fun r s' => match r with
      | .ok f => Q f s'
      | .error e => cameBackBy (model prog w) A (envOfC "law" (fnParts 11).2.2 L fa cd) (fun _ _ => False) e s') s₂) (fun _ _ => False) s := by
  refine listForG (s₀ := s₀) hh hle hlL rfl rfl rfl (RowJ h₀ R mF es st tl) F N Xg ⟨_, _, rfl, fun _ _ _ _ => rfl, .nil, Nat.le_refl _⟩ ?_ ?_
  · rintro i v s₁ m led tl2 hv ⟨vs₁, n₁, rfl, hm, hA₁, hl₁⟩ hap htl2 hin X₁ F₁ N₁
    obtain ⟨e, he, ⟨te, rfl⟩⟩ := hk.get hv
    have hem : e ∈ es := List.mem_of_getElem? he
    have hel' : e.cps.size ≤ 100 := hes e hem
    have hib : i < evs.length := by
      rcases Nat.lt_or_ge i evs.length with q | q
      · exact q
      · rw [List.getElem?_eq_none q] at hv; cases hv
    have F₂ := Fr.map2 (a := Str.ofString "row") (b := Str.ofString "start") F₁ (va := .ref R) (vb := .str x tx) (by rw [if_neg (by decide)]; exact (hm _ (by decide) (by decide) (by decide)).trans hmR) (by rw [if_neg (by decide)]; exact (hm _ (by decide) (by decide) (by decide)).trans hmx)
    have F₃ := Fr.map1 (a := Str.ofString "state") F₂ (va := sv) (by rw [if_neg (by decide), if_neg (by decide), if_neg (by decide)]; exact (hm _ (by decide) (by decide) (by decide)).trans hms)
    have N₂ : News h₀ L s₁.heap ((R, listObj vs₁ n₁) :: (tl ++ tl2)) := N₁
    have htl' : ∀ q ∈ tl ++ tl2, q.1 ≠ R := fun q hq => by
      rcases List.mem_append.mp hq with hq | hq
      · exact htl q hq
      · rcases htl2 q hq with z | z
        · rw [z]; exact fun e => hap _ (.head _) e.symm
        · rw [z]; exact hlR
    have x9 := X.f9
    obtain ⟨o9, pm9, doc9, ho9, hd9⟩ := id x9.obj
    have x3 := X.f3
    obtain ⟨o3, pm3, doc3, ho3, hd3⟩ := id x3.obj
    have hstk : stateKey s₁.heap sv st := hst _ fun q hq => (N₂ q (.tail _ (List.mem_append_left _ hq))).1
    clear F₁ F₂ N₁
    walk_at "W"
    refine reached_spec (st₀ := st) hh (by omega) (by omega) (by omega) (G.keeps F₃.keep) (x9.keeps F₃.keep) hstk fun s₄ v X₄ hkey hv' => ?_
    have F₄ := Fr.up F₃ X₄.keep
    have N₄ := News.up N₂ X₄.keep
    have X4 : Gx s₀ s₄ := X₁.trans X₄.gx
    clear F₃ N₂
    cases hre : reachF st e.cps.toList with
    | none =>
      rw [hre] at hkey
      cases hkey
      walk_at "W"
      (rename Fr _ _ _ _ => F₅); (rename News _ _ _ _ => N₅)
      have hle' : (x ++ e).cps.size ≤ 1000 := by
        show (x ++ e).length ≤ 1000
        rw [Str.length_append]; show x.cps.size + e.cps.size ≤ 1000; omega
      refine check_spec hh (by omega) (by omega) hle' (G.keeps F₅.keep) (X.f3.keeps F₅.keep) (X.f2.keeps F₅.keep) (X.f1.keeps F₅.keep) fun s₆ X₆ => ?_
      have F₆ := Fr.up F₅ X₆.keep
      have N₆ := News.up N₅ X₆.keep
      rw [hplain e hem, hre]
      clear F₅ N₅
      walk_at "W"
      refine row_close he F₆ N₆ (fun q hq => ?_) (X4.step.trans X₆.gx) ?_ (by rw [hre, if_neg (by decide), List.append_nil]; exact hA₁) (by omega)
      · exact hap q hq
      · intro z h1 h2 h3
        rw [if_neg h3, if_neg h2]
        by_cases e1 : z = Str.ofString "state"
        · rw [if_pos e1, e1, hms]
        rw [if_neg e1]
        by_cases e2 : z = Str.ofString "row"
        · rw [if_pos e2, e2, hmR]
        rw [if_neg e2]
        by_cases e3 : z = Str.ofString "start"
        · rw [if_pos e3, e3, hmx]
        rw [if_neg e3, if_neg h1]
        exact hm z h1 h2 h3
    | some p =>
      obtain ⟨mk, d, inn, wt⟩ := p
      rw [hre] at hkey
      obtain ⟨T, td, ti, rfl, hT⟩ := hkey
      have FL := F₄.ns
      walk_at "W"
      (rename Fr _ _ _ _ => F₅); (rename News _ _ _ _ => N₅); (rename Heap.SameBut _ _ _ => hs₅)
      have hTL : T ≠ L := fun q => by
        obtain ⟨oL, es', ep', hL', hd', _⟩ := FL
        rw [← q, hT] at hL'
        cases hL'
        cases hd'
      have hT5 := hs₅.extBut _ _ hTL hT
      refine item_tuple (j := 2) ⟨_, hT5, rfl, _, rfl⟩ (by decide) (by decide) rfl rfl ?_
      walk1
      show wpAny _ _ (compareOp .Eq (.int inn ti) _) _ _ _
      clear FL hs₅
      walk1
      have hle' : (x ++ e).cps.size ≤ 1000 := by
        show (x ++ e).length ≤ 1000
        rw [Str.length_append]; show x.cps.size + e.cps.size ≤ 1000; omega
      have hmm : ∀ v z, z ≠ Str.ofString "ending" → z ≠ Str.ofString "stands" → z ≠ Str.ofString "due" → (if z = Str.ofString "due" then some (Value.bool v) else if z = Str.ofString "stands" then some (Value.ref T) else if z = Str.ofString "state" then some sv else if z = Str.ofString "row" then some (Value.ref R) else if z = Str.ofString "start" then some (Value.str x tx) else if z = Str.ofString "ending" then some (Value.str e te) else m z) = mF z := by
        intro v z h1 h2 h3
        rw [if_neg h3, if_neg h2]
        by_cases e1 : z = Str.ofString "state"
        · rw [if_pos e1, e1, hms]
        rw [if_neg e1]
        by_cases e2 : z = Str.ofString "row"
        · rw [if_pos e2, e2, hmR]
        rw [if_neg e2]
        by_cases e3 : z = Str.ofString "start"
        · rw [if_pos e3, e3, hmx]
        rw [if_neg e3, if_neg h1]
        exact hm z h1 h2 h3
      cases hb : (inn == 0)
      · have hdue : due (some (mk, d, inn, wt)) = false := by show decide (inn = 0) = false; exact decide_eq_false (by simpa using hb)
        walk_at "W"
        (rename Fr _ _ _ _ => F₆); (rename News _ _ _ _ => N₆)
        refine check_spec hh (by omega) (by omega) hle' (G.keeps F₆.keep) (X.f3.keeps F₆.keep) (X.f2.keeps F₆.keep) (X.f1.keeps F₆.keep) fun s₇ X₇ => ?_
        have F₇ := Fr.up F₆ X₇.keep
        have N₇ := News.up N₆ X₇.keep
        rw [hplain e hem, hre, hdue]
        clear F₆ N₆
        walk_at "W"
        exact row_close he F₇ N₇ hap (X4.step.trans X₇.gx) (hmm _) (by rw [hre, hdue, if_neg (by decide), List.append_nil]; exact hA₁) (by omega)
      · have hdue : due (some (mk, d, inn, wt)) = true := by show decide (inn = 0) = true; exact decide_eq_true (by simpa using hb)
        walk_at "W"
        (rename Fr _ _ _ _ => F₆); (rename News _ _ _ _ => N₆)
        refine check_spec hh (by omega) (by omega) hle' (G.keeps F₆.keep) (X.f3.keeps F₆.keep) (X.f2.keeps F₆.keep) (X.f1.keeps F₆.keep) fun s₇ X₇ => ?_
        have F₇ := Fr.up F₆ X₇.keep
        have N₇ := News.up N₆ X₇.keep
        rw [hplain e hem, hre, hdue]
        clear F₆ N₆
        have hvl : vs₁.length ≤ 10000 := by omega
        walk_at "W"
        (rename Fr _ _ _ _ => F₈); (rename News _ _ _ _ => N₈)
        exact row_close he F₈ N₈ (fun q hq => by
          rcases List.mem_cons.mp hq with rfl | hq
          · exact hap (R, listObj vs₁ n₁) (.head _)
          · exact hap q (.tail _ hq)) ((X4.step.trans X₇.gx).step) (hmm _) (by rw [hre, hdue, if_pos rfl]; exact hA₁.snoc ⟨_, rfl⟩) (by simp; omega)
  · rintro s₁ m led ⟨vs₁, n₁, rfl, hm, hA₁, hl₁⟩ hap X₁ F₁ N₁
    refine h s₁ m vs₁ n₁ X₁ F₁ hm N₁ ?_ hl₁
    unfold rowTo at hA₁
    rwa [show es.take evs.length = es from List.take_of_length_le (by rw [hk.len]; exact Nat.le_refl _)] at hA₁
end
end Mine
-- part MLaw5
namespace Mine
local macro_rules | `(tactic| walk_at "eval Name") => `(tactic| (refine gName_bi (by assumption) (by assumption) (by first | exact Boot.enumerate | exact Boot.len | exact Boot.range | exact Boot.zip | exact Boot.sum | exact Boot.list | exact Boot.ValueError) ?_))
local macro_rules | `(tactic| walk_at "eval Name") => `(tactic| (refine gName_fn (by assumption) (by assumption) (by assumption) ?_))
local macro_rules | `(tactic| walk_at "eval Name") => `(tactic| (refine gName_cell (by assumption) (by assumption) ?_))
local macro_rules | `(tactic| walk_at "eval Name") => `(tactic| (name_kind "local"; refine gName_loc (by assumption) (by rfl) ?_))
local macro_rules | `(tactic| walk_at "eval Name") => `(tactic| (name_kind "cell"; refine gName_cellH (by assumption) ?_))
local macro_rules | `(tactic| walk_at "call builtin:list.append") => `(tactic| (refine append_led (by assumption) (by assumption) (by assumption) (by omega) ?_; intro _ _ _))
local macro_rules | `(tactic| walk_at "W") => `(tactic| repeat ((fail_if_success (with_reducible show wpAny _ _ (exec (Stmt.Assign _ (Expr.ListComp _ _ _ _) _) _) _ _ _)); (fail_if_success (with_reducible show wpAny _ _ (eval (Expr.ListComp _ _ _ _) _) _ _ _)); (fail_if_success (with_reducible show wpAny _ _ (exec (Stmt.For _ _ _ _ _) _) _ _ _)); walk1))
section
variable {prog : Program} {w : World} {A : Around} {s : Shared} {fa f1 f2 f3 f5 f6 f8 f9 f10 : Addr} {cd c1 c2 c3 c5 c6 c8 c9 c10 : Value} {mg mb : Str → Option Value}
def RowsJ (Rw DE : Addr) (sts : List (Option MState)) (base : List (Addr × Obj)) (i : Nat) (m : Str → Option Value) (led : List (Addr × Obj)) : Prop :=
  ∃ rvs n rl, led = (Rw, listObj rvs n) :: (rl ++ base) ∧ m (Str.ofString "endings") = some (.ref DE) ∧ m (Str.ofString "rows") = some (.ref Rw) ∧ (∀ q ∈ rl, q.1 ≠ Rw) ∧ (∀ h, Held rl h → AreK (rowKey h) rvs ((sts.take i).map (rowF sts))) ∧ rvs.length ≤ i
set_option maxHeartbeats 400000 in
theorem rows_loop {s₀ : Shared} {h₀ : Heap} {L Rw DS DT DE cT : Addr} {mF : Str → Option Value} {oT : Obj} {base : List (Addr × Obj)} {svs tvs evs : List Value} {ns nt ne rn : Nat} {xs : List Str} {sts : List (Option MState)} {Q : Flow → Shared → Prop}
    (hh : A.handled = none) (hroom : A.depth + 40 < recursionLimit) (hu : A.units + 400 < cLine) (hcT : cT = L + 1 + 1) (G : Gd mg mb h₀) (X : Fns mg h₀ f1 f2 f3 f5 f6 f8 f9 f10 c1 c2 c3 c5 c6 c8 c9 c10)
    (hmS : mF (Str.ofString "starts") = some (.ref DS)) (hmE : mF (Str.ofString "endings") = some (.ref DE)) (hmR : mF (Str.ofString "rows") = some (.ref Rw))
    (hS : (DS, listObj svs ns) ∈ base) (hT : (DT, listObj tvs nt) ∈ base) (hE : (DE, listObj evs ne) ∈ base) (hcm : (cT, oT) ∈ base) (hoT : oT.data = .cell (some (.ref DT)))
    (hks : AreK (strKey h₀) svs xs) (hkt : ∀ h, Held base h → AreK (stateKey h) tvs sts) (hke : AreK (strKey h₀) evs (endsF sts)) (hlen : xs.length = sts.length) (hl5 : sts.length ≤ 5) (hel : evs.length ≤ 1000)
    (hxl : ∀ x ∈ xs, x.cps.size ≤ 100) (hes : ∀ e ∈ endsF sts, e.cps.size ≤ 100) (hplain : ∀ (i : Nat) x st, xs[i]? = some x → sts[i]? = some st → ∀ e ∈ endsF sts, chkStr (x ++ e) = due (reachF st e.cps.toList))
    (F : Fr h₀ L s.heap mF) (N : News h₀ L s.heap ((Rw, listObj [] rn) :: base)) (hbR : ∀ q ∈ base, q.1 ≠ Rw) (Xg : Gx s₀ s)
    (h : ∀ s₁ m rvs n rl, Gx s₀ s₁ → Fr h₀ L s₁.heap m → m (Str.ofString "rows") = some (.ref Rw) → News h₀ L s₁.heap ((Rw, listObj rvs n) :: (rl ++ base)) → (∀ q ∈ rl ++ base, q.1 ≠ Rw) → (∀ h, Held rl h → AreK (rowKey h) rvs (sts.map (rowF sts))) → Q .next s₁) :
    wpAny (model prog w) A (exec (stmtAt 11 5) (envOfC "law" (fnParts 11).2.2 L fa cd)) Q (fun _ _ => False) s := by
  subst hcT
  have hcell : s.heap.IsCell (L + 1 + 1) (some (.ref DT)) := ⟨oT, (N _ (.tail _ hcm)).1, hoT⟩
  have F' := Fr.map1 (a := Str.ofString "starts") F hmS
  show wpAny _ _ (exec (.For _ _ _ _ _) _) _ _ _
  refine wpAny_For ?_
  walk_at "W"
  have hRlt : Rw < s.heap.objs.size := Heap.lt_size (N _ (.head _)).1
  have hheld : ∀ {h : Heap} {l : List (Addr × Obj)}, News h₀ L h l → (∀ q ∈ base, q ∈ l) → Held base h := fun N' hs q hq => (N' q (hs q hq)).1
  refine zipFor (s₀ := s₀) hh (N _ (.tail _ hS)).1 (N _ (.tail _ hT)).1 (N _ (.tail _ hS)).2.1 (N _ (.tail _ hT)).2.1 (by rw [hks.len, (hkt s.heap fun q hq => (N q (.tail _ hq)).1).len, hlen]) rfl rfl rfl rfl (RowsJ Rw DE sts base) F N Xg ⟨[], rn, [], rfl, hmE, hmR, (fun q hq => nomatch hq), (fun h _ => .nil), Nat.le_refl _⟩ ?_ ?_
  · rintro i v u s₁ m led tl hv hu' ⟨rvs, n, rl, rfl, hmE₁, hmR₁, hrlR, hrk, hrl⟩ hap htl X₁ F₁ N₁ hsz
    obtain ⟨x, hx, ⟨tx, rfl⟩⟩ := hks.get hv
    obtain ⟨st, hst, -⟩ := (hkt s.heap fun q hq => (N q (.tail _ hq)).1).get hu'
    have F₂ := Fr.map2 (a := Str.ofString "endings") (b := Str.ofString "rows") F₁ (va := .ref DE) (vb := .ref Rw) (by rw [if_neg (by decide), if_neg (by decide)]; exact hmE₁) (by rw [if_neg (by decide), if_neg (by decide)]; exact hmR₁)
    have N₂ : News h₀ L s₁.heap ((Rw, listObj rvs n) :: ((rl ++ base) ++ tl)) := N₁
    have hib : i < 5 := by
      have : i < sts.length := by
        rcases Nat.lt_or_ge i sts.length with q | q
        · exact q
        · rw [List.getElem?_eq_none q] at hst; cases hst
      omega
    clear F₁ N₁ F' F
    walk_at "W"
    refine wpAny_For ?_
    walk_at "W"
    (rename Fr _ _ _ _ => F₃); (rename News _ _ _ _ => N₃)
    have hEb : (DE, listObj evs ne) ∈ (Rw, listObj rvs n) :: (rl ++ base ++ tl) := .tail _ (List.mem_append_left _ (List.mem_append_right _ hE))
    have lt₁ : ∀ q ∈ (Rw, listObj rvs n) :: (rl ++ base ++ tl), q.1 < s₁.heap.objs.size := fun q hq => Heap.lt_size (N₂ q hq).1
    have hstk : ∀ h, Held ((Rw, listObj rvs n) :: (rl ++ base ++ tl)) h → stateKey h u st := fun h hH => by
      obtain ⟨k, hk1, hk2⟩ := (hkt h fun q hq => hH q (.tail _ (List.mem_append_left _ (List.mem_append_right _ hq)))).get hu'
      rw [hst] at hk1
      cases hk1
      exact hk2
    refine row_loop (s₀ := s₀) (R := s₁.heap.objs.size) (rn := 0) (st := st) (x := x) (tx := tx) (sv := u) (es := endsF sts) hh hroom hu G X (N₃ _ (.tail _ hEb)).1 (N₃ _ (.tail _ hEb)).2.1 (Nat.ne_of_lt (lt₁ _ hEb)) hke (hxl x (List.mem_of_getElem? hx)) hes hel hstk (hplain i x st hx hst) rfl rfl rfl F₃ N₃ (fun q hq => Nat.ne_of_lt (lt₁ q hq)) X₁.step fun s₄ m₄ vs' n' X₄ F₄ hm₄ N₄ hA₄ hl₄ => ?_
    have F₅ := Fr.map2 (a := Str.ofString "rows") (b := Str.ofString "row") F₄ (va := .ref Rw) (vb := .ref s₁.heap.objs.size) (hm₄ _ (by decide) (by decide) (by decide)) (hm₄ _ (by decide) (by decide) (by decide))
    have N₅ : News h₀ L s₄.heap ((Rw, listObj rvs n) :: ((s₁.heap.objs.size, listObj vs' n') :: (rl ++ base ++ tl))) := fun q hq => by
      rcases List.mem_cons.mp hq with rfl | hq
      · exact N₄ _ (.tail _ (.head _))
      · rcases List.mem_cons.mp hq with rfl | hq
        · exact N₄ _ (.head _)
        · exact N₄ _ (.tail _ (.tail _ hq))
    have hne5 : ∀ q ∈ (s₁.heap.objs.size, listObj vs' n') :: (rl ++ base ++ tl), q.1 ≠ Rw := fun q hq => by
      rcases List.mem_cons.mp hq with rfl | hq
      · exact Nat.ne_of_gt (lt₁ _ (.head _))
      · rcases List.mem_append.mp hq with hq | hq
        · rcases List.mem_append.mp hq with hq | hq
          · exact hrlR q hq
          · exact hbR q hq
        · rcases htl q hq with z | z | z
          · exact Nat.ne_of_gt (Nat.lt_of_lt_of_le hRlt z.1)
          · rw [z]; exact hbR _ hS
          · rw [z]; exact hbR _ hT
    have hrv : rvs.length ≤ 10000 := by omega
    clear F₃ N₃ F₂ N₂ F₄ N₄
    dsimp only
    walk_at "W"
    (rename Fr _ _ _ _ => F₆); (rename News _ _ _ _ => N₆)
    refine ⟨_, (Rw, listObj (rvs ++ [.ref s₁.heap.objs.size]) (n + 1)) :: (((s₁.heap.objs.size, listObj vs' n') :: rl) ++ base), F₆, fun q hq => N₆ q ?_, fun q hq => N₆ q (.tail _ (.tail _ (List.mem_append_right _ hq))), fun q hq => ?_, X₄.step, rvs ++ [.ref s₁.heap.objs.size], n + 1, (s₁.heap.objs.size, listObj vs' n') :: rl, rfl, ?_, rfl, fun q hq => ?_, fun h hH => ?_, ?_⟩
    · rcases List.mem_cons.mp hq with rfl | hq
      · exact .head _
      · rcases List.mem_cons.mp hq with rfl | hq
        · exact .tail _ (.head _)
        · exact .tail _ (.tail _ (List.mem_append_left _ hq))
    · rcases List.mem_cons.mp hq with rfl | hq
      · exact .inl hRlt
      · rcases List.mem_cons.mp hq with rfl | hq
        · exact .inr hsz
        · exact hap q (.tail _ hq)
    · dsimp only
      rw [if_neg (by decide), if_neg (by decide)]
      exact hm₄ _ (by decide) (by decide) (by decide)
    · rcases List.mem_cons.mp hq with rfl | hq
      · exact Nat.ne_of_gt (lt₁ _ (.head _))
      · exact hrlR q hq
    · rw [List.take_add_one, hst, List.map_append]
      exact (hrk h fun q hq => hH q (.tail _ hq)).snoc ⟨_, vs', n', rfl, hH _ (.head _), hA₄.mono fun v k q => q⟩
    · simp; omega
  · rintro s₁ m led ⟨rvs, n, rl, rfl, hmE₁, hmR₁, hrlR, hrk, hrl⟩ X₁ F₁ N₁
    refine h s₁ m rvs n rl X₁ F₁ hmR₁ N₁ (fun q hq => ?_) ?_
    · rcases List.mem_append.mp hq with hq | hq
      · exact hrlR q hq
      · exact hbR q hq
    · rwa [show sts.take svs.length = sts from List.take_of_length_le (by rw [hks.len, hlen]; exact Nat.le_refl _)] at hrk
end
end Mine
-- part MLaw6
namespace Mine
local macro_rules | `(tactic| walk_at "eval Name") => `(tactic| (refine gName_bi (by assumption) (by assumption) (by first | exact Boot.enumerate | exact Boot.len | exact Boot.range | exact Boot.zip | exact Boot.sum | exact Boot.list | exact Boot.ValueError) ?_))
local macro_rules | `(tactic| walk_at "eval Name") => `(tactic| (refine gName_fn (by assumption) (by assumption) (by assumption) ?_))
local macro_rules | `(tactic| walk_at "eval Name") => `(tactic| (refine gName_cell (by assumption) (by assumption) ?_))
local macro_rules | `(tactic| walk_at "eval Name") => `(tactic| (name_kind "local"; refine gName_loc (by assumption) (by rfl) ?_))
local macro_rules | `(tactic| walk_at "eval Name") => `(tactic| (name_kind "cell"; refine gName_cellH (by assumption) ?_))
local macro_rules | `(tactic| walk_at "call builtin:list.append") => `(tactic| (refine append_led (by assumption) (by assumption) (by assumption) (by omega) ?_; intro _ _ _))
local macro_rules | `(tactic| walk_at "W") => `(tactic| repeat ((fail_if_success (with_reducible show wpAny _ _ (exec (Stmt.Assign _ (Expr.ListComp _ _ _ _) _) _) _ _ _)); (fail_if_success (with_reducible show wpAny _ _ (eval (Expr.ListComp _ _ _ _) _) _ _ _)); (fail_if_success (with_reducible show wpAny _ _ (exec (Stmt.For _ _ _ _ _) _) _ _ _)); walk1))
section
variable {prog : Program} {w : World} {A : Around} {E : Value → Shared → Prop} {s : Shared} {fa f5 f6 : Addr} {cd c5 c6 : Value} {mg mb : Str → Option Value}
theorem AreK.reverse {κ : Type} {R : Value → κ → Prop} {vs : List Value} {ks : List κ} (h : AreK R vs ks) : AreK R vs.reverse ks.reverse := by
  induction h with
  | nil => exact .nil
  | cons a _ ih => rw [List.reverse_cons, List.reverse_cons]; exact ih.snoc a
theorem state_eq {v u : Value} {k k' : Option MState} {Q : Value → Shared → Prop} (hu : A.units + 5 < cLine) (r : stateKey s.heap v k) (r' : stateKey s.heap u k') (h : Q (.bool (decide (k = k'))) s) : wpAny (model prog w) A (compareOp .Eq v u) Q E s := by
  obtain ⟨as, ra⟩ := stateKey_reads r
  obtain ⟨bs, rb⟩ := stateKey_reads r'
  rw [← encState_eqv] at h
  have hc : ∀ k : Option MState, (encState k).canLay0 = true := fun k => by cases k <;> rfl
  have hd : ∀ k : Option MState, (encState k).depth ≤ 1 := fun k => by cases k with
    | none => exact Nat.zero_le _
    | some p => exact Nat.le_refl _
  exact SeqAt.rcAt_reads ra rb (hc k) (hc k') (by have := hd k; omega) prog w E Q h
theorem compare_law {env : Env} {h₀ : Heap} {L l₁ l₂ : Addr} {m : Str → Option Value} {led : List (Addr × Obj)} {vs₁ vs₂ : List Value} {n₁ n₂ : Nat} {ks₁ ks₂ : List Str} {Q : Value → Shared → Prop} (hh : A.handled = none) (hroom : A.depth + 20 < recursionLimit) (hu : A.units + 200 < cLine) (hA : A.frames = some [env]) (hk : env.scope.kind ≠ .module) (hf : env.frame = some L)
    (G : Gd mg mb h₀) (fn : FnAt mg h₀ 6 "_compare_args_orderless" f6 c6) (fnD : FnAt mg h₀ 5 "_deduplicate_unhashable" f5 c5) (F : Fr h₀ L s.heap m) (N : News h₀ L s.heap led)
    (hl₁ : (l₁, listObj vs₁ n₁) ∈ led) (hl₂ : (l₂, listObj vs₂ n₂) ∈ led) (hk₁ : AreK (strKey h₀) vs₁ ks₁) (hk₂ : AreK (strKey h₀) vs₂ ks₂) (hz₁ : vs₁.length ≤ 5000) (hz₂ : vs₂.length ≤ 5000)
    (h : ∀ s', Gx s s' → Fr h₀ L s'.heap m → News h₀ L s'.heap led → Q (.bool (compF ks₁ ks₂)) s') :
    wpAny (model prog w) A (call (.ref f6) [.ref l₁, .ref l₂]) Q E s := by
  obtain ⟨oL, es, ep, hoL, hdL, hsk, hfind⟩ := F.ns
  have h0 : h₀.get? L = none := Heap.get?_none_of_le F.above
  refine compare_spec (hb := h₀) (L₀ := L) (oL := oL) (env := env) hh hroom hu hA ⟨hk, hf, ⟨es, ep, hdL⟩, trivial⟩ hoL h0 F.keep G fn fnD (N _ hl₁).1 (N _ hl₂).1 (hk₁.mono fun v k q => q) (hk₂.mono fun v k q => q) hz₁ hz₂ fun s' X' => ?_
  obtain ⟨sl, hsl⟩ := X'.fr
  exact h s' X'.gx ⟨⟨_, es, ep, hsl, hdL, hsk, hfind⟩, fun b o e => X'.keep b o (fun q => by rw [q, h0] at e; cases e) (F.keep b o e), F.above⟩ fun q hq => ⟨X'.keep _ _ (N q hq).2.1 (N q hq).1, (N q hq).2⟩

def pairBody : List Stmt := forBody ((fnParts 11).2.1.drop 6)
def innerStmt : Stmt := pairBody.getD 0 (.Pass default)
set_option maxHeartbeats 400000 in
theorem inner_loop {s₀ : Shared} {h₀ : Heap} {L Rw DT cT : Addr} {mF : Str → Option Value} {oT : Obj} {led : List (Addr × Obj)} {rvs tvs : List Value} {nr nt : Nat} {sts : List (Option MState)} {st : Option MState} {first one : Value} {Q : Flow → Shared → Prop}
    (hh : A.handled = none) (hroom : A.depth + 40 < recursionLimit) (hu : A.units + 400 < cLine) (hA : A.frames = some [envOfC "law" (fnParts 11).2.2 L fa cd]) (hcT : cT = L + 1 + 1) (G : Gd mg mb h₀) (x6 : FnAt mg h₀ 6 "_compare_args_orderless" f6 c6) (x5 : FnAt mg h₀ 5 "_deduplicate_unhashable" f5 c5)
    (hmR : mF (Str.ofString "rows") = some (.ref Rw)) (hmF : mF (Str.ofString "first") = some first) (hmO : mF (Str.ofString "one") = some one)
    (hR : (Rw, listObj rvs nr) ∈ led) (hT : (DT, listObj tvs nt) ∈ led) (hcm : (cT, oT) ∈ led) (hoT : oT.data = .cell (some (.ref DT)))
    (hks : ∀ h, Held led h → AreK (rowKey h) rvs (sts.map (rowF sts))) (hkt : ∀ h, Held led h → AreK (stateKey h) tvs sts) (hkf : ∀ h, Held led h → rowKey h first (rowF sts st)) (hko : ∀ h, Held led h → stateKey h one st) (hst : st ∈ sts) (h4 : ∀ s ∈ sts, s ∈ S4) (hrl : ∀ st ∈ sts, (rowF sts st).length ≤ 1000)
    (F : Fr h₀ L s.heap mF) (N : News h₀ L s.heap led) (Xg : Gx s₀ s)
    (h : ∀ s₁ m, Gx s₀ s₁ → Fr h₀ L s₁.heap m → m (Str.ofString "rows") = some (.ref Rw) → News h₀ L s₁.heap led → Q .next s₁) :
    wpAny (model prog w) A (exec innerStmt (envOfC "law" (fnParts 11).2.2 L fa cd)) Q (fun _ _ => False) s := by
  subst hcT
  have hcell : s.heap.IsCell (L + 1 + 1) (some (.ref DT)) := ⟨oT, (N _ hcm).1, hoT⟩
  have F' := Fr.map1 (a := Str.ofString "rows") F hmR
  show wpAny _ _ (exec (.For _ _ _ _ _) _) _ _ _
  refine wpAny_For ?_
  walk_at "W"
  have hH : Held led s.heap := fun q hq => (N q hq).1
  refine zipFor (s₀ := s₀) hh (N _ hR).1 (N _ hT).1 (N _ hR).2.1 (N _ hT).2.1 (by rw [(hks s.heap hH).len, (hkt s.heap hH).len, List.length_map]) rfl rfl rfl rfl (fun i m l => l = led ∧ m (Str.ofString "rows") = some (.ref Rw) ∧ m (Str.ofString "first") = some first ∧ m (Str.ofString "one") = some one) F N Xg ⟨rfl, hmR, hmF, hmO⟩ ?_ ?_
  · rintro i v u s₁ m led' tl hv hu' ⟨rfl, hmR₁, hmF₁, hmO₁⟩ hap htl X₁ F₁ N₁ hsz
    have hH₁ : Held led' s₁.heap := fun q hq => (N₁ q (List.mem_append_left _ hq)).1
    obtain ⟨k, hk, hkey⟩ := (hks _ hH₁).get hv
    obtain ⟨st', hst', hkey'⟩ := (hkt _ hH₁).get hu'
    rw [List.getElem?_map, hst'] at hk
    cases hk
    obtain ⟨l₂, _, _, rfl, _, _⟩ := hkey
    clear hkey'
    obtain ⟨lf, fvs, nf, rfl, hgf, hkf'⟩ := hkf _ hH₁
    have hfl : fvs.length ≤ 1000 := by rw [hkf'.len]; exact hrl _ hst
    have inL : ∀ q ∈ led', q ∈ led' ++ tl := fun q hq => List.mem_append_left _ hq
    have F₂ := Fr.map2 (a := Str.ofString "first") (b := Str.ofString "one") F₁ (va := .ref lf) (vb := one) (by rw [if_neg (by decide), if_neg (by decide)]; exact hmF₁) (by rw [if_neg (by decide), if_neg (by decide)]; exact hmO₁)
    clear F' F F₁
    obtain ⟨o6, pm6, doc6, ho6, hd6⟩ := id x6.obj
    walk_at "W"
    refine kmk_add_lit F₂ N₁ (its := fvs.toArray) (its2 := fvs.toArray) ⟨_, hgf, rfl, _, rfl⟩ ⟨_, hgf, rfl, _, rfl⟩ rfl (fun D₁ h₃ F₃ N₃ lt₃ => ?_) (by rw [sizeLine_eq]; simp; omega)
    have N₃' : News h₀ L h₃ ((D₁, listObj (fvs ++ fvs) 0) :: (led' ++ tl)) := N₃
    obtain ⟨k, hk, hkey⟩ := (hks h₃ fun q hq => (N₃ q (.tail _ (inL q hq))).1).get hv
    rw [List.getElem?_map, hst'] at hk
    cases hk
    obtain ⟨l₂', vs₂, n₂, e₂, hg₂, hk₂⟩ := hkey
    cases e₂
    have hv2 : vs₂.length ≤ 1000 := by rw [hk₂.len]; exact hrl _ (List.mem_of_getElem? hst')
    clear F₂ N₁ N₃
    walk_at "W"
    refine krv_lit (s := { s₁ with heap := h₃, toks := s₁.toks + 1 + 1 }) (its := vs₂.toArray) (zs := vs₂.reverse) F₃ N₃' ⟨_, hg₂, rfl, _, rfl⟩ (IsPart.int _ _) rfl (fun D₂ h₄ F₄ N₄ lt₄ => ?_) (by with_unfolding_all rfl) (by intro _; with_unfolding_all rfl) (by rw [List.size_toArray, sizeLine_eq]; omega)
    have N₄' : News h₀ L h₄ ((D₂, listObj vs₂.reverse 0) :: (D₁, listObj (fvs ++ fvs) 0) :: (led' ++ tl)) := N₄
    clear F₃ N₃' N₄
    walk_at "W"
    refine compare_law hh (by omega) (by omega) hA (show (fnParts 11).2.2.kind ≠ .module by decide) rfl G x6 x5 F₄ N₄' (.tail _ (.head _)) (.head _) (hkf'.append hkf') hk₂.reverse (by simp; omega) (by simp; omega) fun s₅ X₅ F₅ N₅ => ?_
    rw [comp_rows h4 hst (List.mem_of_getElem? hst')]
    clear F₄ N₄'
    walk_at "W"
    have hH₅ : Held led' s₅.heap := fun q hq => (N₅ q (.tail _ (.tail _ (inL q hq)))).1
    obtain ⟨k', hk', hkey'⟩ := (hkt _ hH₅).get hu'
    rw [hst'] at hk'
    cases hk'
    refine state_eq (by omega) (hko _ hH₅) hkey' ?_
    have fin : ∀ s₆ : Shared, s₆.heap = s₅.heap → Gx s₅ s₆ → TurnZ h₀ L s.heap.objs.size tl (fun m l => l = led' ∧ m (Str.ofString "rows") = some (Value.ref Rw) ∧ m (Str.ofString "first") = some (Value.ref lf) ∧ m (Str.ofString "one") = some one) s₀ s₆ := fun s₆ e X₆ => by
      refine ⟨_, led', e ▸ F₅, fun q hq => ?_, fun q hq => ?_, hap, ((X₁.step (h := h₄) (tk := s₁.toks + 1 + 1)).trans X₅).trans X₆, rfl, ?_, rfl, rfl⟩
      · rw [e]; exact N₅ q (.tail _ (.tail _ (inL q hq)))
      · rw [e]; exact N₅ q (.tail _ (.tail _ (List.mem_append_right _ hq)))
      · show (if _ then _ else _) = _
        rw [if_neg (by decide), if_neg (by decide), if_neg (by decide), if_neg (by decide)]; exact hmR₁
    cases decide (st = st')
    · walk_at "W"
      exact fin _ rfl Gx.step1
    · walk_at "W"
      exact fin _ rfl Gx.step1
  · rintro s₁ m led' ⟨rfl, hmR₁, hmF₁, hmO₁⟩ X₁ F₁ N₁
    exact h s₁ m X₁ F₁ hmR₁ N₁
set_option maxHeartbeats 400000 in
theorem pairs_loop {s₀ : Shared} {h₀ : Heap} {L Rw DT cT : Addr} {mF : Str → Option Value} {oT : Obj} {led : List (Addr × Obj)} {rvs tvs : List Value} {nr nt : Nat} {sts : List (Option MState)} {Q : Flow → Shared → Prop}
    (hh : A.handled = none) (hroom : A.depth + 40 < recursionLimit) (hu : A.units + 400 < cLine) (hA : A.frames = some [envOfC "law" (fnParts 11).2.2 L fa cd]) (hcT : cT = L + 1 + 1) (G : Gd mg mb h₀) (x6 : FnAt mg h₀ 6 "_compare_args_orderless" f6 c6) (x5 : FnAt mg h₀ 5 "_deduplicate_unhashable" f5 c5)
    (hmR : mF (Str.ofString "rows") = some (.ref Rw))
    (hR : (Rw, listObj rvs nr) ∈ led) (hT : (DT, listObj tvs nt) ∈ led) (hcm : (cT, oT) ∈ led) (hoT : oT.data = .cell (some (.ref DT)))
    (hks : ∀ h, Held led h → AreK (rowKey h) rvs (sts.map (rowF sts))) (hkt : ∀ h, Held led h → AreK (stateKey h) tvs sts) (h4 : ∀ s ∈ sts, s ∈ S4) (hrl : ∀ st ∈ sts, (rowF sts st).length ≤ 1000)
    (F : Fr h₀ L s.heap mF) (N : News h₀ L s.heap led) (Xg : Gx s₀ s)
    (h : ∀ s₁ m, Gx s₀ s₁ → Fr h₀ L s₁.heap m → m (Str.ofString "rows") = some (.ref Rw) → News h₀ L s₁.heap led → Q .next s₁) :
    wpAny (model prog w) A (exec (stmtAt 11 6) (envOfC "law" (fnParts 11).2.2 L fa cd)) Q (fun _ _ => False) s := by
  have hcell : s.heap.IsCell (L + 1 + 1) (some (.ref DT)) := hcT ▸ ⟨oT, (N _ hcm).1, hoT⟩
  have F' := Fr.map1 (a := Str.ofString "rows") F hmR
  show wpAny _ _ (exec (.For _ _ _ _ _) _) _ _ _
  refine wpAny_For ?_
  walk_at "W"
  have hH : Held led s.heap := fun q hq => (N q hq).1
  refine zipFor (s₀ := s₀) hh (N _ hR).1 (N _ hT).1 (N _ hR).2.1 (N _ hT).2.1 (by rw [(hks s.heap hH).len, (hkt s.heap hH).len, List.length_map]) rfl rfl rfl rfl (fun i m l => l = led ∧ m (Str.ofString "rows") = some (.ref Rw)) F N Xg ⟨rfl, hmR⟩ ?_ ?_
  · rintro i v u s₁ m led' tl hv hu' ⟨rfl, hmR₁⟩ hap htl X₁ F₁ N₁ hsz
    have inL : ∀ {h : Heap}, Held (led' ++ tl) h → Held led' h := fun H q hq => H q (List.mem_append_left _ hq)
    obtain ⟨st, hst, -⟩ := (hkt s.heap hH).get hu'
    refine wpAny_execs_cons ?_
    refine inner_loop (s₀ := s₀) (led := led' ++ tl) (st := st) (first := v) (one := u) hh hroom hu hA hcT G x6 x5 ?_ rfl rfl (List.mem_append_left _ hR) (List.mem_append_left _ hT) (List.mem_append_left _ hcm) hoT (fun h hH => hks h (inL hH)) (fun h hH => hkt h (inL hH)) (fun h hH => ?_) (fun h hH => ?_) (List.mem_of_getElem? hst) h4 hrl F₁ N₁ X₁ fun s₂ m₂ X₂ F₂ hm₂ N₂ => ?_
    · rw [if_neg (by decide), if_neg (by decide)]; exact hmR₁
    · obtain ⟨k, hk, hkey⟩ := (hks h (inL hH)).get hv
      rw [List.getElem?_map, hst] at hk
      cases hk
      exact hkey
    · obtain ⟨k, hk, hkey⟩ := (hkt h (inL hH)).get hu'
      rw [hst] at hk
      cases hk
      exact hkey
    · dsimp only
      refine wpAny_execs_nil ?_
      exact ⟨m₂, led', F₂, fun q hq => N₂ q (List.mem_append_left _ hq), fun q hq => N₂ q (List.mem_append_right _ hq), hap, X₂, rfl, hm₂⟩
  · rintro s₁ m led' ⟨rfl, hmR₁⟩ X₁ F₁ N₁
    exact h s₁ m X₁ F₁ hmR₁ N₁
end
end Mine
-- part MLaw7
namespace Mine
local macro_rules | `(tactic| walk_at "eval Name") => `(tactic| (refine gName_bi (by assumption) (by assumption) (by first | exact Boot.enumerate | exact Boot.len | exact Boot.range | exact Boot.zip | exact Boot.sum | exact Boot.list | exact Boot.ValueError) ?_))
local macro_rules | `(tactic| walk_at "eval Name") => `(tactic| (refine gName_fn (by assumption) (by assumption) (by assumption) ?_))
local macro_rules | `(tactic| walk_at "eval Name") => `(tactic| (refine gName_cell (by assumption) (by assumption) ?_))
local macro_rules | `(tactic| walk_at "eval Name") => `(tactic| (name_kind "local"; refine gName_loc (by assumption) (by rfl) ?_))
local macro_rules | `(tactic| walk_at "eval Name") => `(tactic| (name_kind "cell"; refine gName_cellH (by assumption) ?_))
local macro_rules | `(tactic| walk_at "call builtin:list.append") => `(tactic| (refine append_led (by assumption) (by assumption) (by assumption) (by omega) ?_; intro _ _ _))
local macro_rules | `(tactic| walk_at "W") => `(tactic| repeat ((fail_if_success (with_reducible show wpAny _ _ (exec (Stmt.Assign _ (Expr.ListComp _ _ _ _) _) _) _ _ _)); (fail_if_success (with_reducible show wpAny _ _ (eval (Expr.ListComp _ _ _ _) _) _ _ _)); (fail_if_success (with_reducible show wpAny _ _ (exec (Stmt.For _ _ _ _ _) _) _ _ _)); walk1))
def EnumEnd (b : Heap) (C D : Addr) (tl : List (Addr × Obj)) (ys : List Value) (c : Nat) (J : Prop) (s₀ s₂ : Shared) : Prop := (∃ m', Fr b C s₂.heap m') ∧ News b C s₂.heap ((D, listObj ys c) :: tl) ∧ Gx s₀ s₂ ∧ J
section
variable {prog : Program} {w : World} {A : Around} {E : Value → Shared → Prop} {s : Shared} {env : Env}
theorem enumComp {elt iter test : Expr} {x y : Str} {px py tp : Pos} {kk : Nat} {scope : Scope} {cl : List (Str × Addr)} {pos : Pos} {RR : Value → Addr → Result → Shared → Prop} {l : Addr} {vs : List Value} {nl : Nat} (hh : A.handled = none) (hl : s.heap.get? l = some (listObj vs nl)) (hlen : vs.length ≤ 1000)
    (hcell : ∀ y ∈ scope.names, y.2 ≠ .cell) (hkind : scope.kind = .function) (hx : scope.names.lookup x = some .local) (hy : scope.names.lookup y = some .local)
    (J : Nat → List Value → Prop) (j0 : J 0 [])
    (turn : ∀ (i : Nat) (t : Tok) (u : Value) (C D : Addr) (s₁ : Shared) (m : Str → Option Value) (ys : List Value) (c : Nat) (tl : List (Addr × Obj)) (E' : Value → Shared → Prop), vs[i]? = some u → J i ys → ys.length ≤ i →
      s.heap.objs.size < C → s.heap.objs.size < D → Gx s s₁ →
      Fr s.heap C s₁.heap (fun z => if z = y then some u else if z = x then some (.int i t) else m z) → News s.heap C s₁.heap ((D, listObj ys c) :: tl) →
      wpAny (model prog w) A (isTrue test (compEnvC scope cl C env) (eval test (compEnvC scope cl C env))) (fun ok s₃ => if ok = true then wpAny (model prog w) A (eval elt (compEnvC scope cl C env)) (fun y s₂ => EnumEnd s.heap C D tl ys c (J (i + 1) (ys ++ [y])) s s₂) E' s₃ else EnumEnd s.heap C D tl ys c (J (i + 1) ys) s s₃) E' s₁)
    (done : ∀ (D C : Addr) s₁ m ys c, J vs.length ys → ys.length ≤ vs.length → s.heap.objs.size < D → s.heap.objs.size < C → D ≠ C → Gx s s₁ → Fr s.heap C s₁.heap m → News s.heap C s₁.heap [(D, listObj ys c)] → RR (.ref D) C (.ok .next) s₁) :
    wpAny (model prog w) A (call (.type "enumerate") [.ref l]) (fun xv s₁ => wpAny (model prog w) A (pyIter xv) (fun it s₂ => wpAny (model prog w) A (newList []) (fun acc s₃ => wpAny (model prog w) A (newFunctionEnv scope env.globals cl [] env.qual none .none (some env)) (fun cenv s₄ =>
      codeAny (model prog w) A (.compStart (.ListComp elt [⟨.Tuple [.Name x px, .Name y py] kk tp, iter, [test], 0⟩] scope pos) 0 it acc { cenv with scope := relabel scope env }) (RR acc cenv.locals) s₄) E s₃) E s₂) E s₁) E s := by
  have hlH : s.heap.IsList l vs.toArray := ⟨_, hl, rfl, _, rfl⟩
  have hll : l < s.heap.objs.size := Heap.lt_size hl
  refine call_enumerate_list hlH fun h' he hit hsz hk => ?_
  refine wpAny_pyIter_enum he ?_
  have hlH' : h'.IsList l vs.toArray := ⟨_, hk _ _ hl, rfl, _, rfl⟩
  have W := WalksT.enumerate (prog := prog) (w := w) (A := A) hh (s.heap.objs.size + 1) s.heap.objs.size l (Nat.succ_ne_self _) (Nat.ne_of_lt (Nat.lt_succ_of_lt hll)) (Nat.ne_of_lt hll) vs.toArray
  simp only [List.size_toArray] at W
  refine compForT (s₀ := s) (b₁ := s.heap) W hh ?_ (by omega) hcell hkind hx hy ?_ hk (by show _ ≤ h'.objs.size; rw [hsz]; omega) ?_ ⟨⟨_, he⟩, hit, hlH'⟩ ?_ (fun i ys led => led = [] ∧ J i ys) ⟨rfl, j0⟩ Gx.step1 ?_ ?_
  · rintro i h ⟨⟨old, h1⟩, ⟨o2, h2, _⟩, ⟨o3, h3, _⟩⟩ b hb
    simp only [List.mem_cons, List.not_mem_nil, or_false] at hb
    rcases hb with rfl | rfl | rfl
    · exact ⟨_, h1⟩
    · exact ⟨_, h2⟩
    · exact ⟨_, h3⟩
  · rintro i vals ⟨t, x, _, rfl⟩; rfl
  · intro b hb
    simp only [List.mem_cons, List.not_mem_nil, or_false] at hb
    rcases hb with rfl | rfl
    · exact Heap.get?_none_of_le (Nat.le_succ _)
    · exact Heap.get?_none_of_le (Nat.le_refl _)
  · intro b hb
    show b < h'.objs.size
    rw [hsz]
    simp only [List.mem_cons, List.not_mem_nil, or_false] at hb
    rcases hb with rfl | rfl | rfl
    · exact Nat.lt_succ_self _
    · exact Nat.lt_succ_of_lt (Nat.lt_succ_self _)
    · exact Nat.lt_succ_of_lt (Nat.lt_succ_of_lt hll)
  · rintro i v u C D s₁ m ys c led tl E' hi ⟨t, x', hx', hvu⟩ ⟨rfl, hJ⟩ hyl hap htl _ hC hD X₁ F₁ N₁
    have hva : v = .int i t ∧ u = x' := by
      have := congrArg Array.toList hvu
      simpa using this
    obtain ⟨rfl, rfl⟩ := hva
    have hC' : s.heap.objs.size + 2 ≤ C := by have : h'.objs.size ≤ C := hC; omega
    have hD' : s.heap.objs.size + 2 ≤ D := by have : h'.objs.size ≤ D := hD; omega
    refine wpAny_mono (turn i t u C D s₁ m ys c tl E' (by simpa using hx') hJ hyl (by omega) (by omega) X₁ F₁ N₁) (fun ok s₃ h₃ => ?_) fun _ _ e => e
    cases ok with
    | false =>
      obtain ⟨⟨m', F₃⟩, N₃, X₃, J₃⟩ := h₃
      exact ⟨m', [], F₃, fun q hq => N₃ q (by rw [List.mem_singleton.mp hq]; exact .head _), fun q hq => N₃ q (.tail _ hq), (fun q hq => nomatch hq), X₃, rfl, J₃⟩
    | true =>
      refine wpAny_mono h₃ (fun y s₄ h₄ => ?_) fun _ _ e => e
      obtain ⟨⟨m', F₃⟩, N₃, X₃, J₃⟩ := h₄
      exact ⟨m', [], F₃, fun q hq => N₃ q (by rw [List.mem_singleton.mp hq]; exact .head _), fun q hq => N₃ q (.tail _ hq), (fun q hq => nomatch hq), X₃, rfl, J₃⟩
  · rintro D C s₁ m ys c led ⟨rfl, hJ⟩ hyl hap hD hC hDC X₁ F₁ N₁
    have hC' : s.heap.objs.size + 2 ≤ C := by have : h'.objs.size ≤ C := hC; omega
    have hD' : s.heap.objs.size + 2 ≤ D := by have : h'.objs.size ≤ D := hD; omega
    exact done D C s₁ m ys c hJ hyl (by omega) (by omega) hDC X₁ F₁ N₁
end
section
variable {prog : Program} {w : World} {A : Around} {s : Shared} {fa f5 : Addr} {cd c5 : Value} {mg mb : Str → Option Value}
def firstsTo {κ : Type} (rows : List κ) (sts : List (Option MState)) (n : Nat) : List κ := (List.range n).filterMap fun k => match rows[k]?, sts[k]? with
  | some r, some s => if s ∈ sts.take k then none else some r
  | _, _ => none
theorem firstsTo_step {κ : Type} {rows : List κ} {sts : List (Option MState)} {n : Nat} {r : κ} {st : Option MState} (hr : rows[n]? = some r) (hs : sts[n]? = some st) : firstsTo rows sts (n + 1) = firstsTo rows sts n ++ (if st ∈ sts.take n then [] else [r]) := by
  unfold firstsTo
  rw [List.range_succ, List.filterMap_append]
  congr 1
  simp only [List.filterMap_cons, List.filterMap_nil, hr, hs]
  by_cases q : st ∈ sts.take n
  · rw [if_pos q, if_pos q]
  · rw [if_neg q, if_neg q]
set_option maxHeartbeats 400000 in
theorem last_spec {s₀ : Shared} {h₀ : Heap} {L Rw DT cT : Addr} {mF : Str → Option Value} {oT : Obj} {led : List (Addr × Obj)} {rvs tvs : List Value} {nr nt : Nat} {sts : List (Option MState)} {Q : Flow → Shared → Prop}
    (hh : A.handled = none) (hroom : A.depth + 40 < recursionLimit) (hu : A.units + 400 < cLine) (hcT : cT = L + 1 + 1) (G : Gd mg mb h₀) (x5 : FnAt mg h₀ 5 "_deduplicate_unhashable" f5 c5)
    (hmR : mF (Str.ofString "rows") = some (.ref Rw))
    (hR : (Rw, listObj rvs nr) ∈ led) (hT : (DT, listObj tvs nt) ∈ led) (hcm : (cT, oT) ∈ led) (hoT : oT.data = .cell (some (.ref DT)))
    (hks : ∀ h, Held led h → AreK (rowKey h) rvs (sts.map (rowF sts))) (hkt : ∀ h, Held led h → AreK (stateKey h) tvs sts) (h4 : ∀ s ∈ sts, s ∈ S4) (hl5 : sts.length ≤ 5)
    (F : Fr h₀ L s.heap mF) (N : News h₀ L s.heap led) (Xg : Gx s₀ s)
    (h : ∀ s₁, Gx s₀ s₁ → (∀ b o, h₀.get? b = some o → s₁.heap.get? b = some o) → Q (.ret (.bool true)) s₁) :
    wpAny (model prog w) A (exec (stmtAt 11 7) (envOfC "law" (fnParts 11).2.2 L fa cd)) Q (fun _ _ => False) s := by
  subst hcT
  have F' := Fr.map1 (a := Str.ofString "rows") F hmR
  have hH : Held led s.heap := fun q hq => (N q hq).1
  have hrl : rvs.length = sts.length := by rw [(hks _ hH).len, List.length_map]
  obtain ⟨o5, pm5, doc5, ho5, hd5⟩ := id x5.obj
  show wpAny _ _ (exec (.Return _ _) _) _ _ _
  clear F
  walk_at "W"
  refine dedup_spec rowKeys hh (by omega) (by omega) (by omega) (G.keeps F'.keep) (x5.keeps F'.keep) (N _ hR).1 (hks _ hH) fun s₁ D₁ dvs dn X₁ hD₁ hg₁ hl₁ hA₁ => ?_
  have F₁ := Fr.up F' X₁.keep
  have N₁ := News.up N X₁.keep
  clear F'
  have hcell : s₁.heap.IsCell (L + 1 + 1) (some (.ref DT)) := ⟨oT, (N₁ _ hcm).1, hoT⟩
  walk_at "W"
  refine lcEvalT (cl := [(Str.ofString "states", L + 1 + 1)]) rfl rfl (by decide) ?_
  walk_at "W"
  have hH₁ : Held led s₁.heap := fun q hq => (N₁ q hq).1
  have hks₁ := hks _ hH₁
  have hkt₁ := hkt _ hH₁
  have htl5 : tvs.length ≤ 5 := by rw [hkt₁.len]; exact hl5
  have G₁ := G.keeps F₁.keep
  have hgT : s₁.heap.get? DT = some (listObj tvs nt) := (N₁ _ hT).1
  refine enumComp hh (N₁ _ hR).1 (by omega) (by decide) rfl rfl rfl (fun i ys => AreK (rowKey s₁.heap) ys (firstsTo (sts.map (rowF sts)) sts i)) .nil ?_ ?_
  · rintro i t u C D s₂ m ys c tl E' hu' hJ hyl hC hD X₂ F₂ N₂
    obtain ⟨k, hk, hkey⟩ := hks₁.get hu'
    have hi : i < tvs.length := by
      have : i < rvs.length := by
        rcases Nat.lt_or_ge i rvs.length with q | q
        · exact q
        · rw [List.getElem?_eq_none q] at hu'; cases hu'
      rw [hkt₁.len]; omega
    obtain ⟨st, hst, hkey'⟩ := hkt₁.get (List.getElem?_eq_getElem hi)
    replace F₂ : Fr s₁.heap C s₂.heap _ := F₂
    replace N₂ : News s₁.heap C s₂.heap ((D, listObj ys c) :: tl) := N₂
    clear F₁ N₁
    walk_at "W"
    refine item_listR (items := tvs.toArray) (x := tvs[i]) ⟨_, F₂.keep _ _ hgT, rfl, _, rfl⟩ (by omega) (by omega) (by simp [hi]) ?_
    walk_at "W"
    refine kms_slice_lit (s := s₂) (zs := tvs.take i) F₂ N₂ ⟨_, F₂.keep _ _ hgT, rfl, _, rfl⟩ IsPart.none (IsPart.int _ _) (pick_upto tvs i) (fun D₃ h₃ F₃ N₃ lt₃ => ?_) (by with_unfolding_all rfl) (by intro _; with_unfolding_all rfl) (by rw [List.size_toArray, sizeLine_eq]; omega)
    have hkt₃ : AreK (stateKey h₃) (tvs.take i) (sts.take i) := (hkt₁.take i).mono fun v k q => stateKeys.mono _ _ _ _ q F₃.keep
    refine notIn_keys (R := stateKey) (ks := sts.take i) (k := st) stateKeys ⟨_, (N₃ _ (.head _)).1, rfl, _, rfl⟩ hkt₃ (stateKeys.mono _ _ _ _ hkey' F₃.keep) (by omega) ?_
    have hstep := firstsTo_step hk hst
    have N₄ : News s₁.heap C h₃ ((D, listObj ys c) :: tl) := fun q hq => N₃ q (.tail _ hq)
    clear F₂ N₂ N₃
    by_cases hmem : st ∈ sts.take i
    · rw [if_pos hmem, List.append_nil] at hstep
      have e1 : ∀ (inst : Decidable (st ∈ sts.take i)), @decide _ inst = true := fun inst => decide_eq_true hmem
      rw [e1]
      walk_at "W"
      exact ⟨⟨_, F₃⟩, N₄, X₂.step, by rw [hstep]; exact hJ⟩
    · rw [if_neg hmem] at hstep
      have e1 : ∀ (inst : Decidable (st ∈ sts.take i)), @decide _ inst = false := fun inst => decide_eq_false hmem
      rw [e1]
      walk_at "W"
      exact ⟨⟨_, F₃⟩, N₄, X₂.step, by rw [hstep]; exact hJ.snoc hkey⟩
  · rintro D C s₂ m ys c hJ hyl hD hC hDC X₂ F₂ N₂
    refine ⟨m, F₂.ns, fun h₃ hs₃ => ?_⟩
    have keep₃ : ∀ b o, s₁.heap.get? b = some o → h₃.get? b = some o := fun b o e => hs₃.extBut b o (Nat.ne_of_lt (Nat.lt_trans (Heap.lt_size e) hC)) (F₂.keep _ _ e)
    have hgD : h₃.get? D = some (listObj ys c) := hs₃.extBut _ _ hDC (N₂ _ (.head _)).1
    have hrows : dedupF (sts.map (rowF sts)) = firstsTo (sts.map (rowF sts)) sts rvs.length := by
      rw [dedup_rows (rowF sts) sts fun s hs t ht => row_inj h4 hs ht]
      unfold firsts firstsTo
      rw [hrl, List.length_map]
      try rfl
    have hA₁' : AreK (rowKey h₃) dvs (dedupF (sts.map (rowF sts))) := hA₁.mono fun v k q => rowKeys.mono _ _ _ _ q fun b o e => keep₃ _ _ (X₁.keep _ _ e)
    have hJ' : AreK (rowKey h₃) ys (firstsTo (sts.map (rowF sts)) sts rvs.length) := hJ.mono fun v k q => rowKeys.mono _ _ _ _ q keep₃
    refine listEq_keys (s := { s₂ with heap := h₃ }) rowKeys (by omega) ⟨_, keep₃ _ _ hg₁, rfl, _, rfl⟩ ⟨_, hgD, rfl, _, rfl⟩ hA₁' hJ' prog w _ _ ?_
    rw [decide_eq_true hrows]
    exact h _ ((Xg.trans X₁.gx).trans X₂.step) fun b o e => keep₃ _ _ (F₁.keep _ _ e)
end
end Mine
-- part MLaw8
namespace Mine
local macro_rules | `(tactic| walk_at "eval Name") => `(tactic| (refine gName_bi (by assumption) (by assumption) (by first | exact Boot.enumerate | exact Boot.len | exact Boot.range | exact Boot.zip | exact Boot.sum | exact Boot.list | exact Boot.ValueError) ?_))
local macro_rules | `(tactic| walk_at "eval Name") => `(tactic| (refine gName_fn (by assumption) (by assumption) (by assumption) ?_))
local macro_rules | `(tactic| walk_at "eval Name") => `(tactic| (refine gName_cell (by assumption) (by assumption) ?_))
local macro_rules | `(tactic| walk_at "eval Name") => `(tactic| (name_kind "local"; refine gName_loc (by assumption) (by rfl) ?_))
local macro_rules | `(tactic| walk_at "eval Name") => `(tactic| (name_kind "cell"; refine gName_cellH (by assumption) ?_))
local macro_rules | `(tactic| walk_at "call builtin:list.append") => `(tactic| (refine append_led (by assumption) (by assumption) (by assumption) (by omega) ?_; intro _ _ _))
local macro_rules | `(tactic| walk_at "W") => `(tactic| repeat ((fail_if_success (with_reducible show wpAny _ _ (exec (Stmt.Assign _ (Expr.ListComp _ _ _ _) _) _) _ _ _)); (fail_if_success (with_reducible show wpAny _ _ (eval (Expr.ListComp _ _ _ _) _) _ _ _)); (fail_if_success (with_reducible show wpAny _ _ (exec (Stmt.For _ _ _ _ _) _) _ _ _)); walk1))
theorem gl_len : ∀ {l : List Str}, (∀ x ∈ l, isSign x) → (gl l).length = l.length ∧ ∀ c ∈ gl l, okCode c
  | [], _ => ⟨rfl, fun c hc => nomatch hc⟩
  | x :: l, h => by
    obtain ⟨c, hc, rfl⟩ := h x (.head _)
    obtain ⟨h1, h2⟩ := gl_len (l := l) fun y hy => h y (.tail _ hy)
    have e : gl ((⟨#[c]⟩ : Str) :: l) = c :: gl l := rfl
    rw [e]
    refine ⟨by simp [h1], fun d hd => ?_⟩
    rcases List.mem_cons.mp hd with rfl | hd
    · exact hc
    · exact h2 d hd
theorem starts_ok {xs : List Str} (hs : ∀ x ∈ xs, isSign x) (hl : xs.length ≤ 4) {y : Str} (hy : y ∈ startsF xs) : (∀ c ∈ y.cps.toList, okCode c) ∧ y.cps.toList.length ≤ 4 := by
  obtain ⟨k, _, rfl⟩ := List.mem_map.mp hy
  obtain ⟨h1, h2⟩ := gl_len (l := xs.take k) fun y hy => hs y (List.mem_of_mem_take hy)
  rw [join_codes]
  refine ⟨h2, ?_⟩
  rw [h1, List.length_take]; omega
def statesF (xs : List Str) : List (Option MState) := (startsF xs).map fun x => reachF st0 x.cps.toList
theorem states_S4 {xs : List Str} (hs : ∀ x ∈ xs, isSign x) (hl : xs.length ≤ 4) {s : Option MState} (h : s ∈ statesF xs) : s ∈ S4 := by
  obtain ⟨y, hy, rfl⟩ := List.mem_map.mp h
  obtain ⟨h1, h2⟩ := starts_ok hs hl hy
  exact reach_S4 h1 h2
theorem ends_ok {xs : List Str} (hs : ∀ x ∈ xs, isSign x) (hl : xs.length ≤ 4) {e : Str} (h : e ∈ endsF (statesF xs)) : e.cps.size ≤ 100 ∧ ∀ c ∈ e.cps.toList, okCode c := by
  rcases mem_ends.mp h with rfl | ⟨s, hs', he⟩
  · rw [of_lp]
    refine ⟨by decide, fun c hc => ?_⟩
    rw [List.mem_singleton.mp hc]; exact .inl rfl
  · have := st_ok (states_S4 hs hl hs')
    exact ⟨this.len e he, this.ok e he⟩
theorem plain_chk {xs : List Str} (hs : ∀ x ∈ xs, isSign x) (hl : xs.length ≤ 4) {x e : Str} (hx : x ∈ startsF xs) (he : e ∈ endsF (statesF xs)) : chkStr (x ++ e) = due (reachF (reachF st0 x.cps.toList) e.cps.toList) := by
  have ea : (x ++ e).cps.toList = x.cps.toList ++ e.cps.toList := by
    show (x.cps ++ e.cps).toList = _
    exact Array.toList_append
  rw [chk_machine (x := x ++ e)]
  · rw [ea]
    unfold reachF
    rw [List.foldl_append]
    rfl
  · intro c hc
    rw [ea] at hc
    rcases List.mem_append.mp hc with hc | hc
    · exact (starts_ok hs hl hx).1 c hc
    · exact (ends_ok hs hl he).2 c hc
section
variable {prog : Program} {w : World} {A : Around} {E : Value → Shared → Prop} {s : Shared} {fa f1 f2 f3 f5 f6 f8 f9 f10 : Addr} {cd c1 c2 c3 c5 c6 c8 c9 c10 : Value} {mg mb : Str → Option Value}
set_option maxHeartbeats 1000000 in
theorem law_spec {l : Addr} {vs : List Value} {ns : List Int} {Q : Value → Shared → Prop} (hh : A.handled = none) (hfr : A.frames = some []) (hroom : A.depth + 50 < recursionLimit) (hu : A.units + 500 < cLine) (hlen : vs.length ≤ 5000) (G : Gd mg mb s.heap)
    (fn : FnAt mg s.heap 11 "law" fa cd) (X : Fns mg s.heap f1 f2 f3 f5 f6 f8 f9 f10 c1 c2 c3 c5 c6 c8 c9 c10) (hl : s.heap.IsList l vs.toArray) (hi : IntsAre vs ns)
    (h : ∀ s', Ext s s' → Q (.bool true) s') :
    wpAny (model prog w) A (call (.ref fa) [.ref l]) Q E s := by
  refine enterC (binds := [(Str.ofString "script", .ref l)]) fn (by omega) G.lim (fun _ _ => rfl) (by
    intro y hy; rw [List.mem_singleton.mp hy]; exact .inl rfl) (by decide) rfl rfl rfl fun h₁ tk₁ cells F₁ N₁ X₁ => ?_
  obtain ⟨oc', oc, rfl, hoc', hoc⟩ := X₁.two
  obtain ⟨ol, hol, hcl, nl, hdl⟩ := hl
  have hh1 : (A.deeper (envOfC "law" (fnParts 11).2.2 s.heap.objs.size fa cd)).handled = none := hh
  have hr1 : (A.deeper (envOfC "law" (fnParts 11).2.2 s.heap.objs.size fa cd)).depth + 40 < recursionLimit := by show A.depth + 1 + 40 < _; omega
  have hu1 : (A.deeper (envOfC "law" (fnParts 11).2.2 s.heap.objs.size fa cd)).units + 400 < cLine := by show A.units + 3 + 400 < _; omega
  have hfr1 : (A.deeper (envOfC "law" (fnParts 11).2.2 s.heap.objs.size fa cd)).frames = some [envOfC "law" (fnParts 11).2.2 s.heap.objs.size fa cd] := by show A.frames.map _ = _; rw [hfr]; rfl
  generalize A.deeper (envOfC "law" (fnParts 11).2.2 s.heap.objs.size fa cd) = A₁ at hh1 hr1 hu1 hfr1 ⊢
  have x8 := X.f8
  obtain ⟨oD8, pmD8, docD8, hoD8, hdD8⟩ := id x8.obj
  walk_at "W"
  refine signs_spec hh1 (by omega) (by omega) hlen (G.keeps F₁.keep) (x8.keeps F₁.keep) ⟨ol, F₁.keep _ _ hol, hcl, nl, hdl⟩ hi fun s₂ D sv sn xs X₂ hD hgD hkS hxl hxs => ?_
  have hl4 : xs.length ≤ 4 := by omega
  have F₂ := Fr.up F₁ X₂.keep
  have hLh : s.heap.objs.size < h₁.objs.size := F₁.ns.lt
  have lt1 : s.heap.objs.size + 1 < h₁.objs.size := Heap.lt_size (N₁ _ (.tail _ (.head _))).1
  have lt2 : s.heap.objs.size + 1 + 1 < h₁.objs.size := Heap.lt_size (N₁ _ (.head _)).1
  have hD' : h₁.objs.size ≤ D := hD
  have N₂ : News s.heap s.heap.objs.size s₂.heap ([] ++ (s.heap.objs.size + 1, oc) :: [(s.heap.objs.size + 1 + 1, oc'), (D, listObj sv sn)]) := fun q hq => by
    rcases List.mem_cons.mp hq with rfl | hq
    · exact ⟨X₂.keep _ _ (N₁ _ (.tail _ (.head _))).1, (N₁ _ (.tail _ (.head _))).2⟩
    · rcases List.mem_cons.mp hq with rfl | hq
      · exact ⟨X₂.keep _ _ (N₁ _ (.head _)).1, (N₁ _ (.head _)).2⟩
      · rw [List.mem_singleton.mp hq]
        exact ⟨hgD, Nat.ne_of_gt (Nat.lt_of_lt_of_le hLh hD'), Heap.get?_none_of_le (Nat.le_trans (Nat.le_of_lt hLh) hD')⟩
  have X2 : Gx s s₂ := Gx.step1.trans X₂.gx
  clear F₁ N₁ X₂
  refine stCN (x := Str.ofString "signs") F₂ N₂ rfl hoc (fun p hp => nomatch hp) (fun p hp => ?_) (fun h₃ oS F₃ N₃ hoS => ?_) rfl rfl
  · rcases List.mem_cons.mp hp with rfl | hp
    · exact Nat.succ_ne_self _
    · rw [List.mem_singleton.mp hp]; exact Nat.ne_of_gt (Nat.lt_of_lt_of_le lt1 hD')
  have hLs : s.heap.objs.size + 1 ≠ s.heap.objs.size + 1 + 1 := (Nat.succ_ne_self _).symm
  replace N₃ : News s.heap s.heap.objs.size h₃ [(s.heap.objs.size + 1, oS), (s.heap.objs.size + 1 + 1, oc'), (D, listObj sv sn)] := N₃
  clear F₂ N₂
  dsimp only
  refine wpAny_execs_cons ?_
  refine starts_comp (s₀ := s) hh1 rfl G F₃ N₃ X2.step (.head _) hoS (.tail _ (.tail _ (.head _))) hkS hl4 hxs fun s₄ DS ys cS X₄ F₄ N₄ hDS hkY => ?_
  clear F₃ N₃
  dsimp only
  refine wpAny_execs_cons ?_
  have hyl : ∀ x ∈ startsF xs, x.cps.size ≤ 100 := fun x hx => by
    have := (starts_ok hxs hl4 hx).2
    rw [Array.length_toList] at this; omega
  have hsl : (startsF xs).length = xs.length + 1 := by simp [startsF]
  refine states_comp (s₀ := s) (own := [(DS, listObj ys cS), (s.heap.objs.size + 1, oS)]) (rest := [(D, listObj sv sn)]) hh1 hr1 hu1 rfl G X.f9 F₄ N₄ X₄ rfl (fun p hp => ?_) (fun p hp => ?_) hoc' rfl (.head _) hkY (by omega) (fun x hx => Nat.le_trans (hyl x hx) (by decide)) fun s₅ DT tvs cT lg oT X₅ F₅ N₅ hoT hDT hlgD hkT => ?_
  · rcases List.mem_cons.mp hp with rfl | hp
    · exact fun e => hDS _ (.tail _ (.head _)) e.symm
    · rw [List.mem_singleton.mp hp]; exact hLs
  · rw [List.mem_singleton.mp hp]; exact Nat.ne_of_gt (Nat.lt_of_lt_of_le lt2 hD')
  clear F₄ N₄
  dsimp only
  obtain ⟨b₅, hb₅⟩ : ∃ b, b = ((DT, listObj tvs cT) :: (lg ++ ([(DS, listObj ys cS), (s.heap.objs.size + 1, oS)] ++ [(s.heap.objs.size + 1 + 1, oT), (D, listObj sv sn)]))) := ⟨_, rfl⟩
  rw [← hb₅] at N₅
  have mT : (DT, listObj tvs cT) ∈ b₅ := by rw [hb₅]; exact .head _
  have mS : (DS, listObj ys cS) ∈ b₅ := by rw [hb₅]; exact .tail _ (List.mem_append_right _ (.head _))
  have mC : (s.heap.objs.size + 1 + 1, oT) ∈ b₅ := by rw [hb₅]; exact .tail _ (List.mem_append_right _ (.tail _ (.tail _ (.head _))))
  have hkt : ∀ h, Held b₅ h → AreK (stateKey h) tvs (statesF xs) := fun h hH => hkT h fun q hq => hH q (by rw [hb₅]; exact .tail _ (List.mem_append_left _ hq))
  have hstl : (statesF xs).length = xs.length + 1 := by unfold statesF; rw [List.length_map, hsl]
  have h4 : ∀ st ∈ statesF xs, st ∈ S4 := fun st hst => states_S4 hxs hl4 hst
  have hH₅ : Held b₅ s₅.heap := fun q hq => (N₅ q hq).1
  have hcell : s₅.heap.IsCell (s.heap.objs.size + 1 + 1) (some (.ref DT)) := ⟨oT, (N₅ _ mC).1, hoT⟩
  have x10 := X.f10
  obtain ⟨oD10, pmD10, docD10, hoD10, hdD10⟩ := id x10.obj
  have htv : tvs.length ≤ 5 := by rw [(hkt _ hH₅).len, hstl]; omega
  clear hb₅ hkT
  walk_at "W"
  refine ends_spec (sts := statesF xs) hh1 (by omega) (by omega) (by omega) (G.keeps F₅.keep) (x10.keeps F₅.keep) (N₅ _ mT).1 (hkt _ hH₅) (fun m d i wt hm => (st_ok (h4 _ hm)).num m d i wt rfl) fun s₆ DE evs ne X₆ hDE hgE hkE hel => ?_
  have F₆ := Fr.up F₅ X₆.keep
  have hL5 : s.heap.objs.size < s₅.heap.objs.size := F₅.ns.lt
  have N₆ : News s.heap s.heap.objs.size s₆.heap ((DE, listObj evs ne) :: b₅) := fun q hq => by
    rcases List.mem_cons.mp hq with rfl | hq
    · exact ⟨hgE, Nat.ne_of_gt (Nat.lt_of_lt_of_le hL5 hDE), Heap.get?_none_of_le (Nat.le_trans (Nat.le_of_lt hL5) hDE)⟩
    · exact ⟨X₆.keep _ _ (N₅ q hq).1, (N₅ q hq).2⟩
  clear F₅ N₅ hcell
  walk1
  (rename Fr _ _ _ _ => F₇); (rename News _ _ _ _ => N₇)
  have lt₇ : ∀ q ∈ (DE, listObj evs ne) :: b₅, q.1 < _ := fun q hq => Heap.lt_size (N₇ q hq).1
  walk_at "W"
  (rename Fr _ _ _ _ => F₈); (rename News _ _ _ _ => N₈)
  have hH' : ∀ {h : Heap}, Held ((DE, listObj evs ne) :: b₅) h → Held b₅ h := fun H q hq => H q (.tail _ hq)
  have hrl : ∀ st ∈ statesF xs, (rowF (statesF xs) st).length ≤ 1000 := fun st _ => by
    have h1 : (rowF (statesF xs) st).length ≤ (endsF (statesF xs)).length := List.length_filter_le _ _
    have h2 := hkE.len
    omega
  refine rows_loop (s₀ := s) (rn := 0) (base := (DE, listObj evs ne) :: b₅) (sts := statesF xs) (xs := startsF xs) hh1 hr1 hu1 rfl G X rfl rfl rfl (.tail _ mS) (.tail _ mT) (.head _) (.tail _ mC) hoT hkY (fun h hH => hkt h (hH' hH)) hkE (by rw [hsl, hstl]) (by rw [hstl]; omega) (by omega) hyl (fun e he => (ends_ok hxs hl4 he).1) (fun i x st hx hst e he => ?_) F₈ N₈ (fun q hq => Nat.ne_of_lt (lt₇ q hq)) ((X₅.trans X₆.gx).step) fun s₉ m₉ rvs rn rl X₉ F₉ hm₉ N₉ hne₉ hkR => ?_
  · have hst' : reachF st0 x.cps.toList = st := by
      have : (statesF xs)[i]? = some (reachF st0 x.cps.toList) := by unfold statesF; rw [List.getElem?_map, hx]; rfl
      rw [hst] at this; exact (Option.some.inj this).symm
    rw [← hst']
    exact plain_chk hxs hl4 (List.mem_of_getElem? hx) he
  clear F₇ N₇ F₈ N₈
  dsimp only
  have inB : ∀ (r : Addr × Obj), ∀ q ∈ b₅, q ∈ r :: (rl ++ (DE, listObj evs ne) :: b₅) := fun r q hq => .tail _ (List.mem_append_right _ (.tail _ hq))
  have hksA : ∀ (r : Addr × Obj) h, Held (r :: (rl ++ (DE, listObj evs ne) :: b₅)) h → AreK (rowKey h) rvs ((statesF xs).map (rowF (statesF xs))) := fun r h hH => hkR h fun q hq => hH q (.tail _ (List.mem_append_left _ hq))
  have hktA : ∀ (r : Addr × Obj) h, Held (r :: (rl ++ (DE, listObj evs ne) :: b₅)) h → AreK (stateKey h) tvs (statesF xs) := fun r h hH => hkt h fun q hq => hH q (inB r q hq)
  refine wpAny_execs_cons ?_
  refine pairs_loop (s₀ := s) (sts := statesF xs) hh1 hr1 hu1 hfr1 rfl G X.f6 X.f5 hm₉ (.head _) (inB _ _ mT) (inB _ _ mC) hoT (hksA _) (hktA _) h4 hrl F₉ N₉ X₉ fun s₁₀ m₁₀ X₁₀ F₁₀ hm₁₀ N₁₀ => ?_
  dsimp only
  refine wpAny_execs_cons ?_
  refine last_spec (s₀ := s) (sts := statesF xs) hh1 hr1 hu1 rfl G X.f5 hm₁₀ (.head _) (inB _ _ mT) (inB _ _ mC) hoT (hksA _) (hktA _) h4 (by rw [hstl]; omega) F₁₀ N₁₀ X₁₀ fun s₁₁ X₁₁ k₁₁ => ?_
  exact h _ ⟨k₁₁, X₁₁⟩
end
end Mine
-- part MHead
namespace Mine
theorem fn_of_top {p : Program} {loose : List Str} {mean : ExcName → Option Value} {mg mb : Str → Option Value} {h : Heap} (T : Top p loose mean mg mb h) (k n : Nat) (nm : Str)
    (e : (recsOf p)[k]?.map (fun d => (d.name, d.params, d.body, d.scope)) = some (nm, fnParts n)) : ∃ fa cd, FnAt mg h n nm fa cd := by
  cases q : (recsOf p)[k]? with
  | none => rw [q] at e; cases e
  | some d =>
    rw [q] at e
    have e' : (d.name, d.params, d.body, d.scope) = (nm, fnParts n) := Option.some.inj e
    injection e' with e1 e2
    obtain ⟨a, o, pm, code, doc, h1, h2, h3, h4⟩ := T.fn d (List.mem_of_getElem? q)
    have e3 : d.params = (fnParts n).1 := congrArg Prod.fst e2
    have e4 : d.body = (fnParts n).2.1 := congrArg (fun x => x.2.1) e2
    have e5 : d.scope = (fnParts n).2.2 := congrArg (fun x => x.2.2) e2
    rw [e1, e3, e4, e5] at h3
    rw [e1] at h1 h4
    exact ⟨a, code, h1, ⟨o, pm, doc, h2, h3⟩, h4⟩
theorem gd_of_top {p : Program} {loose : List Str} {mean : ExcName → Option Value} {mg mb : Str → Option Value} {h : Heap} (T : Top p loose mean mg mb h)
    (e : (biNames.all fun x => decide (x ∉ startupNames) && decide (x ∉ loose) && decide (x ∉ (recsOf p).map (·.name)) && decide (x ∉ (litsOf p).map (·.1)) && decide (x ∉ (clssOf p loose).map (·.name))) = true) : Gd mg mb h :=
  ⟨T.g, T.b, T.nolimit, T.builtins, fun x hx => by
    have := List.all_eq_true.mp e x hx
    simp only [Bool.and_eq_true, decide_eq_true_eq] at this
    exact T.free x this.1.1.1.1 this.1.1.1.2 this.1.1.2 this.1.2 this.2⟩
theorem post_true (args : List WData) : PySem.Challenge.rw_ny0052_01.row.claim.post args (.bool true) args = true := by with_unfolding_all rfl
end Mine
open Mine PySem.W.X PySem.W.ZRun
set_option maxRecDepth 100000 in
set_option maxHeartbeats 0 in
theorem PySem.Challenge.cw_ny0052_01_holds : PySem.Challenge.rw_ny0052_01.Holds := by
  w_on; o_law; z_head; (case hw => w_witness2)
  k_fill
  intro w s₀ s₁ mg mb G y fa o pm cd doc dV kV ho hd hcd hD hmg hg args vals as L hpre hlay hrd hwl hlo
  z_open y L KX ZH ZN ZT
  refine Ground.open G ?_
  intro T B D TE TW
  wrow_args hpre hlay hrd hwl hlo
  obtain ⟨hat, hsz⟩ := script_at L
  have htk := script_toks L ZT
  rw [ZN] at hat hsz
  subst hat
  x_fa T KX hmg
  all_lens
  (rename IntsAre _ _ => hI); (rename Heap.IsList _ _ _ => hLs)
  have Gd0 := gd_of_top T (by decide +kernel)
  obtain ⟨f1, c1, x1⟩ := fn_of_top T 0 1 "_iter_escaped_chars" (by rfl)
  obtain ⟨f2, c2, x2⟩ := fn_of_top T 1 2 "_strip_quoted_realnames" (by rfl)
  obtain ⟨f3, c3, x3⟩ := fn_of_top T 2 3 "_check_parenthesis" (by rfl)
  obtain ⟨f5, c5, x5⟩ := fn_of_top T 3 5 "_deduplicate_unhashable" (by rfl)
  obtain ⟨f6, c6, x6⟩ := fn_of_top T 4 6 "_compare_args_orderless" (by rfl)
  obtain ⟨f8, c8, x8⟩ := fn_of_top T 5 8 "_law_signs" (by rfl)
  obtain ⟨f9, c9, x9⟩ := fn_of_top T 6 9 "_law_reached" (by rfl)
  obtain ⟨f10, c10, x10⟩ := fn_of_top T 7 10 "_law_endings" (by rfl)
  obtain ⟨f11, c11, x11⟩ := fn_of_top T 8 11 "law" (by rfl)
  have e11 : some (Value.ref f11) = some (Value.ref 73) := x11.glob.symm.trans hmg
  injection e11 with e11
  injection e11 with e11
  subst e11
  refine law_spec (A := callerA) rfl rfl (by decide +kernel) (by decide +kernel) (by omega) Gd0 x11 ⟨x1, x2, x3, x5, x6, x8, x9, x10⟩ hLs hI fun s' X' => ?_
  refine ⟨.inl ⟨.bool true, .bool true, [], rfl, fun cls => rfl, .bool _, post_true _, fun _ => ⟨List.nodup_nil, fun a ha => nomatch ha⟩⟩, .of_keep X'.keep, X'.gx.os, X'.gx.bare (.of_eq hg)⟩
