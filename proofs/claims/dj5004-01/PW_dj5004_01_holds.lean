import PyProof.Rows.All
import Wide.All
import OpenK.AllK
import Wide.FinOn
import PySem.Challenge.RW_dj5004_01
set_option Elab.async false

section
open PySem PySem.W PySem.Calls PyProof.Rows
set_option maxRecDepth 100000
set_option linter.unusedVariables false
set_option autoImplicit false
namespace Mine

abbrev Led := List (Addr × Obj)
def T (l : List Nat) : Str := ⟨l.toArray⟩
theorem T_len (l : List Nat) : (T l).length = l.length := by simp [T, Str.length]
theorem T_app (a b : List Nat) : T a ++ T b = T (a ++ b) := by
  show Str.append _ _ = _
  simp [T, Str.append]
theorem T_inj {a b : List Nat} : T a = T b ↔ a = b := by simp [T]
theorem T_beq (a b : List Nat) : (T a == T b) = (a == b) := by
  rw [Bool.eq_iff_iff, beq_iff_eq, beq_iff_eq, T_inj]
def lit (s : String) : List Nat := (Str.ofString s).cps.toList
theorem T_lit (s : String) : T (lit s) = Str.ofString s := rfl

/-- what the walk knows of a value -/
inductive PV where
  | none
  | bool (b : Bool)
  | int (i : Int)
  | str (l : List Nat)
  | tup (ds : List PV)
  | list (ds : List PV)
  | bref (l : Addr)
  | bmeth (l : Addr)

def IsSeq (ty : String) (o : Obj) (vs : List Value) : Prop := o.cls = .type ty ∧ ∃ n, o.data = .seq vs.toArray n
def boundAppend (l : Addr) : Obj := { cls := .type "builtin_function_or_method", data := .fields #[.builtin "list.append", .ref l] }

mutual
inductive Rp (k : Led) : Value → PV → Prop
  | none : Rp k .none .none
  | bool (b : Bool) : Rp k (.bool b) (.bool b)
  | int (i : Int) (t : Tok) : Rp k (.int i t) (.int i)
  | str (l : List Nat) (t : Tok) : l.length ≤ 1048576 → Rp k (.str (T l) t) (.str l)
  | tup {a : Addr} {o : Obj} {vs : List Value} {ds : List PV} : (a, o) ∈ k → IsSeq "tuple" o vs → RpAll k vs ds → Rp k (.ref a) (.tup ds)
  | list {a : Addr} {o : Obj} {vs : List Value} {ds : List PV} : (a, o) ∈ k → IsSeq "list" o vs → ds.length ≤ 1048576 → RpAll k vs ds → Rp k (.ref a) (.list ds)
  | bref {l : Addr} : Rp k (.ref l) (.bref l)
  | bmeth {l q : Addr} : (q, boundAppend l) ∈ k → Rp k (.ref q) (.bmeth l)
inductive RpAll (k : Led) : List Value → List PV → Prop
  | nil : RpAll k [] []
  | cons {v : Value} {d : PV} {vs : List Value} {ds : List PV} : Rp k v d → RpAll k vs ds → RpAll k (v :: vs) (d :: ds)
end

abbrev Sub (k k' : Led) : Prop := ∀ p ∈ k, p ∈ k'
theorem Sub.rfl {k : Led} : Sub k k := fun _ h => h
theorem Sub.tr {a b c : Led} (h : Sub a b) (h' : Sub b c) : Sub a c := fun p hp => h' p (h p hp)
theorem Sub.cons {k : Led} {p : Addr × Obj} : Sub k (p :: k) := fun _ h => .tail _ h

mutual
theorem Rp.mono {k k' : Led} (hs : Sub k k') : ∀ {v : Value} {d : PV}, Rp k v d → Rp k' v d
  | _, _, .none => .none
  | _, _, .bool b => .bool b
  | _, _, .int i t => .int i t
  | _, _, .str l t h => .str l t h
  | _, _, .tup h1 h2 h3 => .tup (hs _ h1) h2 (RpAll.mono hs h3)
  | _, _, .list h1 h2 h3 h4 => .list (hs _ h1) h2 h3 (RpAll.mono hs h4)
  | _, _, .bref => .bref
  | _, _, .bmeth h2 => .bmeth (hs _ h2)
theorem RpAll.mono {k k' : Led} (hs : Sub k k') : ∀ {vs : List Value} {ds : List PV}, RpAll k vs ds → RpAll k' vs ds
  | _, _, .nil => .nil
  | _, _, .cons h r => .cons (Rp.mono hs h) (RpAll.mono hs r)
end

theorem RpAll.length {k : Led} : ∀ {vs : List Value} {ds : List PV}, RpAll k vs ds → vs.length = ds.length
  | _, _, .nil => rfl
  | _, _, .cons _ r => congrArg (· + 1) (RpAll.length r)
theorem RpAll.append {k : Led} : ∀ {vs ws : List Value} {ds es : List PV}, RpAll k vs ds → RpAll k ws es → RpAll k (vs ++ ws) (ds ++ es)
  | _, _, _, _, .nil, h => h
  | _, _, _, _, .cons h r, h' => .cons h (RpAll.append r h')
theorem RpAll.get {k : Led} : ∀ {vs : List Value} {ds : List PV} {i : Nat} {d : PV}, RpAll k vs ds → ds[i]? = some d → ∃ v, vs[i]? = some v ∧ Rp k v d
  | _, _, 0, _, .cons h _, e => by cases e; exact ⟨_, rfl, h⟩
  | _, _, i + 1, _, .cons _ r, e => by
    obtain ⟨v, h1, h2⟩ := RpAll.get (i := i) r (by simpa using e)
    exact ⟨v, by simpa using h1, h2⟩
theorem RpAll.take {k : Led} : ∀ {vs : List Value} {ds : List PV} (n : Nat), RpAll k vs ds → RpAll k (vs.take n) (ds.take n)
  | _, _, 0, _ => .nil
  | _, _, _ + 1, .nil => .nil
  | _, _, n + 1, .cons h r => .cons h (RpAll.take n r)
theorem RpAll.drop {k : Led} : ∀ {vs : List Value} {ds : List PV} (n : Nat), RpAll k vs ds → RpAll k (vs.drop n) (ds.drop n)
  | _, _, 0, h => h
  | _, _, _ + 1, .nil => .nil
  | _, _, n + 1, .cons _ r => RpAll.drop n r

/-- a def's frame under way: what is fixed -/
structure Act where
  A : Around
  cn : Str
  cs : Scope
  L : Addr
  fa : Addr
  cd : Value
  h₀ : Heap
  A₀ : Around
  base : Heap
  outer : List Env
  old : Led
abbrev Act.env (C : Act) : Env := envX C.cn C.cs C.L C.fa C.cd []

structure Run where
  prog : Program
  w : World
  K : Frag
  p : Program
  loose : List Str
  mg : Str → Option Value
  mb : Str → Option Value
  olds : Led
abbrev Run.M (G : Run) : Model := model G.prog G.w

structure Ok (G : Run) (C : Act) (r : Nat) : Prop where
  B : Below C.A₀ C.base C.outer C.h₀
  hA : C.A.frames = some (C.env :: C.outer)
  hk : C.cs.kind = .function
  X : G.K.In C.h₀
  T : TopRead G.p G.loose G.mg G.mb C.h₀
  hd : C.A.handled = none
  dep : C.A.depth + r < recursionLimit
  uni : C.A.units + 3 * r + 20 < cLine
  hold : ∀ p ∈ C.old, C.h₀.get? p.1 = some p.2
  oldK : ∀ p ∈ G.olds, p ∈ C.old

abbrev PEnv := List (Str × PV)
abbrev Bl := Option (Addr × List PV)

def BlOk (b : Bl) (led k fz : Led) : Prop := match b with
  | none => led = fz
  | some (l, ds) => ∃ vs n, led = (l, listOf vs.toArray n) :: fz ∧ (∀ p ∈ fz, p.1 ≠ l) ∧ ds.length ≤ 1048576 ∧ RpAll k vs ds
def EnvOk (k : Led) (m : Str → Option Value) (ρ : PEnv) : Prop :=
  ∀ x d, ρ.lookup x = some d → ∃ V, m x = some V ∧ Rp k V d

structure StW (C : Act) (kp : Led) (ρ : PEnv) (b : Bl) (k : Led) (m : Str → Option Value) (led fz : Led) : Prop where
  bl : BlOk b led k fz
  hkp : ∀ p ∈ kp, p ∈ fz
  kn : ∀ p ∈ k, (p ∈ fz ∨ p ∈ C.old) ∧ ∀ q ∈ kp, p.1 ≠ q.1
  en : EnvOk k m ρ

structure St (C : Act) (kp : Led) (ρ : PEnv) (b : Bl) (k : Led) (h : Heap) : Prop where
  ex : ∃ m led fz, Fr C.h₀ C.L h m ∧ News C.h₀ C.L h led ∧ StW C kp ρ b k m led fz

theorem fz_led {b : Bl} {led k fz : Led} (h : BlOk b led k fz) : Sub fz led := by
  cases b with
  | none => exact (h : led = fz) ▸ Sub.rfl
  | some q => obtain ⟨vs, n, rfl, _⟩ := h; exact Sub.cons

theorem BlOk.mono {b : Bl} {led k k' fz : Led} (hs : Sub k k') (h : BlOk b led k fz) : BlOk b led k' fz := by
  cases b with
  | none => exact h
  | some q => obtain ⟨vs, n, e, h1, h2, h3⟩ := h; exact ⟨vs, n, e, h1, h2, h3.mono hs⟩
theorem EnvOk.mono {k k' : Led} {m : Str → Option Value} {ρ : PEnv} (hs : Sub k k') (h : EnvOk k m ρ) : EnvOk k' m ρ := fun x d e =>
  let ⟨V, hV, hR⟩ := h x d e; ⟨V, hV, hR.mono hs⟩
theorem EnvOk.set {k : Led} {m : Str → Option Value} {ρ : PEnv} {x : Str} {V : Value} {d : PV} (h : EnvOk k m ρ) (hR : Rp k V d) : EnvOk k (fun y => if y = x then some V else m y) ((x, d) :: ρ) := by
  intro y e hy
  rw [List.lookup_cons] at hy
  by_cases q : y = x
  · subst q
    simp only [beq_self_eq_true] at hy
    cases hy
    exact ⟨V, by simp, hR⟩
  · simp only [beq_eq_false_iff_ne.mpr q] at hy
    obtain ⟨W, h1, h2⟩ := h y e hy
    exact ⟨W, by simp [q, h1], h2⟩

/-- the ledger after a new object -/
theorem BlOk.push {b : Bl} {led k fz : Led} {a : Addr} {o : Obj} (h : BlOk b led k fz) (hf : ∀ p ∈ led, p.1 ≠ a) : ∃ led', Sub led' ((a, o) :: led) ∧ BlOk b led' ((a, o) :: k) ((a, o) :: fz) := by
  cases b with
  | none => obtain rfl : led = fz := h; exact ⟨(a, o) :: led, Sub.rfl, rfl⟩
  | some q =>
    obtain ⟨l, ds⟩ := q
    obtain ⟨vs, n, rfl, h1, h2, h3⟩ := h
    refine ⟨(l, listOf vs.toArray n) :: (a, o) :: fz, ?_, vs, n, rfl, ?_, h2, h3.mono Sub.cons⟩
    · intro p hp
      rcases List.mem_cons.mp hp with rfl | hp
      · exact .tail _ (.head _)
      · rcases List.mem_cons.mp hp with rfl | hp
        · exact .head _
        · exact .tail _ (.tail _ hp)
    · intro p hp
      rcases List.mem_cons.mp hp with rfl | hp
      · exact Ne.symm (hf _ (.head _))
      · exact h1 p hp

/-- what one state gives -/
theorem St.take {C : Act} {kp : Led} {ρ : PEnv} {b : Bl} {k : Led} {h : Heap} (S : St C kp ρ b k h) : ∃ m led fz, Fr C.h₀ C.L h m ∧ News C.h₀ C.L h led ∧ StW C kp ρ b k m led fz ∧
    (∀ h', Fr C.h₀ C.L h' m → News C.h₀ C.L h' led → St C kp ρ b k h') ∧
    (∀ h' a o, Fr C.h₀ C.L h' m → News C.h₀ C.L h' ((a, o) :: led) → (∀ p ∈ led, p.1 ≠ a) → St C kp ρ b ((a, o) :: k) h') ∧
    (∀ h' x V d, Fr C.h₀ C.L h' (fun y => if y = x then some V else m y) → News C.h₀ C.L h' led → Rp k V d → St C kp ((x, d) :: ρ) b k h') := by
  obtain ⟨m, led, fz, F, N, W⟩ := S.ex
  refine ⟨m, led, fz, F, N, W, fun h' F' N' => ⟨m, led, fz, F', N', W⟩, fun h' a o F' N' hl => ?_, fun h' x V d F' N' R => ⟨_, led, fz, F', N', W.bl, W.hkp, W.kn, W.en.set R⟩⟩
  obtain ⟨led', h1, h2⟩ := W.bl.push (o := o) hl
  refine ⟨m, led', _, F', fun p hp => N' p (h1 p hp), h2, fun p hp => .tail _ (W.hkp p hp), fun p hp => ?_, W.en.mono Sub.cons⟩
  rcases List.mem_cons.mp hp with rfl | hp
  · exact ⟨.inl (.head _), fun q hq => Ne.symm (hl q (fz_led W.bl q (W.hkp q hq)))⟩
  · obtain ⟨h3, h4⟩ := W.kn p hp
    exact ⟨h3.imp (fun h => .tail _ h) id, h4⟩

/-- the objects that are known are in the heap -/
def Kn (k : Led) (h : Heap) : Prop := ∀ p ∈ k, h.get? p.1 = some p.2
theorem St.known {G : Run} {C : Act} {r : Nat} {kp : Led} {ρ : PEnv} {b : Bl} {k : Led} {h : Heap} (ok : Ok G C r) (S : St C kp ρ b k h) : Kn k h := by
  obtain ⟨m, led, fz, F, N, W⟩ := S.ex
  intro p hp
  rcases (W.kn p hp).1 with h1 | h1
  · exact (N p (fz_led W.bl p h1)).1
  · exact F.keep _ _ (ok.hold p h1)
theorem old_lt {G : Run} {C : Act} {r : Nat} {h : Heap} {m : Str → Option Value} (ok : Ok G C r) (F : Fr C.h₀ C.L h m) : ∀ p ∈ C.old, p.1 < h.objs.size := fun p hp => Heap.lt_size (F.keep _ _ (ok.hold p hp))
theorem led_lt {h₀ h : Heap} {L : Addr} {led : Led} (N : News h₀ L h led) : ∀ p ∈ led, p.1 < h.objs.size := fun p hp => Heap.lt_size (N p hp).1

theorem led_ne {h₀ h : Heap} {L : Addr} {led : Led} (N : News h₀ L h led) : ∀ p ∈ led, p.1 ≠ h.objs.size := fun p hp => Nat.ne_of_lt (led_lt N p hp)

theorem St.weaken {C : Act} {kp : Led} {ρ ρ' : PEnv} {b : Bl} {k : Led} {h : Heap} (S : St C kp ρ b k h) (hs : ∀ x d, ρ'.lookup x = some d → ρ.lookup x = some d) : St C kp ρ' b k h :=
  let ⟨m, led, fz, F, N, W⟩ := S.ex
  ⟨m, led, fz, F, N, W.bl, W.hkp, W.kn, fun x d e => W.en x d (hs x d e)⟩

def SubE : PEnv → PEnv → Prop
  | [], _ => True
  | p :: r, ρ => ρ.lookup p.1 = some p.2 ∧ SubE r ρ
theorem SubE.get {ρ : PEnv} : ∀ {ρ' : PEnv}, SubE ρ' ρ → ∀ x d, ρ'.lookup x = some d → ρ.lookup x = some d
  | [], _, x, d, e => by cases e
  | p :: r, ⟨h1, h2⟩, x, d, e => by
    rw [List.lookup_cons] at e
    by_cases q : x = p.1
    · subst q
      simp only [beq_self_eq_true] at e
      cases e; exact h1
    · simp only [beq_eq_false_iff_ne.mpr q] at e
      exact SubE.get h2 x d e

/-- an expression's value -/
structure Ev (G : Run) (C : Act) (ρ : PEnv) (b : Bl) (e : Expr) (v : PV) : Prop where
  of : ∀ (kp k : Led) (s : Shared) (Q : Value → Shared → Prop), St C kp ρ b k s.heap →
    (∀ V k' h' tk', Sub k k' → St C kp ρ b k' h' → Rp k' V v → Q V { s with heap := h', toks := tk' }) →
    wpAny G.M C.A (eval e C.env) Q (fun _ _ => False) s
/-- a test's truth -/
structure Tr (G : Run) (C : Act) (ρ : PEnv) (b : Bl) (e : Expr) (c : Bool) : Prop where
  of : ∀ (kp k : Led) (s : Shared) (Q : Bool → Shared → Prop), St C kp ρ b k s.heap →
    (∀ k' h' tk', Sub k k' → St C kp ρ b k' h' → Q c { s with heap := h', toks := tk' }) →
    wpAny G.M C.A (isTrue e C.env (eval e C.env)) Q (fun _ _ => False) s
/-- arguments -/
structure EvL (G : Run) (C : Act) (ρ : PEnv) (b : Bl) (es : List Expr) (vs : List PV) : Prop where
  of : ∀ (pos : Pos) (kp k : Led) (s : Shared) (Q : List Value → Shared → Prop), St C kp ρ b k s.heap →
    (∀ Vs k' h' tk', Sub k k' → St C kp ρ b k' h' → RpAll k' Vs vs → Q Vs { s with heap := h', toks := tk' }) →
    wpAny G.M C.A (spliced (backTo pos (starEach es C.env))) Q (fun _ _ => False) s

inductive Out where
  | next (ρ : PEnv) (b : Bl)
  | cont (ρ : PEnv) (b : Bl)
  | ret (v : PV)

def OutIs (C : Act) (kp k : Led) (h : Heap) : Out → Flow → Prop
  | .next ρ b, f => f = .next ∧ St C kp ρ b k h
  | .cont ρ b, f => f = .cont ∧ St C kp ρ b k h
  | .ret v, f => ∃ V ρ, f = .ret V ∧ St C kp ρ none k h ∧ Rp k V v

structure Ex (G : Run) (C : Act) (ρ : PEnv) (b : Bl) (sts : List Stmt) (Φ : Out → Prop) : Prop where
  of : ∀ (kp k : Led) (s : Shared) (Q : Flow → Shared → Prop), St C kp ρ b k s.heap →
    (∀ o f k' h' tk', Φ o → Sub k k' → OutIs C kp k' h' o f → Q f { s with heap := h', toks := tk' }) →
    wpAny G.M C.A (execs sts C.env) Q (fun _ _ => False) s
structure Ex1 (G : Run) (C : Act) (ρ : PEnv) (b : Bl) (st : Stmt) (Φ : Out → Prop) : Prop where
  of : ∀ (kp k : Led) (s : Shared) (Q : Flow → Shared → Prop), St C kp ρ b k s.heap →
    (∀ o f k' h' tk', Φ o → Sub k k' → OutIs C kp k' h' o f → Q f { s with heap := h', toks := tk' }) →
    wpAny G.M C.A (exec st C.env) Q (fun _ _ => False) s

section
variable {G : Run} {C : Act} {ρ : PEnv} {b : Bl} {r : Nat}

theorem Ev_int {i : Int} {kk : Nat} {pos : Pos} : Ev G C ρ b (.Constant (.int i) kk pos) (.int i) :=
  .mk fun kp k s Q S h => wpAny_Constant_int (h _ k s.heap (s.toks + 1) .rfl S (.int i s.toks))
theorem Ev_str {x : String} {kk : Nat} {pos : Pos} (hx : (lit x).length ≤ 1048576 := by decide +kernel) : Ev G C ρ b (.Constant (.str (Str.ofString x)) kk pos) (.str (lit x)) :=
  .mk fun kp k s Q S h => Constant_str (h _ k s.heap (s.toks + 1) .rfl S (.str (lit x) s.toks hx))
theorem Ev_bool {c : Bool} {kk : Nat} {pos : Pos} : Ev G C ρ b (.Constant (.bool c) kk pos) (.bool c) :=
  .mk fun kp k s Q S h => Constant_bool (h _ k s.heap s.toks .rfl S (.bool c))

theorem Ev_name {x : Str} {pos : Pos} {v : PV} (ok : Ok G C r) (hv : ρ.lookup x = some v) (hl : C.cs.names.lookup x = some .local) (hd : (x == ("__debug__" : Str)) = false := by rfl) : Ev G C ρ b (.Name x pos) v :=
  .mk fun kp k s Q S h => by
    obtain ⟨m, led, fz, F, N, W⟩ := S.ex
    obtain ⟨V, hV, hR⟩ := W.en x v hv
    exact nameX_L F hV (h V k s.heap s.toks .rfl S hR) ok.hk hl hd
theorem Ev_glob {x : Str} {pos : Pos} {V : Value} {v : PV} (ok : Ok G C r) (hg : nsIn G.K mainGlobals x = some (some V)) (hR : Rp [] V v) (hl : C.cs.names.lookup x = some .globalImplicit) (hd : (x == ("__debug__" : Str)) = false := by rfl) :
    Ev G C ρ b (.Name x pos) v :=
  .mk fun kp k s Q S h => by
    obtain ⟨m, led, fz, F, N, W⟩ := S.ex
    exact nameX_K F ok.X ok.T hg (h V k s.heap s.toks .rfl S (hR.mono (by intro p hp; cases hp))) ok.hk hl hd

/-- a global that names an object of the top that is known -/
theorem Ev_globO {x : Str} {pos : Pos} {a : Addr} {o : Obj} {v : PV} (ok : Ok G C r) (hg : nsIn G.K mainGlobals x = some (some (.ref a))) (ho : (a, o) ∈ G.olds) (hR : Rp [(a, o)] (.ref a) v) (hl : C.cs.names.lookup x = some .globalImplicit) (hd : (x == ("__debug__" : Str)) = false := by rfl) :
    Ev G C ρ b (.Name x pos) v :=
  .mk fun kp k s Q S h => by
    obtain ⟨m, led, fz, F, N, W⟩ := S.ex
    have h1 := ok.oldK _ ho
    have S' : St C kp ρ b ((a, o) :: k) s.heap := ⟨m, led, fz, F, N, W.bl.mono Sub.cons, W.hkp, fun p hp => by
      rcases List.mem_cons.mp hp with rfl | hp
      · refine ⟨.inr h1, fun q hq e => ?_⟩
        have z := (N q (fz_led W.bl q (W.hkp q hq))).2.2
        have h3 := ok.hold _ h1
        rw [e] at h3
        rw [h3] at z; cases z
      · exact W.kn p hp, W.en.mono Sub.cons⟩
    exact nameX_K F ok.X ok.T hg (h _ _ s.heap s.toks Sub.cons S' (hR.mono (by intro p hp; cases hp with | head => exact .head _ | tail _ h => cases h))) ok.hk hl hd

theorem EvL_nil : EvL G C ρ b [] [] := .mk fun pos kp k s Q S h => spliced_none (h [] k s.heap s.toks .rfl S .nil)
theorem EvL_cons {e : Expr} {es : List Expr} {v : PV} {vs : List PV} (h1 : Ev G C ρ b e v) (h2 : EvL G C ρ b es vs) (hn : starEach (e :: es) C.env = (false, eval e C.env) :: starEach es C.env := by rfl) : EvL G C ρ b (e :: es) (v :: vs) :=
  .mk fun pos kp k s Q S h => spliced_more (h1.of kp k s _ S fun V k1 h1' tk1 s1 S1 R1 => h2.of pos kp k1 _ _ S1 fun Vs k2 h2' tk2 s2 S2 R2 =>
    h (V :: Vs) k2 h2' tk2 (s1.tr s2) S2 (.cons (R1.mono s2) R2)) hn
end
end Mine
end

section
open PySem PySem.W PySem.Calls PyProof.Rows
set_option maxRecDepth 100000
namespace Mine

/-! texts as lists of numbers -/
def cl (i : Int) (n : Nat) : Nat := if i < 0 then (i + n).toNat else min i.toNat n
def sl (x : List Nat) (lo hi : Option Int) : List Nat :=
  ((x.drop (lo.elim 0 (cl · x.length))).take ((hi.elim x.length (cl · x.length)) - (lo.elim 0 (cl · x.length))))
theorem cl_le (i : Int) (n : Nat) : cl i n ≤ n := by unfold cl; split <;> omega
theorem sl_len (x : List Nat) (lo hi : Option Int) : (sl x lo hi).length ≤ x.length := by
  simp [sl]; omega

theorem idx_T (n : Nat) (lo hi : Option Int) : Builtin.Str.strSliceIndices lo hi 1 n = (List.range ((hi.elim n (cl · n)) - (lo.elim 0 (cl · n)))).map (fun k => (lo.elim 0 (cl · n)) + k) := by
  have hlo : ∀ d : Int, 0 ≤ d → (match lo with | none => d | some i => if (1:Int) > 0 then max 0 (min (if i < 0 then i + (n : Int) else i) (n : Int)) else max (-1) (min (if i < 0 then i + (n:Int) else i) ((n : Int) - 1))) = ((lo.elim d.toNat (cl · n) : Nat) : Int) := by
    intro d hd
    cases lo with
    | none => simp; omega
    | some i => simp only [Option.elim, cl]; split <;> split <;> omega
  have hhi : ∀ d : Int, 0 ≤ d → (match hi with | none => d | some i => if (1:Int) > 0 then max 0 (min (if i < 0 then i + (n : Int) else i) (n : Int)) else max (-1) (min (if i < 0 then i + (n:Int) else i) ((n : Int) - 1))) = ((hi.elim d.toNat (cl · n) : Nat) : Int) := by
    intro d hd
    cases hi with
    | none => simp; omega
    | some i => simp only [Option.elim, cl]; split <;> split <;> omega
  have e : Builtin.Str.strSliceIndices lo hi 1 n = sliceRange ((lo.elim 0 (cl · n) : Nat) : Int) ((hi.elim n (cl · n) : Nat) : Int) 1 := by
    have h1 := hlo 0 (by omega)
    have h2 := hhi n (by omega)
    unfold Builtin.Str.strSliceIndices
    simp only [show ((1 : Int) > 0) = True from by simp, if_true] at h1 h2 ⊢
    simp only [Int.toNat_natCast, Int.toNat_zero] at h1 h2
    rw [← h1, ← h2]
    rfl
  rw [e]
  generalize lo.elim 0 (cl · n) = a
  generalize hi.elim n (cl · n) = b
  unfold sliceRange
  simp only [show ((1 : Int) > 0) = True from by simp, if_true]
  by_cases hlt : (a : Int) < b
  · have e3 : (((b : Int) - a + 1 - 1) / 1).toNat = b - a := by first | omega | (simp; done) | (simp; omega)
    simp only [hlt, if_true, e3]
    refine List.map_congr_left fun k _ => ?_
    omega
  · have : b - a = 0 := by omega
    simp [hlt, this]

theorem slice_T (x : List Nat) (lo hi : Option Int) : Txt.slice (T x) lo hi = T (sl x lo hi) := by
  have hn : (T x).length = x.length := T_len x
  have ha : lo.elim 0 (cl · x.length) ≤ x.length := by cases lo with | none => simp | some i => exact cl_le i _
  have hb : hi.elim x.length (cl · x.length) ≤ x.length := by cases hi with | none => simp | some i => exact cl_le i _
  have hp := StrLaws.picks x (hi.elim x.length (cl · x.length) - lo.elim 0 (cl · x.length)) (lo.elim 0 (cl · x.length))
  unfold Txt.slice
  rw [hn, idx_T]
  unfold sl
  generalize lo.elim 0 (cl · x.length) = a at *
  generalize hi.elim x.length (cl · x.length) = c at *
  split
  · rename_i h
    have h' : c - a = x.length := by simpa using h
    have ea : a = 0 ∨ x.length = 0 := by omega
    rcases ea with rfl | e0
    · simp [show c - 0 = x.length from h']
    · have : x = [] := List.eq_nil_of_length_eq_zero e0
      subst this; simp
  · have e1 : (T x).cps = x.toArray := rfl
    have e2 : List.filterMap (fun i => (T x).cps[i]?) ((List.range (c - a)).map fun k => a + k) = (x.drop a).take (c - a) := by
      by_cases hc : a ≤ c
      · rw [← hp (by omega)]; simp [e1]
      · have : c - a = 0 := by omega
        simp [this]
    rw [e2]
    rfl

def at' (x : List Nat) (i : Int) : Nat := x.getD (if i < 0 then i + x.length else i).toNat 0
theorem item_T (x : List Nat) (i : Int) (h0 : -(x.length : Int) ≤ i) (h1 : i < x.length) : Txt.item (T x) i = T [at' x i] := by
  unfold Txt.item Txt.charAt seqIndex? at'
  rw [T_len]
  dsimp only
  have h : (decide (0 ≤ if i < 0 then i + (x.length : Int) else i) && decide ((if i < 0 then i + (x.length : Int) else i) < x.length)) = true := by
    split <;> simp <;> omega
  rw [if_pos h]
  simp [T]

theorem contains_one (x : List Nat) (c : Nat) : (!(Builtin.Str.occurrences (T x) (T [c]) 0 (T x).length 1).isEmpty) = x.contains c := by
  have h := StrLaws.found_one (T x) c
  have e : (T [c]) = (⟨#[c]⟩ : Str) := rfl
  rw [e, h]
  have e2 : (T x).cps.toList = x := by simp [T]
  rw [e2, Bool.eq_iff_iff, decide_eq_true_eq, List.contains_iff_mem]

def joinL (sep : List Nat) : List (List Nat) → List Nat
  | [] => []
  | [x] => x
  | x :: r => x ++ sep ++ joinL sep r
theorem strJoin_T (sep : List Nat) : ∀ ls : List (List Nat), Str.join (T sep) (ls.map T) = T (joinL sep ls)
  | [] => rfl
  | [x] => rfl
  | x :: y :: r => by
    show T x ++ T sep ++ Str.join (T sep) ((y :: r).map T) = _
    rw [strJoin_T sep (y :: r), T_app, T_app]; rfl
end Mine
end

section
open PySem PySem.W PySem.Calls PyProof.Rows
set_option maxRecDepth 100000
set_option linter.unusedVariables false
set_option autoImplicit false
namespace Mine
section
variable {G : Run} {C : Act} {ρ : PEnv} {b : Bl} {r : Nat}

/-- an operator on two values -/
def Op2 (G : Run) (C : Act) (t : Value → Value → Sem Value) (u v x : PV) : Prop :=
  ∀ (k : Led) (U V : Value) (s : Shared) (Q : Value → Shared → Prop), Kn k s.heap → Rp k U u → Rp k V v → (∀ X tk', Rp k X x → Q X { s with toks := tk' }) → wpAny G.M C.A (t U V) Q (fun _ _ => False) s
def Op1 (G : Run) (C : Act) (t : Value → Sem Value) (u x : PV) : Prop :=
  ∀ (k : Led) (U : Value) (s : Shared) (Q : Value → Shared → Prop), Kn k s.heap → Rp k U u → (∀ X tk', Rp k X x → Q X { s with toks := tk' }) → wpAny G.M C.A (t U) Q (fun _ _ => False) s

theorem Ev_bin {l r' : Expr} {op : Operator} {pos : Pos} {u v x : PV} (ok : Ok G C r) (h1 : Ev G C ρ b l u) (h2 : Ev G C ρ b r' v) (ho : Op2 G C (binaryOp op) u v x) : Ev G C ρ b (.BinOp l op r' pos) x :=
  .mk fun kp k s Q S h => wpAny_BinOp (h1.of kp k s _ S fun U k1 h1' tk1 s1 S1 R1 => h2.of kp k1 _ _ S1 fun V k2 h2' tk2 s2 S2 R2 =>
    ho k2 U V _ _ (S2.known ok) (R1.mono s2) R2 fun X tk' RX => h X k2 h2' tk' (s1.tr s2) S2 RX)
theorem Ev_cmp {l r' : Expr} {op : CmpOp} {pos : Pos} {u v x : PV} (ok : Ok G C r) (h1 : Ev G C ρ b l u) (h2 : Ev G C ρ b r' v) (ho : Op2 G C (compareOp op) u v x) (hm : behindInMarks op r' = false := by rfl) : Ev G C ρ b (.Compare l [op] [r'] pos) x :=
  .mk fun kp k s Q S h => wpAny_Compare1 (h1.of kp k s _ S fun U k1 h1' tk1 s1 S1 R1 => h2.of kp k1 _ _ S1 fun V k2 h2' tk2 s2 S2 R2 =>
    ho k2 U V _ _ (S2.known ok) (R1.mono s2) R2 fun X tk' RX => h X k2 h2' tk' (s1.tr s2) S2 RX) hm
theorem Tr_cmp {l r' : Expr} {op : CmpOp} {pos : Pos} {u v : PV} {c : Bool} (ok : Ok G C r) (h1 : Ev G C ρ b l u) (h2 : Ev G C ρ b r' v) (ho : Op2 G C (compareOp op) u v (.bool c)) (hm : behindInMarks op r' = false := by rfl) : Tr G C ρ b (.Compare l [op] [r'] pos) c :=
  .mk fun kp k s Q S h => wpAny_isTrue_Compare1 (h1.of kp k s _ S fun U k1 h1' tk1 s1 S1 R1 => h2.of kp k1 _ _ S1 fun V k2 h2' tk2 s2 S2 R2 =>
    ho k2 U V _ _ (S2.known ok) (R1.mono s2) R2 fun X tk' RX => by
      cases RX
      exact wpAny_truthy_bool (h k2 h2' tk' (s1.tr s2) S2)) hm

theorem op_add_int {i j : Int} : Op2 G C (binaryOp .Add) (.int i) (.int j) (.int (i + j)) := fun k U V s Q _ R1 R2 h => by
  cases R1; cases R2; exact PyProof.Rows.add_int (h _ _ (.int _ _))
theorem op_sub_int {i j : Int} : Op2 G C (binaryOp .Sub) (.int i) (.int j) (.int (i - j)) := fun k U V s Q _ R1 R2 h => by
  cases R1; cases R2; exact PyProof.Rows.sub_int (h _ _ (.int _ _))
theorem op_mod_int {i j : Int} (hj : j ≠ 0) : Op2 G C (binaryOp .Mod) (.int i) (.int j) (.int (i.fmod j)) := fun k U V s Q _ R1 R2 h => by
  cases R1; cases R2; exact mod_int' hj (h _ _ (.int _ _))
theorem op_div_int {i j : Int} (hj : j ≠ 0) (hp : Builtin.divisionGoesByPylong i j = false) : Op2 G C (binaryOp .FloorDiv) (.int i) (.int j) (.int (i.fdiv j)) := fun k U V s Q _ R1 R2 h => by
  cases R1; cases R2; exact floordiv_int hj (h _ _ (.int _ _)) (.inl hp)
theorem op_mul_int {i j : Int} (hm : IntMulOk i j) : Op2 G C (binaryOp .Mult) (.int i) (.int j) (.int (i * j)) := fun k U V s Q _ R1 R2 h => by
  cases R1; cases R2; exact PyProof.Rows.mul_int (h _ _ (.int _ _)) hm
theorem op_add_str {x y : List Nat} (hl : x.length + y.length ≤ 1048576) : Op2 G C (binaryOp .Add) (.str x) (.str y) (.str (x ++ y)) := fun k U V s Q _ R1 R2 h => by
  cases R1 with | str _ t h1 => cases R2 with | str _ u h2 =>
  refine PyProof.Rows.add_str (fun t' tk => ?_) (by rw [T_len, T_len, sizeLine_eq]; omega)
  rw [T_app]
  exact h _ _ (.str _ _ (by rw [List.length_append]; exact hl))
theorem op_iadd_str {x y : List Nat} (hl : x.length + y.length ≤ 1048576) : Op2 G C (inplaceOp .Add) (.str x) (.str y) (.str (x ++ y)) := fun k U V s Q _ R1 R2 h => by
  cases R1 with | str _ t h1 => cases R2 with | str _ u h2 =>
  refine PyProof.Rows.iadd_str (fun t' tk => ?_) (by rw [T_len, T_len, sizeLine_eq]; omega)
  rw [T_app]
  exact h _ _ (.str _ _ (by rw [List.length_append]; exact hl))
theorem op_iadd_int {i j : Int} : Op2 G C (inplaceOp .Add) (.int i) (.int j) (.int (i + j)) := fun k U V s Q _ R1 R2 h => by
  cases R1; cases R2; exact wpAny_iadd_int (h _ _ (.int _ _))

theorem op_eq_int {i j : Int} : Op2 G C (compareOp .Eq) (.int i) (.int j) (.bool (i == j)) := fun k U V s Q _ R1 R2 h => by
  cases R1; cases R2; exact PyProof.Rows.eq_int (h _ s.toks (.bool _))
theorem op_ne_int {i j : Int} : Op2 G C (compareOp .NotEq) (.int i) (.int j) (.bool (i != j)) := fun k U V s Q _ R1 R2 h => by
  cases R1; cases R2; exact PyProof.Rows.ne_int (h _ s.toks (.bool _))
theorem op_lt_int {i j : Int} : Op2 G C (compareOp .Lt) (.int i) (.int j) (.bool (decide (i < j))) := fun k U V s Q _ R1 R2 h => by
  cases R1; cases R2; exact PyProof.Rows.lt_int (h _ s.toks (.bool _))
theorem op_le_int {i j : Int} : Op2 G C (compareOp .LtE) (.int i) (.int j) (.bool (decide (i ≤ j))) := fun k U V s Q _ R1 R2 h => by
  cases R1; cases R2; exact PyProof.Rows.le_int (h _ s.toks (.bool _))
theorem op_gt_int {i j : Int} : Op2 G C (compareOp .Gt) (.int i) (.int j) (.bool (decide (j < i))) := fun k U V s Q _ R1 R2 h => by
  cases R1; cases R2; exact PyProof.Rows.gt_int (h _ s.toks (.bool _))
theorem op_ge_int {i j : Int} : Op2 G C (compareOp .GtE) (.int i) (.int j) (.bool (decide (j ≤ i))) := fun k U V s Q _ R1 R2 h => by
  cases R1; cases R2; exact PyProof.Rows.ge_int (h _ s.toks (.bool _))
theorem op_eq_str {x y : List Nat} : Op2 G C (compareOp .Eq) (.str x) (.str y) (.bool (x == y)) := fun k U V s Q _ R1 R2 h => by
  cases R1 with | str _ t h1 => cases R2 with | str _ u h2 =>
  refine PyProof.Rows.eq_str ?_
  rw [T_beq]; exact h _ s.toks (.bool _)
theorem op_ne_str {x y : List Nat} : Op2 G C (compareOp .NotEq) (.str x) (.str y) (.bool (x != y)) := fun k U V s Q _ R1 R2 h => by
  cases R1 with | str _ t h1 => cases R2 with | str _ u h2 =>
  refine PyProof.Rows.ne_str ?_
  have e : (T x != T y) = (x != y) := by simp only [bne, T_beq]
  rw [e]; exact h _ s.toks (.bool _)
theorem op_eq_bool {x y : Bool} : Op2 G C (compareOp .Eq) (.bool x) (.bool y) (.bool (x == y)) := fun k U V s Q _ R1 R2 h => by
  cases R1; cases R2; exact PyProof.Rows.eq_bool (h _ s.toks (.bool _))
theorem op_in_str {c : Nat} {y : List Nat} : Op2 G C (compareOp .In) (.str [c]) (.str y) (.bool (y.contains c)) := fun k U V s Q _ R1 R2 h => by
  cases R1 with | str _ t h1 => cases R2 with | str _ u h2 =>
  refine PyProof.Rows.in_str ?_
  rw [contains_one]; exact h _ s.toks (.bool _)
theorem op_notIn_str {c : Nat} {y : List Nat} : Op2 G C (compareOp .NotIn) (.str [c]) (.str y) (.bool (!y.contains c)) := fun k U V s Q _ R1 R2 h => by
  cases R1 with | str _ t h1 => cases R2 with | str _ u h2 =>
  refine PyProof.Rows.notIn_str ?_
  rw [contains_one]; exact h _ s.toks (.bool _)

theorem Ev_neg {e : Expr} {pos : Pos} {i : Int} (h1 : Ev G C ρ b e (.int i)) : Ev G C ρ b (.UnaryOp .USub e pos) (.int (-i)) :=
  .mk fun kp k s Q S h => UnaryOp_ (h1.of kp k s _ S fun V k1 h1' tk1 s1 S1 R1 => by
    cases R1
    exact neg_int (h _ k1 h1' (tk1 + 1) s1 S1 (.int _ _)))

theorem Ev_ifexp {t e1 e2 : Expr} {pos : Pos} {c : Bool} {v1 v2 : PV} (ht : Tr G C ρ b t c) (h1 : c = true → Ev G C ρ b e1 v1) (h2 : c = false → Ev G C ρ b e2 v2) : Ev G C ρ b (.IfExp t e1 e2 pos) (if c then v1 else v2) :=
  .mk fun kp k s Q S h => IfExp_ (ht.of kp k s _ S fun k1 h1' tk1 s1 S1 => by
    cases c with
    | true => exact (h1 rfl).of kp k1 _ _ S1 fun V k2 h2' tk2 s2 S2 R2 => h V k2 h2' tk2 (s1.tr s2) S2 R2
    | false => exact (h2 rfl).of kp k1 _ _ S1 fun V k2 h2' tk2 s2 S2 R2 => h V k2 h2' tk2 (s1.tr s2) S2 R2)

theorem Ev_bool1 {op : BoolOp} {e : Expr} {pos : Pos} {v : PV} (h1 : Ev G C ρ b e v) : Ev G C ρ b (.BoolOp op [e] pos) v :=
  .mk fun kp k s Q S h => BoolOp_one (h1.of kp k s Q S h)
theorem Ev_and {e1 e2 : Expr} {rest : List Expr} {pos : Pos} {c d : Bool} (h1 : Ev G C ρ b e1 (.bool c)) (h2 : c = true → Ev G C ρ b (.BoolOp .And (e2 :: rest) pos) (.bool d)) : Ev G C ρ b (.BoolOp .And (e1 :: e2 :: rest) pos) (.bool (c && d)) :=
  .mk fun kp k s Q S h => BoolOp_and (h1.of kp k s _ S fun V k1 h1' tk1 s1 S1 R1 => by
    cases R1
    refine wpAny_truthy_bool ?_
    cases c with
    | true => exact (h2 rfl).of kp k1 _ _ S1 fun V k2 h2' tk2 s2 S2 R2 => h V k2 h2' tk2 (s1.tr s2) S2 R2
    | false => exact h _ k1 h1' tk1 s1 S1 (.bool _))

theorem isTrue_boolop (op : BoolOp) (es : List Expr) (pos : Pos) (env : Env) (t u : Sem Value) : isTrue (.BoolOp op es pos) env t = isTrue (.BoolOp op es pos) env u := rfl
theorem Tr_and_nil {pos : Pos} : Tr G C ρ b (.BoolOp .And [] pos) true := .mk fun kp k s Q S h => isTrue_and_nil (h k s.heap s.toks .rfl S)
theorem Tr_or_nil {pos : Pos} : Tr G C ρ b (.BoolOp .Or [] pos) false := .mk fun kp k s Q S h => isTrue_or_nil (h k s.heap s.toks .rfl S)
theorem Tr_and {e : Expr} {rest : List Expr} {pos : Pos} {c d : Bool} (h1 : Tr G C ρ b e c) (h2 : c = true → Tr G C ρ b (.BoolOp .And rest pos) d) : Tr G C ρ b (.BoolOp .And (e :: rest) pos) (c && d) :=
  .mk fun kp k s Q S h => isTrue_and (h1.of kp k s _ S fun k1 h1' tk1 s1 S1 => by
    cases c with
    | true =>
      simp only [if_true]
      rw [isTrue_boolop _ _ _ _ _ (eval (.BoolOp .And rest pos) C.env)]
      exact (h2 rfl).of kp k1 _ _ S1 fun k2 h2' tk2 s2 S2 => h k2 h2' tk2 (s1.tr s2) S2
    | false => exact h k1 h1' tk1 s1 S1)
theorem Tr_or {e : Expr} {rest : List Expr} {pos : Pos} {c d : Bool} (h1 : Tr G C ρ b e c) (h2 : c = false → Tr G C ρ b (.BoolOp .Or rest pos) d) : Tr G C ρ b (.BoolOp .Or (e :: rest) pos) (c || d) :=
  .mk fun kp k s Q S h => isTrue_or (h1.of kp k s _ S fun k1 h1' tk1 s1 S1 => by
    cases c with
    | false =>
      simp only [Bool.false_eq_true, if_false]
      rw [isTrue_boolop _ _ _ _ _ (eval (.BoolOp .Or rest pos) C.env)]
      exact (h2 rfl).of kp k1 _ _ S1 fun k2 h2' tk2 s2 S2 => h k2 h2' tk2 (s1.tr s2) S2
    | true => exact h k1 h1' tk1 s1 S1)
theorem Tr_not {e : Expr} {pos : Pos} {c : Bool} (h1 : Tr G C ρ b e c) : Tr G C ρ b (.UnaryOp .Not e pos) (!c) :=
  .mk fun kp k s Q S h => isTrue_not (h1.of kp k s _ S fun k1 h1' tk1 s1 S1 => h k1 h1' tk1 s1 S1)
theorem Tr_str {e : Expr} {x : List Nat} (h1 : Ev G C ρ b e (.str x)) (hp : ∀ env whole, PySem.isTrue e env whole = (do let v ← whole; standAt e.pos; holding [v] (truthy v)) := by intros; rfl) : Tr G C ρ b e (!x.isEmpty) :=
  .mk fun kp k s Q S h => isTrue_plain (h1.of kp k s _ S fun V k1 h1' tk1 s1 S1 R1 => by
    cases R1 with | str _ t hl =>
    refine SBL.truthy (by rw [T_len]; omega) ?_
    have e : (((T x).length : Int) != 0) = !x.isEmpty := by
      rw [T_len]; cases x <;> simp [bne] <;> omega
    rw [e]
    exact h k1 h1' _ s1 S1) (hp _ _)
theorem Tr_bool {e : Expr} {c : Bool} (h1 : Ev G C ρ b e (.bool c)) (hp : ∀ env whole, PySem.isTrue e env whole = (do let v ← whole; standAt e.pos; holding [v] (truthy v)) := by intros; rfl) : Tr G C ρ b e c :=
  .mk fun kp k s Q S h => isTrue_plain (h1.of kp k s _ S fun V k1 h1' tk1 s1 S1 R1 => by
    cases R1
    exact wpAny_truthy_bool (h k1 h1' tk1 s1 S1)) (hp _ _)

/-! items, slices -/
theorem letGo_str {value : Expr} {x : Str} {t : Tok} : ∀ r, letTemporaryGo value (.str x t) r = pure () := by
  intro r; unfold letTemporaryGo; split <;> first | rfl | (rename_i h; cases h)
theorem letGo_name {x : Str} {p : Pos} {o : Value} : ∀ r, letTemporaryGo (.Name x p) o r = pure () := fun _ => rfl

theorem Ev_item {value slice : Expr} {pos : Pos} {x : List Nat} {i : Int} (h1 : Ev G C ρ b value (.str x)) (h2 : Ev G C ρ b slice (.int i)) (h0 : -(x.length : Int) ≤ i) (h3 : i < x.length)
    (hs : ∀ o v, subscripted slice false o v = operate [o, v] (getItem o v) := by intros; rfl) : Ev G C ρ b (.Subscript value slice pos) (.str [at' x i]) :=
  .mk fun kp k s Q S h => Subscript_ (h1.of kp k s _ S fun U k1 h1' tk1 s1 S1 R1 => h2.of kp k1 _ _ S1 fun V k2 h2' tk2 s2 S2 R2 => by
    cases R1 with | str _ t hl => cases R2 with | int _ u =>
    refine item_str ?_ (by rw [T_len]; exact h0) (by rw [T_len]; exact h3) (fun _ => ?_) (hs _ _) letGo_str
    · unfold fitsSsize
      simp only [Bool.not_eq_true', Bool.or_eq_false_iff, decide_eq_false_iff_not]
      constructor <;> omega
    · rw [item_T x i h0 h3]
      exact h _ k2 h2' _ (s1.tr s2) S2 (.str _ _ (by simp)))

theorem Ev_sl_ss {value lo hi : Expr} {p pos : Pos} {x : List Nat} {i j : Int} (h1 : Ev G C ρ b value (.str x)) (h2 : Ev G C ρ b lo (.int i)) (h3 : Ev G C ρ b hi (.int j)) : Ev G C ρ b (.Subscript value (.Slice (some lo) (some hi) none p) pos) (.str (sl x (some i) (some j))) :=
  .mk fun kp k s Q S h => Subscript_ (h1.of kp k s _ S fun U k1 h1' tk1 s1 S1 R1 => wpAny_Slice (evalPart_some_step (h2.of kp k1 _ _ S1 fun V k2 h2' tk2 s2 S2 R2 => evalPart_some_step (h3.of kp k2 _ _ S2 fun W k3 h3' tk3 s3 S3 R3 => evalPart_none_step (by
    cases R1 with | str _ t hl => cases R2 with | int _ u => cases R3 with | int _ w =>
    obtain ⟨m, led, fz, F, N, Wt, keep, _, _⟩ := S3.take
    refine slice_strN_ss (s := { s with heap := h3', toks := tk3 }) F N (fun h' t' k' F' N' => ?_) rfl letGo_str (by rw [T_len, sizeLine_eq]; omega)
    rw [slice_T]
    exact h _ k3 h' k' (s1.tr (s2.tr s3)) (keep h' F' N') (.str _ _ (Nat.le_trans (sl_len ..) hl)))))))
theorem Ev_sl_sn {value lo : Expr} {p pos : Pos} {x : List Nat} {i : Int} (h1 : Ev G C ρ b value (.str x)) (h2 : Ev G C ρ b lo (.int i)) : Ev G C ρ b (.Subscript value (.Slice (some lo) none none p) pos) (.str (sl x (some i) none)) :=
  .mk fun kp k s Q S h => Subscript_ (h1.of kp k s _ S fun U k1 h1' tk1 s1 S1 R1 => wpAny_Slice (evalPart_some_step (h2.of kp k1 _ _ S1 fun V k2 h2' tk2 s2 S2 R2 => evalPart_none_step (evalPart_none_step (by
    cases R1 with | str _ t hl => cases R2 with | int _ u =>
    obtain ⟨m, led, fz, F, N, Wt, keep, _, _⟩ := S2.take
    refine slice_strN_sn (s := { s with heap := h2', toks := tk2 }) F N (fun h' t' k' F' N' => ?_) rfl letGo_str (by rw [T_len, sizeLine_eq]; omega)
    rw [slice_T]
    exact h _ k2 h' k' (s1.tr s2) (keep h' F' N') (.str _ _ (Nat.le_trans (sl_len ..) hl)))))))
theorem Ev_sl_ns {value hi : Expr} {p pos : Pos} {x : List Nat} {j : Int} (h1 : Ev G C ρ b value (.str x)) (h2 : Ev G C ρ b hi (.int j)) : Ev G C ρ b (.Subscript value (.Slice none (some hi) none p) pos) (.str (sl x none (some j))) :=
  .mk fun kp k s Q S h => Subscript_ (h1.of kp k s _ S fun U k1 h1' tk1 s1 S1 R1 => wpAny_Slice (evalPart_none_step (evalPart_some_step (h2.of kp k1 _ _ S1 fun V k2 h2' tk2 s2 S2 R2 => evalPart_none_step (by
    cases R1 with | str _ t hl => cases R2 with | int _ u =>
    obtain ⟨m, led, fz, F, N, Wt, keep, _, _⟩ := S2.take
    refine slice_strN_ns (s := { s with heap := h2', toks := tk2 }) F N (fun h' t' k' F' N' => ?_) rfl letGo_str (by rw [T_len, sizeLine_eq]; omega)
    rw [slice_T]
    exact h _ k2 h' k' (s1.tr s2) (keep h' F' N') (.str _ _ (Nat.le_trans (sl_len ..) hl)))))))
end
end Mine
end

section
open PySem PySem.W PySem.Calls PyProof.Rows
set_option maxRecDepth 100000
set_option linter.unusedVariables false
set_option autoImplicit false
namespace Mine
section
variable {G : Run} {C : Act} {ρ : PEnv} {b : Bl} {r : Nat}

theorem isTup_of {k : Led} {h : Heap} {a : Addr} {o : Obj} {vs : List Value} (hk : Kn k h) (hm : (a, o) ∈ k) (hs : IsSeq "tuple" o vs) : IsTup h a vs.toArray := ⟨o, hk _ hm, hs.1, hs.2⟩
theorem isList_of {k : Led} {h : Heap} {a : Addr} {o : Obj} {vs : List Value} (hk : Kn k h) (hm : (a, o) ∈ k) (hs : IsSeq "list" o vs) : h.IsList a vs.toArray := ⟨o, hk _ hm, hs.1, hs.2⟩

theorem Ev_tup_item {value slice : Expr} {pos : Pos} {ds : List PV} {i : Int} {d : PV} (ok : Ok G C r) (h1 : Ev G C ρ b value (.tup ds)) (h2 : Ev G C ρ b slice (.int i)) (h0 : 0 ≤ i) (h3 : i < 1048577) (hd : ds[i.toNat]? = some d)
    (hs : ∀ o v, subscripted slice false o v = operate [o, v] (getItem o v) := by intros; rfl) : Ev G C ρ b (.Subscript value slice pos) d :=
  .mk fun kp k s Q S h => Subscript_ (h1.of kp k s _ S fun U k1 h1' tk1 s1 S1 R1 => h2.of kp k1 _ _ S1 fun V k2 h2' tk2 s2 S2 R2 => by
    cases R2 with | int _ u =>
    cases R1.mono s2 with | tup hm hq hr =>
    obtain ⟨x, hx, hR⟩ := hr.get hd
    refine item_tupleT (isTup_of (S2.known ok) hm hq) (by omega) (by omega) (StrLaws.seqIndex_nonneg h0 ?_) hx ?_ (hs _ _)
    · have := (List.getElem?_eq_some_iff.mp hx).1; omega
    · exact h x k2 h2' tk2 (s1.tr s2) S2 hR)
theorem Ev_list_item {value slice : Expr} {pos : Pos} {ds : List PV} {i : Int} {d : PV} (ok : Ok G C r) (h1 : Ev G C ρ b value (.list ds)) (h2 : Ev G C ρ b slice (.int i)) (h0 : 0 ≤ i) (h3 : i < 1048577) (hd : ds[i.toNat]? = some d)
    (hs : ∀ o v, subscripted slice false o v = operate [o, v] (getItem o v) := by intros; rfl) : Ev G C ρ b (.Subscript value slice pos) d :=
  .mk fun kp k s Q S h => Subscript_ (h1.of kp k s _ S fun U k1 h1' tk1 s1 S1 R1 => h2.of kp k1 _ _ S1 fun V k2 h2' tk2 s2 S2 R2 => by
    cases R2 with | int _ u =>
    cases R1.mono s2 with | list hm hq hl hr =>
    obtain ⟨x, hx, hR⟩ := hr.get hd
    have hL := isList_of (S2.known ok) hm hq
    exact tail_any hL.typeIs slot_list_getitem.lookup (wpAny_getItem_list hL h0 (by omega) (by simpa using hx) (h x k2 h2' tk2 (s1.tr s2) S2 hR)) (hs _ _))

def slP {α : Type} (l : List α) (lo hi : Option Int) : List α := (l.drop (kms_lo lo l.length)).take (kms_hi hi l.length - kms_lo lo l.length)
theorem RpAll.slP {k : Led} {vs : List Value} {ds : List PV} (h : RpAll k vs ds) (lo hi : Option Int) : RpAll k (kms_pick vs lo hi) (slP ds lo hi) := by
  unfold kms_pick Mine.slP
  rw [h.length]
  exact (h.drop _).take _
theorem slP_len {α : Type} (l : List α) (lo hi : Option Int) : (slP l lo hi).length ≤ l.length := by
  unfold slP; simp; omega

theorem slice_list_St {C : Act} {kp : Led} {ρ : PEnv} {b : Bl} {k : Led} {x : Str} {p : Pos} {slice : Expr} {vl vu : Value} {lo hi : Option Int} {ds : List PV} {U : Value} {s : Shared} {Q : Value → Shared → Prop} (ok : Ok G C r)
    (S : St C kp ρ b k s.heap) (R : Rp k U (.list ds)) (pl : IsPart vl lo) (pu : IsPart vu hi) (hs : ∀ o v, subscripted slice false o v = operate [v, o] (getItem o v))
    (h : ∀ V k' h' tk', Sub k k' → St C kp ρ b k' h' → Rp k' V (.list (slP ds lo hi)) → Q V { s with heap := h', toks := tk' }) :
    wpAny G.M C.A (subscriptTail (.Name x p) slice U (.ref s.heap.objs.size)) Q (fun _ _ => False) { s with heap := s.heap.push { cls := .type "slice", data := .fields #[vl, vu, .none] } } := by
  cases R with | list hm hq hl hr =>
  obtain ⟨m, led, fz, F, N, Wt, _, push, _⟩ := S.take
  refine kms_slice_lit F N (isList_of (S.known ok) hm hq) pl pu rfl (fun D h' F' N' hlt => ?_) (hs _ _) letGo_name ?_
  · have e := hr.length
    refine h _ _ h' s.toks Sub.cons (push h' D _ F' N' fun p hp => Nat.ne_of_lt (hlt p hp)) (.list (.head _) ⟨rfl, 0, rfl⟩ (Nat.le_trans (slP_len ..) hl) ?_)
    exact (hr.slP lo hi).mono Sub.cons
  · rw [List.size_toArray, hr.length, sizeLine_eq]; omega

theorem Ev_lsl_ss {x : Str} {q p pos : Pos} {lo hi : Expr} {ds : List PV} {i j : Int} (ok : Ok G C r) (h1 : Ev G C ρ b (.Name x q) (.list ds)) (h2 : Ev G C ρ b lo (.int i)) (h3 : Ev G C ρ b hi (.int j)) : Ev G C ρ b (.Subscript (.Name x q) (.Slice (some lo) (some hi) none p) pos) (.list (slP ds (some i) (some j))) :=
  .mk fun kp k s Q S h => Subscript_ (h1.of kp k s _ S fun U k1 h1' tk1 s1 S1 R1 => wpAny_Slice (evalPart_some_step (h2.of kp k1 _ _ S1 fun V k2 h2' tk2 s2 S2 R2 => evalPart_some_step (h3.of kp k2 _ _ S2 fun W k3 h3' tk3 s3 S3 R3 => evalPart_none_step (by
    cases R2 with | int _ u => cases R3 with | int _ w =>
    exact slice_list_St (s := { s with heap := h3', toks := tk3 }) ok S3 (R1.mono (s2.tr s3)) (.int _ _) (.int _ _) (fun _ _ => rfl) fun V k' h' tk' s' S' R' => h V k' h' tk' (s1.tr (s2.tr (s3.tr s'))) S' R')))))
theorem Ev_lsl_sn {x : Str} {q p pos : Pos} {lo : Expr} {ds : List PV} {i : Int} (ok : Ok G C r) (h1 : Ev G C ρ b (.Name x q) (.list ds)) (h2 : Ev G C ρ b lo (.int i)) : Ev G C ρ b (.Subscript (.Name x q) (.Slice (some lo) none none p) pos) (.list (slP ds (some i) none)) :=
  .mk fun kp k s Q S h => Subscript_ (h1.of kp k s _ S fun U k1 h1' tk1 s1 S1 R1 => wpAny_Slice (evalPart_some_step (h2.of kp k1 _ _ S1 fun V k2 h2' tk2 s2 S2 R2 => evalPart_none_step (evalPart_none_step (by
    cases R2 with | int _ u =>
    exact slice_list_St (s := { s with heap := h2', toks := tk2 }) ok S2 (R1.mono s2) (.int _ _) .none (fun _ _ => rfl) fun V k' h' tk' s' S' R' => h V k' h' tk' (s1.tr (s2.tr s')) S' R')))))
theorem Ev_lsl_ns {x : Str} {q p pos : Pos} {hi : Expr} {ds : List PV} {j : Int} (ok : Ok G C r) (h1 : Ev G C ρ b (.Name x q) (.list ds)) (h2 : Ev G C ρ b hi (.int j)) : Ev G C ρ b (.Subscript (.Name x q) (.Slice none (some hi) none p) pos) (.list (slP ds none (some j))) :=
  .mk fun kp k s Q S h => Subscript_ (h1.of kp k s _ S fun U k1 h1' tk1 s1 S1 R1 => wpAny_Slice (evalPart_none_step (evalPart_some_step (h2.of kp k1 _ _ S1 fun V k2 h2' tk2 s2 S2 R2 => evalPart_none_step (by
    cases R2 with | int _ u =>
    exact slice_list_St (s := { s with heap := h2', toks := tk2 }) ok S2 (R1.mono s2) .none (.int _ _) (fun _ _ => rfl) fun V k' h' tk' s' S' R' => h V k' h' tk' (s1.tr (s2.tr s')) S' R')))))

theorem Ev_tuple {es : List Expr} {n : Nat} {pos : Pos} {ds : List PV} (h1 : EvL G C ρ b es ds) (hl : ds.length ≤ 1048576 := by first | decide | (simp; done)) : Ev G C ρ b (.Tuple es n pos) (.tup ds) :=
  .mk fun kp k s Q S h => Tuple_ (h1.of pos kp k s _ S fun Vs k1 h1' tk1 s1 S1 R1 => by
    obtain ⟨m, led, fz, F, N, Wt, _, push, _⟩ := S1.take
    refine newTuple_N F N (fun h' F' N' => ?_) (by rw [R1.length, sizeLine_eq]; omega)
    exact h _ _ h' tk1 (s1.tr Sub.cons) (push h' _ _ F' N' (led_ne N)) (.tup (.head _) ⟨rfl, 0, rfl⟩ (R1.mono Sub.cons)))
theorem Ev_nil {pos : Pos} : Ev G C ρ b (.List [] pos) (.list []) :=
  .mk fun kp k s Q S h => List_ (spliced_none (by
    obtain ⟨m, led, fz, F, N, Wt, _, push, _⟩ := S.take
    refine newList_K F N (fun l h' F' N' hl => ?_) (by simp)
    exact h _ _ h' s.toks Sub.cons (push h' _ _ F' N' fun p hp => Nat.ne_of_lt (hl p hp)) (.list (.head _) ⟨rfl, 0, rfl⟩ (by simp) .nil)))

/-! calls -/
theorem Ev_bcall {f : Str} {p pos : Pos} {e : Expr} {es : List Expr} {id : String} {us : List PV} {x : PV} (ok : Ok G C r) (hg : nsIn G.K mainGlobals f = some none) (hv : bootBuiltins f = some (.builtin id)) (hl : C.cs.names.lookup f = some .globalImplicit)
    (h1 : EvL G C ρ b (e :: es) us) (ho : ∀ (kp k : Led) (Us : List Value) (s : Shared) (Q : Value → Shared → Prop), St C kp ρ b k s.heap → RpAll k Us us → (∀ X h' tk' k', Sub k k' → St C kp ρ b k' h' → Rp k' X x → Q X { s with heap := h', toks := tk' }) → wpAny G.M C.A (call (.builtin id) Us) Q (fun _ _ => False) s)
    (hf : f ≠ ("__name__" : Str) := by decide +kernel) (hd : (f == ("__debug__" : Str)) = false := by rfl)
    (hc : eval (.Call (.Name f p) (e :: es) [] pos) C.env = (do let g ← eval (.Name f p) C.env; callWith pos g [] (backTo pos (starEach (e :: es) C.env)) (backToKw pos (keywordEach [] C.env))) := by rfl)
    (hn : starEach (e :: es) C.env = (false, eval e C.env) :: starEach es C.env := by rfl) (hp : (backTo pos (starEach es C.env)).any (·.1) = false := by rfl) : Ev G C ρ b (.Call (.Name f p) (e :: es) [] pos) x :=
  .mk fun kp k s Q S h => by
    obtain ⟨m, led, fz, F, N, Wt⟩ := S.ex
    refine Call_ (nameX_B F ok.X ok.T hg hv hf (PyProof.Rows.callWith_builtin1 (h1.of pos kp k s _ S fun Us k1 h1' tk1 s1 S1 R1 => ?_) hn hp) ok.hk hl hd) hc
    exact ho kp k1 Us _ _ S1 R1 fun X h' tk' k' s' S' RX => h X k' h' tk' (s1.tr s') S' RX

/-- a built-in that makes nothing -/
def Pu (G : Run) (C : Act) (id : String) (us : List PV) (x : PV) : Prop :=
  ∀ (k : Led) (Us : List Value) (s : Shared) (Q : Value → Shared → Prop), Kn k s.heap → RpAll k Us us → (∀ X tk', Rp k X x → Q X { s with toks := tk' }) → wpAny G.M C.A (call (.builtin id) Us) Q (fun _ _ => False) s
theorem Ev_pcall {f : Str} {p pos : Pos} {e : Expr} {es : List Expr} {id : String} {us : List PV} {x : PV} (ok : Ok G C r) (hg : nsIn G.K mainGlobals f = some none) (hv : bootBuiltins f = some (.builtin id)) (hl : C.cs.names.lookup f = some .globalImplicit)
    (h1 : EvL G C ρ b (e :: es) us) (ho : Pu G C id us x)
    (hf : f ≠ ("__name__" : Str) := by decide +kernel) (hd : (f == ("__debug__" : Str)) = false := by rfl)
    (hc : eval (.Call (.Name f p) (e :: es) [] pos) C.env = (do let g ← eval (.Name f p) C.env; callWith pos g [] (backTo pos (starEach (e :: es) C.env)) (backToKw pos (keywordEach [] C.env))) := by rfl)
    (hn : starEach (e :: es) C.env = (false, eval e C.env) :: starEach es C.env := by rfl) (hp : (backTo pos (starEach es C.env)).any (·.1) = false := by rfl) : Ev G C ρ b (.Call (.Name f p) (e :: es) [] pos) x :=
  Ev_bcall ok hg hv hl h1 (fun kp k Us s Q S R h => ho k Us s Q (S.known ok) R fun X tk' RX => h X s.heap tk' k .rfl S RX) hf hd hc hn hp

theorem pu_len {x : List Nat} : Pu G C "len" [.str x] (.int x.length) := fun k Us s Q _ R h => by
  cases R with | cons R1 R => cases R; cases R1 with | str _ t hl =>
  have e : ((T x).length : Int) = x.length := by rw [T_len]
  refine SBL.len (by rw [e]; omega) ?_
  rw [e]; exact h _ _ (.int _ _)
theorem pu_chr {i : Int} (h0 : 0 ≤ i) (h1 : i ≤ 1114111) : Pu G C "chr" [.int i] (.str [i.toNat]) := fun k Us s Q _ R h => by
  cases R with | cons R1 R => cases R; cases R1 with | int _ t =>
  exact chr_of_range h0 h1 (h _ _ (.str [i.toNat] _ (by simp)))
theorem pu_ord {c : Nat} : Pu G C "ord" [.str [c]] (.int c) := fun k Us s Q _ R h => by
  cases R with | cons R1 R => cases R; cases R1 with | str _ t hl =>
  exact P.ord_of_char (h _ _ (.int _ _))

/-! methods of a text -/
def GetMs (G : Run) (C : Act) (name : Str) (id : String) : Prop := ∀ {x : Str} {t : Tok} {pl : Sem Bool} {s : Shared} {Q : Value × List Value → Shared → Prop}, Q (.builtin id, [.str x t]) s → wpAny G.M C.A (getMethod (.str x t) name pl) Q (fun _ _ => False) s
structure GetM (G : Run) (C : Act) (name : Str) (id : String) : Prop where
  has : GetMs G C name id ∧ True
theorem GetM.of {name : Str} {id : String} (h : GetM G C name id) : GetMs G C name id := h.has.1
theorem Ev_smeth0 {o : Expr} {name : Str} {id : String} {apos pos : Pos} {x : List Nat} {y : PV} (ok : Ok G C r) (h1 : Ev G C ρ b o (.str x)) (hg : GetM G C name id) (pl : Sem Bool)
    (hm : eval (.Call (.Attribute o name apos) [] [] pos) C.env = (do let ov ← eval o C.env; standAt apos.atName; let (f, first) ← holding [ov] (getMethod ov name pl); callWith pos f first (backTo pos (starEach [] C.env)) []))
    (ho : Pu G C id [.str x] y) : Ev G C ρ b (.Call (.Attribute o name apos) [] [] pos) y :=
  .mk fun kp k s Q S h => MethodCall_ (pl := pl) (h1.of kp k s _ S fun U k1 h1' tk1 s1 S1 R1 => by
    cases R1 with | str _ t hl =>
    refine hg.of (callWith_method0 ?_)
    exact ho k1 _ _ _ (S1.known ok) (.cons (.str _ _ hl) .nil) fun X tk' RX => h X k1 h1' tk' s1 S1 RX) hm
theorem Ev_smeth1 {o e : Expr} {name : Str} {id : String} {apos pos : Pos} {x : List Nat} {v y : PV} (ok : Ok G C r) (h1 : Ev G C ρ b o (.str x)) (h2 : Ev G C ρ b e v) (hg : GetM G C name id) (pl : Sem Bool)
    (hm : eval (.Call (.Attribute o name apos) [e] [] pos) C.env = (do let ov ← eval o C.env; standAt apos.atName; let (f, first) ← holding [ov] (getMethod ov name pl); callWith pos f first (backTo pos (starEach [e] C.env)) []))
    (ho : Pu G C id [.str x, v] y) (hn : starEach [e] C.env = (false, eval e C.env) :: starEach [] C.env := by rfl) : Ev G C ρ b (.Call (.Attribute o name apos) [e] [] pos) y :=
  .mk fun kp k s Q S h => MethodCall_ (pl := pl) (h1.of kp k s _ S fun U k1 h1' tk1 s1 S1 R1 => by
    cases R1 with | str _ t hl =>
    refine hg.of (callWith_method1 (spliced_more (h2.of kp k1 _ _ S1 fun V k2 h2' tk2 s2 S2 R2 => spliced_none ?_) hn) hn rfl)
    exact ho k2 _ _ _ (S2.known ok) (.cons (.str _ _ hl) (.cons R2 .nil)) fun X tk' RX => h X k2 h2' tk' (s1.tr s2) S2 RX) hm
end
end Mine
end

section
open PySem PySem.W PySem.Calls PyProof.Rows
set_option maxRecDepth 100000
set_option linter.unusedVariables false
set_option autoImplicit false
namespace Mine
section
variable {G : Run} {C : Act} {ρ : PEnv} {b : Bl} {r : Nat} {Φ : Out → Prop}

theorem Ex_nil (h : Φ (.next ρ b)) : Ex G C ρ b [] Φ := .mk fun kp k s Q S hQ => wpAny_execs_nil (hQ _ .next k s.heap s.toks h .rfl ⟨rfl, S⟩)

def Then (G : Run) (C : Act) (rest : List Stmt) (Φ : Out → Prop) : Out → Prop
  | .next ρ b => Ex G C ρ b rest Φ
  | o => Φ o

theorem Ex_cons {st : Stmt} {rest : List Stmt} (h : Ex1 G C ρ b st (Then G C rest Φ)) : Ex G C ρ b (st :: rest) Φ :=
  .mk fun kp k s Q S hQ => wpAny_execs_cons (h.of kp k s _ S fun o f k1 h1 tk1 ho s1 hi => by
    cases o with
    | next ρ' b' =>
      obtain ⟨rfl, S1⟩ := hi
      exact Ex.of ho kp k1 _ _ S1 fun o f k2 h2 tk2 ho2 s2 hi2 => hQ o f k2 h2 tk2 ho2 (s1.tr s2) hi2
    | cont ρ' b' =>
      obtain ⟨rfl, S1⟩ := hi
      exact hQ (.cont ρ' b') .cont k1 h1 tk1 ho s1 ⟨rfl, S1⟩
    | ret v =>
      obtain ⟨V, ρ', rfl, S1, R1⟩ := hi
      exact hQ (.ret v) (.ret V) k1 h1 tk1 ho s1 ⟨V, ρ', rfl, S1, R1⟩)

theorem store_St {x : Str} {V : Value} {d : PV} {kp k : Led} {s : Shared} {Q : Unit → Shared → Prop} (ok : Ok G C r) (hl : C.cs.names.lookup x = some .local) (S : St C kp ρ b k s.heap) (R : Rp k V d)
    (h : ∀ h' tk', St C kp ((x, d) :: ρ) b k h' → Q () { s with heap := h', toks := tk' }) : wpAny G.M C.A (storeName C.env x V) Q (fun _ _ => False) s := by
  obtain ⟨m, led, fz, F, N, Wt, _, _, st⟩ := S.take
  exact storeX_L F N (fun h' F' N' => h h' _ (st h' x V d F' N' R)) ok.hk hl

theorem Ex1_assign {x : Str} {p pos : Pos} {e : Expr} {v : PV} (ok : Ok G C r) (hl : C.cs.names.lookup x = some .local) (h1 : Ev G C ρ b e v) (h : Φ (.next ((x, v) :: ρ) b)) (hs : swapsWith e (some (.Name x p)) pos.line C.env = pure false := by rfl) :
    Ex1 G C ρ b (.Assign [.Name x p] e pos) Φ :=
  .mk fun kp k s Q S hQ => wpAny_Assign_Name (h1.of kp k s _ S fun V k1 h1' tk1 s1 S1 R1 => store_St (s := { s with heap := h1', toks := tk1 }) ok hl S1 R1 fun h' tk' S' => hQ _ .next k1 h' tk' h s1 ⟨rfl, S'⟩) hs

theorem Ex1_aug {x : Str} {p pos : Pos} {op : Operator} {e : Expr} {u v w : PV} (ok : Ok G C r) (hu : ρ.lookup x = some u) (hl : C.cs.names.lookup x = some .local) (h1 : Ev G C ρ b e v) (ho : Op2 G C (inplaceOp op) u v w) (h : Φ (.next ((x, w) :: ρ) b)) :
    Ex1 G C ρ b (.AugAssign (.Name x p) op e pos) Φ :=
  .mk fun kp k s Q S hQ => wpAny_AugAssign_Name (by
    obtain ⟨m, led, fz, F, N, Wt⟩ := S.ex
    obtain ⟨U, hU, hR⟩ := Wt.en x u hu
    refine wpAny_loadName_local ok.hk hl F.ns hU ?_
    exact h1.of kp k s _ S fun V k1 h1' tk1 s1 S1 R1 => ho k1 U V _ _ (S1.known ok) (hR.mono s1) R1 fun X tk' RX =>
      store_St (s := { s with heap := h1', toks := tk' }) ok hl S1 RX fun h' tk'' S' => hQ _ .next k1 h' tk'' h s1 ⟨rfl, S'⟩)

theorem Ex1_if {t : Expr} {body orelse : List Stmt} {pos : Pos} {c : Bool} (ht : Tr G C ρ b t c) (h1 : c = true → Ex G C ρ b body Φ) (h2 : c = false → Ex G C ρ b orelse Φ) : Ex1 G C ρ b (.If t body orelse pos) Φ :=
  .mk fun kp k s Q S hQ => wpAny_If (ht.of kp k s _ S fun k1 h1' tk1 s1 S1 => by
    cases c with
    | true => exact (h1 rfl).of kp k1 _ _ S1 fun o f k2 h2 tk2 ho s2 hi => hQ o f k2 h2 tk2 ho (s1.tr s2) hi
    | false => exact (h2 rfl).of kp k1 _ _ S1 fun o f k2 h2 tk2 ho s2 hi => hQ o f k2 h2 tk2 ho (s1.tr s2) hi)

theorem Ex1_ret {e : Expr} {pos : Pos} {v : PV} (h1 : Ev G C ρ none e v) (h : Φ (.ret v)) : Ex1 G C ρ none (.Return (some e) pos) Φ :=
  .mk fun kp k s Q S hQ => wpAny_Return_some (h1.of kp k s _ S fun V k1 h1' tk1 s1 S1 R1 => hQ (.ret v) (.ret V) k1 h1' tk1 h s1 ⟨V, ρ, rfl, S1, R1⟩)
theorem Ex1_cont {pos : Pos} (h : Φ (.cont ρ b)) : Ex1 G C ρ b (.Continue pos) Φ :=
  .mk fun kp k s Q S hQ => wpAny_Continue (hQ _ .cont k s.heap s.toks h .rfl ⟨rfl, S⟩)

/-- a builder let go -/
theorem St.drop {kp k : Led} {h : Heap} (S : St C kp ρ b k h) : St C kp ρ none k h := by
  obtain ⟨m, led, fz, F, N, Wt⟩ := S.ex
  exact ⟨m, fz, fz, F, fun p hp => N p (fz_led Wt.bl p hp), rfl, Wt.hkp, Wt.kn, Wt.en⟩
theorem Ex1_ret' {e : Expr} {pos : Pos} {v : PV} (h1 : Ev G C ρ b e v) (h : Φ (.ret v)) : Ex1 G C ρ b (.Return (some e) pos) Φ :=
  .mk fun kp k s Q S hQ => wpAny_Return_some (h1.of kp k s _ S fun V k1 h1' tk1 s1 S1 R1 => hQ (.ret v) (.ret V) k1 h1' tk1 h s1 ⟨V, ρ, rfl, S1.drop, R1⟩)

theorem Ex_mono {sts : List Stmt} {Ψ : Out → Prop} (h : Ex G C ρ b sts Φ) (hi : ∀ o, Φ o → Ψ o) : Ex G C ρ b sts Ψ := .mk fun kp k s Q S hQ => h.of kp k s Q S fun o f k' h' tk' ho => hQ o f k' h' tk' (hi o ho)
theorem Ex1_mono {st : Stmt} {Ψ : Out → Prop} (h : Ex1 G C ρ b st Φ) (hi : ∀ o, Φ o → Ψ o) : Ex1 G C ρ b st Ψ := .mk fun kp k s Q S hQ => h.of kp k s Q S fun o f k' h' tk' ho => hQ o f k' h' tk' (hi o ho)
theorem Ex_weak {ρ' : PEnv} {sts : List Stmt} (hs : SubE ρ' ρ) (h : Ex G C ρ' b sts Φ) : Ex G C ρ b sts Φ := .mk fun kp k s Q S hQ => h.of kp k s Q (S.weaken hs.get) hQ
/-! while -/
theorem Ex1_while {σ : Type} {t : Expr} {body : List Stmt} {pos : Pos} (I : σ → Prop) (ρf : σ → PEnv) (bf : σ → Bl) (μ : σ → Nat) (c : σ → Bool) (a₀ : σ)
    (hρ : SubE (ρf a₀) ρ) (hb : bf a₀ = b) (h0 : I a₀)
    (ht : ∀ a, I a → Tr G C (ρf a) (bf a) t (c a))
    (hbody : ∀ a, I a → c a = true → Ex G C (ρf a) (bf a) body (fun o => match o with
      | .next ρ' b' | .cont ρ' b' => ∃ a', SubE (ρf a') ρ' ∧ bf a' = b' ∧ I a' ∧ μ a' < μ a
      | .ret v => Φ (.ret v)))
    (hend : ∀ a, I a → c a = false → Φ (.next (ρf a) (bf a))) : Ex1 G C ρ b (.While t body [] pos) Φ := .mk fun kp k s Q S hQ => by
  refine wpAny_While ?_
  subst hb
  refine codeAny_loop (by rfl) (fun n s' => ∃ a k' h' tk', s' = { s with heap := h', toks := tk' } ∧ Sub k k' ∧ St C kp (ρf a) (bf a) k' h' ∧ I a ∧ μ a = n) ?_ (μ a₀) ⟨a₀, k, s.heap, s.toks, rfl, .rfl, S.weaken hρ.get, h0, rfl⟩
  rintro n s' ⟨a, k', h', tk', rfl, hs, S', ha, rfl⟩
  rw [Around.under_of_weight rfl]
  show wpAny G.M C.A ((whileTurn t body [] C.env).onRaise (fun x => do noteFrame x C.env; theTreesLotGoes x)) _ _ _
  refine wpAny_onRaise (wpAny_mono (Q := _) (E := fun _ _ => False) ?_ (fun _ _ x => x) (fun _ _ x => x.elim))
  unfold whileTurn
  refine wpAny_bind ((ht a ha).of kp k' _ _ S' fun k1 h1 tk1 s1 S1 => ?_)
  cases hc : c a with
  | true =>
    simp only [if_true]
    refine wpAny_bind ((hbody a ha hc).of kp k1 _ _ S1 fun o f k2 h2 tk2 ho s2 hi => ?_)
    cases o with
    | next ρ' b' =>
      obtain ⟨rfl, S2⟩ := hi
      obtain ⟨a', e1, e2, e3, e4⟩ := ho
      subst e2
      exact wpAny_pure ⟨rfl, μ a', e4, a', k2, h2, tk2, rfl, hs.tr (s1.tr s2), S2.weaken e1.get, e3, rfl⟩
    | cont ρ' b' =>
      obtain ⟨rfl, S2⟩ := hi
      obtain ⟨a', e1, e2, e3, e4⟩ := ho
      subst e2
      exact wpAny_pure ⟨rfl, μ a', e4, a', k2, h2, tk2, rfl, hs.tr (s1.tr s2), S2.weaken e1.get, e3, rfl⟩
    | ret v =>
      obtain ⟨V, ρ', rfl, S2, R2⟩ := hi
      exact wpAny_pure (hQ (.ret v) (.ret V) k2 h2 tk2 ho (hs.tr (s1.tr s2)) ⟨V, ρ', rfl, S2, R2⟩)
  | false =>
    simp only [Bool.false_eq_true, if_false]
    refine wpAny_bind (wpAny_execs_nil (wpAny_pure ?_))
    exact hQ _ .next k1 h1 tk1 (hend a ha hc) (hs.tr s1) ⟨rfl, S1⟩
end
end Mine
end

section
open PySem PySem.W PySem.Calls PyProof.Rows
set_option maxRecDepth 100000
set_option linter.unusedVariables false
set_option autoImplicit false
namespace Mine
open Builtin Builtin.ObjectAttr

theorem md_get : typeLookup (.type "method_descriptor") "__get__" = pure (some (.builtin "method_descriptor.__get__")) := by rw [typeLookup_type, builtinLookup_eq_fast]; kernel_rfl
theorem md_set : typeLookup (.type "method_descriptor") "__set__" = pure none := by rw [typeLookup_type, builtinLookup_eq_fast]; kernel_rfl
theorem md_del : typeLookup (.type "method_descriptor") "__delete__" = pure none := by rw [typeLookup_type, builtinLookup_eq_fast]; kernel_rfl
theorem ty_app : typeOf (.builtin "list.append") = pure (.type "method_descriptor") := by show builtinType _ = _; rw [builtinType_eq_fast]; kernel_rfl
theorem sp_get : specialOf (.builtin "list.append") "__get__" = pure (some (.builtin "method_descriptor.__get__")) := by unfold specialOf; rw [ty_app, pure_bind, md_get]
theorem sp_set : specialOf (.builtin "list.append") "__set__" = pure none := by unfold specialOf; rw [ty_app, pure_bind, md_set]
theorem sp_del : specialOf (.builtin "list.append") "__delete__" = pure none := by unfold specialOf; rw [ty_app, pure_bind, md_del]
theorem takes_app : takesStores (.builtin "list.append") = pure false := by unfold takesStores; rw [sp_set]; simp only [pure_bind]; rw [sp_del]; rfl
theorem find_app {M : Model} {A : Around} {E : Value → Shared → Prop} {s : Shared} {l : Addr} {xs : Array Value} {n : Nat} {Q : Found → Shared → Prop}
    (ho : s.heap.get? l = some (listOf xs n)) (h : Q (.bind (.builtin "method_descriptor.__get__") (.builtin "list.append")) s) : wpAny M A (find (.ref l) (.type "list") "append") Q E s := by
  unfold find
  rw [F.slot_list_append.lookup]
  unfold getOf dataDescriptor? 
  simp only [pure_bind, sp_get, takes_app]
  refine wpAny_bind ?_
  rw [if_neg Bool.false_ne_true]
  refine wpAny_pure ?_
  have hT : s.TypeIs (.ref l) "list" := ⟨_, ho, rfl⟩
  unfold W.listOf at ho
  obtain ⟨hp, g, d, tk, os⟩ := s
  repeat (any_goals (first | assumption | wp_step))

theorem isub_list : isSubtype (.type "list") (.type "list") = pure true := by rw [isSubtype_type]; kernel_rfl


theorem slot_md : Slot "method_descriptor" "__get__" "method_descriptor.__get__" := Slot.of (owner := "method_descriptor") (n := "__get__") md_get (by kernel_rfl) (by decide +kernel) (by decide +kernel) (by first | exact .inl (by decide +kernel) | exact .inr (by decide +kernel)) (by rw [isSubtype_type]; kernel_rfl)
theorem entry_md : entryFor table "method_descriptor.__get__" = some Builtin.«method_descriptor.__get__» := entryFor_of_fast (by kernel_rfl)
theorem args_md (a c d : Value) : argsOk "method_descriptor.__get__" ⟨[a, c, d], []⟩ := by unfold argsOk; kernel_rfl

theorem call_md_get {prog : Program} {w : World} {A : Around} {E : Value → Shared → Prop} {s : Shared} {l : Addr} {xs : Array Value} {n : Nat} {Q : Value → Shared → Prop}
    (ho : s.heap.get? l = some (listOf xs n)) (h : Q (.ref s.heap.objs.size) { s with heap := s.heap.push (boundAppend l) }) :
    wpAny (model prog w) A (call (.builtin "method_descriptor.__get__") [.builtin "list.append", .ref l, .type "list"]) Q E s := by
  have hT : s.TypeIs (.ref l) "list" := ⟨_, ho, rfl⟩
  have hL : s.heap.IsList l xs := ⟨_, ho, rfl, n, rfl⟩
  refine wpAny_call_entry slot_md ty_app entry_md ?_ (args_md _ _ _)
  unfold Builtin.«method_descriptor.__get__»
  unfold W.listOf at ho
  have i1 := isub_list
  obtain ⟨hp, g, d, tk, os⟩ := s
  repeat k_node
  exact ⟨_, rfl, h⟩

theorem getattribute_app {prog : Program} {w : World} {A : Around} {E : Value → Shared → Prop} {s : Shared} {l : Addr} {u : Tok} {xs : Array Value} {n : Nat} {Q : Value → Shared → Prop}
    (ho : s.heap.get? l = some (listOf xs n)) (h : Q (.ref s.heap.objs.size) { s with heap := s.heap.push (boundAppend l) }) :
    wpAny (model prog w) A (call (.builtin "list.__getattribute__") [.ref l, .str "append" u]) Q E s := by
  have hT : s.TypeIs (.ref l) "list" := ⟨_, ho, rfl⟩
  refine wpAny_call_entry F.slot_list_getattribute hT am_entry_list_getattribute ?_ (F.args_list_getattribute_2 _ _)
  unfold Builtin.«object.__getattribute__»
  refine wpAny_bind (wpAny_of_eq (a := (Value.ref l, [Value.str "append" u])) (by rfl) ?_)
  dsimp only
  refine wpAny_bind (wpAny_of_eq (a := (Str.ofString "append")) (by rfl) ?_)
  refine wpAny_bind (wpAny_typeOf hT ?_)
  refine wpAny_bind (find_app ho ?_)
  dsimp only
  show wpAny _ _ (do ret (← holding [Value.builtin "list.append"] (call (.builtin "method_descriptor.__get__") [.builtin "list.append", .ref l, .type "list"]))) _ _ _
  exact wpAny_bind (wpAny_holding (call_md_get ho (wpAny_pure ⟨_, rfl, h⟩)))

theorem getAttr_app {prog : Program} {w : World} {A : Around} {E : Value → Shared → Prop} {s : Shared} {l : Addr} {xs : Array Value} {n : Nat} {Q : Value → Shared → Prop}
    (ho : s.heap.get? l = some (listOf xs n)) (h : Q (.ref s.heap.objs.size) { s with heap := s.heap.push (boundAppend l), toks := s.toks + 1 }) :
    wpAny (model prog w) A (getAttr (.ref l) "append" true) Q E s := by
  have hT : ∀ tk, ({ s with toks := tk } : Shared).TypeIs (.ref l) "list" := fun _ => ⟨_, ho, rfl⟩
  have f3 := F.slot_list_getattribute.lookup
  have f4 := F.slot_list_getattribute.bind (.ref l)
  obtain ⟨hp, g, d, tk, os⟩ := s
  unfold getAttr getAttrBy
  repeat (any_goals (first | assumption | exact hT _ | ((with_reducible show wpAny _ _ (call (Value.builtin "list.__getattribute__") _ _) _ _ _); refine getattribute_app ho ?_) | wp_step))
end Mine
end

section
open PySem PySem.W PySem.Calls PyProof.Rows
set_option maxRecDepth 100000
set_option linter.unusedVariables false
set_option autoImplicit false
namespace Mine
open Builtin Builtin.ObjectAttr

theorem sub_list_module : isSubtype (.type "list") (.type "module") = pure false := by rw [isSubtype_type]; kernel_rfl
theorem check_app {M : Model} {A : Around} {E : Value → Shared → Prop} {s : Shared} {l : Addr} {its : Array Value} {n : Nat} {x : Value} {Q : Unit → Shared → Prop}
    (ho : s.heap.get? l = some (listOf its n)) (h : Q () s) : wpAny M A (checkBoundCall "list.append" ⟨[.ref l, x], []⟩) Q E s := by
  have hT : s.TypeIs (.ref l) "list" := ⟨_, ho, rfl⟩
  have i1 := sub_list_module
  unfold W.listOf at ho
  obtain ⟨hp, g, d, tk, os⟩ := s
  unfold checkBoundCall
  repeat k_node
  exact h

theorem call_bound {prog : Program} {w : World} {A : Around} {E : Value → Shared → Prop} {s : Shared} {q l : Addr} {its : Array Value} {n : Nat} {x : Value} {Q : Value → Shared → Prop}
    (hq : s.heap.get? q = some (boundAppend l)) (ho : s.heap.get? l = some (listOf its n)) 
    (h : ∀ h', Heap.SameBut l s.heap h' → h'.get? l = some (listOf (its.push x) (n + 1)) → Q .none { s with heap := h' }) (hsz : its.size ≤ sizeLine) :
    wpAny (model prog w) A (call (.ref q) [x]) Q E s := by
  refine wpAny_call (codeAny_of_tree ?_)
  have hT : s.TypeIs (.ref l) "list" := ⟨_, ho, rfl⟩
  show wpAny _ _ (callAny (.ref q) _) _ _ _
  unfold boundAppend at hq
  obtain ⟨hp, g, d, tk, os⟩ := s
  refine nd_load hq ?_
  show wpAny _ _ (do checkBoundCall "list.append" ⟨[.ref l, x], []⟩; again (.builtin "list.append" ⟨[.ref l, x], []⟩)) _ _ _
  refine wpAny_bind ?_
  refine check_app ho ?_
  refine wpAny_pure ⟨plainId_quiet (by decide +kernel) _, ?_⟩
  refine codeAny_builtin entry_list_append ?_
  show wpAny _ _ (updateSeq l (·.push x) >>= fun _ => ret .none) _ _ _
  refine wpAny_bind ?_
  refine wpAny_updateSeq ho rfl (wpAny_pure (h _ (Heap.SameBut.update ..) ?_))
  rw [Heap.get?_update_self _ ho (by rw [mapSeq_push]; rfl), mapSeq_push]

section
variable {G : Run} {C : Act} {ρ : PEnv} {b : Bl} {r : Nat} {Φ : Out → Prop}

theorem Ex1_newb {x : Str} {p p2 pos : Pos} (ok : Ok G C r) (hl : C.cs.names.lookup x = some .local) (h : ∀ l, Φ (.next ((x, .bref l) :: ρ) (some (l, [])))) (hs : swapsWith (.List [] p2) (some (.Name x p)) pos.line C.env = pure false := by rfl) :
    Ex1 G C ρ none (.Assign [.Name x p] (.List [] p2) pos) Φ :=
  .mk fun kp k s Q S hQ => wpAny_Assign_Name (List_ (spliced_none (by
    obtain ⟨m, led, fz, F, N, Wt⟩ := S.ex
    refine newList_K F N (fun l h' F' N' hlt => ?_) (by simp)
    obtain rfl : led = fz := Wt.bl
    have S' : St C kp ρ (some (l, [])) k h' := ⟨m, _, led, F', N', ⟨[], 0, rfl, fun p hp => Nat.ne_of_lt (hlt p hp), by simp, .nil⟩, Wt.hkp, Wt.kn, Wt.en⟩
    exact store_St (s := { s with heap := h' }) ok hl S' .bref fun h'' tk' S'' => hQ _ .next k h'' tk' (h l) .rfl ⟨rfl, S''⟩))) hs

/-- the builder's own object -/
theorem St.builder {kp k : Led} {h : Heap} {l : Addr} {ds : List PV} (S : St C kp ρ (some (l, ds)) k h) : ∃ vs n, h.get? l = some (listOf vs.toArray n) ∧ vs.length = ds.length ∧ ds.length ≤ 1048576 ∧ RpAll k vs ds := by
  obtain ⟨m, led, fz, F, N, Wt⟩ := S.ex
  obtain ⟨vs, n, rfl, h1, h2, h3⟩ := Wt.bl
  exact ⟨vs, n, (N _ (.head _)).1, h3.length, h2, h3⟩
/-- one more in the builder -/
theorem St.grow {kp k : Led} {h : Heap} {l : Addr} {ds : List PV} {V : Value} {d : PV} (S : St C kp ρ (some (l, ds)) k h) (hR : Rp k V d) (hl : ds.length < 1048576) : ∃ its n, h.get? l = some (listOf its n) ∧ its.size ≤ sizeLine ∧
    ∀ h', Heap.SameBut l h h' → h'.get? l = some (listOf (its.push V) (n + 1)) → St C kp ρ (some (l, ds ++ [d])) k h' := by
  obtain ⟨m, led, fz, F, N, Wt⟩ := S.ex
  obtain ⟨vs, n, rfl, h1, h2, h3⟩ := Wt.bl
  have z := N _ (.head _)
  refine ⟨vs.toArray, n, z.1, by rw [List.size_toArray, h3.length, sizeLine_eq]; omega, fun h' hs ho => ?_⟩
  have N' : News C.h₀ C.L h' ((l, listOf (vs ++ [V]).toArray (n + 1)) :: fz) := by
    intro p hp
    rcases List.mem_cons.mp hp with rfl | hp
    · refine ⟨?_, z.2⟩
      rw [ho, List.push_toArray]
    · have y := N p (.tail _ hp)
      exact ⟨hs.extBut _ _ (h1 p hp) y.1, y.2⟩
  exact ⟨m, _, fz, F.change hs z.2.1 z.2.2, N', ⟨vs ++ [V], n + 1, rfl, h1, by simp; omega, h3.append (.cons hR .nil)⟩, Wt.hkp, Wt.kn, Wt.en⟩

theorem Ex1_getapp {x y : Str} {p p2 p3 pos : Pos} {l : Addr} {ds : List PV} (ok : Ok G C r) (hy : ρ.lookup y = some (.bref l)) (hly : C.cs.names.lookup y = some .local) (hl : C.cs.names.lookup x = some .local) (h : Φ (.next ((x, .bmeth l) :: ρ) (some (l, ds))))
    (hd : (y == ("__debug__" : Str)) = false := by rfl) (hs : swapsWith (.Attribute (.Name y p2) "append" p3) (some (.Name x p)) pos.line C.env = pure false := by rfl) :
    Ex1 G C ρ (some (l, ds)) (.Assign [.Name x p] (.Attribute (.Name y p2) "append" p3) pos) Φ :=
  .mk fun kp k s Q S hQ => wpAny_Assign_Name (by
    rw [arm_eval_Attribute]
    refine wpAny_bind ?_
    show wpAny _ _ (eval (.Name y p2) C.env) _ _ _
    refine (Ev_name ok hy hly hd).of kp k s _ S fun V k1 h1 tk1 s1 S1 R1 => ?_
    cases R1
    obtain ⟨vs, n, ho, _⟩ := S1.builder
    refine wpAny_bind (wpAny_standAt (wpAny_bind (wpAny_holding (getAttr_app ho ?_))))
    refine wpAny_bind (wpAny_pure (wpAny_pure ?_))
    obtain ⟨m, led, fz, F, N, Wt, _, push, _⟩ := S1.take
    have S2 := push _ _ (boundAppend l) (F.push _) (N.push F _) (led_ne N)
    exact store_St (s := { s with heap := h1.push (boundAppend l), toks := tk1 + 1 }) ok hl S2 (.bmeth (.head _)) fun h'' tk' S'' => hQ _ .next _ h'' tk' h (s1.tr Sub.cons) ⟨rfl, S''⟩) hs

theorem inter_ok (ok : Ok G C r) : interactive C.env = false := by
  show (C.cs.kind == .module && _) = false
  rw [ok.hk]; rfl

theorem Ex1_callapp {f : Str} {p pos pos2 : Pos} {e : Expr} {l : Addr} {ds : List PV} {d : PV} (ok : Ok G C r) (hf : ρ.lookup f = some (.bmeth l)) (hlf : C.cs.names.lookup f = some .local) (h1 : Ev G C ρ (some (l, ds)) e d) (hlen : ds.length < 1048576) (h : Φ (.next ρ (some (l, ds ++ [d]))))
    (hd : (f == ("__debug__" : Str)) = false := by rfl)
    (hc : eval (.Call (.Name f p) [e] [] pos) C.env = (do let g ← eval (.Name f p) C.env; callWith pos g [] (backTo pos (starEach [e] C.env)) (backToKw pos (keywordEach [] C.env))) := by rfl)
    (hn : starEach [e] C.env = (false, eval e C.env) :: starEach [] C.env := by rfl) (hs : swapsWith (.Call (.Name f p) [e] [] pos) none pos2.line C.env = pure false := by rfl) :
    Ex1 G C ρ (some (l, ds)) (.Expr (.Call (.Name f p) [e] [] pos) pos2) Φ :=
  .mk fun kp k s Q S hQ => wpAny_Expr_any (by
    refine Call_ ((Ev_name ok hf hlf hd).of kp k s _ S fun V k1 h1' tk1 s1 S1 R1 => ?_) hc
    cases R1 with | bmeth hm =>
    rename_i q
    have hsp : wpAny G.M C.A (spliced (backTo pos (starEach [e] C.env))) (fun vs s₁ => s₁.heap.get? q = some (boundAppend l) ∧ wpAny G.M C.A (call (.ref q) ([] ++ vs)) (fun _ => Q .next) (fun _ _ => False) s₁) (fun _ _ => False) { s with heap := h1', toks := tk1 } :=
      spliced_more (h1.of kp k1 _ _ S1 fun X k2 h2' tk2 s2 S2 R2 => spliced_none (by
        have hq := S2.known ok _ (s2 _ hm)
        refine ⟨hq, ?_⟩
        obtain ⟨its, n, ho, hsz, hg⟩ := S2.grow R2 hlen
        exact call_bound hq ho (fun h' hs' ho' => hQ _ .next k2 h' tk2 h (s1.tr s2) ⟨rfl, hg h' hs' ho'⟩) hsz)) hn
    rw [hn] at hsp ⊢
    exact callWith_of (P := fun hp => hp.get? q = some (boundAppend l)) rfl (fun hp hP => ⟨.machine, .inr (.inl rfl), (Looks.ld (part := none) hP).andThen (Looks.of_pure rfl)⟩) (evalArgs_plain hsp)) (inter_ok ok) hs

theorem Ex1_methapp {y : Str} {p p2 pos pos2 : Pos} {e : Expr} {l : Addr} {ds : List PV} {d : PV} (ok : Ok G C r) (hy : ρ.lookup y = some (.bref l)) (hly : C.cs.names.lookup y = some .local) (h1 : Ev G C ρ (some (l, ds)) e d) (hlen : ds.length < 1048576) (h : Φ (.next ρ (some (l, ds ++ [d])))) (pl : Sem Bool)
    (hm : eval (.Call (.Attribute (.Name y p) "append" p2) [e] [] pos) C.env = (do let ov ← eval (.Name y p) C.env; standAt p2.atName; let (f, first) ← holding [ov] (getMethod ov "append" pl); callWith pos f first (backTo pos (starEach [e] C.env)) []))
    (hd : (y == ("__debug__" : Str)) = false := by rfl) (hn : starEach [e] C.env = (false, eval e C.env) :: starEach [] C.env := by rfl)
    (hs : swapsWith (.Call (.Attribute (.Name y p) "append" p2) [e] [] pos) none pos2.line C.env = pure false := by rfl) :
    Ex1 G C ρ (some (l, ds)) (.Expr (.Call (.Attribute (.Name y p) "append" p2) [e] [] pos) pos2) Φ :=
  .mk fun kp k s Q S hQ => wpAny_Expr_any (by
    refine MethodCall_ (pl := pl) ((Ev_name ok hy hly hd).of kp k s _ S fun V k1 h1' tk1 s1 S1 R1 => ?_) hm
    cases R1
    obtain ⟨vs, n, ho, _⟩ := S1.builder
    refine Calls.getMethod_list_append ho rfl rfl (callWith_method1 (spliced_more (h1.of kp k1 _ _ S1 fun X k2 h2' tk2 s2 S2 R2 => spliced_none ?_) hn) hn rfl)
    obtain ⟨its, n, ho, hsz, hg⟩ := S2.grow R2 hlen
    exact append_at ho (fun h' hs' ho' => hQ _ .next k2 h' tk2 h (s1.tr s2) ⟨rfl, hg h' hs' ho'⟩) hsz) (inter_ok ok) hs

/-- the builder handed back -/
theorem Ex1_retb {y : Str} {p pos : Pos} {l : Addr} {ds : List PV} (ok : Ok G C r) (hy : ρ.lookup y = some (.bref l)) (hly : C.cs.names.lookup y = some .local) (h : Φ (.ret (.list ds))) (hd : (y == ("__debug__" : Str)) = false := by rfl) :
    Ex1 G C ρ (some (l, ds)) (.Return (some (.Name y p)) pos) Φ :=
  .mk fun kp k s Q S hQ => wpAny_Return_some ((Ev_name ok hy hly hd).of kp k s _ S fun V k1 h1' tk1 s1 S1 R1 => by
    cases R1
    obtain ⟨m, led, fz, F, N, Wt⟩ := S1.ex
    obtain ⟨vs, n, rfl, e1, e2, e3⟩ := Wt.bl
    have hsub : Sub k1 ((l, listOf vs.toArray n) :: k1) := Sub.cons
    refine hQ (.ret (.list ds)) (.ret (.ref l)) ((l, listOf vs.toArray n) :: k1) h1' tk1 h (s1.tr hsub) ⟨.ref l, ρ, rfl, ⟨m, _, (l, listOf vs.toArray n) :: fz, F, N, rfl, fun p hp => .tail _ (Wt.hkp p hp), fun p hp => ?_, Wt.en.mono hsub⟩, .list (.head _) ⟨rfl, n, rfl⟩ e2 (e3.mono hsub)⟩
    rcases List.mem_cons.mp hp with rfl | hp
    · exact ⟨.inl (.head _), fun q hq => Ne.symm (e1 q (Wt.hkp q hq))⟩
    · exact ⟨(Wt.kn p hp).1.imp (fun h => .tail _ h) id, (Wt.kn p hp).2⟩)
end
end Mine
end

section
open PySem PySem.W PySem.Calls PyProof.Rows
set_option maxRecDepth 100000
set_option linter.unusedVariables false
set_option autoImplicit false
namespace Mine
section
variable {G : Run} {C : Act} {ρ : PEnv} {b : Bl} {r : Nat} {Φ : Out → Prop}

/-- where a loop's turns begin: the state between two turns, for the library's rule -/
def Between (C : Act) (kp wr : List (Addr × Obj)) (k₀ : Led) {σ : Type} (J : σ → Prop) (ρf : σ → PEnv) (bf : σ → Bl) (m : Str → Option Value) (news : Led) : Prop :=
  ∃ (a : σ) (k fz : Led), J a ∧ Sub k₀ k ∧ StW C kp (ρf a) (bf a) k m news fz

theorem StW.weaken {kp k : Led} {ρ ρ' : PEnv} {m : Str → Option Value} {led fz : Led} (W : StW C kp ρ b k m led fz) (hs : SubE ρ' ρ) : StW C kp ρ' b k m led fz := ⟨W.bl, W.hkp, W.kn, fun x d e => W.en x d (hs.get x d e)⟩

/-- from a turn's end to the state between -/
theorem turn_end {kp k₀ k : Led} {wr : List Addr} {own : Led} {h : Heap} (S : St C (own.filter (fun p => wr.contains p.1) ++ kp) ρ b k h) (hk₀ : Sub k₀ k)
    (hown : ∀ p ∈ own, p.1 ∈ wr ∨ ∃ o, (p.1, o) ∈ k ∧ (p.1, o) ∉ C.old) (hk₁ : ∀ p ∈ k₀, p.1 ∉ wr) (hkp : ∀ p ∈ kp, p.1 ∉ wr) (hget : ∀ p ∈ own, h.get? p.1 = some p.2) (hbl : ∀ l ds, b = some (l, ds) → l ∉ wr)
    (hwr : ∀ a ∈ wr, ∃ p ∈ own, p.1 = a) (hold : ∀ p ∈ C.old, p.1 ∉ wr) :
    ∃ m news k' fz', Fr C.h₀ C.L h m ∧ News C.h₀ C.L h (own ++ news) ∧ (∀ p ∈ news, p.1 ∉ wr) ∧ Sub k₀ k' ∧ StW C kp ρ b k' m news fz' := by
  obtain ⟨m, led, fz, F, N, W⟩ := S.ex
  have off : ∀ p ∈ k, p.1 ∉ wr := by
    intro p hp hw
    obtain ⟨q, hq, e⟩ := hwr _ hw
    exact (W.kn p hp).2 q (List.mem_append.mpr (.inl (List.mem_filter.mpr ⟨hq, by simpa [e] using hw⟩))) e.symm
  have hO : News C.h₀ C.L h own := by
    intro p hp
    rcases hown p hp with hw | ⟨o, ho, hno⟩
    · exact N p (fz_led W.bl p (W.hkp p (List.mem_append.mpr (.inl (List.mem_filter.mpr ⟨hp, by simpa using hw⟩)))))
    · rcases (W.kn _ ho).1 with h1 | h1
      · have z := N _ (fz_led W.bl _ h1)
        exact ⟨hget p hp, z.2⟩
      · exact absurd h1 hno
  have fzf : ∀ p, p ∈ fz → p.1 ∉ wr → p ∈ fz.filter (fun p => !wr.contains p.1) := fun p hp hn => List.mem_filter.mpr ⟨hp, by simpa using hn⟩
  have kn' : ∀ p ∈ k, (p ∈ fz.filter (fun p => !wr.contains p.1) ∨ p ∈ C.old) ∧ ∀ q ∈ kp, p.1 ≠ q.1 := fun p hp =>
    ⟨(W.kn p hp).1.imp (fun h1 => fzf p h1 (off p hp)) id, fun q hq => (W.kn p hp).2 q (List.mem_append.mpr (.inr hq))⟩
  have kp' : ∀ p ∈ kp, p ∈ fz.filter (fun p => !wr.contains p.1) := fun p hp => fzf p (W.hkp p (List.mem_append.mpr (.inr hp))) (hkp p hp)
  have offF : ∀ p ∈ fz.filter (fun p => !wr.contains p.1), p.1 ∉ wr := fun p hp => by simpa using (List.mem_filter.mp hp).2
  cases b with
  | none =>
    refine ⟨m, _, k, _, F, fun p hp => ?_, offF, hk₀, rfl, kp', kn', W.en⟩
    rcases List.mem_append.mp hp with h1 | h1
    · exact hO p h1
    · exact N p (fz_led W.bl p (List.mem_filter.mp h1).1)
  | some q =>
    obtain ⟨l, ds⟩ := q
    obtain ⟨vs, n, rfl, e1, e2, e3⟩ := W.bl
    refine ⟨m, (l, listOf vs.toArray n) :: fz.filter (fun p => !wr.contains p.1), k, _, F, fun p hp => ?_, fun p hp => ?_, hk₀, ⟨vs, n, rfl, fun p hp => e1 p (List.mem_filter.mp hp).1, e2, e3⟩, kp', kn', W.en⟩
    · rcases List.mem_append.mp hp with h1 | h1
      · exact hO p h1
      · rcases List.mem_cons.mp h1 with rfl | h1
        · exact N _ (.head _)
        · exact N p (.tail _ (List.mem_filter.mp h1).1)
    · rcases List.mem_cons.mp hp with rfl | h1
      · exact hbl l ds rfl
      · exact offF p h1

/-- the turns of a for, over the library's walk -/
theorem for_core {σ : Type} {x : Str} {body : List Stmt} {kp k1 : Led} {s₂ : Shared} {I : Addr} {fp : List Addr} {n : Nat} {P : Nat → Value → Prop} {Sx : Nat → Heap → Prop} {m : Str → Option Value} {led fz : Led} {Q : Flow → Shared → Prop}
    (ok : Ok G C r) (J : Nat → σ → Prop) (D : Nat → PV → Prop) (ρf : σ → PEnv) (bf : σ → Bl) (a₀ : σ)
    (W : Walks G.prog G.w C.A I fp [I] n P Sx) (hfp : ∀ a ∈ fp, a = I ∨ ∃ o, (a, o) ∈ k1) (hlive : ∀ i h, Sx i h → ∃ o, h.get? I = some o) (hD : ∀ i v, P i v → i < n → ∃ d, D i d ∧ Rp k1 v d)
    (hst : Sx 0 s₂.heap) (F : Fr C.h₀ C.L s₂.heap m) (N : News C.h₀ C.L s₂.heap led) (Wt : StW C kp (ρf a₀) (bf a₀) k1 m led fz) (h0 : J 0 a₀)
    (hIled : ∀ p ∈ led, p.1 ≠ I) (hI0 : C.h₀.get? I = none) (hIL : C.L ≠ I)
    (hbody : ∀ i a d, J i a → i < n → D i d → Ex G C ((x, d) :: ρf a) (bf a) body (fun o => match o with
      | .next ρ' b' | .cont ρ' b' => ∃ a', SubE (ρf a') ρ' ∧ bf a' = b' ∧ J (i + 1) a'
      | .ret v => Φ (.ret v)))
    (hbl : ∀ i a, J i a → (bf a).map (·.1) = (bf a₀).map (·.1))
    (hend : ∀ a k' h' tk', J n a → Sub k1 k' → St C kp (ρf a) (bf a) k' h' → Q .next { s₂ with heap := h', toks := tk' })
    (hret : ∀ v V k' ρ' h' tk', Φ (.ret v) → Sub k1 k' → St C kp ρ' none k' h' → Rp k' V v → Q (.ret V) { s₂ with heap := h', toks := tk' }) :
    LoopAtV G.prog G.w C.A C.h₀ C.env x body Q (fun _ _ => False) (.ref I) s₂ := by
  have hIold : ∀ p ∈ C.old, p.1 ≠ I := fun p hp e => by have := ok.hold p hp; rw [e, hI0] at this; cases this
  have hIk : ∀ k' fz' b' led', BlOk b' led' k' fz' → (∀ p ∈ led', p.1 ∉ [I]) → (∀ p ∈ k', p ∈ fz' ∨ p ∈ C.old) → ∀ p ∈ k', p.1 ≠ I := fun k' fz' b' led' hb ho hk p hp e => by
    rcases hk p hp with h2 | h2
    · exact ho p (fz_led hb p h2) (List.mem_singleton.mpr e)
    · exact hIold p h2 e
  have k1off : ∀ p ∈ k1, p.1 ≠ I := hIk k1 fz _ led Wt.bl (fun p hp hw => hIled p hp (List.mem_singleton.mp hw)) fun p hp => (Wt.kn p hp).1
  have kpoff : ∀ p ∈ kp, p.1 ≠ I := fun p hp => hIled p (fz_led Wt.bl p (Wt.hkp p hp))
  have bl0 : ∀ l es, bf a₀ = some (l, es) → l ≠ I := fun l es e => by
    have hb := Wt.bl; rw [e] at hb
    obtain ⟨vs', n', e', _⟩ := hb
    exact hIled (l, listOf vs'.toArray n') (by rw [e']; exact .head _)
  refine ⟨I, fp, [I], n, P, Sx, m, led, fun i m₁ news₁ => Between C kp [] k1 (J i) ρf bf m₁ news₁, rfl, W, ?_, ?_, ?_, hst, F, N, ⟨a₀, k1, fz, h0, .rfl, Wt⟩, ?_, ?_⟩
  · intro hm'
    rcases hfp _ hm' with e | ⟨o, hm⟩
    · exact hIL e
    · rcases (Wt.kn _ hm).1 with h2 | h2
      · exact (N _ (fz_led Wt.bl _ h2)).2.1 rfl
      · have h3 := ok.hold _ h2
        have h4 := F.above
        exact absurd (Heap.lt_size h3) (Nat.not_lt.mpr h4)
  · intro a ha
    rw [List.mem_singleton.mp ha]; exact hI0
  · intro p hp hI
    exact hIled p hp (List.mem_singleton.mp hI)
  · rintro i v m₁ news₁ s₁ own ⟨hh', tk', rfl⟩ hin hP ⟨a, k2, fz2, hJ, hs2, W2⟩ hoff hown hget hall hst F₁ N₁
    obtain ⟨d, hd, hR⟩ := hD i v hP hin
    have R2 : Rp k2 v d := hR.mono hs2
    have hI : ∃ p ∈ own, p.1 = I := by
      obtain ⟨o, ho⟩ := hlive _ _ hst
      exact ⟨_, hall _ (W.sub _ (.head _)) hI0 o ho, rfl⟩
    have k2off : ∀ p ∈ k2, p.1 ≠ I := hIk k2 fz2 _ news₁ W2.bl hoff fun p hp => (W2.kn p hp).1
    have Sturn : St C (own.filter (fun p => [I].contains p.1) ++ kp) ((x, d) :: ρf a) (bf a) k2 hh' := by
      have hsub : ∀ p ∈ own.filter (fun p => [I].contains p.1), p ∈ own ∧ p.1 = I := fun p hp => ⟨(List.mem_filter.mp hp).1, by simpa using (List.mem_filter.mp hp).2⟩
      have kpcase : ∀ q ∈ own.filter (fun p => [I].contains p.1) ++ kp, ∀ p ∈ k2, p.1 ≠ q.1 := by
        intro q hq p hp
        rcases List.mem_append.mp hq with h2 | h2
        · intro e
          exact k2off p hp (e.trans (hsub q h2).2)
        · exact (W2.kn p hp).2 q h2
      have en' : EnvOk k2 (fun y => if y = x then some v else m₁ y) ((x, d) :: ρf a) := W2.en.set R2
      rcases hbc : bf a with _ | ⟨l, es⟩
      · have hbk := W2.bl
        rw [hbc] at hbk
        have e : news₁ = fz2 := hbk
        subst e
        refine ⟨_, own ++ news₁, own ++ news₁, F₁, N₁, rfl, fun p hp => ?_, fun p hp => ⟨(W2.kn p hp).1.imp (fun h => List.mem_append.mpr (.inr h)) id, fun q hq => kpcase q hq p hp⟩, en'⟩
        rcases List.mem_append.mp hp with h2 | h2
        · exact List.mem_append.mpr (.inl (hsub p h2).1)
        · exact List.mem_append.mpr (.inr (W2.hkp p h2))
      · have hbk := W2.bl
        rw [hbc] at hbk
        obtain ⟨ws, n', e, g1, g2, g3⟩ := hbk
        subst e
        have ownoff : ∀ p ∈ own, p.1 ≠ l := by
          intro p hp e
          rcases hfp _ (hown p hp) with h2 | ⟨o, hm⟩
          · exact hoff (l, listOf ws.toArray n') (.head _) (List.mem_singleton.mpr (e.symm.trans h2))
          · rcases (W2.kn _ (hs2 _ hm)).1 with h4 | h4
            · exact g1 _ h4 e
            · have z := (N₁ p (List.mem_append.mpr (.inl hp))).2.2
              have h5 := ok.hold _ h4
              rw [show (p.1, o).1 = p.1 from rfl, z] at h5; cases h5
        refine ⟨_, (l, listOf ws.toArray n') :: (own ++ fz2), own ++ fz2, F₁, fun p hp => ?_, ⟨ws, n', rfl, fun p hp => ?_, g2, g3⟩, fun p hp => ?_, fun p hp => ⟨(W2.kn p hp).1.imp (fun h => List.mem_append.mpr (.inr h)) id, fun q hq => kpcase q hq p hp⟩, en'⟩
        · rcases List.mem_cons.mp hp with rfl | hp
          · exact N₁ _ (List.mem_append.mpr (.inr (.head _)))
          · rcases List.mem_append.mp hp with h2 | h2
            · exact N₁ p (List.mem_append.mpr (.inl h2))
            · exact N₁ p (List.mem_append.mpr (.inr (.tail _ h2)))
        · rcases List.mem_append.mp hp with h2 | h2
          · exact ownoff p h2
          · exact g1 p h2
        · rcases List.mem_append.mp hp with h2 | h2
          · exact List.mem_append.mpr (.inl (hsub p h2).1)
          · exact List.mem_append.mpr (.inr (W2.hkp p h2))
    refine (hbody i a d hJ hin hd).of _ k2 { s₂ with heap := hh', toks := tk' } _ Sturn fun o f k3 h3 tk3 ho s3 hi => ?_
    have fin : ∀ ρ' b', (∃ a', SubE (ρf a') ρ' ∧ bf a' = b' ∧ J (i + 1) a') → St C (own.filter (fun p => [I].contains p.1) ++ kp) ρ' b' k3 h3 →
        LoopStepU C.h₀ C.env.locals [I] own (Between C kp [] k1 (J (i + 1)) ρf bf) { s₂ with heap := hh', toks := tk' } .next { s₂ with heap := h3, toks := tk3 } := by
      rintro ρ' b' ⟨a', e1, e2, e3⟩ S3
      subst e2
      have hk13 : Sub k1 k3 := hs2.tr s3
      obtain ⟨m3, news3, k', fz', F3, N3, off3, hsub3, W3⟩ := turn_end (k₀ := k1) (wr := [I]) (own := own) S3 hk13 (fun p hp => by
          rcases hfp _ (hown p hp) with h2 | ⟨o, hm⟩
          · exact .inl (List.mem_singleton.mpr h2)
          · refine .inr ⟨o, hk13 _ hm, fun ho => ?_⟩
            have z := (N₁ p (List.mem_append.mpr (.inl hp))).2.2
            have h5 := ok.hold _ ho
            rw [show (p.1, o).1 = p.1 from rfl, z] at h5; cases h5)
        (fun p hp hw => k1off p hp (List.mem_singleton.mp hw)) (fun p hp hw => kpoff p hp (List.mem_singleton.mp hw))
        (fun p hp => by
          rcases hfp _ (hown p hp) with h2 | ⟨o, hm⟩
          · obtain ⟨m', led', fz', F', N', W'⟩ := S3.ex
            exact (N' p (fz_led W'.bl p (W'.hkp p (List.mem_append.mpr (.inl (List.mem_filter.mpr ⟨hp, by simpa using h2⟩)))))).1
          · have e4 := S3.known ok _ (hk13 _ hm)
            have e5 := hget p hp
            have e6 := Sturn.known ok _ (hs2 _ hm)
            rw [show ({ s₂ with heap := hh', toks := tk' } : Shared).heap = hh' from rfl] at e5
            rw [show (p.1, o).1 = p.1 from rfl] at e4 e6
            rw [e4, ← e6, e5])
        (fun l es e hw => by
          have hbe := hbl (i + 1) a' e3
          rw [e] at hbe
          have hbe' : (bf a₀).map (·.1) = some l := hbe.symm
          obtain ⟨q, hq, e'⟩ := Option.map_eq_some_iff.mp hbe'
          obtain ⟨l', es'⟩ := q
          have e'' : l' = l := e'
          subst e''
          exact bl0 l' es' hq (List.mem_singleton.mp hw))
        (fun a ha => by rw [List.mem_singleton.mp ha]; exact hI) (fun p hp hw => hIold p hp (List.mem_singleton.mp hw))
      exact LoopStepU.intro F3 N3 off3 ⟨a', k', fz', e3, hsub3, W3.weaken e1⟩
    cases o with
    | next ρ' b' =>
      obtain ⟨rfl, S3⟩ := hi
      exact .next (fin ρ' b' ho S3)
    | cont ρ' b' =>
      obtain ⟨rfl, S3⟩ := hi
      exact .cont (fin ρ' b' ho S3)
    | ret v =>
      obtain ⟨V', ρ', rfl, S3, R3⟩ := hi
      refine .ret (hret v V' k3 ρ' h3 tk3 ho (hs2.tr s3) ?_ R3)
      obtain ⟨m3, led3, fz3, F3, N3, W3⟩ := S3.ex
      exact ⟨m3, led3, fz3, F3, N3, W3.bl, fun p hp => W3.hkp p (List.mem_append.mpr (.inr hp)), fun p hp => ⟨(W3.kn p hp).1, fun q hq => (W3.kn p hp).2 q (List.mem_append.mpr (.inr hq))⟩, W3.en⟩
  · rintro h' tk m' news' F' N' hoff' ⟨a, k2, fz2, hJ, hs2, W2⟩
    exact hend a k2 h' tk hJ hs2 ⟨m', news', fz2, F', N', W2⟩

theorem ne_mod {G : Run} {C : Act} {r : Nat} (ok : Ok G C r) : (C.env.scope.kind == .class || (C.env.scope.kind == .module && C.env.locals != C.env.globals)) = false := by
  show (C.cs.kind == .class || (C.cs.kind == .module && _)) = false
  rw [ok.hk]; rfl

/-- a for over a list of any values -/
theorem Ex1_for {σ : Type} {x : Str} {p pos : Pos} {iter : Expr} {body : List Stmt} {ds : List PV} (ok : Ok G C r) (hx : C.cs.names.lookup x = some .local) (J : Nat → σ → Prop) (ρf : σ → PEnv) (bf : σ → Bl) (a₀ : σ)
    (h1 : Ev G C ρ b iter (.list ds)) (h0 : J 0 a₀) (hρ : SubE (ρf a₀) ρ) (hb : bf a₀ = b)
    (hbody : ∀ i a d, J i a → ds[i]? = some d → Ex G C ((x, d) :: ρf a) (bf a) body (fun o => match o with
      | .next ρ' b' | .cont ρ' b' => ∃ a', SubE (ρf a') ρ' ∧ bf a' = b' ∧ J (i + 1) a'
      | .ret v => Φ (.ret v)))
    (hbl : ∀ i a, J i a → (bf a).map (·.1) = b.map (·.1))
    (hend : ∀ a, J ds.length a → Φ (.next (ρf a) (bf a)))
    (hs : ∀ v, foldedSetIterable iter C.env v = pure v := by intro _; rfl) : Ex1 G C ρ b (.For (.Name x p) iter body [] pos) Φ := .mk fun kp k s Q S hQ => by
  subst hb
  refine For_invV C.h₀ hx (ne_mod ok) ?_ hs (fun _ _ h => h.elim)
  refine h1.of kp k s _ S fun V k1 h1' tk1 s1 S1 R1 => ?_
  cases R1 with | list hm hq hlen hr =>
  rename_i ax oX vs
  have hls := isList_of (S1.known ok) hm hq
  refine wpAny_pyIter_list hls ?_
  have hlt : ax < h1'.objs.size := Heap.lt_size (S1.known ok _ hm)
  have W := Walks.list (prog := G.prog) (w := G.w) ok.hd h1'.objs.size ax (Nat.ne_of_lt hlt) vs.toArray
  have hvl : vs.toArray.size = ds.length := by rw [List.size_toArray, hr.length]
  rw [hvl] at W
  obtain ⟨m, led, fz, F, N, Wt, _, _, _⟩ := S1.take
  refine for_core (s₂ := { s with heap := h1'.push _, toks := tk1 }) ok J (fun i d => ds[i]? = some d) ρf bf a₀ W (fun a ha => ?_) (fun i h st => by obtain ⟨o, ho, _⟩ := st.1; exact ⟨o, ho⟩) (fun i v hP hi => ?_)
    ⟨⟨_, Heap.get?_push_size _ rfl, rfl, rfl⟩, hls.at fun o e => Heap.get?_push_of_some _ e⟩ (F.push _) (fun p hp => ⟨Heap.get?_push_of_some _ (N p hp).1, (N p hp).2⟩) (Wt.weaken hρ) h0
    (fun p hp => Nat.ne_of_lt (led_lt N p hp)) (next_is_new F) (fun e => absurd F.ns.lt (e ▸ Nat.lt_irrefl _)) (fun i a d hJ _ hd => hbody i a d hJ hd) hbl
    (fun a k' h' tk' hJ hs2 S2 => hQ _ .next k' h' tk' (hend a hJ) (s1.tr hs2) ⟨rfl, S2⟩) (fun v V k' ρ' h' tk' hv hs2 S2 R2 => hQ (.ret v) (.ret V) k' h' tk' hv (s1.tr hs2) ⟨V, ρ', rfl, S2, R2⟩)
  · rcases List.mem_cons.mp ha with e | ha
    · exact .inl e
    · rw [List.mem_singleton.mp ha]; exact .inr ⟨oX, hm⟩
  · obtain ⟨d, hd⟩ : ∃ d, ds[i]? = some d := ⟨ds[i], by simp [hi]⟩
    obtain ⟨v', hv', hR⟩ := hr.get hd
    have hP' : vs[i]? = some v := by simpa using hP
    rw [hv'] at hP'
    cases Option.some.inj hP'
    exact ⟨d, hd, hR⟩

/-- a for over range(e) -/
theorem Ex1_range {σ : Type} {x f : Str} {p p2 p3 pos : Pos} {e : Expr} {body : List Stmt} {n : Int} (ok : Ok G C r) (hx : C.cs.names.lookup x = some .local) (J : Nat → σ → Prop) (ρf : σ → PEnv) (bf : σ → Bl) (a₀ : σ)
    (hg : nsIn G.K mainGlobals f = some none) (hv : bootBuiltins f = some (.type "range")) (hl : C.cs.names.lookup f = some .globalImplicit)
    (h1 : Ev G C ρ b e (.int n)) (hn0 : 0 ≤ n) (hn1 : n < 1048577) (h0 : J 0 a₀) (hρ : SubE (ρf a₀) ρ) (hb : bf a₀ = b)
    (hbody : ∀ i a, J i a → i < n.toNat → Ex G C ((x, .int i) :: ρf a) (bf a) body (fun o => match o with
      | .next ρ' b' | .cont ρ' b' => ∃ a', SubE (ρf a') ρ' ∧ bf a' = b' ∧ J (i + 1) a'
      | .ret v => Φ (.ret v)))
    (hbl : ∀ i a, J i a → (bf a).map (·.1) = b.map (·.1))
    (hend : ∀ a, J n.toNat a → Φ (.next (ρf a) (bf a)))
    (hf : f ≠ ("__name__" : Str) := by decide +kernel) (hd : (f == ("__debug__" : Str)) = false := by rfl)
    (hc : eval (.Call (.Name f p2) [e] [] p3) C.env = (do let g ← eval (.Name f p2) C.env; callWith p3 g [] (backTo p3 (starEach [e] C.env)) (backToKw p3 (keywordEach [] C.env))) := by rfl)
    (hn : starEach [e] C.env = (false, eval e C.env) :: starEach [] C.env := by rfl)
    (hs : ∀ v, foldedSetIterable (.Call (.Name f p2) [e] [] p3) C.env v = pure v := by intro _; rfl) : Ex1 G C ρ b (.For (.Name x p) (.Call (.Name f p2) [e] [] p3) body [] pos) Φ := .mk fun kp k s Q S hQ => by
  subst hb
  refine For_invV C.h₀ hx (ne_mod ok) ?_ hs (fun _ _ h => h.elim)
  obtain ⟨m, led, fz, F, N, Wt⟩ := S.ex
  refine Call_ (nameX_B F ok.X ok.T hg hv hf (PyProof.Rows.callWith_type1 (spliced_more (h1.of kp k s _ S fun V k1 h1' tk1 s1 S1 R1 => spliced_none ?_) hn) hn rfl) ok.hk hl hd) hc
  cases R1 with | int _ t =>
  obtain ⟨m, led, fz, F, N, Wt, _, _, _⟩ := S1.take
  refine call_range_1 (s := { s with heap := h1', toks := tk1 }) ?_
  have hr := IsRange.new h1' 0 n 1 tk1 t (tk1 + 1)
  have hm : Builtin.Range.rangeSize 0 n 1 = (n.toNat : Int) := by rw [rangeSize_one]; split <;> omega
  have F1 := F.push { cls := .type "range", data := .fields #[.int 0 tk1, .int n t, .int 1 (tk1 + 1)] }
  have N1 : News C.h₀ C.L (h1'.push { cls := .type "range", data := .fields #[.int 0 tk1, .int n t, .int 1 (tk1 + 1)] }) led := fun p hp => ⟨Heap.get?_push_of_some _ (N p hp).1, (N p hp).2⟩
  generalize h1'.push { cls := .type "range", data := .fields #[.int 0 tk1, .int n t, .int 1 (tk1 + 1)] } = H at hr F1 N1 ⊢
  refine wpAny_pyIter_range hr (small_one (by omega) (by omega) (by omega) (by omega)) ?_
  have W : Walks G.prog G.w C.A H.objs.size [H.objs.size] [H.objs.size] n.toNat (fun i v => i < n.toNat ∧ ∃ t, v = .int (0 + i * 1) t)
      (fun i h => IsRangeIter h H.objs.size (0 + (i : Nat) * 1) ((n.toNat : Int) - (i : Nat)) 1) := (Walks.range ok.hd _ 0 1 n.toNat).bound
  refine for_core (s₂ := { s with heap := H.push _, toks := tk1 + 1 + 1 }) ok J (fun i d => d = .int i) ρf bf a₀ W (fun a ha => .inl (List.mem_singleton.mp ha)) (fun i h st => ⟨_, st⟩) (fun i v hP hi => ?_)
    (by show IsRangeIter _ _ _ _ _; rw [hm]; simpa using Heap.get?_push_size _ rfl) (F1.push _) (fun p hp => ⟨Heap.get?_push_of_some _ (N1 p hp).1, (N1 p hp).2⟩) (Wt.weaken hρ) h0
    (fun p hp => Nat.ne_of_lt (led_lt N1 p hp)) (next_is_new F1) (fun e => absurd F1.ns.lt (e ▸ Nat.lt_irrefl _)) (fun i a d hJ hi hd => by subst hd; exact hbody i a hJ hi) hbl
    (fun a k' h' tk' hJ hs2 S2 => hQ _ .next k' h' tk' (hend a hJ) (s1.tr hs2) ⟨rfl, S2⟩) (fun v V k' ρ' h' tk' hv hs2 S2 R2 => hQ (.ret v) (.ret V) k' h' tk' hv (s1.tr hs2) ⟨V, ρ', rfl, S2, R2⟩)
  obtain ⟨_, t', rfl⟩ := hP
  have e : (0 : Int) + (i : Int) * 1 = i := by omega
  rw [e]
  exact ⟨_, rfl, .int _ _⟩
end
end Mine
end

section
open PySem PySem.W PySem.Calls PyProof.Rows
set_option maxRecDepth 100000
set_option linter.unusedVariables false
set_option autoImplicit false
namespace Mine
section
variable {G : Run} {C : Act} {ρ : PEnv} {b : Bl} {r : Nat} {Φ : Out → Prop}

/-- what a def of the text gives back -/
def Fn (G : Run) (f : Addr) (r : Nat) (us : List PV) (v : PV) : Prop :=
  ∀ (C : Act) (ρ : PEnv) (b : Bl) (kp k : Led) (Us : List Value) (s : Shared) (Q : Value → Shared → Prop), Ok G C (r + 1) → St C kp ρ b k s.heap → RpAll k Us us →
    (∀ V k' h' tk', Sub k k' → St C kp ρ b k' h' → Rp k' V v → Q V { s with heap := h', toks := tk' }) → wpAny G.M C.A (call (.ref f) Us) Q (fun _ _ => False) s

theorem Ok.mono {r' : Nat} (ok : Ok G C r) (h : r' ≤ r) : Ok G C r' := ⟨ok.B, ok.hA, ok.hk, ok.X, ok.T, ok.hd, Nat.lt_of_le_of_lt (by omega) ok.dep, Nat.lt_of_le_of_lt (by omega) ok.uni, ok.hold, ok.oldK⟩
theorem Fn.mono {f : Addr} {r' : Nat} {us : List PV} {v : PV} (h : Fn G f r us v) (hr : r ≤ r') : Fn G f r' us v := fun C ρ b kp k Us s Q ok => h C ρ b kp k Us s Q (ok.mono (by omega))

theorem Ev_def {fn : Str} {p pos : Pos} {e : Expr} {es : List Expr} {f : Addr} {us : List PV} {v : PV} {r' : Nat} (ok : Ok G C r) (hr : r' + 1 ≤ r) (hg : nsIn G.K mainGlobals fn = some (some (.ref f))) (hl : C.cs.names.lookup fn = some .globalImplicit) (hk : keepIn G.K (.ref f) = true)
    (hF : Fn G f r' us v) (h1 : EvL G C ρ b (e :: es) us) (hd : (fn == ("__debug__" : Str)) = false := by rfl)
    (hc : eval (.Call (.Name fn p) (e :: es) [] pos) C.env = (do let g ← eval (.Name fn p) C.env; callWith pos g [] (backTo pos (starEach (e :: es) C.env)) (backToKw pos (keywordEach [] C.env))) := by rfl)
    (hn : starEach (e :: es) C.env = (false, eval e C.env) :: starEach es C.env := by rfl) (hp : (backTo pos (starEach es C.env)).any (·.1) = false := by rfl) : Ev G C ρ b (.Call (.Name fn p) (e :: es) [] pos) v :=
  .mk fun kp k s Q S h => by
    obtain ⟨m, led, fz, F, N, W⟩ := S.ex
    refine Call_ (nameX_K F ok.X ok.T hg (callWith_K (h₀ := C.h₀) ok.X hk (h1.of pos kp k s _ S fun Us k1 h1' tk1 s1 S1 R1 => ?_) hn hp) ok.hk hl hd) hc
    obtain ⟨m1, led1, fz1, F1, N1, W1⟩ := S1.ex
    exact ⟨ok.X.keeps F1.keep, hF C ρ b kp k1 Us _ _ (ok.mono hr) S1 R1 fun V k' h' tk' s' S' R' => h V k' h' tk' (s1.tr s') S' R'⟩

/-- into a def -/
theorem Fn_of {f : Addr} {us : List PV} {v : PV} {name qual : Str} {params : Arguments} {body : List Stmt} {scope : Scope} {dV kV doc pm cdv ct oc : Value} {an od : Option Addr} {osl : Array (Option Value)} {ρ₀ : PEnv}
    (ho : G.K.lookup f = some ⟨oc, od, .func (fnOf name qual params body scope dV kV doc pm an cdv ct), osl⟩) (hcd : codeIn G.K cdv qual = true)
    (hbind : ∀ (k : Led) (s : Shared) (Us : List Value), G.K.In s.heap → RpAll k Us us → ∃ binds, BindsTo s (fnOf name qual params body scope dV kV doc pm an cdv ct) ⟨Us, []⟩ binds ∧ (∀ y ∈ binds, scope.names.lookup y.1 = some .local) ∧ EnvOk k (fun x => binds.reverse.lookup x) ρ₀)
    (hcell : ∀ x ∈ scope.names, x.2 ≠ .cell) (hk : scope.kind = .function) (hco : scope.isCoroutine = false) (hgen : scope.isGenerator = false)
    (hbody : ∀ C', Ok G C' r → C'.cs = scope → Ex G C' ρ₀ none body (fun o => o = .ret v)) : Fn G f r us v := by
  intro C ρ b kp k Us s Q ok S R hQ
  obtain ⟨m, led, fz, F, N, W⟩ := S.ex
  have X := ok.X.keeps F.keep
  obtain ⟨binds, hb, hloc, he⟩ := hbind k s Us X R
  refine wpAny_call (callX_plain (cl := []) (fo := _) ok.B F N ok.T.nolimit ok.hA rfl ok.hk (X _ _ ho) rfl (codeRec_of X hcd) (Nat.lt_of_le_of_lt (Nat.le_add_right _ _) ok.dep) hb hloc (fun g L' h₁ FG F' N' B' st hlt => ?_) hcell hco hgen hk)
  let C' : Act := { A := C.A.deeper (envX qual scope L' f cdv []), cn := qual, cs := scope, L := L', fa := f, cd := cdv, h₀ := g, A₀ := C.A, base := C.base, outer := C.env :: C.outer, old := C.old }
  have ok' : Ok G C' r := ⟨B', by show Option.map _ C.A.frames = _; rw [ok.hA]; rfl, hk, ok.X.keeps st, ok.T.keeps st, ok.hd, by
    have := ok.dep; show C.A.depth + 1 + r < _; omega, by have := ok.uni; show C.A.units + 3 + 3 * r + 20 < _; omega, fun p hp => st _ _ (ok.hold p hp), ok.oldK⟩
  have kpl : ∃ kp' : Led, (∀ p ∈ kp', p ∈ led) ∧ (∀ p ∈ kp, p ∈ kp') ∧ (∀ p ∈ k, ∀ q ∈ kp', p.1 ≠ q.1) ∧ (∀ l ds, b = some (l, ds) → ∃ vs n, (l, listOf vs.toArray n) ∈ kp' ∧ ds.length ≤ 1048576 ∧ RpAll k vs ds ∧ (∀ p ∈ kp, p.1 ≠ l) ∧ (∀ p ∈ k, p.1 ≠ l)) := by
    rcases hbc : b with _ | ⟨l, ds⟩
    · exact ⟨kp, fun p hp => fz_led W.bl p (W.hkp p hp), fun _ h => h, fun p hp => (W.kn p hp).2, fun l ds e => by cases e⟩
    · have hbk := W.bl
      rw [hbc] at hbk
      obtain ⟨vs, n, e, g1, g2, g3⟩ := hbk
      have koff : ∀ p ∈ k, p.1 ≠ l := by
        intro p hp e'
        rcases (W.kn p hp).1 with h2 | h2
        · exact g1 p h2 e'
        · have z := (N (l, listOf vs.toArray n) (by rw [e]; exact .head _)).2.2
          have h3 := ok.hold p h2
          rw [e'] at h3
          rw [show (l, listOf vs.toArray n).1 = l from rfl, h3] at z; cases z
      refine ⟨(l, listOf vs.toArray n) :: kp, fun p hp => ?_, fun p hp => .tail _ hp, fun p hp q hq => ?_, fun l' ds' e' => ?_⟩
      · rcases List.mem_cons.mp hp with rfl | hp
        · rw [e]; exact .head _
        · rw [e]; exact .tail _ (W.hkp p hp)
      · rcases List.mem_cons.mp hq with rfl | hq
        · exact koff p hp
        · exact (W.kn p hp).2 q hq
      · cases e'
        exact ⟨vs, n, .head _, g2, g3, fun p hp => g1 p (W.hkp p hp), koff⟩
  obtain ⟨kp', kp1, kp2, kp3, kp4⟩ := kpl
  have S' : St C' kp' ρ₀ none k h₁ := ⟨_, led, led, F', N', rfl, kp1, fun p hp => ⟨(W.kn p hp).1.imp (fun h => fz_led W.bl p h) id, kp3 p hp⟩, he⟩
  refine wpAny_mono ((hbody C' ok' rfl).of kp' k { s with heap := h₁, toks := s.toks + binds.length } _ S' fun o fl k' h' tk' ho' s' hi => ?_) (fun _ _ x => x) (fun _ _ x => x.elim)
  subst ho'
  obtain ⟨V, ρ', rfl, S2, R2⟩ := hi
  obtain ⟨m2, led2, fz2, F2, N2, W2⟩ := S2.ex
  have e2 : led2 = fz2 := W2.bl
  subst e2
  refine ⟨L', m2, led2, F2, N2, fun F3 N3 => ?_⟩
  refine hQ V k' h' tk' s' ?_ R2
  rcases hbc : b with _ | ⟨l, ds⟩
  · have hbk := W.bl
    rw [hbc] at hbk
    exact ⟨m, led2, led2, F3, N3, rfl, fun p hp => W2.hkp p (kp2 p hp), fun p hp => ⟨(W2.kn p hp).1, fun q hq => (W2.kn p hp).2 q (kp2 q hq)⟩, W.en.mono s'⟩
  · obtain ⟨vs, n, g0, g2, g3, g4, g5⟩ := kp4 l ds hbc
    have off : ∀ p ∈ k', p.1 ≠ l := fun p hp => (W2.kn p hp).2 _ g0
    refine ⟨m, (l, listOf vs.toArray n) :: led2.filter (fun p => p.1 != l), led2.filter (fun p => p.1 != l), F3, fun p hp => ?_, ⟨vs, n, rfl, fun p hp => by simpa using (List.mem_filter.mp hp).2, g2, g3.mono s'⟩, fun p hp => List.mem_filter.mpr ⟨W2.hkp p (kp2 p hp), by simpa using g4 p hp⟩, fun p hp => ⟨(W2.kn p hp).1.imp (fun h => List.mem_filter.mpr ⟨h, by simpa using off p hp⟩) id, fun q hq => (W2.kn p hp).2 q (kp2 q hq)⟩, W.en.mono s'⟩
    rcases List.mem_cons.mp hp with rfl | hp
    · exact N3 _ (W2.hkp _ g0)
    · exact N3 p (List.mem_filter.mp hp).1
end
end Mine
end

section
open PySem PySem.W PySem.Calls PyProof.Rows
set_option maxRecDepth 100000
set_option linter.unusedVariables false
set_option autoImplicit false
namespace Mine

/-! texts: the laws that the walk needs -/
def isSp (c : Nat) : Bool := Unicode.isSpace c
def rstripL (x : List Nat) : List Nat := (x.reverse.dropWhile isSp).reverse
theorem all_tw (p : Nat → Bool) : ∀ x : List Nat, (x.takeWhile p).all p = true
  | [] => rfl
  | c :: r => by
    rw [List.takeWhile_cons]
    cases h : p c with
    | true => simp only [if_true, List.all_cons, h, Bool.true_and]; exact all_tw p r
    | false => rfl
theorem dw_nil (p : Nat → Bool) : ∀ x : List Nat, x.dropWhile p = [] ↔ x.all p = true
  | [] => by simp
  | c :: r => by
    rw [List.dropWhile_cons]
    cases h : p c with
    | true => simp only [if_true, List.all_cons, h, Bool.true_and]; exact dw_nil p r
    | false => simp [h]
theorem drop_take_rev (x : List Nat) (p : Nat → Bool) : x.take (x.length - (x.reverse.takeWhile p).length) = (x.reverse.dropWhile p).reverse := by
  have h := List.takeWhile_append_dropWhile (p := p) (l := x.reverse)
  have h2 : x = (x.reverse.dropWhile p).reverse ++ (x.reverse.takeWhile p).reverse := by
    rw [← List.reverse_append, h, List.reverse_reverse]
  have h3 : x.length = (x.reverse.dropWhile p).length + (x.reverse.takeWhile p).length := by
    have := congrArg List.length h2
    simpa using this
  have h4 : x.length - (x.reverse.takeWhile p).length = (x.reverse.dropWhile p).reverse.length := by rw [List.length_reverse]; omega
  rw [h4]
  generalize hA : (x.reverse.dropWhile p).reverse = A at *
  rw [h2]
  exact List.take_left' rfl
theorem stripBy_right (goes : Nat → Bool) (x : List Nat) : Txt.stripBy goes false true (T x) = T ((x.reverse.dropWhile goes).reverse) := by
  have e1 : (T x).cps.toList = x := rfl
  have e2 := T_len x
  have hi : stripHi goes true (T x) 0 = x.length - (x.reverse.takeWhile goes).length := by simp [stripHi, e1, e2]
  have hlo : stripLo goes false (T x) = 0 := rfl
  unfold Txt.stripBy stripSame PySem.stripped
  rw [hlo, hi, e2, ← drop_take_rev]
  split
  · rename_i h
    have h' : x.length - (x.reverse.takeWhile goes).length = x.length := by simpa using h
    rw [h', List.take_length]
  · apply Str.ext'
    apply Array.toList_inj.mp
    rw [StrLaws.strSub_toList, e1]
    simp [T]
theorem rstrip_T (x : List Nat) : Txt.rstrip (T x) = T (rstripL x) := stripBy_right _ x

theorem endswith_nl (x : List Nat) : Txt.endswith (T x) (T [10]) = (x.getLast? == some 10) := by
  unfold Txt.endswith
  rw [StrLaws.subAt_eq, T_len, T_len]
  have e1 : (T x).cps.toList = x := rfl
  have e2 : (T [10]).cps.toList = [10] := rfl
  rw [e1, e2]
  rcases List.eq_nil_or_concat x with rfl | ⟨y, c, rfl⟩
  · decide
  · simp

theorem stripChars_nl (x : List Nat) : ∃ y, Txt.stripChars (T x) (T [10]) = T y ∧ y.length ≤ x.length ∧ (y == []) = x.all (· == 10) := by
  have hg : ∀ c, (T [10]).cps.contains c = (c == 10) := by intro c; rw [Bool.eq_iff_iff]; simp [T]
  have e0 : Txt.stripChars (T x) (T [10]) = Txt.stripBy (fun c => c == 10) true true (T x) := by
    unfold Txt.stripChars
    congr 1
    funext c; exact hg c
  rw [e0]
  have e1 : (T x).cps.toList = x := rfl
  have e2 := T_len x
  unfold Txt.stripBy stripSame PySem.stripped
  generalize hlo : stripLo (fun c => c == 10) true (T x) = lo
  generalize hhi : stripHi (fun c => c == 10) true (T x) lo = hi
  have hlo' : lo = (x.takeWhile (· == 10)).length := by rw [← hlo]; simp [stripLo, e1]
  have hhi' : hi = x.length - ((x.drop lo).reverse.takeWhile (· == 10)).length := by rw [← hhi]; simp [stripHi, e1, e2]
  have hx := List.takeWhile_append_dropWhile (p := (· == 10)) (l := x)
  have hd : x.drop lo = x.dropWhile (· == 10) := by
    rw [hlo']
    generalize x.takeWhile (· == 10) = A at hx
    generalize x.dropWhile (· == 10) = B at hx
    rw [← hx]; exact List.drop_left' rfl
  have hlen : x.length = lo + (x.drop lo).length := by
    have := congrArg List.length hx
    rw [List.length_append] at this
    rw [hd, hlo']; omega
  have hall : x.all (· == 10) = (x.dropWhile (· == 10)).all (· == 10) := by
    conv => lhs; rw [← hx]
    rw [List.all_append]
    rw [all_tw, Bool.true_and]
  have hdd : ∀ d : List Nat, d = x.dropWhile (· == 10) → (d == []) = d.all (· == 10) := by
    intro d e
    cases d with
    | nil => rfl
    | cons c r =>
      have hc := List.head?_dropWhile_not (fun c => c == 10) x
      rw [← e] at hc
      have hc' : (c == 10) = false := by simpa using hc
      simp only [List.all_cons, hc', Bool.false_and]
      rfl
  have key : ((x.drop lo).take (hi - lo) == []) = x.all (· == 10) ∧ (lo = 0 → hi = x.length → (x == []) = x.all (· == 10)) := by
    constructor
    · have e3 : hi - lo = (x.drop lo).length - ((x.drop lo).reverse.takeWhile (· == 10)).length := by omega
      rw [e3, drop_take_rev, hall, hd]
      rw [Bool.eq_iff_iff, beq_iff_eq, List.reverse_eq_nil_iff, dw_nil, List.all_reverse]
    · intro h0 _
      have e4 : x = x.dropWhile (· == 10) := by rw [← hd, h0, List.drop_zero]
      exact hdd x e4
  split
  · rename_i h
    refine ⟨x, rfl, Nat.le_refl _, ?_⟩
    simp only [Bool.and_eq_true, beq_iff_eq, e2] at h
    exact key.2 h.1 h.2
  · refine ⟨(x.drop lo).take (hi - lo), ?_, by simp; omega, key.1⟩
    apply Str.ext'
    apply Array.toList_inj.mp
    rw [StrLaws.strSub_toList, e1]
    simp [T]

/-- the lines of a text whose only line end is 10 -/
def linesA : List Nat → List Nat → List (List Nat)
  | cur, [] => if cur = [] then [] else [cur]
  | cur, c :: r => if c = 10 then cur :: linesA [] r else linesA (cur ++ [c]) r
def linesL (x : List Nat) : List (List Nat) := linesA [] x
def Lb (x : List Nat) : Prop := ∀ c ∈ x, Unicode.isLineBreak c = true → c = 10

theorem strSub_T (x : List Nat) (i j : Nat) : Builtin.Str.strSub (T x) i j = T ((x.drop i).take (j - i)) := by
  apply Str.ext'
  apply Array.toList_inj.mp
  rw [StrLaws.strSub_toList]
  simp [T]

open StrLaws in
theorem ls_lines (x : List Nat) (hb : Lb x) : ∀ (rest pre : List Nat) (arr : Array (Nat × Nat × Nat)) (start : Nat), x = pre ++ rest → start ≤ pre.length →
    ((lsEnd (T x) (Id.run (forIn (m := Id) (List.range' pre.length rest.length) ((arr, start) : LsSt) (lsBody (T x))))).map fun p => Builtin.Str.strSub (T x) p.1 p.2.1) =
      (arr.toList.map fun p => Builtin.Str.strSub (T x) p.1 p.2.1) ++ (linesA (pre.drop start) rest).map T
  | [], pre, arr, start, hx, hs => by
    rw [List.append_nil] at hx
    subst hx
    show ((lsEnd (T x) (arr, start)).map _) = _
    unfold lsEnd
    rw [T_len]
    by_cases h : start < x.length
    · have hne : x.drop start ≠ [] := by intro e; have := congrArg List.length e; simp at this; omega
      simp only [h, if_true, Array.toList_push, List.map_append, List.map_cons, List.map_nil, linesA, hne, if_false]
      rw [strSub_T, List.take_of_length_le (by simp)]
    · have he : x.drop start = [] := List.drop_eq_nil_of_le (by omega)
      simp only [h, if_false, linesA, he, if_true, List.map_nil, List.append_nil]
  | c :: rest, pre, arr, start, hx, hs => by
    have hx' : x = (pre ++ [c]) ++ rest := by rw [hx]; simp
    have hc : (T x).cps.getD pre.length 0 = c := by simp [T, hx]
    have hlen : (pre ++ [c]).length = pre.length + 1 := by simp
    rw [List.length_cons, List.range'_succ, List.forIn_cons]
    unfold lsBody
    rw [hc]
    have hle : decide (start ≤ pre.length) = true := decide_eq_true hs
    by_cases h10 : c = 10
    · subst h10
      have hbr : Unicode.isLineBreak 10 = true := by decide +kernel
      have hnx : lsNext (T x) pre.length = pre.length + 1 := by unfold lsNext; rw [hc]; rfl
      simp only [hle, hbr, Bool.and_self, if_true, hnx]
      have ih := ls_lines x hb rest (pre ++ [10]) (arr.push (start, pre.length, pre.length + 1)) (pre.length + 1) hx' (by rw [hlen]; exact Nat.le_refl _)
      rw [hlen] at ih
      refine Eq.trans ih ?_
      have e1 : (pre ++ [10]).drop (pre.length + 1) = [] := List.drop_eq_nil_of_le (by simp)
      have e2 : Builtin.Str.strSub (T x) start pre.length = T (pre.drop start) := by
        rw [strSub_T, hx, List.drop_append_of_le_length hs, List.take_left' (by simp)]
      rw [e1, Array.toList_push, List.map_append, List.append_assoc]
      simp only [List.map_cons, List.map_nil, linesA, if_true, e2]
      rfl
    · have hbr : Unicode.isLineBreak c = false := by
        cases h : Unicode.isLineBreak c with
        | false => rfl
        | true => exact absurd (hb c (by rw [hx]; simp) h) h10
      simp only [hle, hbr, Bool.and_false, Bool.false_eq_true, if_false]
      have ih := ls_lines x hb rest (pre ++ [c]) arr start hx' (by rw [hlen]; omega)
      rw [hlen] at ih
      refine Eq.trans ih ?_
      rw [List.drop_append_of_le_length hs]
      simp only [linesA, h10, if_false]

theorem lines_T (x : List Nat) (hb : Lb x) : Txt.lines (T x) = (linesL x).map T := by
  have e : linesOf (T x) = (linesL x).map T := by
    have h := ls_lines x hb x [] #[] 0 rfl (Nat.le_refl _)
    unfold linesOf lineCuts
    rw [StrLaws.ls_eq, T_len, List.map_map]
    simpa [Function.comp_def, linesL] using h
  unfold Txt.lines
  split
  · rename_i h
    have h' : lineCuts (T x) = [(0, (T x).length)] := by simpa using h
    rw [← e]
    unfold linesOf
    rw [h']
    simp only [List.map_cons, List.map_nil]
    rw [StrLaws.sub_whole]
  · exact e
end Mine
end

section
open PySem PySem.W PySem.Calls PySem.NumText PyProof.Rows
set_option maxRecDepth 100000
set_option linter.unusedVariables false
set_option autoImplicit false
namespace Mine

/-- the figures of decode's own text -/
def hexL : List Nat := [48, 49, 50, 51, 52, 53, 54, 55, 56, 57, 97, 98, 99, 100, 101, 102, 65, 66, 67, 68, 69, 70]
def hv (c : Nat) : Nat := if c ≤ 57 then c - 48 else if 97 ≤ c then c - 87 else c - 55

theorem typeCall_int_2 (a c : Value) : checkTypeCall "int" ⟨[a, c], []⟩ = pure () := by kernel_rfl
theorem newCall_int_2 (a c : Value) : checkBuiltinCall "int.__new__" ⟨[.type "int", a, c], []⟩ = pure () := by kernel_rfl

noncomputable def numOf (x : (int_private% "Numeral")) : Option Int := (int_private% "Numeral.rec") (motive := fun _ => Option Int) none (fun _ => none) none (fun i => some i) x
theorem numOf_some {x : (int_private% "Numeral")} {i : Int} (h : numOf x = some i) : x = (int_private% "Numeral.value") i := by
  cases x with
  | value j => cases h; rfl
  | _ => cases h
theorem read16' : (hexL.all fun a => hexL.all fun c => numOf ((int_private% "readNumeral") 0 16 [a, c]) == some ((16 * hv a + hv c : Nat) : Int)) = true := by decide +kernel
theorem read16 (a : Nat) (ha : a ∈ hexL) (c : Nat) (hc : c ∈ hexL) : (int_private% "readNumeral") 0 16 [a, c] = (int_private% "Numeral.value") ((16 * hv a + hv c : Nat) : Int) :=
  numOf_some (beq_iff_eq.mp (List.all_eq_true.mp (List.all_eq_true.mp read16' a ha) c hc))
theorem hex_lt : ∀ a ∈ hexL, a < 128 ∧ a ≠ 0 := by decide

theorem wp_text16 {M : Model} {A : Around} {E : Value → Shared → Prop} {s : Shared} {Q : Value → Shared → Prop} {v : Value} {text : List Nat} {n : Int}
    (hs : (text.takeWhile (· != 0)).length ≤ 640) (hr : (int_private% "readNumeral") 0 16 (text.takeWhile (· != 0)) = (int_private% "Numeral.value") n)
    (ha : ((text.takeWhile (· != 0)).length == text.length) = true) (h : Q (.int n s.toks) { s with toks := s.toks + 1 }) :
    wpAny M A ((int_private% "intFromText") v text 16) Q E s := by
  obtain ⟨hp, g, d, tk, os⟩ := s
  repeat (any_goals (first
    | assumption
    | (with_reducible refine wpAny_ite_true (decide_eq_true hs) ?_)
    | (with_reducible refine wpAny_ite_true (decide_eq_true ha) ?_)
    | wp_step))
  all_goals (try rw [hr])
  all_goals (try dsimp only)
  repeat (any_goals (first
    | assumption
    | (with_reducible refine wpAny_ite_true (decide_eq_true hs) ?_)
    | (with_reducible refine wpAny_ite_true (decide_eq_true ha) ?_)
    | wp_step))

theorem wp_text16' {M : Model} {A : Around} {E : Value → Shared → Prop} {s : Shared} {Q : Value → Shared → Prop} {v : Value} {a c : Nat} (ha : a ∈ hexL) (hc : c ∈ hexL)
    (h : Q (.int ((16 * hv a + hv c : Nat) : Int) s.toks) { s with toks := s.toks + 1 }) :
    wpAny M A ((int_private% "intFromText") v (if ((T [a, c]).cps.all (· < 128)) = true then (T [a, c]).cps.toList else Unicode.numberText (T [a, c]).cps.toList) (Int.toNat 16)) Q E s := by
  have f7 : ((T [a, c]).cps.all (· < 128)) = true := by simp [T, (hex_lt a ha).1, (hex_lt c hc).1]
  have f8 : ([a, c].takeWhile (· != 0)) = [a, c] := by simp [(hex_lt a ha).2, (hex_lt c hc).2]
  have f9 : (T [a, c]).cps.toList = [a, c] := rfl
  rw [if_pos f7, f9]
  exact wp_text16 (by rw [f8]; simp) (by rw [f8]; exact read16 a ha c hc) (by rw [f8]; simp) h

theorem gives16 {a c : Nat} (ha : a ∈ hexL) (hc : c ∈ hexL) {t u : Tok} : Gives (Builtin.«int.__new__» ⟨[.type "int", .str (T [a, c]) t, .int 16 u], []⟩) (.int ((16 * hv a + hv c : Nat) : Int)) :=
  .of_wp fun M A E s Q h => by
    obtain ⟨hp, g, d, tk, os⟩ := s
    have f1 := F.conv_sub_int
    have f2 := F.madeHere_int
    have f6 : typeOf (.str (T [a, c]) t) = pure (.type "str") := rfl
    repeat (any_goals (first
      | assumption
      | ((with_reducible show wpAny _ _ ((int_private% "intFromText") _ _ _) _ _ _); refine wp_text16' ha hc ?_)
      | wp_step))
    exact ⟨_, rfl, h⟩

theorem args_object_init_3 (a b c : Value) : argsOk "object.__init__" ⟨[a, b, c], []⟩ := by unfold argsOk; kernel_rfl
theorem call_int16 {prog : Program} {w : World} {A : Around} {E : Value → Shared → Prop} {s : Shared} {Q : Value → Shared → Prop} {a c : Nat} (ha : a ∈ hexL) (hc : c ∈ hexL) {t u : Tok}
    (h : Q (.int ((16 * hv a + hv c : Nat) : Int) s.toks) { s with toks := s.toks + 1 }) : wpAny (model prog w) A (call (.type "int") [.str (T [a, c]) t, .int 16 u]) Q E s :=
  callType_new F.called_int F.newNe_int (typeCall_int_2 _ _) (newCall_int_2 _ _) (fun obj => args_object_init_3 obj _ _) F.entry_int_new (gives16 ha hc).meets (show (Made.int ((16 * hv a + hv c : Nat) : Int)).post _ s from ⟨rfl, h⟩)
end Mine
end

section
open PySem PySem.W PySem.Calls PyProof.Rows
set_option maxRecDepth 100000
set_option linter.unusedVariables false
set_option autoImplicit false
namespace Mine
section
variable {G : Run} {C : Act} {ρ : PEnv} {b : Bl} {r : Nat} {Φ : Out → Prop}

theorem getM_lower : GetM G C "lower" "str.lower" := ⟨by intro x t pl s Q h; with_reducible exact GM.lower h, trivial⟩
theorem getM_rstrip : GetM G C "rstrip" "str.rstrip" := ⟨by intro x t pl s Q h; with_reducible exact GM.rstrip h, trivial⟩
theorem getM_splitlines : GetM G C "splitlines" "str.splitlines" := ⟨by intro x t pl s Q h; with_reducible exact GM.splitlines h, trivial⟩
theorem getM_endswith : GetM G C "endswith" "str.endswith" := ⟨by intro x t pl s Q h; with_reducible exact GM.endswith h, trivial⟩
theorem getM_find : GetM G C "find" "str.find" := ⟨by intro x t pl s Q h; with_reducible exact GM.find h, trivial⟩
theorem getM_strip : GetM G C "strip" "str.strip" := ⟨by intro x t pl s Q h; with_reducible exact GM.strip h, trivial⟩
theorem getM_join : GetM G C "join" "str.join" := ⟨by intro x t pl s Q h; with_reducible exact GM.join h, trivial⟩
theorem getM_translate : GetM G C "translate" "str.translate" := ⟨fun {x t pl s Q} h => by
  with_reducible exact GM.of (.str x t) (typeIs_str _ _ _) F.slot_str_translate F.type_str_translate GM.noRef h, trivial⟩

theorem pu_rstrip {x : List Nat} : Pu G C "str.rstrip" [.str x] (.str (rstripL x)) := fun k Us s Q _ R h => by
  cases R with | cons R1 R => cases R; cases R1 with | str _ t hl =>
  refine SCL.rstrip (fun t' tk hle => ?_) (by rw [T_len, sizeLine_eq]; omega)
  rw [rstrip_T, T_len, T_len] at hle
  rw [rstrip_T]; exact h _ _ (.str _ _ (by omega))
theorem pu_endswith_nl {x : List Nat} : Pu G C "str.endswith" [.str x, .str [10]] (.bool (x.getLast? == some 10)) := fun k Us s Q _ R h => by
  cases R with | cons R1 R => cases R with | cons R2 R => cases R; cases R1 with | str _ t hl => cases R2 with | str _ u hu =>
  refine SC.endswith ?_
  rw [endswith_nl]; exact h _ s.toks (.bool _)
theorem pu_strip_nl {x : List Nat} : ∃ y, (y == []) = x.all (· == 10) ∧ Pu G C "str.strip" [.str x, .str [10]] (.str y) := by
  obtain ⟨y, h1, h2, h3⟩ := stripChars_nl x
  refine ⟨y, h3, fun k Us s Q _ R h => ?_⟩
  cases R with | cons R1 R => cases R with | cons R2 R => cases R; cases R1 with | str _ t hl => cases R2 with | str _ u hu =>
  refine SCL.stripChars (fun t' tk hle => ?_) (by rw [T_len, sizeLine_eq]; omega)
  rw [h1]; exact h _ _ (.str _ _ (by omega))

/-- small letters of the signs below 128 -/
def lowC (c : Nat) : Nat := if 65 ≤ c ∧ c ≤ 90 then c + 32 else c
theorem lower_all : ((List.range 128).all fun c => decide (Txt.lower (T [c]) = T [lowC c])) = true := by decide +kernel
theorem lower_T {c : Nat} (hc : c < 128) : Txt.lower (T [c]) = T [lowC c] := of_decide_eq_true (List.all_eq_true.mp lower_all c (by simpa using hc))
theorem pu_lower {c : Nat} (hc : c < 128) : Pu G C "str.lower" [.str [c]] (.str [lowC c]) := fun k Us s Q _ R h => by
  cases R with | cons R1 R => cases R; cases R1 with | str _ t hl =>
  refine SCL.lower (by rw [T_len]; simp) (fun hle => ?_)
  rw [lower_T hc]; exact h _ _ (.str _ _ (by simp))

/-- the law's own figures -/
def hexs : List Nat := [48, 49, 50, 51, 52, 53, 54, 55, 56, 57, 65, 66, 67, 68, 69, 70, 97, 98, 99, 100, 101, 102]
def hfind (c : Nat) : Int := if 48 ≤ c ∧ c ≤ 57 then (c : Int) - 48 else if 65 ≤ c ∧ c ≤ 70 then (c : Int) - 55 else if 97 ≤ c ∧ c ≤ 102 then (c : Int) - 81 else -1
theorem find_all : (hexs.all fun c => decide (Txt.find (T hexs) (T [c]) = hfind c)) = true := by decide +kernel
theorem find_T {c : Nat} (hc : c ∈ hexs) : Txt.find (T hexs) (T [c]) = hfind c := of_decide_eq_true (List.all_eq_true.mp find_all c hc)
theorem pu_find {c : Nat} (hc : c ∈ hexs) : Pu G C "str.find" [.str hexs, .str [c]] (.int (hfind c)) := fun k Us s Q _ R h => by
  cases R with | cons R1 R => cases R with | cons R2 R => cases R; cases R1 with | str _ t hl => cases R2 with | str _ u hu =>
  refine SC.find ?_
  rw [find_T hc]; exact h _ _ (.int _ _)

theorem strsAre_of {k : Led} : ∀ {vs : List Value} {ls : List (List Nat)}, RpAll k vs (ls.map .str) → StrsAre vs (ls.map T)
  | [], [], _ => .nil
  | _ :: _, l :: ls, .cons h r => by cases h with | str _ t hl => exact .cons _ t (strsAre_of r)
theorem strsAre_to {k : Led} : ∀ {vs : List Value} {ls : List (List Nat)}, StrsAre vs (ls.map T) → (∀ l ∈ ls, l.length ≤ 1048576) → RpAll k vs (ls.map .str)
  | [], [], _, _ => .nil
  | _ :: _, l :: ls, h, hl => by cases h with | cons _ t r => exact .cons (.str _ _ (hl l (.head _))) (strsAre_to r fun a ha => hl a (.tail _ ha))
theorem joinL_len (sep : List Nat) : ∀ ls : List (List Nat), (ls.map List.length).sum ≤ (joinL sep ls).length
  | [] => by simp [joinL]
  | [x] => by simp [joinL]
  | x :: y :: r => by
    have := joinL_len sep (y :: r)
    simp only [List.map_cons, List.sum_cons, joinL, List.length_append] at this ⊢
    omega
theorem join_T (sep : List Nat) (ls : List (List Nat)) : Txt.join (T sep) (ls.map T) = T (joinL sep ls) := by
  unfold Txt.join
  rw [StrLaws.glued_eq_join, strJoin_T]

theorem join_call {sep : List Nat} {ls : List (List Nat)} {D : Addr} {vs : List Value} {t : Tok} {s : Shared} {Q : Value → Shared → Prop} {k : Led} (hL : s.heap.IsList D vs.toArray) (hR : RpAll k vs (ls.map .str)) (hs : sep.length ≤ 64) (hn : ls.length ≤ 100000) (hl : (joinL sep ls).length ≤ 1048576)
    (h : ∀ X tk', Rp k X (.str (joinL sep ls)) → Q X { s with toks := tk' }) : wpAny G.M C.A (call (.builtin "str.join") [.str (T sep) t, .ref D]) Q (fun _ _ => False) s := by
  have e : (ls.map T).map (·.length) = ls.map List.length := by rw [List.map_map]; exact List.map_congr_left fun a _ => T_len a
  have := joinL_len sep ls
  refine join_listC hL (strsAre_of hR) (by rw [T_len]; exact hs) (by rw [e, List.length_map]; omega) (fun t' tk => ?_)
  rw [join_T]; exact h _ _ (.str _ _ hl)

theorem pu_join {sep : List Nat} {ls : List (List Nat)} (hs : sep.length ≤ 64) (hn : ls.length ≤ 100000) (hl : (joinL sep ls).length ≤ 1048576) : Pu G C "str.join" [.str sep, .list (ls.map .str)] (.str (joinL sep ls)) := fun k Us s Q hk R h => by
  cases R with | cons R1 R => cases R with | cons R2 R => cases R; cases R1 with | str _ t hl' => cases R2 with | list hm hq _ hr =>
  exact join_call (isList_of hk hm hq) hr hs hn hl h

/-- the builder's texts joined -/
theorem Ev_join_b {o : Expr} {y : Str} {apos p pos : Pos} {sep : List Nat} {ls : List (List Nat)} {l : Addr} (ok : Ok G C r) (h1 : Ev G C ρ (some (l, ls.map .str)) o (.str sep)) (hy : ρ.lookup y = some (.bref l)) (hly : C.cs.names.lookup y = some .local) (hs : sep.length ≤ 64) (hn : ls.length ≤ 100000) (hl : (joinL sep ls).length ≤ 1048576) (pl : Sem Bool)
    (hm : eval (.Call (.Attribute o "join" apos) [.Name y p] [] pos) C.env = (do let ov ← eval o C.env; standAt apos.atName; let (f, first) ← holding [ov] (getMethod ov "join" pl); callWith pos f first (backTo pos (starEach [.Name y p] C.env)) []))
    (hd : (y == ("__debug__" : Str)) = false := by rfl) : Ev G C ρ (some (l, ls.map .str)) (.Call (.Attribute o "join" apos) [.Name y p] [] pos) (.str (joinL sep ls)) :=
  .mk fun kp k s Q S h => MethodCall_ (pl := pl) (h1.of kp k s _ S fun U k1 h1' tk1 s1 S1 R1 => by
    cases R1 with | str _ t hl =>
    with_reducible refine GM.join ?_
    refine (callWith_method1 (spliced_more ((Ev_name ok hy hly hd).of kp k1 _ _ S1 fun V k2 h2' tk2 s2 S2 R2 => spliced_none ?_) rfl) rfl rfl)
    cases R2
    obtain ⟨vs, n, ho, e1, e2, e3⟩ := S2.builder
    exact join_call ⟨_, ho, rfl, n, rfl⟩ e3 hs hn ‹_› fun X tk' RX => h X k2 h2' tk' (s1.tr s2) S2 RX) hm

theorem Ev_splitlines {o : Expr} {apos pos : Pos} {x : List Nat} (ok : Ok G C r) (h1 : Ev G C ρ b o (.str x)) (hb : Lb x) (hx : x.length < 1048576) (pl : Sem Bool)
    (hm : eval (.Call (.Attribute o "splitlines" apos) [] [] pos) C.env = (do let ov ← eval o C.env; standAt apos.atName; let (f, first) ← holding [ov] (getMethod ov "splitlines" pl); callWith pos f first (backTo pos (starEach [] C.env)) [])) :
    Ev G C ρ b (.Call (.Attribute o "splitlines" apos) [] [] pos) (.list ((linesL x).map .str)) :=
  .mk fun kp k s Q S h => MethodCall_ (pl := pl) (h1.of kp k s _ S fun U k1 h1' tk1 s1 S1 R1 => by
    cases R1 with | str _ t hl =>
    with_reducible refine GM.splitlines ?_
    refine callWith_method0 ?_
    obtain ⟨m, led, fz, F, N, Wt, _, push, _⟩ := S1.take
    have hw := StrLaws.lines_weight (T x)
    rw [lines_T x hb, List.map_map, List.length_map, T_len] at hw
    refine splitlinesNA (s := { s with heap := h1', toks := tk1 }) F N (fun l h' k' e hst hle hL F' N' => ?_) (by rw [T_len, sizeLine_eq]; omega)
    rw [lines_T x hb] at e
    rw [e] at hst hle
    refine h _ _ h' k' (s1.tr Sub.cons) (push h' _ _ F' N' (led_ne N)) (.list (.head _) ⟨rfl, 0, rfl⟩ (by rw [List.length_map]; omega) (strsAre_to hst fun a ha => ?_))
    have := hle (T a) (List.mem_map_of_mem ha)
    rw [T_len, T_len] at this
    omega) hm

theorem intsAre_of {k : Led} : ∀ {vs : List Value} {ns : List Int}, RpAll k vs (ns.map .int) → IntsAre vs ns
  | [], [], _ => .nil
  | _ :: _, n :: ns, .cons h r => by cases h with | int _ t => exact .cons n t (intsAre_of r)
theorem Ev_sum {f : Str} {p pos : Pos} {e : Expr} {ns : List Int} (ok : Ok G C r) (hg : nsIn G.K mainGlobals f = some none) (hv : bootBuiltins f = some (.builtin "sum")) (hl : C.cs.names.lookup f = some .globalImplicit)
    (h1 : Ev G C ρ b e (.list (ns.map .int)))
    (hf : f ≠ ("__name__" : Str) := by decide +kernel) (hd : (f == ("__debug__" : Str)) = false := by rfl)
    (hc : eval (.Call (.Name f p) [e] [] pos) C.env = (do let g ← eval (.Name f p) C.env; callWith pos g [] (backTo pos (starEach [e] C.env)) (backToKw pos (keywordEach [] C.env))) := by rfl)
    (hn : starEach [e] C.env = (false, eval e C.env) :: starEach [] C.env := by rfl) : Ev G C ρ b (.Call (.Name f p) [e] [] pos) (.int ns.sum) :=
  Ev_bcall ok hg hv hl (EvL_cons h1 EvL_nil hn) (fun kp k Us s Q S R h => by
    cases R with | cons R1 R => cases R; cases R1 with | list hm hq _ hr =>
    obtain ⟨m, led, fz, F, N, Wt, keep, _, _⟩ := S.take
    exact sumK ok.hd F N (isList_of (S.known ok) hm hq) (intsAre_of hr) fun h' tk' t' F' N' => h _ h' tk' k .rfl (keep h' F' N') (.int _ _)) hf hd hc hn rfl

theorem op_ne_ints {ns ms : List Int} (hu : C.A.units + 64 < cLine) : Op2 G C (compareOp .NotEq) (.list (ns.map .int)) (.list (ms.map .int)) (.bool (!decide (ns = ms))) := fun k U V s Q hk R1 R2 h => by
  cases R1 with | list hm hq _ hr => cases R2 with | list hm' hq' _ hr' =>
  exact ne_intsK (isList_of hk hm hq) (intsAre_of hr) (isList_of hk hm' hq') (intsAre_of hr') hu (h _ s.toks (.bool _))

theorem Ev_int16 {f : Str} {p pos : Pos} {e1 e2 : Expr} {a c : Nat} (ok : Ok G C r) (hg : nsIn G.K mainGlobals f = some none) (hbv : bootBuiltins f = some (.type "int")) (hl : C.cs.names.lookup f = some .globalImplicit)
    (h1 : Ev G C ρ b e1 (.str [a, c])) (h2 : Ev G C ρ b e2 (.int 16)) (ha : a ∈ hexL) (hc' : c ∈ hexL)
    (hf : f ≠ ("__name__" : Str) := by decide +kernel) (hd : (f == ("__debug__" : Str)) = false := by rfl)
    (hc : eval (.Call (.Name f p) [e1, e2] [] pos) C.env = (do let g ← eval (.Name f p) C.env; callWith pos g [] (backTo pos (starEach [e1, e2] C.env)) (backToKw pos (keywordEach [] C.env))) := by rfl)
    (hn : starEach [e1, e2] C.env = (false, eval e1 C.env) :: starEach [e2] C.env := by rfl) (hn2 : starEach [e2] C.env = (false, eval e2 C.env) :: starEach [] C.env := by rfl) (hp : (backTo pos (starEach [e2] C.env)).any (·.1) = false := by rfl) :
    Ev G C ρ b (.Call (.Name f p) [e1, e2] [] pos) (.int ((16 * hv a + hv c : Nat) : Int)) :=
  .mk fun kp k s Q S h => by
    obtain ⟨m, led, fz, F, N, Wt⟩ := S.ex
    refine Call_ (nameX_B F ok.X ok.T hg hbv hf (PyProof.Rows.callWith_type1 ((EvL_cons h1 (EvL_cons h2 EvL_nil hn2) hn).of pos kp k s _ S fun Us k1 h1' tk1 s1 S1 R1 => ?_) hn hp) ok.hk hl hd) hc
    cases R1 with | cons R1 R => cases R with | cons R2 R => cases R; cases R1 with | str _ t hl => cases R2 with | int _ u =>
    exact call_int16 ha hc' (h _ k1 h1' _ s1 S1 (.int _ _))
end
end Mine
end

section
open PySem PySem.W PySem.Calls PyProof.Rows
set_option maxRecDepth 100000
set_option linter.unusedVariables false
set_option autoImplicit false
namespace Mine
section
variable {G : Run} {C : Act} {ρ : PEnv} {b : Bl} {r : Nat} {Φ : Out → Prop}

/-- the items' third parts are texts -/
def Third (ds : List PV) (ls : List (List Nat)) : Prop := ds.length = ls.length ∧ ∀ (i : Nat) (d : PV) (l : List Nat), ds[i]? = some d → ls[i]? = some l → ∃ (u v : PV) (w : List PV), d = PV.tup (u :: v :: PV.str l :: w)

theorem comp_rest {k : Led} {x : Str} {px p1 p2 : Pos} {scope : Scope} {kk : Nat} {m : Str → Option Value} {s : Shared} {ax : Addr} {vs : List Value} {ds : List PV} {ls : List (List Nat)} {Fin : List Value → Led → Prop} {led₀ : Led}
    (ok : Ok G C r) (hr : RpAll k vs ds) (ht : Third ds ls) (hx : scope.names.lookup x = some .local) (hk : scope.kind = .function) (hd : (x == ("__debug__" : Str)) = false)
    (hsrc : ∀ news, Sub led₀ news → LCg.SrcAt C.h₀ ax vs.toArray news) (hkn : ∀ p ∈ k, p ∈ led₀ ∨ C.h₀.get? p.1 = some p.2)
    (hfin : ∀ ys news, Sub led₀ news → RpAll k ys (ls.map .str) → Fin ys news) :
    ∀ (n i : Nat) (ys : List Value) (news : Led), n + i = vs.length → Sub led₀ news → RpAll k ys ((ls.take i).map .str) →
      LCg.CompRest G.prog G.w C.A C.h₀ C.L m C.env (.Subscript (.Name x px) (.Constant (.int 2) kk p1) p2) x scope [] s (LCg.SrcAt C.h₀ ax vs.toArray) (fun i v => vs.toArray[i]? = some v) Fin n i ys news := by
  intro n
  induction n with
  | zero =>
    intro i ys news hi hs hy
    refine LCg.CompRest.zero (hfin ys news hs ?_)
    have : i = ls.length := by have := hr.length; have := ht.1; omega
    rwa [this, List.take_length] at hy
  | succ n ih =>
    intro i ys news hi hs hy
    refine LCg.CompRest.succ fun v I oI Cc oC D m₂ h tk E' hP hns hm2 F N off hne => ?_
    have hP' : vs[i]? = some v := by simpa using hP
    have hlt : i < ds.length := by have := hr.length; omega
    obtain ⟨d, hdd⟩ : ∃ d, ds[i]? = some d := ⟨ds[i], by simp [hlt]⟩
    obtain ⟨l, hll⟩ : ∃ l, ls[i]? = some l := ⟨ls[i]'(by rw [← ht.1]; exact hlt), by simp [← ht.1, hlt]⟩
    obtain ⟨u, w1, w2, rfl⟩ := ht.2 i d l hdd hll
    obtain ⟨v', hv', hR⟩ := hr.get hdd
    rw [hP'] at hv'
    cases Option.some.inj hv'
    cases hR with | tup hmem hq hrr =>
    rename_i a o ws
    have hget : h.get? a = some o := by
      rcases hkn _ hmem with h1 | h1
      · exact (N _ (.tail _ (.tail _ (.tail _ (hs _ h1))))).1
      · exact F.keep _ _ h1
    obtain ⟨y, hy2, hRy⟩ := hrr.get (i := 2) (d := .str l) rfl
    have hC : h.get? Cc = some oC := (N _ (.tail _ (.head _))).1
    refine Subscript_ (wpAny_Name (wpAny_loadName_local hk (lookup_relabel_local hx) (hns.ns hC) hm2 ?_) hd)
    refine wpAny_Constant_int ?_
    refine item_tupleT ⟨o, hget, hq.1, hq.2⟩ (by omega) (by omega) (StrLaws.seqIndex_nonneg (by omega) ?_) hy2 ?_ rfl
    · have := (List.getElem?_eq_some_iff.mp hy2).1; show (2 : Int) < _; omega
    · refine LCg.CompEnd.intro F N news (fun p hp => hp) off (hsrc _ hs) ?_
      refine ih (i + 1) (ys ++ [y]) news (by omega) hs ?_
      rw [List.take_add_one, hll, List.map_append]
      exact hy.append (.cons hRy .nil)

theorem Ev_comp2 {x : Str} {px px2 p1 p2 pos : Pos} {iter : Expr} {scope : Scope} {kk : Nat} {ds : List PV} {ls : List (List Nat)} (ok : Ok G C r) (h1 : Ev G C ρ b iter (.list ds)) (ht : Third ds ls)
    (hclos : closureFor scope C.env = pure []) (hcell : ∀ y ∈ scope.names, y.2 ≠ .cell) (hkind : scope.kind = .function) (hnames : ∀ y ∈ scope.names, y.2 = .local → scope.names.lookup y.1 = some .local) (hx : scope.names.lookup x = some .local)
    (hd : (x == ("__debug__" : Str)) = false := by rfl) (hs : ∀ v, foldedSetIterable iter C.env v = pure v := by intro _; rfl) :
    Ev G C ρ b (.ListComp (.Subscript (.Name x px) (.Constant (.int 2) kk p1) p2) [⟨.Name x px2, iter, [], 0⟩] scope pos) (.list (ls.map .str)) :=
  .mk fun kp k s Q S h => by
    rw [eval_ListComp]
    refine wpAny_comprehension_free (use := none) rfl hs hclos hkind hnames (h1.of kp k s _ S fun V k1 h1' tk1 s1 S1 R1 => ?_)
    cases R1 with | list hm hq hlen hr =>
    rename_i ax oX vs
    obtain ⟨m, led, fz, F, N, Wt, _, push, _⟩ := S1.take
    have hk1 := S1.known ok
    have hl := isList_of hk1 hm hq
    have hlt : ax < h1'.objs.size := Heap.lt_size (hk1 _ hm)
    have hvl : vs.length = ds.length := hr.length
    have hkn : ∀ p ∈ k1, p ∈ led ∨ C.h₀.get? p.1 = some p.2 := fun p hp => (Wt.kn p hp).1.imp (fun h => fz_led Wt.bl p h) (fun h => ok.hold p h)
    have hsrc : ∀ news, Sub led news → LCg.SrcAt C.h₀ ax vs.toArray news := fun news hs => (hkn _ hm).elim (fun h => .inr ⟨oX, hs _ h, hq.1, hq.2⟩) (fun h => .inl ⟨oX, h, hq.1, hq.2⟩)
    refine wpAny_pyIter_list hl ?_
    have up : ∀ b o, h1'.get? b = some o → (h1'.push { cls := .type "list_iterator", data := .fields #[.ref ax, .int 0 0] }).get? b = some o := fun b o e => Heap.get?_push_of_some _ e
    refine LCg.block_U (s₂ := { s with heap := h1'.push { cls := .type "list_iterator", data := .fields #[.ref ax, .int 0 0] }, toks := tk1 }) (Walks.list ok.hd h1'.objs.size ax (Nat.ne_of_lt hlt) vs.toArray) (by rw [List.size_toArray, hvl, sizeLine_eq]; omega)
      (fun i h st => by obtain ⟨o, e, _⟩ := st.1; exact ⟨o, e⟩) LCg.list_st hcell hkind hx ⟨⟨_, Heap.get?_push_size _ rfl, rfl, rfl⟩, hl.push _⟩ (fun b hb => ?_)
      (F.keeps up) (N.grown up) (Nat.ne_of_lt F.ns.lt) (next_is_new F) (fun p hp => Nat.ne_of_lt (Heap.lt_size (N p hp).1)) (hsrc _ .rfl)
      (comp_rest (Fin := fun ys news => Sub led news ∧ RpAll k1 ys (ls.map .str)) ok hr ht hx hkind hd hsrc hkn (fun ys news hs hy => ⟨hs, hy⟩) vs.toArray.size 0 [] led (by simp) .rfl .nil) ?_
    · show b < (h1'.push _).objs.size
      rw [Heap.size_push]
      rcases List.mem_cons.mp hb with rfl | hb
      · exact Nat.lt_succ_self _
      · rw [List.mem_singleton.mp hb]; exact Nat.lt_succ_of_lt hlt
    · intro D C' hh tk m' ys news' F' N' o1 hn hC₀ hD₀ hCL hDL hCD offC fin
      refine ⟨m', hn, fun h'' hs'' => ?_⟩
      have N'' : News C.h₀ C.L h'' ((D, LCg.lst ys) :: news') := fun p hp => by
        refine ⟨hs''.extBut _ _ ?_ (N' p hp).1, (N' p hp).2⟩
        rcases List.mem_cons.mp hp with rfl | hp
        · exact Ne.symm hCD
        · exact offC p hp
      have N3 : News C.h₀ C.L h'' ((D, LCg.lst ys) :: led) := fun p hp => N'' p (by
        rcases List.mem_cons.mp hp with rfl | hp
        · exact .head _
        · exact .tail _ (fin.1 p hp))
      have off1 : ∀ (l : Led), LCg.Off1 D l → ∀ p ∈ l, p.1 ≠ D := by
        intro l
        induction l with
        | nil => intro _ p hp; cases hp
        | cons q r ih =>
          intro h p hp
          rcases List.mem_cons.mp hp with rfl | hp
          · exact h.1
          · exact ih h.2 p hp
      refine h _ _ h'' tk (s1.tr Sub.cons) (push h'' D _ (F'.change hs'' hCL hC₀) N3 fun p hp => off1 _ o1 p (fin.1 p hp)) (.list (.head _) ⟨rfl, _, rfl⟩ ?_ (fin.2.mono Sub.cons))
      rw [List.length_map, ← ht.1]; exact hlen
end
end Mine
end

section
open PySem PySem.W PySem.Calls PyProof.Rows
set_option maxRecDepth 100000
set_option linter.unusedVariables false
set_option autoImplicit false
namespace Mine
open Builtin Builtin.Str
section
variable {prog : Program} {w : World} {A : Around} {E : Value → Shared → Prop} {s : Shared}

theorem lookup_text {D : Addr} {items : Array Value} {c : Nat} {x : List Nat} {t : Tok} {Q : Mapped → Shared → Prop} (hL : s.heap.IsList D items) (hc : items[c]? = some (.str (T x) t)) (hlt : c < 1000)
    (h : ∀ tk, Q (.text (T x)) { s with toks := tk }) : wpAny (model prog w) A (tableLookup (.ref D) c) Q E s := by
  unfold tableLookup
  refine wpAny_bind (wpAny_attempt (wpAny_bind (wpAny_mkInt (wpAny_getItem_list hL (by omega) (by omega) (x := .str (T x) t) (by simpa using hc) ?_))))
  have e1 : asInt? (.str (T x) t) = pure none := rfl
  have e2 : asStr? (.str (T x) t) = pure (some (T x)) := rfl
  dsimp only
  rw [e1]
  refine wpAny_bind (wpAny_pure ?_)
  dsimp only
  rw [e2]
  refine wpAny_bind (wpAny_pure ?_)
  exact wpAny_pure (h _)

def TrInv (enc : Nat → List Nat) (x : List Nat) (s : Shared) (rest : List Nat) (st : List Str × Nat × Bool × List (Nat × Option Nat) × Bool) (s' : Shared) : Prop :=
  ∃ dn, x = dn ++ rest ∧ (st.1.reverse.foldl (fun acc (p : Str) => acc ++ p.cps) #[]) = (dn.flatMap enc).toArray ∧ st.2.1 = (dn.flatMap enc).length ∧ st.2.2.2.2 = false ∧
    (∀ c a, st.2.2.2.1.lookup c = some a → ∃ d, a = some d ∧ enc c = [d]) ∧ ∃ tk, s' = { s with toks := tk }

theorem call_translate {D : Addr} {vs : List Value} {enc : Nat → List Nat} {x : List Nat} {t : Tok} {Q : Value → Shared → Prop} (hL : s.heap.IsList D vs.toArray) (hx : x ≠ []) (hlt : ∀ c ∈ x, c < 256)
    (hv : ∀ c, c < 256 → ∃ t', vs[c]? = some (.str (T (enc c)) t')) (hl : (x.flatMap enc).length ≤ 1048576) (h : ∀ t' tk, Q (.str (T (x.flatMap enc)) t') { s with toks := tk }) :
    wpAny (model prog w) A (call (.builtin "str.translate") [.str (T x) t, .ref D]) Q E s := by
  refine wpAny_call_entry F.slot_str_translate (typeIs_str s _ t) F.entry_str_translate ?_ (F.args_str_translate_2 _ _)
  unfold Builtin.«str.translate»
  refine wpAny_bind (wpAny_of_eq (a := (Value.str (T x) t, T x, Value.ref D)) (by first | rfl | kernel_rfl) ?_)
  dsimp only
  have h0 : ((T x).length == 0) = false := by rw [T_len]; simpa using fun h => hx (List.eq_nil_of_length_eq_zero h)
  rw [h0]
  simp only [Bool.false_eq_true, if_false]
  refine wpAny_bind ?_
  have flat : ∀ (ps : List Str) (l : List Nat), (ps.reverse.foldl (fun acc p => acc ++ p.cps) #[]) = l.toArray → ∀ y : List Nat, ((T y :: ps).reverse.foldl (fun acc p => acc ++ p.cps) #[]) = (l ++ y).toArray := by
    intro ps l hp y
    rw [List.reverse_cons, List.foldl_append, hp]
    simp [T]
  refine forIn_array_ _ (TrInv enc x s) _ ?_ ?_ _ _ ⟨[], rfl, rfl, rfl, rfl, fun c a e => (by cases e), s.toks, rfl⟩
  · rintro c rest ⟨ps, tot, fast, known, ad⟩ s' ⟨dn, hxd, h1, h2, h3, h4, tk, rfl⟩
    dsimp only at h1 h2 h3 h4
    subst h3
    have hc : c < 256 := hlt c (by rw [hxd]; simp)
    obtain ⟨t', ht'⟩ := hv c hc
    have hle : (dn.flatMap enc).length ≤ (x.flatMap enc).length := by rw [hxd, List.flatMap_append, List.length_append]; omega
    have hnt : ¬ (tooLong tot = true) := by
      unfold tooLong
      rw [sizeLine_eq]
      simp only [decide_eq_true_eq]
      omega
    have hL' : ∀ tk, ({ s with toks := tk } : Shared).heap.IsList D vs.toArray := fun _ => hL
    have hit : vs.toArray[c]? = some (.str (T (enc c)) t') := by simpa using ht'
    have put : ∀ (y : List Nat) (f : Bool) (kn : List (Nat × Option Nat)) (tk' : Nat), enc c = y → (∀ c a, kn.lookup c = some a → ∃ d, a = some d ∧ enc c = [d]) →
        TrInv enc x s rest (T y :: ps, tot + y.length, f, kn, false) { s with toks := tk' } := by
      intro y f kn tk' hy hkn
      have e : (dn ++ [c]).flatMap enc = dn.flatMap enc ++ y := by rw [List.flatMap_append]; simp [hy]
      refine ⟨dn ++ [c], by rw [hxd]; simp, ?_, ?_, rfl, hkn, tk', rfl⟩
      · exact (flat ps _ h1 y).trans (by rw [e])
      · rw [e, List.length_append, ← h2]
    rw [if_neg hnt]
    cases hf : fast with
    | false =>
      simp only [Bool.false_eq_true, if_false]
      refine wpAny_bind (lookup_text (hL' _) hit (by omega) fun tk2 => wpAny_pure ?_)
      dsimp only
      rw [T_len]
      exact put (enc c) false known tk2 rfl h4
    | true =>
      simp only [if_true]
      cases hk : List.lookup c known with
      | some a =>
        obtain ⟨d, rfl, hd⟩ := h4 c a hk
        dsimp only
        exact wpAny_bind (wpAny_pure (wpAny_pure (put [d] true known tk hd h4)))
      | none =>
        dsimp only
        refine wpAny_bind (lookup_text (hL' _) hit (by omega) fun tk2 => ?_)
        dsimp only
        by_cases hq : ((T (enc c)).length == 1 && (T (enc c)).cps.all (· < 128)) = true
        · rw [if_pos hq]
          have h1' : (enc c).length = 1 := by
            have := (Bool.and_eq_true_iff.1 hq).1
            rw [T_len] at this; simpa using this
          obtain ⟨d, hd⟩ := List.length_eq_one_iff.1 h1'
          have e0 : (T (enc c)).cps[0]? = some d := by rw [hd]; rfl
          rw [e0]
          dsimp only
          refine wpAny_bind (wpAny_pure (wpAny_pure ?_))
          refine put [d] true ((c, some d) :: known) tk2 hd ?_
          intro c' a ha
          rw [List.lookup_cons] at ha
          by_cases hcc : c' = c
          · subst hcc
            simp at ha
            exact ⟨d, ha.symm, hd⟩
          · have : (c' == c) = false := by simpa using hcc
            rw [this] at ha
            exact h4 c' a ha
        · rw [if_neg hq]
          dsimp only
          refine wpAny_bind (wpAny_pure ?_)
          dsimp only
          refine wpAny_bind (wpAny_rule ?_)
          simp only [Bool.false_eq_true, if_false]
          refine wpAny_bind (lookup_text (hL' _) hit (by omega) fun tk3 => wpAny_pure ?_)
          dsimp only
          rw [T_len]
          exact put (enc c) false known tk3 rfl h4
  · rintro ⟨ps, tot, fast, known, ad⟩ s' ⟨dn, hxd, h1, h2, h3, h4, tk, rfl⟩
    dsimp only at h1 h2 h3 h4
    rw [List.append_nil] at hxd
    subst hxd
    have hnt : ¬ (tooLong tot = true) := by
      unfold tooLong
      rw [sizeLine_eq]
      simp only [decide_eq_true_eq]
      omega
    dsimp only
    rw [if_neg hnt, h1]
    refine wpAny_bind (wpAny_mkStr (wpAny_pure ⟨_, rfl, h _ _⟩) ?_)
    show (T _).length ≤ _
    rw [T_len, sizeLine_eq]; omega
end
end Mine
end

section
set_option maxRecDepth 100000
set_option linter.unusedVariables false
set_option autoImplicit false
namespace Mine

/-! slices with numbers that are none below 0 -/
theorem sl_nn (x : List Nat) (a b : Nat) : sl x (some (a : Int)) (some (b : Int)) = (x.drop a).take (b - a) := by
  have e : ∀ i : Nat, cl (i : Int) x.length = min i x.length := by intro i; unfold cl; split <;> omega
  simp only [sl, Option.elim, e]
  by_cases h : a ≤ x.length
  · rw [Nat.min_eq_left h]
    by_cases h2 : b ≤ x.length
    · rw [Nat.min_eq_left h2]
    · have e2 : min b x.length = x.length := by omega
      rw [e2, List.take_of_length_le (by simp), List.take_of_length_le (by simp; omega)]
  · have e2 : min a x.length = x.length := by omega
    rw [e2, List.drop_of_length_le (Nat.le_refl x.length), List.drop_of_length_le (show x.length ≤ a by omega)]
    simp
theorem sl_n_ (x : List Nat) (a : Nat) : sl x (some (a : Int)) none = x.drop a := by
  have e : cl (a : Int) x.length = min a x.length := by unfold cl; split <;> omega
  simp only [sl, Option.elim, e]
  by_cases h : a ≤ x.length
  · rw [Nat.min_eq_left h, List.take_of_length_le (by simp)]
  · have e2 : min a x.length = x.length := by omega
    rw [e2, List.drop_of_length_le (Nat.le_refl x.length), List.drop_of_length_le (show x.length ≤ a by omega)]
    simp
theorem sl__n (x : List Nat) (b : Nat) : sl x none (some (b : Int)) = x.take b := by
  have e : cl (b : Int) x.length = min b x.length := by unfold cl; split <;> omega
  simp only [sl, Option.elim, e, List.drop_zero, Nat.sub_zero]
  by_cases h2 : b ≤ x.length
  · rw [Nat.min_eq_left h2]
  · have e2 : min b x.length = x.length := by omega
    rw [e2, List.take_of_length_le (Nat.le_refl x.length), List.take_of_length_le (show x.length ≤ b by omega)]
theorem sl_nm (x : List Nat) (a : Nat) : sl x (some (a : Int)) (some (-1)) = (x.take (x.length - 1)).drop a := by
  have e : cl (a : Int) x.length = min a x.length := by unfold cl; split <;> omega
  have e1 : cl (-1) x.length = x.length - 1 := by unfold cl; simp; omega
  simp only [sl, Option.elim, e, e1]
  by_cases h : a ≤ x.length
  · rw [Nat.min_eq_left h, List.drop_take]
  · have e2 : min a x.length = x.length := by omega
    rw [e2, List.drop_of_length_le (Nat.le_refl x.length), List.take_nil, List.drop_of_length_le (show (x.take (x.length - 1)).length ≤ a by simp; omega)]
theorem sl__m (x : List Nat) : sl x none (some (-1)) = x.dropLast := by
  have e1 : cl (-1) x.length = x.length - 1 := by unfold cl; simp; omega
  simp [sl, e1, List.dropLast_eq_take]
theorem sl_m_ (x : List Nat) : sl x (some (-1)) none = x.drop (x.length - 1) := by
  have e1 : cl (-1) x.length = x.length - 1 := by unfold cl; simp; omega
  simp only [sl, Option.elim, e1]
  rw [List.take_of_length_le (by simp)]
theorem at'_n (x : List Nat) (i : Nat) : at' x (i : Int) = x.getD i 0 := by
  unfold at'
  first | (split <;> simp <;> omega) | simp
theorem at'_m (x : List Nat) (h : x ≠ []) : at' x (-1) = x.getLastD 0 := by
  unfold at'
  cases x with
  | nil => exact absurd rfl h
  | cons a r =>
    have e : ((-1 : Int) + ((a :: r).length : Int)).toNat = r.length := by simp only [List.length_cons]; omega
    rw [if_pos (by omega), e]
    simp [List.getLast?_eq_getElem?, List.getLastD_eq_getLast?, List.getD_eq_getElem?_getD]

/-! what the text computes, on lists of numbers -/
def hexU (d : Nat) : Nat := if d < 10 then 48 + d else 55 + d
def quoteC (c : Nat) : List Nat := [61, hexU (c / 16), hexU (c % 16)]
def safeC (c : Nat) : Bool := c == 9 || (32 ≤ c && c ≤ 126 && c != 61)
def encC (c : Nat) : List Nat := if safeC c || c == 10 || c == 13 then [c] else quoteC c

def piecesL : List (List Nat) := [lit "=", lit " ", lit "\t", lit "\n", lit "3", lit "D", lit "=33", lit "=37", lit "A", lit "k", [133], [233], [11], lit "a b", lit "_", lit "4"]
def signsL : List (List Nat) := [lit "=", lit "3", lit "d", lit "a", lit "k", lit "_", lit "=", lit "0"]

/-! body_encode; the length is m + 4 -/
/-- where the next cut is -/
def cutAt (m : Nat) (line : List Nat) (s : Nat) : Nat :=
  if line.getD (s + m + 1) 0 = 61 then s + m + 1 else if line.getD (s + m + 2) 0 = 61 then s + m + 2 else s + m + 3
theorem cutAt_lt (m : Nat) (line : List Nat) (s : Nat) : s < cutAt m line s := by unfold cutAt; split <;> (try split) <;> omega
def wrapL (m : Nat) (line : List Nat) (s : Nat) (ls : List (List Nat)) : Nat × List (List Nat) :=
  if s + 1 + (m + 4) ≤ line.length then wrapL m line (cutAt m line s) (ls ++ [(line.drop s).take (cutAt m line s - s) ++ [61]]) else (s, ls)
termination_by line.length - s
decreasing_by have := cutAt_lt m line s; omega

def isW (c : Nat) : Bool := c == 32 || c == 9
/-- the last piece of a line, from s on -/
def lastPiece (m : Nat) (line : List Nat) (s : Nat) : List Nat :=
  if line ≠ [] ∧ isW (line.getLastD 0) = true then
    (line.take (line.length - 1)).drop s ++
      (if line.length + 3 ≤ s + m + 5 then quoteC (line.getLastD 0)
       else if line.length + 2 = s + m + 5 then line.getLastD 0 :: [61, 10]
       else [61, 10] ++ quoteC (line.getLastD 0))
  else line.drop s
def lineStep (m : Nat) (ls : List (List Nat)) (line : List Nat) : List (List Nat) :=
  (wrapL m line 0 ls).2 ++ [lastPiece m line (wrapL m line 0 ls).1]
def encodeP (m : Nat) (t : List Nat) : List Nat :=
  let body := t.flatMap encC
  let ls := (linesL body).foldl (lineStep m) []
  joinL [10] (if body.getLastD 0 = 10 ∨ body.getLastD 0 = 13 then ls ++ [[]] else ls)

/-! decode -/
def isHex (c : Nat) : Bool := hexL.contains c
def scanL (line : List Nat) (i : Nat) (d : List Nat) : List Nat :=
  if h : i < line.length then
    if line.getD i 0 ≠ 61 then (if i + 1 = line.length then scanL line (i + 1) (d ++ [line.getD i 0] ++ [10]) else scanL line (i + 1) (d ++ [line.getD i 0]))
    else if i + 1 = line.length then scanL line (i + 1) d
    else if i + 2 < line.length ∧ isHex (line.getD (i + 1) 0) = true ∧ isHex (line.getD (i + 2) 0) = true then
      (if i + 3 = line.length then scanL line (i + 3) (d ++ [16 * hv (line.getD (i + 1) 0) + hv (line.getD (i + 2) 0)] ++ [10]) else scanL line (i + 3) (d ++ [16 * hv (line.getD (i + 1) 0) + hv (line.getD (i + 2) 0)]))
    else scanL line (i + 1) (d ++ [61])
  else d
termination_by line.length - i
def lineDec (d : List Nat) (line : List Nat) : List Nat :=
  if rstripL line = [] then d ++ [10] else scanL (rstripL line) 0 d
def decodeP (w : List Nat) : List Nat :=
  if w = [] then [] else
  let d := (linesL w).foldl lineDec []
  if (w.getLastD 0 ≠ 13 ∧ w.getLastD 0 ≠ 10) ∧ d.getLast? = some 10 then d.dropLast else d

/-! the law's own -/
def pieceP (x : Int) : List Nat :=
  if x.fmod 32 < 16 then piecesL.getD (x.fmod 32).toNat [] else if (x.fdiv 32).fmod 256 = 13 then [10] else [((x.fdiv 32).fmod 256).toNat]
def textP (ns : List Int) : List Nat :=
  let t := ((ns.drop 1).take 6).flatMap pieceP
  if t.all (· == 10) then t ++ lit "=33" else t

def octetP (p : List Nat) : Nat := (16 * hfind (p.getD 0 0) + hfind (p.getD 1 0)).toNat
abbrev Cell := Nat × Nat × List Nat
def cellPV (c : Cell) : PV := .tup [.int c.1, .int c.2.1, .str c.2.2]
def cellsL (w : List Nat) (p : Nat) (cs : List Cell) : List Cell :=
  if p < w.length then
    if w.getD p 0 ≠ 61 then cellsL w (p + 1) (cs ++ [(p, p + 1, [w.getD p 0])])
    else if (w.drop (p + 1)).take 1 = [10] then cellsL w (p + 2) (cs ++ [(p, p + 2, [])])
    else cellsL w (p + 3) (cs ++ [(p, p + 3, [octetP ((w.drop (p + 1)).take 2)])])
  else cs
termination_by w.length - p
end Mine
end

section
open PySem PySem.W PySem.Calls PyProof.Rows
set_option maxRecDepth 100000
set_option linter.unusedVariables false
set_option autoImplicit false
namespace Mine

def bodyN (n : Nat) : List Stmt := match PySem.Challenge.pw_dj5004_01.main.body[n]? with
  | some (.FunctionDef _ _ b _ _ _ _ _ _ _) => b
  | _ => []
def parN (n : Nat) : Arguments := match PySem.Challenge.pw_dj5004_01.main.body[n]? with
  | some (.FunctionDef _ a _ _ _ _ _ _ _ _) => a
  | _ => ⟨[], [], none, [], [], none, []⟩
def scN (n : Nat) : Scope := match PySem.Challenge.pw_dj5004_01.main.body[n]? with
  | some (.FunctionDef _ _ _ _ _ _ s _ _ _) => s
  | _ => ⟨.function, [], false, false, []⟩

/-- the def that stands at place n of the text, written at f -/
def DefAt (K : Frag) (f : Addr) (qual : Str) (n : Nat) (dV : Value) : Prop :=
  ∃ oc od name kV doc pm an cdv ct osl, K.lookup f = some ⟨oc, od, .func (fnOf name qual (parN n) (bodyN n) (scN n) dV kV doc pm an cdv ct), osl⟩ ∧ codeIn K cdv qual = true

section
variable {G : Run} {C : Act} {ρ : PEnv} {b : Bl} {r : Nat}

theorem Fn_at {f : Addr} {us : List PV} {v : PV} {qual : Str} {n : Nat} {dV : Value} {ρ₀ : PEnv} (hD : DefAt G.K f qual n dV)
    (hbind : ∀ (k : Led) (s : Shared) (Us : List Value), G.K.In s.heap → RpAll k Us us → ∃ binds, (∀ name kV doc pm an cdv ct, BindsTo s (fnOf name qual (parN n) (bodyN n) (scN n) dV kV doc pm an cdv ct) ⟨Us, []⟩ binds) ∧ (∀ y ∈ binds, (scN n).names.lookup y.1 = some .local) ∧ EnvOk k (fun x => binds.reverse.lookup x) ρ₀)
    (hbody : ∀ C', Ok G C' r → C'.cs = scN n → Ex G C' ρ₀ none (bodyN n) (fun o => o = .ret v))
    (hcell : ∀ x ∈ (scN n).names, x.2 ≠ .cell := by decide +kernel) (hk : (scN n).kind = .function := by rfl) (hco : (scN n).isCoroutine = false := by rfl) (hgen : (scN n).isGenerator = false := by rfl) : Fn G f r us v := by
  obtain ⟨oc, od, name, kV, doc, pm, an, cdv, ct, osl, h1, h2⟩ := hD
  exact Fn_of h1 h2 (fun k s Us X R => let ⟨binds, b1, b2, b3⟩ := hbind k s Us X R; ⟨binds, b1 _ _ _ _ _ _ _, b2, b3⟩) hcell hk hco hgen hbody

/-- names bound one by one -/
theorem bind1 {k : Led} {x : Str} {U : Value} {u : PV} (h : Rp k U u) : EnvOk k (fun y => [(x, U)].reverse.lookup y) [(x, u)] := by
  have e : EnvOk k (fun _ => none) [] := fun _ _ h => by cases h
  have := e.set (x := x) h
  refine fun y d hy => ?_
  obtain ⟨V, h1, h2⟩ := this y d hy
  refine ⟨V, ?_, h2⟩
  by_cases q : y = x
  · subst q; simpa [List.lookup] using h1
  · simp [q] at h1

theorem binds_ok {k : Led} : ∀ {names : List Str} {Us : List Value} {us : List PV}, names.Nodup → RpAll k Us us → EnvOk k (fun y => ((names.zip Us).reverse).lookup y) (names.zip us)
  | names, [], [], _, .nil => by intro x d h; rw [List.zip_nil_right] at h; cases h
  | [], _ :: _, _ :: _, _, _ => by intro x d h; cases h
  | n :: names, U :: Us, u :: us, hn, .cons h R => by
    have ih := binds_ok (List.nodup_cons.mp hn).2 R
    intro x d hx
    rw [List.zip_cons_cons, List.lookup_cons] at hx
    by_cases q : x = n
    · subst q
      simp only [beq_self_eq_true] at hx
      cases hx
      refine ⟨U, ?_, h⟩
      show List.lookup x ((x, U) :: names.zip Us).reverse = _
      rw [List.reverse_cons, List.lookup_append]
      have : List.lookup x (names.zip Us).reverse = none := by
        rw [List.lookup_eq_none_iff]
        intro p hp
        have hp' := List.mem_reverse.mp hp
        have hm : p.1 ∈ names := (List.of_mem_zip (show (p.1, p.2) ∈ names.zip Us from hp')).1
        have : x ≠ p.1 := fun e => (List.nodup_cons.mp hn).1 (e ▸ hm)
        simpa using this
      rw [this]
      simp [List.lookup]
    · simp only [beq_eq_false_iff_ne.mpr q] at hx
      obtain ⟨V, h1, h2⟩ := ih x d hx
      refine ⟨V, ?_, h2⟩
      show List.lookup x ((n, U) :: names.zip Us).reverse = _
      rw [List.reverse_cons, List.lookup_append]
      show ((names.zip Us).reverse.lookup x).or _ = _
      have h1' : (names.zip Us).reverse.lookup x = some V := h1
      rw [h1']; rfl
end

theorem rp1 {k : Led} {Us : List Value} {u : PV} (R : RpAll k Us [u]) : ∃ U, Us = [U] := match Us, R with | [U], .cons _ .nil => ⟨U, rfl⟩
theorem rp2 {k : Led} {Us : List Value} {u v : PV} (R : RpAll k Us [u, v]) : ∃ U V, Us = [U, V] := match Us, R with | [U, V], .cons _ (.cons _ .nil) => ⟨U, V, rfl⟩
theorem rp5 {k : Led} {Us : List Value} {u1 u2 u3 u4 u5 : PV} (R : RpAll k Us [u1, u2, u3, u4, u5]) : ∃ A B C D E, Us = [A, B, C, D, E] := match Us, R with | [A, B, C, D, E], .cons _ (.cons _ (.cons _ (.cons _ (.cons _ .nil)))) => ⟨A, B, C, D, E, rfl⟩
theorem bindsLoc {sc : Scope} {names : List Str} (h : ∀ x ∈ names, sc.names.lookup x = some .local) (Us : List Value) : ∀ y ∈ names.zip Us, sc.names.lookup y.1 = some .local := fun y hy => h _ (List.of_mem_zip (show (y.1, y.2) ∈ names.zip Us from hy)).1

/-- what the top wrote -/
structure Facts (G : Run) : Prop where
  unquote : nsIn G.K mainGlobals "unquote" = some (some (.ref 37)) ∧ keepIn G.K (.ref 37) = true ∧ DefAt G.K 37 "unquote" 14 .none
  quote : nsIn G.K mainGlobals "quote" = some (some (.ref 44)) ∧ keepIn G.K (.ref 44) = true ∧ DefAt G.K 44 "quote" 15 .none
  body_encode : nsIn G.K mainGlobals "body_encode" = some (some (.ref 57)) ∧ keepIn G.K (.ref 57) = true ∧ ∃ D, DefAt G.K 57 "body_encode" 19 (.ref D) ∧ ∃ o t1 t2 n, G.K.lookup D = some o ∧ o.data = .seq #[.int 76 t1, .str (T [10]) t2] n
  decode : nsIn G.K mainGlobals "decode" = some (some (.ref 65)) ∧ keepIn G.K (.ref 65) = true ∧ ∃ D, DefAt G.K 65 "decode" 20 (.ref D) ∧ ∃ o t2 n, G.K.lookup D = some o ∧ o.data = .seq #[.str (T [10]) t2] n
  text : nsIn G.K mainGlobals "_law_text" = some (some (.ref 74)) ∧ keepIn G.K (.ref 74) = true ∧ DefAt G.K 74 "_law_text" 25 .none
  octet : nsIn G.K mainGlobals "_law_octet" = some (some (.ref 81)) ∧ keepIn G.K (.ref 81) = true ∧ DefAt G.K 81 "_law_octet" 26 .none
  cells : nsIn G.K mainGlobals "_law_cells" = some (some (.ref 88)) ∧ keepIn G.K (.ref 88) = true ∧ DefAt G.K 88 "_law_cells" 27 .none
  figure : nsIn G.K mainGlobals "_law_figure" = some (some (.ref 95)) ∧ keepIn G.K (.ref 95) = true ∧ DefAt G.K 95 "_law_figure" 28 .none
  flip : nsIn G.K mainGlobals "_law_flip" = some (some (.ref 100)) ∧ keepIn G.K (.ref 100) = true ∧ DefAt G.K 100 "_law_flip" 29 .none
  NL : ∃ t, nsIn G.K mainGlobals "NL" = some (some (.str (T [10]) t))
  CRLF : ∃ t, nsIn G.K mainGlobals "CRLF" = some (some (.str (T [13, 10]) t))
  hexdigits : ∃ t, nsIn G.K mainGlobals "hexdigits" = some (some (.str (T hexL) t))
  HEX : ∃ t, nsIn G.K mainGlobals "_law_HEX" = some (some (.str (T hexs) t))
  map : nsIn G.K mainGlobals "_QUOPRI_MAP" = some (some (.ref 17)) ∧ ∃ o, (17, o) ∈ G.olds ∧ Rp [(17, o)] (.ref 17) (.list ((List.range 256).map fun c => .str (quoteC c)))
  emap : nsIn G.K mainGlobals "_QUOPRI_BODY_ENCODE_MAP" = some (some (.ref 46)) ∧ ∃ o, (46, o) ∈ G.olds ∧ Rp [(46, o)] (.ref 46) (.list ((List.range 256).map fun c => .str (encC c)))
  pieces : nsIn G.K mainGlobals "_law_PIECES" = some (some (.ref 66)) ∧ ∃ o, (66, o) ∈ G.olds ∧ Rp [(66, o)] (.ref 66) (.tup (piecesL.map .str))
  signs : nsIn G.K mainGlobals "_law_SIGNS" = some (some (.ref 67)) ∧ ∃ o, (67, o) ∈ G.olds ∧ Rp [(67, o)] (.ref 67) (.tup (signsL.map .str))
  len : nsIn G.K mainGlobals "len" = some none
  chr : nsIn G.K mainGlobals "chr" = some none
  ord : nsIn G.K mainGlobals "ord" = some none
  int : nsIn G.K mainGlobals "int" = some none
  range : nsIn G.K mainGlobals "range" = some none
  sum : nsIn G.K mainGlobals "sum" = some none
theorem b_len : bootBuiltins ("len" : Str) = some (.builtin "len") := by boot_fast
theorem b_chr : bootBuiltins ("chr" : Str) = some (.builtin "chr") := by boot_fast
theorem b_ord : bootBuiltins ("ord" : Str) = some (.builtin "ord") := by boot_fast
theorem b_sum : bootBuiltins ("sum" : Str) = some (.builtin "sum") := by boot_fast
theorem b_int : bootBuiltins ("int" : Str) = some (.type "int") := by boot_fast
theorem b_range : bootBuiltins ("range" : Str) = some (.type "range") := by boot_fast
theorem Tr_eq {G : Run} {C : Act} {ρ : PEnv} {b : Bl} {e : Expr} {v w : Bool} (h : Tr G C ρ b e v) (e' : v = w) : Tr G C ρ b e w := e' ▸ h
theorem Ev_eq {G : Run} {C : Act} {ρ : PEnv} {b : Bl} {e : Expr} {v w : PV} (h : Ev G C ρ b e v) (e' : v = w) : Ev G C ρ b e w := e' ▸ h
theorem Ev_name' {G : Run} {C : Act} {ρ : PEnv} {b : Bl} {r : Nat} {x : Str} {pos : Pos} {v : PV} {sc : Scope} (ok : Ok G C r) (hcs : C.cs = sc) (hv : ρ.lookup x = some v) (hl : sc.names.lookup x = some .local) (hd : (x == ("__debug__" : Str)) = false := by rfl) : Ev G C ρ b (.Name x pos) v := Ev_name ok hv (hcs ▸ hl) hd
theorem Ev_gstr {G : Run} {C : Act} {ρ : PEnv} {b : Bl} {r : Nat} {x : Str} {pos : Pos} {l : List Nat} {sc : Scope} (ok : Ok G C r) (hcs : C.cs = sc) (hg : ∃ t, nsIn G.K mainGlobals x = some (some (.str (T l) t))) (hl : sc.names.lookup x = some .globalImplicit) (hlen : l.length ≤ 1048576 := by decide) (hd : (x == ("__debug__" : Str)) = false := by rfl) : Ev G C ρ b (.Name x pos) (.str l) :=
  let ⟨t, ht⟩ := hg; Ev_glob ok ht (.str l t hlen) (hcs ▸ hl) hd
theorem Ev_gobj {G : Run} {C : Act} {ρ : PEnv} {b : Bl} {r : Nat} {x : Str} {pos : Pos} {a : Addr} {v : PV} {sc : Scope} (ok : Ok G C r) (hcs : C.cs = sc) (hg : nsIn G.K mainGlobals x = some (some (.ref a)) ∧ ∃ o, (a, o) ∈ G.olds ∧ Rp [(a, o)] (.ref a) v) (hl : sc.names.lookup x = some .globalImplicit) (hd : (x == ("__debug__" : Str)) = false := by rfl) : Ev G C ρ b (.Name x pos) v :=
  let ⟨h1, o, h2, h3⟩ := hg; Ev_globO ok h1 h2 h3 (hcs ▸ hl) hd
end Mine
end

section
set_option maxRecDepth 100000
set_option linter.unusedVariables false
set_option autoImplicit false
namespace Mine

/-! the cells of a writing -/
inductive Tk where
  | lit (c : Nat)
  | esc (c : Nat)
  | soft
def Tk.sp : Tk → List Nat
  | .lit c => [c]
  | .esc c => quoteC c
  | .soft => [61, 10]
def Tk.val : Tk → List Nat
  | .lit c => [c]
  | .esc c => [c]
  | .soft => []
def spell (ts : List Tk) : List Nat := ts.flatMap Tk.sp
def valu (ts : List Tk) : List Nat := ts.flatMap Tk.val
def Tk.ok : Tk → Prop
  | .lit c => c ≠ 61 ∧ (c = 9 ∨ c = 10 ∨ (32 ≤ c ∧ c ≤ 126))
  | .esc c => c < 256 ∧ c ≠ 10
  | .soft => True
theorem spell_app (a b : List Tk) : spell (a ++ b) = spell a ++ spell b := by simp [spell]
theorem valu_app (a b : List Tk) : valu (a ++ b) = valu a ++ valu b := by simp [valu]
theorem spell_cons (a : Tk) (b : List Tk) : spell (a :: b) = a.sp ++ spell b := by simp [spell]
theorem valu_cons (a : Tk) (b : List Tk) : valu (a :: b) = a.val ++ valu b := by simp [valu]
theorem spell_nil : spell [] = [] := rfl
theorem valu_nil : valu [] = [] := rfl
theorem sp_pos (t : Tk) : 0 < t.sp.length := by cases t <;> simp [Tk.sp, quoteC]
theorem sp_le (t : Tk) : t.sp.length ≤ 3 := by cases t <;> simp [Tk.sp, quoteC]

def cellsOf : Nat → List Tk → List Cell
  | _, [] => []
  | p, t :: r => (p, p + t.sp.length, t.val) :: cellsOf (p + t.sp.length) r
theorem cellsOf_app : ∀ (a b : List Tk) (p : Nat), cellsOf p (a ++ b) = cellsOf p a ++ cellsOf (p + (spell a).length) b
  | [], b, p => by simp [cellsOf, spell]
  | t :: r, b, p => by
    rw [List.cons_append, cellsOf, cellsOf, cellsOf_app r b, spell_cons, List.length_append, Nat.add_assoc, List.cons_append]
theorem cellsOf_len : ∀ (a : List Tk) (p : Nat), (cellsOf p a).length = a.length
  | [], _ => rfl
  | t :: r, p => by simp [cellsOf, cellsOf_len r]
theorem cellsOf_val : ∀ (a : List Tk) (p : Nat), ((cellsOf p a).map fun c => c.2.2) = a.map Tk.val
  | [], _ => rfl
  | t :: r, p => by simp [cellsOf, cellsOf_val r]
theorem len_spell (a : List Tk) : a.length ≤ (spell a).length := by
  induction a with
  | nil => simp
  | cons t r ih => have := sp_pos t; simp only [spell_cons, List.length_cons, List.length_append]; omega

theorem hexU_mem : ∀ d, d < 16 → hexU d ∈ hexs ∧ hexU d ∈ hexL := by decide
theorem octet_all : ((List.range 256).all fun c => octetP [hexU (c / 16), hexU (c % 16)] == c) = true := by decide +kernel
theorem octet_ok {c : Nat} (h : c < 256) : octetP [hexU (c / 16), hexU (c % 16)] = c := beq_iff_eq.mp (List.all_eq_true.mp octet_all c (by simpa using h))

theorem getD_at (A B : List Nat) (p k : Nat) (hp : p = A.length + k) : (A ++ B).getD p 0 = B.getD k 0 := by
  subst hp
  rw [List.getD_eq_getElem?_getD, List.getD_eq_getElem?_getD, List.getElem?_append_right (by omega), Nat.add_sub_cancel_left]
theorem drop_at (A B : List Nat) (p k : Nat) (hp : p = A.length + k) : (A ++ B).drop p = B.drop k := by
  subst hp
  rw [List.drop_append, List.drop_of_length_le (by omega), Nat.add_sub_cancel_left, List.nil_append]
end Mine
end

section
open PySem PySem.W PySem.Calls PyProof.Rows
set_option maxRecDepth 100000
set_option linter.unusedVariables false
set_option autoImplicit false
namespace Mine
section
variable {G : Run}

theorem hfind_lt : ∀ x ∈ hexs, 0 ≤ hfind x ∧ hfind x < 22 := by decide
theorem hv_lt : ∀ x ∈ hexL, hv x < 16 := by decide

theorem fn_unquote (F : Facts G) {a c : Nat} (ha : a ∈ hexL) (hc : c ∈ hexL) : Fn G 37 0 [.str [61, a, c]] (.str [16 * hv a + hv c]) := by
  refine Fn_at F.unquote.2.2 (ρ₀ := [("s", .str [61, a, c])]) ?_ ?_
  · intro k s Us X R
    obtain ⟨U, rfl⟩ := rp1 R
    exact ⟨[("s", U)], fun _ _ _ _ _ _ _ => BindsTo.of_eq rfl, bindsLoc (names := ["s"]) (by decide) [U], binds_ok (names := ["s"]) (by decide) R⟩
  · intro C ok hcs
    refine Ex_cons (Ex1_ret (v := .str [16 * hv a + hv c]) ?_ rfl)
    refine Ev_eq (Ev_pcall ok F.chr b_chr (hcs ▸ rfl) (EvL_cons (Ev_int16 ok F.int b_int (hcs ▸ rfl) (Ev_eq (Ev_sl_ss (Ev_name' ok hcs rfl rfl) Ev_int Ev_int) (w := .str [a, c]) rfl) Ev_int ha hc) EvL_nil) (pu_chr ?_ ?_)) ?_
    · omega
    · have := hv_lt a ha; have := hv_lt c hc; omega
    · rw [Int.toNat_natCast]

theorem fn_quote (F : Facts G) {c : Nat} (hc : c < 256) : Fn G 44 0 [.str [c]] (.str (quoteC c)) := by
  refine Fn_at F.quote.2.2 (ρ₀ := [("c", .str [c])]) ?_ ?_
  · intro k s Us X R
    obtain ⟨U, rfl⟩ := rp1 R
    exact ⟨[("c", U)], fun _ _ _ _ _ _ _ => BindsTo.of_eq rfl, bindsLoc (names := ["c"]) (by decide) [U], binds_ok (names := ["c"]) (by decide) R⟩
  · intro C ok hcs
    refine Ex_cons (Ex1_ret (v := .str (quoteC c)) ?_ rfl)
    refine Ev_list_item (i := (c : Int)) ok (Ev_gobj ok hcs F.map rfl) ?_ (by omega) (by omega) ?_
    · exact Ev_pcall ok F.ord b_ord (hcs ▸ rfl) (EvL_cons (Ev_name' ok hcs rfl rfl) EvL_nil) pu_ord
    · simp [hc]

theorem fn_octet (F : Facts G) {a c : Nat} (ha : a ∈ hexs) (hc : c ∈ hexs) : Fn G 81 0 [.str [a, c]] (.str [octetP [a, c]]) := by
  refine Fn_at F.octet.2.2 (ρ₀ := [("pair", .str [a, c])]) ?_ ?_
  · intro k s Us X R
    obtain ⟨U, rfl⟩ := rp1 R
    exact ⟨[("pair", U)], fun _ _ _ _ _ _ _ => BindsTo.of_eq rfl, bindsLoc (names := ["pair"]) (by decide) [U], binds_ok (names := ["pair"]) (by decide) R⟩
  · intro C ok hcs
    refine Ex_cons (Ex1_ret (v := .str [octetP [a, c]]) ?_ rfl)
    refine Ev_eq (Ev_pcall ok F.chr b_chr (hcs ▸ rfl) (EvL_cons (Ev_bin ok (Ev_bin ok Ev_int (Ev_smeth1 ok (Ev_gstr ok hcs F.HEX rfl) (Ev_eq (Ev_item (Ev_name' ok hcs rfl rfl) Ev_int (by simp) (by simp)) (w := .str [a]) rfl) getM_find (do return (← importBound _ C.env).getD true) rfl (pu_find ha)) (op_mul_int ?_))
      (Ev_smeth1 ok (Ev_gstr ok hcs F.HEX rfl) (Ev_eq (Ev_item (Ev_name' ok hcs rfl rfl) Ev_int (by simp) (by simp)) (w := .str [c]) rfl) getM_find (do return (← importBound _ C.env).getD true) rfl (pu_find hc)) op_add_int) EvL_nil) (pu_chr ?_ ?_)) ?_
    · exact IntMulOk.of_left (by decide)
    · have := hfind_lt a ha; have := hfind_lt c hc; omega
    · have := hfind_lt a ha; have := hfind_lt c hc; omega
    · rfl

theorem fn_figure (F : Facts G) {x : List Nat} (hx : x.length ≤ 1) : Fn G 95 0 [.str x] (.bool (x != [] && hexs.contains (x.getD 0 0))) := by
  refine Fn_at F.figure.2.2 (ρ₀ := [("sign", .str x)]) ?_ ?_
  · intro k s Us X R
    obtain ⟨U, rfl⟩ := rp1 R
    exact ⟨[("sign", U)], fun _ _ _ _ _ _ _ => BindsTo.of_eq rfl, bindsLoc (names := ["sign"]) (by decide) [U], binds_ok (names := ["sign"]) (by decide) R⟩
  · intro C ok hcs
    refine Ex_cons (Ex1_ret (v := .bool (x != [] && hexs.contains (x.getD 0 0))) ?_ rfl)
    refine Ev_and (Ev_cmp ok (Ev_name' ok hcs rfl rfl) Ev_str op_ne_str) fun h => ?_
    obtain ⟨c, rfl⟩ : ∃ c, x = [c] := by
      match x, hx with
      | [], _ => simp at h
      | [c], _ => exact ⟨c, rfl⟩
    exact Ev_bool1 (Ev_cmp ok (Ev_name' ok hcs rfl rfl) (Ev_gstr ok hcs F.HEX rfl) op_in_str)
end
end Mine
end

section
open PySem PySem.W PySem.Calls PyProof.Rows
set_option maxRecDepth 100000
set_option linter.unusedVariables false
set_option autoImplicit false
namespace Mine
section
variable {G : Run}

theorem fm_nonneg (x : Int) {n : Int} (h : 0 < n) : 0 ≤ x.fmod n := Int.fmod_nonneg_of_pos x h
theorem fm_lt (x : Int) {n : Int} (h : 0 < n) : x.fmod n < n := Int.fmod_lt_of_pos x h

theorem pieceP_len (x : Int) : (pieceP x).length ≤ 3 := by
  unfold pieceP
  split
  · rename_i h
    have : ∀ n, n < 16 → (piecesL.getD n []).length ≤ 3 := by decide
    exact this _ (by omega)
  · split <;> simp

theorem pick_nn {α : Type} (x : List α) (a b : Nat) : (x.drop (min a x.length)).take (min b x.length - min a x.length) = (x.drop a).take (b - a) := by
  by_cases h : a ≤ x.length
  · rw [Nat.min_eq_left h]
    by_cases h2 : b ≤ x.length
    · rw [Nat.min_eq_left h2]
    · have e2 : min b x.length = x.length := by omega
      rw [e2, List.take_of_length_le (by simp), List.take_of_length_le (by simp; omega)]
  · have e2 : min a x.length = x.length := by omega
    rw [e2, List.drop_of_length_le (Nat.le_refl x.length), List.drop_of_length_le (show x.length ≤ a by omega)]
    simp
theorem slP_nn {α : Type} (x : List α) (a b : Nat) : slP x (some (a : Int)) (some (b : Int)) = (x.drop a).take (b - a) := by
  have e : ∀ i : Nat, kms_lo (some (i : Int)) x.length = min i x.length := by intro i; unfold kms_lo; simp; omega
  have e' : ∀ i : Nat, kms_hi (some (i : Int)) x.length = min i x.length := by intro i; unfold kms_hi; simp; omega
  unfold slP
  rw [e, e', pick_nn]
theorem slP_n_ {α : Type} (x : List α) (a : Nat) : slP x (some (a : Int)) none = x.drop a := by
  have e : ∀ i : Nat, kms_lo (some (i : Int)) x.length = min i x.length := by intro i; unfold kms_lo; simp; omega
  unfold slP
  rw [e, show kms_hi none x.length = min x.length x.length by unfold kms_hi; simp, pick_nn, List.take_of_length_le (by simp)]
theorem slP__n {α : Type} (x : List α) (b : Nat) : slP x none (some (b : Int)) = x.take b := by
  have e' : ∀ i : Nat, kms_hi (some (i : Int)) x.length = min i x.length := by intro i; unfold kms_hi; simp; omega
  unfold slP
  rw [e', show kms_lo none x.length = min 0 x.length by unfold kms_lo; simp, pick_nn]
  simp
theorem slP_16 (ns : List Int) : slP (ns.map PV.int) (some 1) (some 7) = ((ns.drop 1).take 6).map .int := by
  rw [show (some (1 : Int)) = some ((1 : Nat) : Int) from rfl, show (some (7 : Int)) = some ((7 : Nat) : Int) from rfl, slP_nn, List.map_take, List.map_drop]

def textPre (ns : List Int) : List Nat := ((ns.drop 1).take 6).flatMap pieceP
theorem flatMap_len (l : List Int) : (l.flatMap pieceP).length ≤ 3 * l.length := by
  induction l with
  | nil => simp
  | cons a r ih => have := pieceP_len a; simp only [List.flatMap_cons, List.length_append, List.length_cons]; omega

theorem fn_text (F : Facts G) {ns : List Int} (hn : ns.length ≤ 63) : Fn G 74 0 [.list (ns.map .int)] (.str (textP ns)) := by
  refine Fn_at F.text.2.2 (ρ₀ := [("script", .list (ns.map .int))]) ?_ ?_
  · intro k s Us X R
    obtain ⟨U, rfl⟩ := rp1 R
    exact ⟨[("script", U)], fun _ _ _ _ _ _ _ => BindsTo.of_eq rfl, bindsLoc (names := ["script"]) (by decide) [U], binds_ok (names := ["script"]) (by decide) R⟩
  · intro C ok hcs
    refine Ex_cons (Ex1_assign ok (hcs ▸ rfl) Ev_str ?_)
    refine Ex_cons (Ex1_for ok (hcs ▸ rfl) (σ := List Nat) (fun i a => a = (((ns.drop 1).take 6).take i).flatMap pieceP) (fun a => [("text", .str a)]) (fun _ => none) [] (Ev_eq (Ev_lsl_ss ok (Ev_name' ok hcs rfl rfl) Ev_int Ev_int) (congrArg PV.list (slP_16 ns))) rfl ⟨rfl, trivial⟩ rfl ?_ (fun _ _ _ => rfl) ?_)
    · intro i a d ha hd
      subst ha
      rw [List.getElem?_map] at hd
      obtain ⟨x, hx, rfl⟩ := Option.map_eq_some_iff.mp hd
      have hlen : (((ns.drop 1).take 6).take i).length ≤ 6 := by simp; omega
      have hl := flatMap_len (((ns.drop 1).take 6).take i)
      have hstep : (((ns.drop 1).take 6).take (i + 1)).flatMap pieceP = (((ns.drop 1).take 6).take i).flatMap pieceP ++ pieceP x := by
        rw [List.take_add_one, hx]; simp
      have hp := pieceP_len x
      generalize (((ns.drop 1).take 6).take i).flatMap pieceP = a at *
      refine Ex_cons (Ex1_if (Tr_cmp ok (Ev_bin ok (Ev_name' ok hcs rfl rfl) Ev_int (op_mod_int (by decide))) Ev_int op_lt_int) ?_ ?_)
      · intro hc
        have hc := of_decide_eq_true hc
        have e : pieceP x = piecesL.getD (x.fmod 32).toNat [] := by unfold pieceP; rw [if_pos hc]
        refine Ex_cons (Ex1_aug ok rfl (hcs ▸ rfl) (Ev_tup_item (d := .str (pieceP x)) ok (Ev_gobj ok hcs F.pieces rfl) (Ev_bin ok (Ev_name' ok hcs rfl rfl) Ev_int (op_mod_int (by decide))) (fm_nonneg _ (by decide)) (by omega) ?_) (op_iadd_str (by omega)) ?_)
        · have := fm_nonneg x (n := 32) (by decide)
          have h16 : (x.fmod 32).toNat < piecesL.length := by show _ < 16; omega
          rw [e, List.getElem?_map, List.getElem?_eq_getElem h16, List.getD_eq_getElem?_getD, List.getElem?_eq_getElem h16]; rfl
        · exact Ex_nil (Ex_nil ⟨_, ⟨rfl, trivial⟩, rfl, hstep.symm⟩)
      · intro hc
        have hc := of_decide_eq_false hc
        refine Ex_cons (Ex1_if (Tr_cmp ok (Ev_bin ok (Ev_bin ok (Ev_name' ok hcs rfl rfl) Ev_int (op_div_int (by decide) ?_)) Ev_int (op_mod_int (by decide))) Ev_int op_eq_int) ?_ ?_)
        · exact PyProof.noPylong_small (by decide)
        · intro h13
          have h13 : (x.fdiv 32).fmod 256 = 13 := by simpa using h13
          have e : pieceP x = [10] := by unfold pieceP; rw [if_neg hc, if_pos h13]
          refine Ex_cons (Ex1_aug ok rfl (hcs ▸ rfl) Ev_str (op_iadd_str (by show _ + 1 ≤ _; omega)) ?_)
          exact Ex_nil (Ex_nil (Ex_nil ⟨_, ⟨rfl, trivial⟩, rfl, by rw [hstep, e]; rfl⟩))
        · intro h13
          have h13 : ¬ (x.fdiv 32).fmod 256 = 13 := by simpa using h13
          have e : pieceP x = [((x.fdiv 32).fmod 256).toNat] := by unfold pieceP; rw [if_neg hc, if_neg h13]
          have b0 := fm_nonneg (x.fdiv 32) (n := 256) (by decide)
          have b1 := fm_lt (x.fdiv 32) (n := 256) (by decide)
          refine Ex_cons (Ex1_aug ok rfl (hcs ▸ rfl) (Ev_pcall ok F.chr b_chr (hcs ▸ rfl) (EvL_cons (Ev_bin ok (Ev_bin ok (Ev_name' ok hcs rfl rfl) Ev_int (op_div_int (by decide) ?_)) Ev_int (op_mod_int (by decide))) EvL_nil) (pu_chr b0 (by omega))) (op_iadd_str (by show _ + 1 ≤ _; omega)) ?_)
          · exact PyProof.noPylong_small (by decide)
          · exact Ex_nil (Ex_nil (Ex_nil ⟨_, ⟨rfl, trivial⟩, rfl, by rw [hstep, e]⟩))
    · intro a ha
      have hln : ((ns.map PV.int).length) = ns.length := List.length_map ..
      have ea : a = ((ns.drop 1).take 6).flatMap pieceP := by
        rw [ha, List.length_map, List.take_of_length_le (Nat.le_refl _)]
      have hlen : ((ns.drop 1).take 6).length ≤ 6 := by simp; omega
      have hl := flatMap_len ((ns.drop 1).take 6)
      have et : textP ns = if a.all (· == 10) then a ++ lit "=33" else a := by rw [ea]; rfl
      rw [← ea] at hl
      clear ha ea
      obtain ⟨y, hy, hp⟩ := pu_strip_nl (G := G) (C := C) (x := a)
      refine Ex_cons (Ex1_if (Tr_cmp ok (Ev_smeth1 ok (Ev_name' ok hcs rfl rfl) Ev_str getM_strip _ rfl hp) Ev_str op_eq_str) ?_ ?_)
      · intro h
        have h : (y == []) = true := h
        rw [hy] at h
        rw [if_pos h] at et
        refine Ex_cons (Ex1_aug ok rfl (hcs ▸ rfl) Ev_str (op_iadd_str (by show _ + 3 ≤ _; omega)) ?_)
        refine Ex_nil (Ex_cons (Ex1_ret (v := .str (textP ns)) ?_ rfl))
        rw [et]
        exact Ev_name' ok hcs rfl rfl
      · intro h
        have h : (y == []) = false := h
        rw [hy] at h
        rw [if_neg (by rw [h]; decide)] at et
        refine Ex_nil (Ex_cons (Ex1_ret (v := .str (textP ns)) ?_ rfl))
        rw [et]
        exact Ev_name' ok hcs rfl rfl
end
end Mine
end

section
open PySem PySem.W PySem.Calls PyProof.Rows
set_option maxRecDepth 100000
set_option linter.unusedVariables false
set_option autoImplicit false
namespace Mine
section
variable {G : Run}

theorem linesA_wt : ∀ (x acc : List Nat), ((linesA acc x).map fun l => l.length + 1).sum ≤ acc.length + x.length + 1 := by
  intro x
  induction x with
  | nil => intro acc; unfold linesA; split <;> simp
  | cons c r ih =>
    intro acc
    unfold linesA
    split
    · have := ih []
      simp at this ⊢; omega
    · have := ih (acc ++ [c])
      simp at this ⊢; omega
theorem linesL_wt (x : List Nat) : ((linesL x).map fun l => l.length + 1).sum ≤ x.length + 1 := by
  have := linesA_wt x []
  simpa [linesL] using this
theorem rstripL_len (x : List Nat) : (rstripL x).length ≤ x.length := by
  unfold rstripL
  have := (List.dropWhile_suffix isSp (l := x.reverse)).length_le
  simpa using this

theorem scanL_len (line : List Nat) : ∀ (n i : Nat) (d : List Nat), line.length - i ≤ n → (scanL line i d).length ≤ d.length + (line.length - i) + 1 := by
  intro n
  induction n with
  | zero => intro i d h; unfold scanL; rw [dif_neg (by omega)]; omega
  | succ n ih =>
    intro i d h
    unfold scanL
    by_cases h1 : i < line.length
    · rw [dif_pos h1]
      have stop : ∀ d', scanL line line.length d' = d' := by intro d'; unfold scanL; rw [dif_neg (by omega)]
      split
      · split
        · rename_i e; rw [e, stop]; simp; omega
        · have := ih (i + 1) (d ++ [line.getD i 0]) (by omega); simp at this ⊢; omega
      · split
        · rename_i e; rw [e, stop]; omega
        · split
          · split
            · rename_i e; rw [e, stop]; simp; omega
            · have := ih (i + 3) (d ++ [16 * hv (line.getD (i + 1) 0) + hv (line.getD (i + 2) 0)]) (by omega); simp at this ⊢; omega
          · have := ih (i + 1) (d ++ [61]) (by omega); simp at this ⊢; omega
    · rw [dif_neg h1]; omega
theorem lineDec_len (d line : List Nat) : (lineDec d line).length ≤ d.length + (line.length + 1) := by
  unfold lineDec
  split
  · simp
  · have := scanL_len (rstripL line) _ 0 d (Nat.le_refl _)
    have := rstripL_len line
    omega
theorem foldDec_len : ∀ (ls : List (List Nat)) (d : List Nat), (ls.foldl lineDec d).length ≤ d.length + (ls.map fun l => l.length + 1).sum
  | [], d => by simp
  | l :: ls, d => by
    have := foldDec_len ls (lineDec d l)
    have := lineDec_len d l
    simp only [List.foldl_cons, List.map_cons, List.sum_cons]; omega
theorem sum_take (ls : List (List Nat)) (i : Nat) : ((ls.take i).map fun l => l.length + 1).sum ≤ (ls.map fun l => l.length + 1).sum := by
  conv => rhs; rw [← List.take_append_drop i ls]
  rw [List.map_append, List.sum_append]; omega
theorem mem_wt (ls : List (List Nat)) (l : List Nat) (h : l ∈ ls) : l.length + 1 ≤ (ls.map fun l => l.length + 1).sum := by
  induction ls with
  | nil => cases h
  | cons a r ih =>
    rcases List.mem_cons.mp h with rfl | h
    · simp
    · have := ih h; simp; omega

theorem at'_c (x : List Nat) (i : Int) (n : Nat) (h : i = n) : at' x i = x.getD n 0 := by subst h; exact at'_n x n

def dEnv (w line : List Nat) (a : Nat × List Nat) : PEnv := [("decoded", .str a.2), ("i", .int a.1), ("n", .int line.length), ("line", .str line), ("eol", .str [10]), ("encoded", .str w)]

theorem fn_decode (F : Facts G) {w : List Nat} (hb : Lb w) (hw : w.length ≤ 100000) : Fn G 65 1 [.str w] (.str (decodeP w)) := by
  obtain ⟨D, hD, o, t2, n, hl, hs⟩ := F.decode.2.2
  refine Fn_at hD (ρ₀ := [("encoded", .str w), ("eol", .str [10])]) ?_ ?_
  · intro k s Us X R
    obtain ⟨U, rfl⟩ := rp1 R
    refine ⟨[("encoded", U), ("eol", .str (T [10]) t2)], fun _ _ _ _ _ _ _ => binds_K X rfl hl hs rfl rfl, bindsLoc (names := ["encoded", "eol"]) (by decide) [U, .str (T [10]) t2], binds_ok (names := ["encoded", "eol"]) (Us := [U, .str (T [10]) t2]) (us := [.str w, .str [10]]) (by decide) ?_⟩
    cases R with | cons R1 R => exact .cons R1 (.cons (.str _ _ (by decide)) .nil)
  · intro C ok hcs
    refine Ex_cons (Ex1_if (Tr_not (Tr_str (Ev_name' ok hcs rfl rfl))) ?_ ?_)
    · intro h
      have h : w = [] := by simpa using h
      subst h
      exact Ex_cons (Ex1_ret (Ev_name' ok hcs rfl rfl) rfl)
    intro h
    have hne : w ≠ [] := by simpa using h
    refine Ex_nil (Ex_cons (Ex1_assign ok (hcs ▸ rfl) Ev_str ?_))
    have hwt := linesL_wt w
    refine Ex_cons (Ex1_for ok (hcs ▸ rfl) (σ := List Nat) (fun i a => a = ((linesL w).take i).foldl lineDec []) (fun a => [("decoded", .str a), ("eol", .str [10]), ("encoded", .str w)]) (fun _ => none) [] (Ev_splitlines ok (Ev_name' ok hcs rfl rfl) hb (by omega) _ rfl) rfl ⟨rfl, rfl, rfl, trivial⟩ rfl ?_ (fun _ _ _ => rfl) ?_)
    · intro i a d ha hd
      rw [List.getElem?_map] at hd
      obtain ⟨line, hx, rfl⟩ := Option.map_eq_some_iff.mp hd
      have hstep : ((linesL w).take (i + 1)).foldl lineDec [] = lineDec a line := by
        rw [List.take_add_one, hx, List.foldl_append, ← ha]; rfl
      have hal : a.length ≤ 100001 := by
        have h1 := foldDec_len ((linesL w).take i) []
        have h2 := sum_take (linesL w) i
        rw [← ha, List.length_nil, Nat.zero_add] at h1; omega
      have hll : line.length ≤ 100001 := by
        have := mem_wt _ _ (List.mem_of_getElem? hx); omega
      have hrl := rstripL_len line
      clear ha hx hd
      refine Ex_cons (Ex1_assign ok (hcs ▸ rfl) (Ev_smeth0 ok (Ev_name' ok hcs rfl rfl) getM_rstrip _ rfl pu_rstrip) ?_)
      refine Ex_cons (Ex1_if (Tr_not (Tr_str (Ev_name' ok hcs rfl rfl))) ?_ ?_)
      · intro h
        have h : rstripL line = [] := by simpa using h
        refine Ex_cons (Ex1_aug ok rfl (hcs ▸ rfl) (Ev_name' ok hcs rfl rfl) (op_iadd_str (by show _ + 1 ≤ _; omega)) ?_)
        refine Ex_cons (Ex1_cont ⟨a ++ [10], ⟨rfl, rfl, rfl, trivial⟩, rfl, ?_⟩)
        rw [hstep]; unfold lineDec; rw [if_pos h]
      · intro h
        have h : rstripL line ≠ [] := by simpa using h
        have hstep' : ((linesL w).take (i + 1)).foldl lineDec [] = scanL (rstripL line) 0 a := by
          rw [hstep]; unfold lineDec; rw [if_neg h]
        generalize rstripL line = ln at *
        refine Ex_nil (Ex_cons (Ex1_assign ok (hcs ▸ rfl) Ev_int (Ex_cons (Ex1_assign ok (hcs ▸ rfl) (Ev_pcall ok F.len b_len (hcs ▸ rfl) (EvL_cons (Ev_name' ok hcs rfl rfl) EvL_nil) pu_len) ?_))))
        refine Ex_cons (Ex1_while (σ := Nat × List Nat) (fun q => scanL ln q.1 q.2 = scanL ln 0 a ∧ q.2.length + (ln.length - q.1) ≤ a.length + ln.length + 1 ∧ (q.1 < ln.length → q.2.length + (ln.length - q.1) ≤ a.length + ln.length)) (dEnv w ln) (fun _ => none) (fun q => ln.length - q.1) (fun q => decide ((q.1 : Int) < ln.length)) (0, a)
          ⟨rfl, rfl, rfl, rfl, rfl, rfl, trivial⟩ rfl ⟨rfl, by dsimp only; omega, by dsimp only; omega⟩ ?_ ?_ ?_)
        · rintro ⟨j, d⟩ hI
          exact Tr_cmp ok (Ev_name' ok hcs rfl rfl) (Ev_name' ok hcs rfl rfl) op_lt_int
        · rintro ⟨j, d⟩ ⟨h1, h2, h3⟩ hc
          have hj : j < ln.length := by have := of_decide_eq_true hc; dsimp only at this; omega
          dsimp only at h1 h2 h3
          have h3 := h3 hj
          clear h2 hc
          have hitem : ∀ (e : Nat), e < ln.length → at' ln ((e : Nat) : Int) = ln.getD e 0 := fun e _ => at'_n ln e
          have hun : scanL ln j d = if ln.getD j 0 ≠ 61 then (if j + 1 = ln.length then scanL ln (j + 1) (d ++ [ln.getD j 0] ++ [10]) else scanL ln (j + 1) (d ++ [ln.getD j 0]))
              else if j + 1 = ln.length then scanL ln (j + 1) d
              else if j + 2 < ln.length ∧ isHex (ln.getD (j + 1) 0) = true ∧ isHex (ln.getD (j + 2) 0) = true then
                (if j + 3 = ln.length then scanL ln (j + 3) (d ++ [16 * hv (ln.getD (j + 1) 0) + hv (ln.getD (j + 2) 0)] ++ [10]) else scanL ln (j + 3) (d ++ [16 * hv (ln.getD (j + 1) 0) + hv (ln.getD (j + 2) 0)]))
              else scanL ln (j + 1) (d ++ [61]) := by
            conv => lhs; unfold scanL
            rw [dif_pos hj]
          refine Ex_cons (Ex1_assign (v := .str [ln.getD j 0]) ok (hcs ▸ rfl) (Ev_eq (Ev_item (Ev_name' ok hcs rfl rfl) (Ev_name' ok hcs rfl rfl) (by dsimp only; omega) (by dsimp only; omega)) (congrArg (fun z => PV.str [z]) (at'_n ln j))) ?_)
          refine Ex_cons (Ex1_if (Tr_cmp ok (Ev_name' ok hcs rfl rfl) Ev_str op_ne_str) ?_ ?_)
          · intro hc
            have hc : ln.getD j 0 ≠ 61 := by
              intro e; rw [e] at hc; exact absurd hc (by decide)
            refine Ex_cons (Ex1_aug ok rfl (hcs ▸ rfl) (Ev_name' ok hcs rfl rfl) (op_iadd_str (by simp; omega)) (Ex_cons (Ex1_aug ok rfl (hcs ▸ rfl) Ev_int op_iadd_int (Ex_nil ?_))))
            refine Ex_cons (Ex1_if (Tr_cmp ok (Ev_name' ok hcs rfl rfl) (Ev_name' ok hcs rfl rfl) op_eq_int) ?_ ?_)
            · intro hq
              have hq : j + 1 = ln.length := by have hq := beq_iff_eq.mp hq; omega
              refine Ex_cons (Ex1_aug ok rfl (hcs ▸ rfl) (Ev_name' ok hcs rfl rfl) (op_iadd_str (by simp; omega)) (Ex_nil (Ex_nil ⟨(j + 1, d ++ [ln.getD j 0] ++ [10]), ⟨rfl, rfl, rfl, rfl, rfl, rfl, trivial⟩, rfl, ⟨?_, ?_, ?_⟩, ?_⟩)))
              · dsimp only; rw [← h1]; rw [hun, if_pos hc]; first | rw [if_pos hq] | rw [if_neg hq]
              · simp; omega
              · intro hh; simp at hh; omega
              · dsimp only; omega
            · intro hq
              have hq : ¬ j + 1 = ln.length := by have hq := beq_eq_false_iff_ne.mp hq; omega
              refine Ex_nil (Ex_nil ⟨(j + 1, d ++ [ln.getD j 0]), ⟨rfl, rfl, rfl, rfl, rfl, rfl, trivial⟩, rfl, ⟨?_, ?_, ?_⟩, ?_⟩)
              · dsimp only; rw [← h1]; rw [hun, if_pos hc]; first | rw [if_pos hq] | rw [if_neg hq]
              · simp; omega
              · intro hh; simp; omega
              · dsimp only; omega
          intro hc
          have hc : ln.getD j 0 = 61 := by
            refine Decidable.byContradiction fun e => ?_
            have : ([ln.getD j 0] != lit "=") = true := by
              show ([ln.getD j 0] != [61]) = true
              simpa using e
            rw [this] at hc; cases hc
          rw [hc, if_neg (by decide)] at hun
          refine Ex_cons (Ex1_if (Tr_cmp ok (Ev_bin ok (Ev_name' ok hcs rfl rfl) Ev_int op_add_int) (Ev_name' ok hcs rfl rfl) op_eq_int) ?_ ?_)
          · intro hq
            have hq : j + 1 = ln.length := by have hq := beq_iff_eq.mp hq; omega
            rw [if_pos hq] at hun
            refine Ex_cons (Ex1_aug ok rfl (hcs ▸ rfl) Ev_int op_iadd_int (Ex_cons (Ex1_cont ⟨(j + 1, d), ⟨rfl, rfl, rfl, rfl, rfl, rfl, trivial⟩, rfl, ⟨?_, ?_, ?_⟩, ?_⟩)))
            · dsimp only; rw [← h1, hun]
            · dsimp only; omega
            · intro hh; dsimp only at hh ⊢; omega
            · dsimp only; omega
          intro hq
          have hq1 : ¬ j + 1 = ln.length := by have hq := beq_eq_false_iff_ne.mp hq; omega
          rw [if_neg hq1] at hun
          refine Ex_cons (Ex1_if (c := decide (j + 2 < ln.length ∧ isHex (ln.getD (j + 1) 0) = true ∧ isHex (ln.getD (j + 2) 0) = true)) ?_ ?_ ?_)
          · by_cases hlt : j + 2 < ln.length
            · refine Tr_eq (Tr_and (Tr_cmp ok (Ev_bin ok (Ev_name' ok hcs rfl rfl) Ev_int op_add_int) (Ev_name' ok hcs rfl rfl) op_lt_int) fun _ => Tr_and (Tr_cmp ok (Ev_eq (Ev_item (Ev_name' ok hcs rfl rfl) (Ev_bin ok (Ev_name' ok hcs rfl rfl) Ev_int op_add_int) (by dsimp only; omega) (by dsimp only; omega)) (congrArg (fun z => PV.str [z]) (at'_c ln _ (j + 1) rfl))) (Ev_gstr ok hcs F.hexdigits rfl) op_in_str) fun _ => Tr_and (Tr_cmp ok (Ev_eq (Ev_item (Ev_name' ok hcs rfl rfl) (Ev_bin ok (Ev_name' ok hcs rfl rfl) Ev_int op_add_int) (by dsimp only; omega) (by dsimp only; omega)) (congrArg (fun z => PV.str [z]) (at'_c ln _ (j + 2) rfl))) (Ev_gstr ok hcs F.hexdigits rfl) op_in_str) fun _ => Tr_and_nil) ?_
              have e1 : decide (((j, d).1 : Int) + 2 < (ln.length : Int)) = true := decide_eq_true (by dsimp only; omega)
              rw [e1]
              simp [hlt, isHex]
            · have e1 : decide (((j, d).1 : Int) + 2 < (ln.length : Int)) = false := decide_eq_false (by dsimp only; omega)
              refine Tr_eq (Tr_and (d := false) (Tr_cmp ok (Ev_bin ok (Ev_name' ok hcs rfl rfl) Ev_int op_add_int) (Ev_name' ok hcs rfl rfl) op_lt_int) fun h => ?_) ?_
              · rw [e1] at h; cases h
              · simp [hlt]
          · intro hq
            have hq2 := of_decide_eq_true hq
            rw [if_pos hq2] at hun
            have ha1 : ln.getD (j + 1) 0 ∈ hexL := by simpa [isHex] using hq2.2.1
            have ha2 : ln.getD (j + 2) 0 ∈ hexL := by simpa [isHex] using hq2.2.2
            have e3 : sl ln (some (j : Int)) (some ((j : Int) + 3)) = [61, ln.getD (j + 1) 0, ln.getD (j + 2) 0] := by
              rw [show (j : Int) + 3 = ((j + 3 : Nat) : Int) from rfl, sl_nn, ← hc]
              rw [List.drop_eq_getElem_cons (by omega), List.drop_eq_getElem_cons (show j + 1 < ln.length by omega), List.drop_eq_getElem_cons (show j + 1 + 1 < ln.length by omega)]
              have g : ∀ e (h : e < ln.length), ln[e] = ln.getD e 0 := fun e h => by rw [List.getD_eq_getElem?_getD, List.getElem?_eq_getElem h]; rfl
              rw [g, g, g, show j + 3 - j = 3 by omega]; rfl
            refine Ex_cons (Ex1_aug ok rfl (hcs ▸ rfl) (Ev_def ok (Nat.le_refl _) F.unquote.1 (hcs ▸ rfl) F.unquote.2.1 (fn_unquote F ha1 ha2) (EvL_cons (Ev_eq (Ev_sl_ss (Ev_name' ok hcs rfl rfl) (Ev_name' ok hcs rfl rfl) (Ev_bin ok (Ev_name' ok hcs rfl rfl) Ev_int op_add_int)) (congrArg PV.str e3)) EvL_nil)) (op_iadd_str (by simp; omega)) (Ex_cons (Ex1_aug ok rfl (hcs ▸ rfl) Ev_int op_iadd_int (Ex_nil (Ex_nil (Ex_nil ?_))))))
            refine Ex_cons (Ex1_if (Tr_cmp ok (Ev_name' ok hcs rfl rfl) (Ev_name' ok hcs rfl rfl) op_eq_int) ?_ ?_)
            · intro hq
              have hq : j + 3 = ln.length := by have hq := beq_iff_eq.mp hq; omega
              refine Ex_cons (Ex1_aug ok rfl (hcs ▸ rfl) (Ev_name' ok hcs rfl rfl) (op_iadd_str (by simp; omega)) (Ex_nil (Ex_nil ⟨(j + 3, d ++ [16 * hv (ln.getD (j + 1) 0) + hv (ln.getD (j + 2) 0)] ++ [10]), ⟨rfl, rfl, rfl, rfl, rfl, rfl, trivial⟩, rfl, ⟨?_, ?_, ?_⟩, ?_⟩)))
              · dsimp only; rw [← h1]; rw [hun]; first | rw [if_pos hq] | rw [if_neg hq]
              · simp; omega
              · intro hh; simp at hh; omega
              · dsimp only; omega
            · intro hq
              have hq : ¬ j + 3 = ln.length := by have hq := beq_eq_false_iff_ne.mp hq; omega
              refine Ex_nil (Ex_nil ⟨(j + 3, d ++ [16 * hv (ln.getD (j + 1) 0) + hv (ln.getD (j + 2) 0)]), ⟨rfl, rfl, rfl, rfl, rfl, rfl, trivial⟩, rfl, ⟨?_, ?_, ?_⟩, ?_⟩)
              · dsimp only; rw [← h1]; rw [hun]; first | rw [if_pos hq] | rw [if_neg hq]
              · simp; omega
              · intro hh; simp; omega
              · dsimp only; omega
          · intro hq
            have hq2 := of_decide_eq_false hq
            rw [if_neg hq2] at hun
            rw [hc]
            refine Ex_cons (Ex1_aug ok rfl (hcs ▸ rfl) (Ev_name' ok hcs rfl rfl) (op_iadd_str (by simp; omega)) (Ex_cons (Ex1_aug ok rfl (hcs ▸ rfl) Ev_int op_iadd_int (Ex_nil (Ex_nil (Ex_nil ?_))))))
            refine Ex_cons (Ex1_if (Tr_cmp ok (Ev_name' ok hcs rfl rfl) (Ev_name' ok hcs rfl rfl) op_eq_int) ?_ ?_)
            · intro hq
              have hq := beq_iff_eq.mp hq
              exact absurd hq (by dsimp only; omega)
            · intro hq
              refine Ex_nil (Ex_nil ⟨(j + 1, d ++ [61]), ⟨rfl, rfl, rfl, rfl, rfl, rfl, trivial⟩, rfl, ⟨?_, ?_, ?_⟩, ?_⟩)
              · dsimp only; rw [← h1, hun]
              · simp; omega
              · intro hh; simp; omega
              · dsimp only; omega
        · rintro ⟨j, d⟩ ⟨h1, h2, h3⟩ hc
          have hj : ¬ j < ln.length := by have := of_decide_eq_false hc; dsimp only at this; omega
          dsimp only at h1
          refine Ex_nil ⟨d, ⟨rfl, rfl, rfl, trivial⟩, rfl, ?_⟩
          rw [hstep', ← h1]; unfold scanL; rw [dif_neg hj]
    · intro a ha
      rw [List.length_map, List.take_of_length_le (Nat.le_refl _)] at ha
      have hl : a.length ≤ 100001 := by
        have := foldDec_len (linesL w) []
        rw [← ha, List.length_nil, Nat.zero_add] at this; omega
      have hP : decodeP w = if (w.getLastD 0 ≠ 13 ∧ w.getLastD 0 ≠ 10) ∧ a.getLast? = some 10 then a.dropLast else a := by
        unfold decodeP; rw [if_neg hne, ha]
      have hpos : 0 < w.length := List.length_pos_iff.mpr hne
      refine Ex_cons (Ex1_if (c := decide ((w.getLastD 0 ≠ 13 ∧ w.getLastD 0 ≠ 10) ∧ a.getLast? = some 10)) ?_ ?_ ?_)
      · refine Tr_eq (Tr_and (Tr_cmp ok (Ev_eq (Ev_item (Ev_name' ok hcs rfl rfl) (Ev_neg Ev_int) (by omega) (by omega)) (congrArg (fun z => PV.str [z]) (at'_m w hne))) Ev_str op_notIn_str) fun _ => Tr_and (Tr_bool (Ev_smeth1 ok (Ev_name' ok hcs rfl rfl) (Ev_name' ok hcs rfl rfl) getM_endswith _ rfl pu_endswith_nl)) fun _ => Tr_and_nil) ?_
        have e : (lit "\r\n").contains (w.getLastD 0) = decide (w.getLastD 0 = 13 ∨ w.getLastD 0 = 10) := by
          show [13, 10].contains _ = _
          simp
        rw [e, Bool.eq_iff_iff]
        simp
      · intro h
        have h := of_decide_eq_true h
        rw [if_pos h] at hP
        refine Ex_cons (Ex1_assign (v := .str (decodeP w)) ok (hcs ▸ rfl) (Ev_eq (Ev_sl_ns (Ev_name' ok hcs rfl rfl) (Ev_neg (Ev_pcall ok F.len b_len (hcs ▸ rfl) (EvL_cons (Ev_name' ok hcs rfl rfl) EvL_nil) pu_len))) ?_) (Ex_nil (Ex_cons (Ex1_ret (Ev_name' ok hcs rfl rfl) rfl))))
        rw [hP]
        exact congrArg PV.str (sl__m a)
      · intro h
        have h := of_decide_eq_false h
        rw [if_neg h] at hP
        rw [hP]
        exact Ex_nil (Ex_cons (Ex1_ret (Ev_name' ok hcs rfl rfl) rfl))
end
end Mine
end

section
open PySem PySem.W PySem.Calls PyProof.Rows
set_option maxRecDepth 100000
set_option linter.unusedVariables false
set_option autoImplicit false
namespace Mine
section
variable {G : Run}

theorem pu_translate {C : Act} {enc : Nat → List Nat} {x : List Nat} (hx : x ≠ []) (hlt : ∀ c ∈ x, c < 256) (hl : (x.flatMap enc).length ≤ 1048576) :
    Pu G C "str.translate" [.str x, .list ((List.range 256).map fun c => .str (enc c))] (.str (x.flatMap enc)) := fun k Us s Q hk R h => by
  cases R with | cons R1 R => cases R with | cons R2 R => cases R; cases R1 with | str _ t hl' => cases R2 with | list hm hq _ hr =>
  refine call_translate (enc := enc) (isList_of hk hm hq) hx hlt (fun c hc => ?_) hl (fun t' tk => h _ _ (.str _ _ hl))
  obtain ⟨v, h1, h2⟩ := hr.get (i := c) (d := .str (enc c)) (by simp [hc])
  cases h2 with | str _ t _ => exact ⟨t, h1⟩

def wt (ls : List (List Nat)) : Nat := (ls.map fun l => l.length + 1).sum
theorem wt_app (a b : List (List Nat)) : wt (a ++ b) = wt a + wt b := by simp [wt]
theorem wt_len (a : List (List Nat)) : a.length ≤ wt a := by
  induction a with
  | nil => simp [wt]
  | cons x r ih => simp [wt] at ih ⊢; omega
theorem wt_join : ∀ ls : List (List Nat), (joinL [10] ls).length ≤ wt ls
  | [] => by simp [joinL, wt]
  | [x] => by simp [joinL, wt]
  | x :: y :: r => by
    have := wt_join (y :: r)
    simp [joinL, wt] at this ⊢; omega
theorem wrapL_un (m : Nat) (line : List Nat) (s : Nat) (ls : List (List Nat)) : wrapL m line s ls = if s + 1 + (m + 4) ≤ line.length then wrapL m line (cutAt m line s) (ls ++ [(line.drop s).take (cutAt m line s - s) ++ [61]]) else (s, ls) := by
  conv => lhs; unfold wrapL
theorem cutAt_le (m : Nat) (line : List Nat) (s : Nat) : cutAt m line s ≤ s + m + 3 := by unfold cutAt; split <;> (try split) <;> omega

def bEnv (body : List Nat) (m : Nat) (l : Addr) : PEnv := [("append", .bmeth l), ("encoded_body", .bref l), ("maxlinelen1", .int ((m + 3 : Nat) : Int)), ("soft_break", .str [61, 10]), ("body", .str body), ("maxlinelen", .int ((m + 4 : Nat) : Int)), ("eol", .str [10])]

def lEnv (body : List Nat) (m : Nat) (l : Addr) (line : List Nat) (q : Nat × List (List Nat)) : PEnv := [("start", .int q.1), ("laststart", .int ((line.length : Int) - 1 - ((m + 4 : Nat) : Int))), ("line", .str line), ("append", .bmeth l), ("encoded_body", .bref l), ("maxlinelen1", .int ((m + 3 : Nat) : Int)), ("soft_break", .str [61, 10]), ("body", .str body), ("maxlinelen", .int ((m + 4 : Nat) : Int)), ("eol", .str [10])]
theorem drop_take_last (x : List Nat) (a k c : Nat) (h : x.getD (a + k) 0 = c) (hc : c ≠ 0) : (x.drop a).take (k + 1) = (x.drop a).take k ++ [c] := by
  rw [List.take_add_one, List.getElem?_drop]
  have : x[a + k]? = some c := by
    rw [List.getD_eq_getElem?_getD] at h
    cases hq : x[a + k]? with
    | none => rw [hq] at h; exact absurd h.symm hc
    | some y => rw [hq] at h; exact congrArg some h
  rw [this]; rfl
theorem blmap {l : Addr} {ls : List (List Nat)} {x : List Nat} : (some (l, (ls ++ [x]).map PV.str) : Bl) = some (l, ls.map .str ++ [.str x]) := by simp

theorem fn_encode (F : Facts G) {t : List Nat} {m : Nat} (hm : m ≤ 100) (hne : t ≠ []) (ht : ∀ c ∈ t, c < 256) (hb : Lb (t.flatMap encC)) (hw : (t.flatMap encC).length ≤ 1000) : Fn G 57 1 [.str t, .int ((m + 4 : Nat) : Int)] (.str (encodeP m t)) := by
  obtain ⟨D, hD, o, t1, t2, n, hl, hs⟩ := F.body_encode.2.2
  refine Fn_at hD (ρ₀ := [("body", .str t), ("maxlinelen", .int ((m + 4 : Nat) : Int)), ("eol", .str [10])]) ?_ ?_
  · intro k s Us X R
    obtain ⟨U, V, rfl⟩ := rp2 R
    refine ⟨[("body", U), ("maxlinelen", V), ("eol", .str (T [10]) t2)], fun _ _ _ _ _ _ _ => binds_K X rfl hl hs rfl rfl, bindsLoc (names := ["body", "maxlinelen", "eol"]) (by decide) [U, V, .str (T [10]) t2], binds_ok (names := ["body", "maxlinelen", "eol"]) (Us := [U, V, .str (T [10]) t2]) (us := [.str t, .int ((m + 4 : Nat) : Int), .str [10]]) (by decide) ?_⟩
    cases R with | cons R1 R => cases R with | cons R2 R => exact .cons R1 (.cons R2 (.cons (.str _ _ (by decide)) .nil))
  · intro C ok hcs
    refine Ex_cons (Ex1_if (Tr_cmp ok (Ev_name' ok hcs rfl rfl) Ev_int op_lt_int) ?_ ?_)
    · intro h
      have h := of_decide_eq_true h
      exact absurd h (by omega)
    intro _
    refine Ex_nil (Ex_cons (Ex1_if (Tr_not (Tr_str (Ev_name' ok hcs rfl rfl))) ?_ ?_))
    · intro h
      exact absurd (by simpa using h) hne
    intro _
    refine Ex_nil (Ex_cons (Ex1_assign ok (hcs ▸ rfl) (Ev_smeth1 ok (Ev_name' ok hcs rfl rfl) (Ev_gobj ok hcs F.emap rfl) getM_translate _ rfl (pu_translate hne ht (by omega))) ?_))
    have hbne : t.flatMap encC ≠ [] := by
      cases t with
      | nil => exact absurd rfl hne
      | cons a r => simp only [List.flatMap_cons, encC]; split <;> simp [quoteC]
    have hP : encodeP m t = joinL [10] (if (t.flatMap encC).getLastD 0 = 10 ∨ (t.flatMap encC).getLastD 0 = 13 then (linesL (t.flatMap encC)).foldl (lineStep m) [] ++ [[]] else (linesL (t.flatMap encC)).foldl (lineStep m) []) := rfl
    rw [hP]
    clear hP
    generalize t.flatMap encC = body at *
    refine Ex_cons (Ex1_assign (v := .str [61, 10]) ok (hcs ▸ rfl) (Ev_bin ok Ev_str (Ev_name' ok hcs rfl rfl) (op_add_str (by decide))) ?_)
    refine Ex_cons (Ex1_assign (v := .int ((m + 3 : Nat) : Int)) ok (hcs ▸ rfl) (Ev_eq (Ev_bin ok (Ev_name' ok hcs rfl rfl) Ev_int op_sub_int) (congrArg PV.int (by omega))) ?_)
    refine Ex_cons (Ex1_newb ok (hcs ▸ rfl) fun l => ?_)
    refine Ex_cons (Ex1_getapp ok rfl (hcs ▸ rfl) (hcs ▸ rfl) ?_)
    have hwt := linesL_wt body
    refine Ex_cons (Ex1_for ok (hcs ▸ rfl) (σ := List (List Nat)) (fun i a => a = ((linesL body).take i).foldl (lineStep m) [] ∧ wt a ≤ 9 * wt ((linesL body).take i)) (fun a => bEnv body m l) (fun a => some (l, a.map .str)) [] (Ev_splitlines ok (Ev_name' ok hcs rfl rfl) hb (by omega) _ rfl) ⟨rfl, by simp [wt]⟩ ⟨rfl, rfl, rfl, rfl, rfl, rfl, rfl, trivial⟩ rfl ?_ (fun _ _ _ => rfl) ?_)
    · rintro i a d ⟨ha, hwa⟩ hd
      rw [List.getElem?_map] at hd
      obtain ⟨line, hx, rfl⟩ := Option.map_eq_some_iff.mp hd
      have hstep : ((linesL body).take (i + 1)).foldl (lineStep m) [] = lineStep m a line := by
        rw [List.take_add_one, hx, List.foldl_append, ← ha]; rfl
      have hwt2 : wt ((linesL body).take (i + 1)) = wt ((linesL body).take i) + (line.length + 1) := by
        rw [List.take_add_one, hx, wt_app]; simp [wt]
      have hwt3 : wt ((linesL body).take (i + 1)) ≤ body.length + 1 := Nat.le_trans (sum_take _ _) hwt
      clear ha hx hd
      refine Ex_cons (Ex1_assign ok (hcs ▸ rfl) Ev_int ?_)
      refine Ex_cons (Ex1_assign (v := .int ((line.length : Int) - 1 - ((m + 4 : Nat) : Int))) ok (hcs ▸ rfl) (Ev_bin ok (Ev_bin ok (Ev_pcall ok F.len b_len (hcs ▸ rfl) (EvL_cons (Ev_name' ok hcs rfl rfl) EvL_nil) pu_len) Ev_int op_sub_int) (Ev_name' ok hcs rfl rfl) op_sub_int) ?_)
      refine Ex_cons (Ex1_while (σ := Nat × List (List Nat)) (fun q => wrapL m line q.1 q.2 = wrapL m line 0 a ∧ q.1 ≤ line.length ∧ wt q.2 ≤ wt a + 3 * q.1) (lEnv body m l line) (fun q => some (l, q.2.map .str)) (fun q => line.length - q.1) (fun q => decide ((q.1 : Int) ≤ (line.length : Int) - 1 - ((m + 4 : Nat) : Int))) (0, a)
          ⟨rfl, rfl, rfl, rfl, rfl, rfl, rfl, rfl, rfl, rfl, trivial⟩ rfl ⟨rfl, by dsimp only; omega, by dsimp only; omega⟩ ?_ ?_ ?_)
      · rintro ⟨j, q⟩ hI
        exact Tr_cmp ok (Ev_name' ok hcs rfl rfl) (Ev_name' ok hcs rfl rfl) op_le_int
      · rintro ⟨s, ls⟩ ⟨h1, h2, h3⟩ hc
        have hj : s + 1 + (m + 4) ≤ line.length := by have := of_decide_eq_true hc; dsimp only at this; omega
        dsimp only at h1 h2 h3
        clear hc
        have hlen : ls.length < 1048576 := by have := wt_len ls; omega
        rw [wrapL_un, if_pos hj] at h1
        have hcut := cutAt_lt m line s
        have hcut2 := cutAt_le m line s
        refine Ex_cons (Ex1_assign (v := .int ((s + m + 3 : Nat) : Int)) ok (hcs ▸ rfl) (Ev_eq (Ev_bin ok (Ev_name' ok hcs rfl rfl) (Ev_name' ok hcs rfl rfl) op_add_int) (congrArg PV.int (by dsimp only; omega))) ?_)
        refine Ex_cons (Ex1_if (c := decide (line.getD (s + m + 1) 0 = 61)) ?_ ?_ ?_)
        · refine Tr_eq (Tr_cmp ok (Ev_eq (Ev_item (Ev_name' ok hcs rfl rfl) (Ev_bin ok (Ev_name' ok hcs rfl rfl) Ev_int op_sub_int) (by omega) (by omega)) (congrArg (fun z => PV.str [z]) (at'_c line _ (s + m + 1) (by omega)))) Ev_str op_eq_str) ?_
          show ([line.getD (s + m + 1) 0] == [61]) = _
          rw [Bool.eq_iff_iff]; simp
        · intro hq
          have hq := of_decide_eq_true hq
          have ec : cutAt m line s = s + m + 1 := by unfold cutAt; rw [if_pos hq]
          rw [ec] at h1
          refine Ex_cons (Ex1_callapp (d := .str ((line.drop s).take (s + m + 1 - s) ++ [61])) ok rfl (hcs ▸ rfl) (Ev_eq (Ev_sl_ss (Ev_name' ok hcs rfl rfl) (Ev_name' ok hcs rfl rfl) (Ev_bin ok (Ev_name' ok hcs rfl rfl) Ev_int op_sub_int)) ?_) (by rw [List.length_map]; exact hlen) ?_)
          · have e1 : ((s + m + 3 : Nat) : Int) - 1 = ((s + (m + 1 + 1) : Nat) : Int) := by omega
            dsimp only
            rw [e1, sl_nn, show s + (m + 1 + 1) - s = m + 1 + 1 by omega, show s + m + 1 - s = m + 1 by omega, drop_take_last line s (m + 1) 61 hq (by decide)]
          · refine Ex_cons (Ex1_assign (v := .int ((s + m + 1 : Nat) : Int)) ok (hcs ▸ rfl) (Ev_eq (Ev_bin ok (Ev_name' ok hcs rfl rfl) Ev_int op_sub_int) (congrArg PV.int (by omega))) ?_)
            refine Ex_nil (Ex_nil ⟨(s + m + 1, ls ++ [(line.drop s).take (s + m + 1 - s) ++ [61]]), ⟨rfl, rfl, rfl, rfl, rfl, rfl, rfl, rfl, rfl, rfl, trivial⟩, blmap, ⟨h1, by dsimp only; omega, ?_⟩, by dsimp only; omega⟩)
            dsimp only
            rw [wt_app]
            have : wt [(line.drop s).take (s + m + 1 - s) ++ [61]] ≤ s + m + 1 - s + 2 := by simp [wt]; omega
            omega
        · intro hq
          have hq := of_decide_eq_false hq
          refine Ex_cons (Ex1_if (c := decide (line.getD (s + m + 2) 0 = 61)) ?_ ?_ ?_)
          · refine Tr_eq (Tr_cmp ok (Ev_eq (Ev_item (Ev_name' ok hcs rfl rfl) (Ev_bin ok (Ev_name' ok hcs rfl rfl) Ev_int op_sub_int) (by omega) (by omega)) (congrArg (fun z => PV.str [z]) (at'_c line _ (s + m + 2) (by omega)))) Ev_str op_eq_str) ?_
            show ([line.getD (s + m + 2) 0] == [61]) = _
            rw [Bool.eq_iff_iff]; simp
          · intro hq2
            have hq2 := of_decide_eq_true hq2
            have ec : cutAt m line s = s + m + 2 := by unfold cutAt; rw [if_neg hq, if_pos hq2]
            rw [ec] at h1
            refine Ex_cons (Ex1_callapp (d := .str ((line.drop s).take (s + m + 2 - s) ++ [61])) ok rfl (hcs ▸ rfl) (Ev_eq (Ev_sl_ss (Ev_name' ok hcs rfl rfl) (Ev_name' ok hcs rfl rfl) (Ev_name' ok hcs rfl rfl)) ?_) (by rw [List.length_map]; exact hlen) ?_)
            · dsimp only
              rw [sl_nn, show s + m + 3 - s = m + 2 + 1 by omega, show s + m + 2 - s = m + 2 by omega, drop_take_last line s (m + 2) 61 hq2 (by decide)]
            · refine Ex_cons (Ex1_assign (v := .int ((s + m + 2 : Nat) : Int)) ok (hcs ▸ rfl) (Ev_eq (Ev_bin ok (Ev_name' ok hcs rfl rfl) Ev_int op_sub_int) (congrArg PV.int (by omega))) (Ex_nil ?_))
              refine Ex_nil (Ex_nil ⟨(s + m + 2, ls ++ [(line.drop s).take (s + m + 2 - s) ++ [61]]), ⟨rfl, rfl, rfl, rfl, rfl, rfl, rfl, rfl, rfl, rfl, trivial⟩, blmap, ⟨h1, by dsimp only; omega, ?_⟩, by dsimp only; omega⟩)
              dsimp only
              rw [wt_app]
              have : wt [(line.drop s).take (s + m + 2 - s) ++ [61]] ≤ s + m + 2 - s + 2 := by simp [wt]; omega
              omega
          · intro hq2
            have hq2 := of_decide_eq_false hq2
            have ec : cutAt m line s = s + m + 3 := by unfold cutAt; rw [if_neg hq, if_neg hq2]
            rw [ec] at h1
            refine Ex_cons (Ex1_callapp (d := .str ((line.drop s).take (s + m + 3 - s) ++ [61])) ok rfl (hcs ▸ rfl) (Ev_bin ok (Ev_eq (Ev_sl_ss (Ev_name' ok hcs rfl rfl) (Ev_name' ok hcs rfl rfl) (Ev_name' ok hcs rfl rfl)) ?_) Ev_str (op_add_str ?_)) (by rw [List.length_map]; exact hlen) ?_)
            · exact congrArg PV.str (sl_nn line s (s + m + 3))
            · show _ + 1 ≤ _
              simp; omega
            · refine Ex_cons (Ex1_assign ok (hcs ▸ rfl) (Ev_name' ok hcs rfl rfl) (Ex_nil ?_))
              refine Ex_nil (Ex_nil ⟨(s + m + 3, ls ++ [(line.drop s).take (s + m + 3 - s) ++ [61]]), ⟨rfl, rfl, rfl, rfl, rfl, rfl, rfl, rfl, rfl, rfl, trivial⟩, blmap, ⟨h1, by dsimp only; omega, ?_⟩, by dsimp only; omega⟩)
              dsimp only
              rw [wt_app]
              have : wt [(line.drop s).take (s + m + 3 - s) ++ [61]] ≤ s + m + 3 - s + 2 := by simp [wt]; omega
              omega
      · rintro ⟨s, ls⟩ ⟨h1, h2, h3⟩ hc
        have hj : ¬ s + 1 + (m + 4) ≤ line.length := by have := of_decide_eq_false hc; dsimp only at this; omega
        dsimp only at h1 h2 h3
        clear hc
        have hlen : ls.length < 1048576 := by have := wt_len ls; omega
        rw [wrapL_un, if_neg hj] at h1
        have hnew : lineStep m a line = ls ++ [lastPiece m line s] := by unfold lineStep; rw [← h1]
        rw [hnew] at hstep
        have hwl : wt [lastPiece m line s] ≤ line.length - s + 6 := by
          unfold lastPiece
          split
          · simp only [wt, List.map_cons, List.map_nil, List.sum_cons, List.sum_nil, List.length_append, List.length_drop, List.length_take]
            split
            · simp [quoteC]; try omega
            · split
              · simp; try omega
              · simp [quoteC]; try omega
          · simp [wt]; try omega
        have hfin : ∃ a', SubE (bEnv body m l) (lEnv body m l line (s, ls)) ∧ (some (l, a'.map PV.str) : Bl) = some (l, ls.map .str ++ [.str (lastPiece m line s)]) ∧ (a' = ((linesL body).take (i + 1)).foldl (lineStep m) [] ∧ wt a' ≤ 9 * wt ((linesL body).take (i + 1))) :=
          ⟨ls ++ [lastPiece m line s], ⟨rfl, rfl, rfl, rfl, rfl, rfl, rfl, trivial⟩, blmap, hstep.symm, by rw [wt_app]; omega⟩
        by_cases hW : line ≠ [] ∧ isW (line.getLastD 0) = true
        · have hlp : lastPiece m line s = (line.take (line.length - 1)).drop s ++ (if line.length + 3 ≤ s + m + 5 then quoteC (line.getLastD 0) else if line.length + 2 = s + m + 5 then line.getLastD 0 :: [61, 10] else [61, 10] ++ quoteC (line.getLastD 0)) := by
            unfold lastPiece; rw [if_pos hW]
          have hpos : 0 < line.length := List.length_pos_iff.mpr hW.1
          have hc256 : line.getLastD 0 < 256 := by
            have := hW.2
            revert this
            generalize line.getLastD 0 = c
            intro this
            unfold isW at this; simp at this; omega
          refine Ex_cons (Ex1_if (c := true) ?_ ?_ (fun h => by cases h))
          · refine Tr_eq (Tr_and (Tr_str (Ev_name' ok hcs rfl rfl)) fun _ => Tr_and (Tr_cmp ok (Ev_eq (Ev_item (Ev_name' ok hcs rfl rfl) (Ev_neg Ev_int) (by omega) (by omega)) (congrArg (fun z => PV.str [z]) (at'_m line hW.1))) Ev_str op_in_str) fun _ => Tr_and_nil) ?_
            have e : (lit " \t").contains (line.getLastD 0) = true := by
              have := hW.2; unfold isW at this
              show [32, 9].contains _ = true
              simpa using this
            rw [e]; simpa using hW.1
          · intro _
            refine Ex_cons (Ex1_assign (v := .int ((s : Int) - ((line.length : Int) - 1 - ((m + 4 : Nat) : Int)))) ok (hcs ▸ rfl) (Ev_bin ok (Ev_name' ok hcs rfl rfl) (Ev_name' ok hcs rfl rfl) op_sub_int) ?_)
            have hlast : (line.take (line.length - 1)).drop s = sl line (some (s : Int)) (some (-1)) := (sl_nm line s).symm
            have hsl : (sl line (some (s : Int)) (some (-1))).length ≤ 1000 := by have := sl_len line (some (s : Int)) (some (-1)); omega
            refine Ex_cons (Ex1_if (c := decide (line.length + 3 ≤ s + m + 5)) ?_ ?_ ?_)
            · refine Tr_eq (Tr_cmp ok (Ev_name' ok hcs rfl rfl) Ev_int op_ge_int) ?_
              rw [Bool.eq_iff_iff]; simp; omega
            · intro h3'
              have h3' := of_decide_eq_true h3'
              rw [if_pos h3'] at hlp
              refine Ex_cons (Ex1_assign (v := .str (quoteC (line.getLastD 0))) ok (hcs ▸ rfl) (Ev_def ok (Nat.le_refl _) F.quote.1 (hcs ▸ rfl) F.quote.2.1 (fn_quote F hc256) (EvL_cons (Ev_eq (Ev_item (Ev_name' ok hcs rfl rfl) (Ev_neg Ev_int) (by omega) (by omega)) (congrArg (fun z => PV.str [z]) (at'_m line hW.1))) EvL_nil)) (Ex_nil ?_))
              refine Ex_cons (Ex1_callapp (d := .str (lastPiece m line s)) ok rfl (hcs ▸ rfl) (Ev_eq (Ev_bin ok (Ev_sl_ss (Ev_name' ok hcs rfl rfl) (Ev_name' ok hcs rfl rfl) (Ev_neg Ev_int)) (Ev_name' ok hcs rfl rfl) (op_add_str (by show _ + 3 ≤ _; dsimp only; omega))) (congrArg PV.str (by rw [hlp, hlast]))) (by rw [List.length_map]; exact hlen) (Ex_nil (Ex_nil hfin)))
            · intro h3'
              have h3' := of_decide_eq_false h3'
              rw [if_neg h3'] at hlp
              refine Ex_cons (Ex1_if (c := decide (line.length + 2 = s + m + 5)) ?_ ?_ ?_)
              · refine Tr_eq (Tr_cmp ok (Ev_name' ok hcs rfl rfl) Ev_int op_eq_int) ?_
                rw [Bool.eq_iff_iff]; simp; omega
              · intro h4'
                have h4' := of_decide_eq_true h4'
                rw [if_pos h4'] at hlp
                refine Ex_cons (Ex1_assign (v := .str (line.getLastD 0 :: [61, 10])) ok (hcs ▸ rfl) (Ev_bin ok (Ev_eq (Ev_item (Ev_name' ok hcs rfl rfl) (Ev_neg Ev_int) (by omega) (by omega)) (congrArg (fun z => PV.str [z]) (at'_m line hW.1))) (Ev_name' ok hcs rfl rfl) (op_add_str (by simp))) (Ex_nil (Ex_nil ?_)))
                refine Ex_cons (Ex1_callapp (d := .str (lastPiece m line s)) ok rfl (hcs ▸ rfl) (Ev_eq (Ev_bin ok (Ev_sl_ss (Ev_name' ok hcs rfl rfl) (Ev_name' ok hcs rfl rfl) (Ev_neg Ev_int)) (Ev_name' ok hcs rfl rfl) (op_add_str (by show _ + 3 ≤ _; dsimp only; omega))) (congrArg PV.str (by rw [hlp, hlast]))) (by rw [List.length_map]; exact hlen) (Ex_nil (Ex_nil hfin)))
              · intro h4'
                have h4' := of_decide_eq_false h4'
                rw [if_neg h4'] at hlp
                refine Ex_cons (Ex1_assign (v := .str ([61, 10] ++ quoteC (line.getLastD 0))) ok (hcs ▸ rfl) (Ev_bin ok (Ev_name' ok hcs rfl rfl) (Ev_def ok (Nat.le_refl _) F.quote.1 (hcs ▸ rfl) F.quote.2.1 (fn_quote F hc256) (EvL_cons (Ev_eq (Ev_item (Ev_name' ok hcs rfl rfl) (Ev_neg Ev_int) (by omega) (by omega)) (congrArg (fun z => PV.str [z]) (at'_m line hW.1))) EvL_nil)) (op_add_str (by simp [quoteC]))) (Ex_nil (Ex_nil ?_)))
                refine Ex_cons (Ex1_callapp (d := .str (lastPiece m line s)) ok rfl (hcs ▸ rfl) (Ev_eq (Ev_bin ok (Ev_sl_ss (Ev_name' ok hcs rfl rfl) (Ev_name' ok hcs rfl rfl) (Ev_neg Ev_int)) (Ev_name' ok hcs rfl rfl) (op_add_str (by show _ + 5 ≤ _; dsimp only; omega))) (congrArg PV.str (by rw [hlp, hlast]))) (by rw [List.length_map]; exact hlen) (Ex_nil (Ex_nil hfin)))
        · have hlp : lastPiece m line s = line.drop s := by unfold lastPiece; rw [if_neg hW]
          refine Ex_cons (Ex1_if (c := false) ?_ (fun h => by cases h) ?_)
          · by_cases hl0 : line = []
            · subst hl0
              exact Tr_eq (Tr_and (d := false) (Tr_str (Ev_name' ok hcs rfl rfl)) fun h => by cases h) rfl
            · have hpos : 0 < line.length := List.length_pos_iff.mpr hl0
              refine Tr_eq (Tr_and (Tr_str (Ev_name' ok hcs rfl rfl)) fun _ => Tr_and (Tr_cmp ok (Ev_eq (Ev_item (Ev_name' ok hcs rfl rfl) (Ev_neg Ev_int) (by omega) (by omega)) (congrArg (fun z => PV.str [z]) (at'_m line hl0))) Ev_str op_in_str) fun _ => Tr_and_nil) ?_
              have e : (lit " \t").contains (line.getLastD 0) = false := by
                have : ¬ isW (line.getLastD 0) = true := fun h => hW ⟨hl0, h⟩
                unfold isW at this
                show [32, 9].contains _ = false
                simpa using this
              rw [e]; simp
          · intro _
            exact Ex_cons (Ex1_callapp (d := .str (lastPiece m line s)) ok rfl (hcs ▸ rfl) (Ev_eq (Ev_sl_sn (Ev_name' ok hcs rfl rfl) (Ev_name' ok hcs rfl rfl)) (congrArg PV.str (by rw [hlp]; exact sl_n_ line s))) (by rw [List.length_map]; exact hlen) (Ex_nil (Ex_nil hfin)))
    · rintro a ⟨ha, hwa⟩
      rw [List.length_map, List.take_of_length_le (Nat.le_refl _)] at ha hwa
      rw [← ha]
      have hwa : wt a ≤ 9 * (body.length + 1) := Nat.le_trans hwa (Nat.mul_le_mul_left 9 hwt)
      have hla := wt_len a
      have hpos : 0 < body.length := List.length_pos_iff.mpr hbne
      refine Ex_cons (Ex1_if (c := decide (body.getLastD 0 = 10 ∨ body.getLastD 0 = 13)) ?_ ?_ ?_)
      · refine Tr_eq (Tr_cmp ok (Ev_eq (Ev_item (Ev_name' ok hcs rfl rfl) (Ev_neg Ev_int) (by omega) (by omega)) (congrArg (fun z => PV.str [z]) (at'_m body hbne))) (Ev_gstr ok hcs F.CRLF rfl) op_in_str) ?_
        rw [Bool.eq_iff_iff]; simp [or_comm]
      · intro h
        rw [if_pos (of_decide_eq_true h)]
        refine Ex_cons (Ex1_callapp ok rfl (hcs ▸ rfl) Ev_str (by rw [List.length_map]; omega) (Ex_nil ?_))
        have e : (some (l, a.map PV.str ++ [.str (lit "")]) : Bl) = some (l, (a ++ [[]]).map .str) := blmap.symm
        rw [e]
        have hj := wt_join (a ++ [[]])
        rw [wt_app] at hj
        have hw1 : wt [[]] = 1 := rfl
        exact Ex_cons (Ex1_ret' (Ev_join_b ok (Ev_name' ok hcs rfl rfl) rfl (hcs ▸ rfl) (by decide) (by simp; omega) (by omega) _ rfl) rfl)
      · intro h
        rw [if_neg (of_decide_eq_false h)]
        have hj := wt_join a
        exact Ex_nil (Ex_cons (Ex1_ret' (Ev_join_b ok (Ev_name' ok hcs rfl rfl) rfl (hcs ▸ rfl) (by decide) (by omega) (by omega) _ rfl) rfl))
end
end Mine
end

section
open PySem PySem.W PySem.Calls PyProof.Rows
set_option maxRecDepth 100000
set_option linter.unusedVariables false
set_option autoImplicit false
namespace Mine
section
variable {G : Run}

def cEnv (w : List Nat) (l : Addr) (q : List Tk × List Tk) : PEnv := [("place", .int (spell q.1).length), ("cells", .bref l), ("written", .str w)]

theorem cellPV_snoc {l : Addr} {a : List Tk} {t : Tk} {p : Nat} (h : p = (spell a).length) : (some (l, (cellsOf 0 (a ++ [t])).map cellPV) : Bl) = some (l, (cellsOf 0 a).map cellPV ++ [.tup [.int p, .int (p + t.sp.length : Nat), .str t.val]]) := by
  rw [cellsOf_app, List.map_append, Nat.zero_add, ← h]; rfl

theorem fn_cells (F : Facts G) {ts : List Tk} (hok : ∀ t ∈ ts, t.ok) (hw : (spell ts).length ≤ 100000) : Fn G 88 1 [.str (spell ts)] (.list ((cellsOf 0 ts).map cellPV)) := by
  refine Fn_at F.cells.2.2 (ρ₀ := [("written", .str (spell ts))]) ?_ ?_
  · intro k s Us X R
    obtain ⟨U, rfl⟩ := rp1 R
    exact ⟨[("written", U)], fun _ _ _ _ _ _ _ => BindsTo.of_eq rfl, bindsLoc (names := ["written"]) (by decide) [U], binds_ok (names := ["written"]) (by decide) R⟩
  · intro C ok hcs
    refine Ex_cons (Ex1_newb ok (hcs ▸ rfl) fun l => ?_)
    refine Ex_cons (Ex1_assign ok (hcs ▸ rfl) Ev_int ?_)
    refine Ex_cons (Ex1_while (σ := List Tk × List Tk) (fun q => ts = q.1 ++ q.2) (cEnv (spell ts) l) (fun q => some (l, (cellsOf 0 q.1).map cellPV)) (fun q => q.2.length) (fun q => decide (((spell q.1).length : Int) < (spell ts).length)) ([], ts)
      ⟨rfl, rfl, rfl, trivial⟩ rfl rfl ?_ ?_ ?_)
    · intro q hI
      exact Tr_cmp ok (Ev_name' ok hcs rfl rfl) (Ev_pcall ok F.len b_len (hcs ▸ rfl) (EvL_cons (Ev_name' ok hcs rfl rfl) EvL_nil) pu_len) op_lt_int
    · rintro ⟨dn, rest⟩ hI hc
      dsimp only at hI hc ⊢
      have hc := of_decide_eq_true hc
      have hsp : spell ts = spell dn ++ spell rest := by rw [hI, spell_app]
      cases rest with
      | nil => rw [hsp] at hc; simp [spell_nil] at hc
      | cons t r =>
        have htok : t.ok := hok t (by rw [hI]; simp)
        rw [spell_cons] at hsp
        have hlen : ((cellsOf 0 dn).map cellPV).length < 1048576 := by
          rw [List.length_map, cellsOf_len]
          have := len_spell dn
          rw [hsp] at hw; simp at hw; omega
        have hmu : r.length < (t :: r).length := by simp
        have hI2 : ts = (dn ++ [t]) ++ r := by rw [hI]; simp
        have hspn : (spell (dn ++ [t])).length = (spell dn).length + t.sp.length := by rw [spell_app, spell_cons, spell_nil]; simp
        have hplt : (spell dn).length < (spell ts).length := by omega
        have hg : ∀ k, (spell ts).getD ((spell dn).length + k) 0 = (t.sp ++ spell r).getD k 0 := fun k => by rw [hsp]; exact getD_at _ _ _ _ rfl
        have hd : ∀ k, (spell ts).drop ((spell dn).length + k) = (t.sp ++ spell r).drop k := fun k => by rw [hsp]; exact drop_at _ _ _ _ rfl
        have h0 := hg 0
        have hd1 := hd 1
        rw [Nat.add_zero] at h0
        have hsn := cellPV_snoc (l := l) (a := dn) (t := t) rfl
        have hput : ∀ ρ', SubE (cEnv (spell ts) l (dn ++ [t], r)) ρ' → ∃ a' : List Tk × List Tk, SubE (cEnv (spell ts) l a') ρ' ∧ (some (l, (cellsOf 0 a'.1).map cellPV) : Bl) = some (l, (cellsOf 0 dn).map cellPV ++ [.tup [.int (spell dn).length, .int ((spell dn).length + t.sp.length : Nat), .str t.val]]) ∧ ts = a'.1 ++ a'.2 ∧ a'.2.length < (t :: r).length :=
          fun ρ' hρ => ⟨(dn ++ [t], r), hρ, hsn, hI2, hmu⟩
        have hpl : ∀ n : Nat, t.sp.length = n → ∀ ρ' : PEnv, ρ'.lookup ("cells" : PySem.Str) = some (.bref l) → ρ'.lookup ("written" : PySem.Str) = some (.str (spell ts)) → ρ'.lookup ("place" : PySem.Str) = some (.int ((spell dn).length + n : Nat)) → SubE (cEnv (spell ts) l (dn ++ [t], r)) ρ' := by
          intro n hn ρ' e1 e2 e3
          refine ⟨?_, e1, e2, trivial⟩
          rw [e3, ← hn, ← hspn]
        clear hI hI2 hspn hsn
        refine Ex_cons (Ex1_if (c := decide ((spell ts).getD (spell dn).length 0 ≠ 61)) ?_ ?_ ?_)
        · refine Tr_eq (Tr_cmp ok (Ev_eq (Ev_item (Ev_name' ok hcs rfl rfl) (Ev_name' ok hcs rfl rfl) (by omega) (by omega)) (congrArg (fun z => PV.str [z]) (at'_n _ _))) Ev_str op_ne_str) ?_
          show ([(spell ts).getD (spell dn).length 0] != [61]) = _
          rw [Bool.eq_iff_iff]; simp
        · intro h
          have h := of_decide_eq_true h
          cases t with
          | lit c =>
            have h0 : (spell ts).getD (spell dn).length 0 = c := h0
            refine Ex_cons (Ex1_methapp (d := .tup [.int (spell dn).length, .int ((spell dn).length + 1 : Nat), .str [c]]) ok rfl (hcs ▸ rfl) (Ev_tuple (EvL_cons (Ev_name' ok hcs rfl rfl) (EvL_cons (Ev_bin ok (Ev_name' ok hcs rfl rfl) Ev_int op_add_int) (EvL_cons (Ev_eq (Ev_item (Ev_name' ok hcs rfl rfl) (Ev_name' ok hcs rfl rfl) (by omega) (by omega)) (congrArg (fun z => PV.str [z]) ((at'_n _ _).trans h0))) EvL_nil)))) hlen ?_ _ rfl)
            exact Ex_cons (Ex1_aug ok rfl (hcs ▸ rfl) Ev_int op_iadd_int (Ex_nil (Ex_nil (hput _ (hpl 1 rfl _ rfl rfl rfl)))))
          | esc c => exact absurd h0 h
          | soft => exact absurd h0 h
        · intro h
          have h := of_decide_eq_false h
          refine Ex_cons (Ex1_if (c := decide (((spell ts).drop ((spell dn).length + 1)).take 1 = [10])) ?_ ?_ ?_)
          · refine Tr_eq (Tr_cmp ok (Ev_eq (Ev_sl_ss (Ev_name' ok hcs rfl rfl) (Ev_bin ok (Ev_name' ok hcs rfl rfl) Ev_int op_add_int) (Ev_bin ok (Ev_name' ok hcs rfl rfl) Ev_int op_add_int)) (congrArg PV.str (?_ : _ = ((spell ts).drop ((spell dn).length + 1)).take 1))) Ev_str op_eq_str) ?_
            · have := sl_nn (spell ts) ((spell dn).length + 1) ((spell dn).length + 2)
              rw [show (spell dn).length + 2 - ((spell dn).length + 1) = 1 by omega] at this
              exact this
            · show (_ == [10]) = _
              rw [Bool.eq_iff_iff]; simp
          · intro h2
            have h2 := of_decide_eq_true h2
            cases t with
            | lit c => exact absurd htok.1 (fun hh => h (by rw [h0]; exact hh))
            | esc c =>
              rw [hd1] at h2
              have : hexU (c / 16) = 10 := by simpa [Tk.sp, quoteC] using h2
              have hm := (hexU_mem (c / 16) (by have := htok.1; omega)).1
              rw [this] at hm
              exact absurd hm (by decide)
            | soft =>
              refine Ex_cons (Ex1_methapp (d := .tup [.int (spell dn).length, .int ((spell dn).length + 2 : Nat), .str []]) ok rfl (hcs ▸ rfl) (Ev_tuple (EvL_cons (Ev_name' ok hcs rfl rfl) (EvL_cons (Ev_bin ok (Ev_name' ok hcs rfl rfl) Ev_int op_add_int) (EvL_cons Ev_str EvL_nil)))) hlen ?_ _ rfl)
              exact Ex_cons (Ex1_aug ok rfl (hcs ▸ rfl) Ev_int op_iadd_int (Ex_nil (Ex_nil (Ex_nil (hput _ (hpl 2 rfl _ rfl rfl rfl))))))
          · intro h2
            have h2 := of_decide_eq_false h2
            cases t with
            | lit c => exact absurd htok.1 (fun hh => h (by rw [h0]; exact hh))
            | soft => exact absurd (by rw [hd1]; rfl) h2
            | esc c =>
              have hc256 := htok.1
              have e3 : sl (spell ts) (some ((spell dn).length + 1 : Int)) (some ((spell dn).length + 3 : Int)) = [hexU (c / 16), hexU (c % 16)] := by
                have := sl_nn (spell ts) ((spell dn).length + 1) ((spell dn).length + 3)
                rw [show (spell dn).length + 3 - ((spell dn).length + 1) = 2 by omega, hd1] at this
                exact this
              refine Ex_cons (Ex1_methapp (d := .tup [.int (spell dn).length, .int ((spell dn).length + 3 : Nat), .str [c]]) ok rfl (hcs ▸ rfl) (Ev_tuple (EvL_cons (Ev_name' ok hcs rfl rfl) (EvL_cons (Ev_bin ok (Ev_name' ok hcs rfl rfl) Ev_int op_add_int) (EvL_cons (Ev_eq (Ev_def ok (Nat.le_refl _) F.octet.1 (hcs ▸ rfl) F.octet.2.1 (fn_octet F (hexU_mem (c / 16) (by omega)).1 (hexU_mem (c % 16) (by omega)).1) (EvL_cons (Ev_eq (Ev_sl_ss (Ev_name' ok hcs rfl rfl) (Ev_bin ok (Ev_name' ok hcs rfl rfl) Ev_int op_add_int) (Ev_bin ok (Ev_name' ok hcs rfl rfl) Ev_int op_add_int)) (congrArg PV.str e3)) EvL_nil)) (congrArg (fun z => PV.str [z]) (octet_ok hc256))) EvL_nil)))) hlen ?_ _ rfl)
              exact Ex_cons (Ex1_aug ok rfl (hcs ▸ rfl) Ev_int op_iadd_int (Ex_nil (Ex_nil (Ex_nil (hput _ (hpl 3 rfl _ rfl rfl rfl))))))
    · rintro ⟨dn, rest⟩ hI hc
      dsimp only at hI hc ⊢
      have hc := of_decide_eq_false hc
      have hr : rest = [] := by
        cases rest with
        | nil => rfl
        | cons t r =>
          have := sp_pos t
          rw [hI, spell_app, spell_cons] at hc
          simp at hc; omega
      rw [hr, List.append_nil] at hI
      rw [hI]
      exact Ex_cons (Ex1_retb ok rfl (hcs ▸ rfl) rfl)
end
end Mine
end

section
open PySem PySem.W PySem.Calls PyProof.Rows
set_option maxRecDepth 100000
set_option linter.unusedVariables false
set_option autoImplicit false
set_option maxHeartbeats 8000000
namespace Mine
section
variable {G : Run}

def posn (ts : List Tk) (n : Nat) : Nat := (spell (ts.take n)).length
theorem cell_at {ts : List Tk} {n : Nat} (h : n < ts.length) : (cellsOf 0 ts)[n]? = some (posn ts n, posn ts (n + 1), ts[n].val) := by
  have e : ts = ts.take n ++ ts[n] :: ts.drop (n + 1) := by rw [List.getElem_cons_drop, List.take_append_drop]
  have e2 : cellsOf 0 ts = cellsOf 0 (ts.take n) ++ cellsOf (0 + (spell (ts.take n)).length) (ts[n] :: ts.drop (n + 1)) := by rw [← cellsOf_app, ← e]
  have hl : (cellsOf 0 (ts.take n)).length = n := by rw [cellsOf_len, List.length_take]; omega
  have e3 : posn ts (n + 1) = posn ts n + ts[n].sp.length := by
    unfold posn
    rw [List.take_add_one, List.getElem?_eq_getElem h, spell_app, List.length_append]
    simp [spell]
  rw [e2, List.getElem?_append_right (by omega), hl, Nat.sub_self, cellsOf, e3]
  simp [posn]

theorem joinL_nil : ∀ ls : List (List Nat), joinL [] ls = ls.flatten
  | [] => rfl
  | [x] => by simp [joinL]
  | x :: y :: r => by
    have := joinL_nil (y :: r)
    simp [joinL] at this ⊢; exact this
theorem third_cells (cs : List Cell) : Third (cs.map cellPV) (cs.map fun c => c.2.2) := by
  refine ⟨by simp, fun i d l h1 h2 => ?_⟩
  rw [List.getElem?_map] at h1 h2
  obtain ⟨c, hc, rfl⟩ := Option.map_eq_some_iff.mp h1
  rw [hc] at h2
  cases h2
  exact ⟨_, _, [], rfl⟩

def fig (x : List Nat) : Bool := x != [] && hexs.contains (x.getD 0 0)
def aft (w : List Nat) (p : Nat) : List Nat := (w.drop (p + 1)).take 1
def fur (w : List Nat) (p : Nat) : List Nat := (w.drop (p + 2)).take 1
def flipW (w : List Nat) (p s : Nat) : List Nat := w.take p ++ [s] ++ w.drop (p + 1)
def escP (ts : List Tk) (o p : Nat) : Bool := (((posn ts (o + 1) : Nat) : Int) - ((posn ts o : Nat) : Int) == 3) && decide (((posn ts o : Nat) : Int) < (p : Int))
def silentP (w : List Nat) (esc : Bool) (p s : Nat) : Bool :=
  if (esc && ((sl w (some ((p : Int) - 2)) (some ((p : Int) + 1)) == [61, 51, 68]) && (([s] : List Nat) == [61]))) = true then
    ((aft w p == [51]) && ((fur w p != []) && (lit "0123456789").contains ((fur w p).getD 0 0)))
  else (esc && (([lowC s] : List Nat) == [lowC (w.getD p 0)]))

/-- what the law's flip asks, said without the program -/
structure FlipF (text : List Nat) (ts : List Tk) (p s o la ke : Nat) : Prop where
  ho : o < ts.length
  hp0 : posn ts o ≤ p
  hp1 : p < posn ts (o + 1)
  hla : la < ts.length + 1
  hs : s < 128
  hold : (spell ts).getD p 0 < 128
  hlk1 : s ≠ 61 → la = o ∧ ke = (valu (ts.take o)).length
  hlk2 : s = 61 → fig (aft (spell ts) p) = true → fig (fur (spell ts) p) = true → o ≤ la ∧ la < ts.length ∧ p + 2 < posn ts (la + 1) ∧ (∀ n, o ≤ n → n < la → posn ts (n + 1) ≤ p + 2) ∧ ke = (valu (ts.take o)).length
  hlk3 : s = 61 → ¬ (fig (aft (spell ts) p) = true ∧ fig (fur (spell ts) p) = true) → aft (spell ts) p = [10] → la = o + 1 ∧ ke = (valu (ts.take o)).length
  hlk4 : s = 61 → ¬ (fig (aft (spell ts) p) = true ∧ fig (fur (spell ts) p) = true) → ¬ aft (spell ts) p = [10] → (aft (spell ts) p = [] ∧ posn ts (o + 1) = posn ts o + 1 ∧ (text.take (valu (ts.take o)).length).getLast? = some 10) → la = o ∧ ke + 1 = (valu (ts.take o)).length
  hlk5 : s = 61 → ¬ (fig (aft (spell ts) p) = true ∧ fig (fur (spell ts) p) = true) → ¬ aft (spell ts) p = [10] → ¬ (aft (spell ts) p = [] ∧ posn ts (o + 1) = posn ts o + 1 ∧ (text.take (valu (ts.take o)).length).getLast? = some 10) → la = o ∧ ke = (valu (ts.take o)).length
  hb : Lb (flipW (spell ts) p s)
  hw : (spell ts).length ≤ 10000
  htext : text.length ≤ 10000
  told1 : (decodeP (flipW (spell ts) p s)).take ke = text.take ke
  told2 : (decodeP (flipW (spell ts) p s)).drop ((decodeP (flipW (spell ts) p s)).length - (valu (ts.drop (la + 1))).length) = valu (ts.drop (la + 1))
  told3 : (decodeP (flipW (spell ts) p s)).length ≤ ke + (valu (ts.drop (la + 1))).length + 3
  told4 : ke + (valu (ts.drop (la + 1))).length ≤ (decodeP (flipW (spell ts) p s)).length
  sil : ((decodeP (flipW (spell ts) p s) == text) == silentP (spell ts) (escP ts o p) p s) = true

theorem posn_mono (ts : List Tk) {n m : Nat} (h : n ≤ m) : posn ts n ≤ posn ts m := by
  unfold posn
  have : ts.take n = (ts.take m).take n := by rw [List.take_take, Nat.min_eq_left h]
  rw [this]
  conv => rhs; rw [← List.take_append_drop n (ts.take m), spell_app, List.length_append]
  omega
theorem posn_le (ts : List Tk) (n : Nat) : posn ts n ≤ (spell ts).length := by
  unfold posn
  conv => rhs; rw [← List.take_append_drop n ts, spell_app, List.length_append]
  omega
theorem valu_len (ts : List Tk) : (valu ts).length ≤ ts.length := by
  induction ts with
  | nil => simp [valu]
  | cons t r ih => rw [valu_cons, List.length_append, List.length_cons]; cases t <;> simp [Tk.val] <;> omega
theorem Ex1_join {C : Act} {ρ : PEnv} {b : Bl} {Φ : Out → Prop} {st : Stmt} {rest : List Stmt} (ρ' : PEnv) (b' : Bl) (h : Ex1 G C ρ b st (fun o => ∃ ρ₁, o = .next ρ₁ b' ∧ SubE ρ' ρ₁)) (hr : Ex G C ρ' b' rest Φ) : Ex1 G C ρ b st (Then G C rest Φ) :=
  Ex1_mono h (by rintro o ⟨ρ₁, rfl, hs⟩; exact Ex_weak hs hr)
theorem cells_join {a b : List Tk} {p : Nat} : joinL [] ((cellsOf p a).map fun c => c.2.2) = valu a := by
  rw [joinL_nil, cellsOf_val]; simp [valu, List.flatMap]
theorem cells_take (ts : List Tk) (o : Nat) : ((cellsOf 0 ts).take o).map (fun c : Cell => c.2.2) = ((cellsOf 0 (ts.take o))).map (fun c => c.2.2) := by
  rw [List.map_take, cellsOf_val, cellsOf_val, List.map_take]
theorem cells_drop (ts : List Tk) (o : Nat) : ((cellsOf 0 ts).drop o).map (fun c : Cell => c.2.2) = ((cellsOf 0 (ts.drop o))).map (fun c => c.2.2) := by
  rw [List.map_drop, cellsOf_val, cellsOf_val, List.map_drop]

def fEnv1 (text : List Nat) (ts : List Tk) (p s : Nat) (n : Nat) : PEnv := [("owner", .int n), ("old", .str [(spell ts).getD p 0]), ("text", .str text), ("written", .str (spell ts)), ("cells", .list ((cellsOf 0 ts).map cellPV)), ("place", .int p), ("sign", .str [s])]
def fEnv2 (text : List Nat) (ts : List Tk) (p s o n : Nat) : PEnv := ([("last", .int n), ("after", .str (aft (spell ts) p)), ("further", .str (fur (spell ts) p)), ("keep", .int (valu (ts.take o)).length)] : PEnv) ++ fEnv1 text ts p s o
def fEnv3 (text : List Nat) (ts : List Tk) (p s o la ke : Nat) : PEnv := ([("last", .int la), ("keep", .int ke), ("after", .str (aft (spell ts) p)), ("further", .str (fur (spell ts) p))] : PEnv) ++ fEnv1 text ts p s o

theorem op_isub_int {C : Act} {i j : Int} : Op2 G C (inplaceOp .Sub) (.int i) (.int j) (.int (i - j)) := fun k U V s Q _ R1 R2 h => by
  cases R1; cases R2; exact PyProof.Rows.isub_int (h _ _ (.int _ _))
theorem last_drop (x : List Nat) : x.drop (x.length - 1) = [10] ↔ x.getLast? = some 10 := by
  rcases List.eq_nil_or_concat x with rfl | ⟨y, c, rfl⟩
  · simp
  · simp
theorem aft_le (w : List Nat) (p : Nat) : (aft w p).length ≤ 1 := by unfold aft; simp; omega
theorem fur_le (w : List Nat) (p : Nat) : (fur w p).length ≤ 1 := by unfold fur; simp; omega

theorem fn_flip (F : Facts G) {text : List Nat} {ts : List Tk} {p s o la ke : Nat} (H : FlipF text ts p s o la ke) : Fn G 100 2 [.str text, .str (spell ts), .list ((cellsOf 0 ts).map cellPV), .int p, .str [s]] (.bool true) := by
  refine Fn_at F.flip.2.2 (ρ₀ := [("text", .str text), ("written", .str (spell ts)), ("cells", .list ((cellsOf 0 ts).map cellPV)), ("place", .int p), ("sign", .str [s])]) ?_ ?_
  · intro k st Us X R
    obtain ⟨A1, A2, A3, A4, A5, rfl⟩ := rp5 R
    exact ⟨[("text", A1), ("written", A2), ("cells", A3), ("place", A4), ("sign", A5)], fun _ _ _ _ _ _ _ => BindsTo.of_eq rfl, bindsLoc (names := ["text", "written", "cells", "place", "sign"]) (by decide) [A1, A2, A3, A4, A5], binds_ok (names := ["text", "written", "cells", "place", "sign"]) (by decide) R⟩
  · intro C ok hcs
    have hplt : p < (spell ts).length := Nat.lt_of_lt_of_le H.hp1 (posn_le ts _)
    have hW := H.hw
    have htl := len_spell ts
    have ho := H.ho
    have cellPV_at : ∀ n, (h : n < ts.length) → ((cellsOf 0 ts).map cellPV)[((n : Int)).toNat]? = some (cellPV (posn ts n, posn ts (n + 1), ts[n].val)) := fun n h => by
      rw [List.getElem?_map, Int.toNat_natCast, cell_at h]; rfl
    have hcl : (cellsOf 0 ts).length = ts.length := cellsOf_len ts 0
    refine Ex_cons (Ex1_assign (v := .str [(spell ts).getD p 0]) ok (hcs ▸ rfl) (Ev_eq (Ev_item (Ev_name' ok hcs rfl rfl) (Ev_name' ok hcs rfl rfl) (by omega) (by omega)) (congrArg (fun z => PV.str [z]) (at'_n _ _))) ?_)
    refine Ex_cons (Ex1_assign ok (hcs ▸ rfl) Ev_int ?_)
    refine Ex_cons (Ex1_while (σ := Nat) (fun n => n ≤ o) (fEnv1 text ts p s) (fun _ => none) (fun n => o - n) (fun n => decide (((posn ts (n + 1) : Nat) : Int) ≤ (p : Int))) 0 ⟨rfl, rfl, rfl, rfl, rfl, rfl, rfl, trivial⟩ rfl (Nat.zero_le _) ?_ ?_ ?_)
    · intro n hn
      exact Tr_cmp ok (Ev_tup_item ok (Ev_list_item (i := (n : Int)) ok (Ev_name' ok hcs rfl rfl) (Ev_name' ok hcs rfl rfl) (by omega) (by omega) (cellPV_at n (by omega))) Ev_int (by decide) (by decide) rfl) (Ev_name' ok hcs rfl rfl) op_le_int
    · intro n hn hc
      have hc := of_decide_eq_true hc
      have h1 := H.hp1
      have hlt : n < o := by
        refine Nat.lt_of_le_of_ne hn fun e => ?_
        subst e; omega
      exact Ex_cons (Ex1_aug ok rfl (hcs ▸ rfl) Ev_int op_iadd_int (Ex_nil ⟨n + 1, ⟨rfl, rfl, rfl, rfl, rfl, rfl, rfl, trivial⟩, rfl, hlt, by omega⟩))
    intro n hn hc
    have hc := of_decide_eq_false hc
    have hno : n = o := by
      refine Decidable.byContradiction fun e => ?_
      have h1 := posn_mono ts (show n + 1 ≤ o by omega)
      have h2 := H.hp0
      omega
    subst hno
    refine Ex_cons (Ex1_assign ok (hcs ▸ rfl) (Ev_name' ok hcs rfl rfl) ?_)
    have hvl : (valu (ts.take n)).length ≤ 10000 := by have := valu_len (ts.take n); simp at this; omega
    have e1 : joinL (lit "") (((cellsOf 0 ts).take n).map fun c : Cell => c.2.2) = valu (ts.take n) := by rw [cells_take]; exact cells_join (b := [])
    refine Ex_cons (Ex1_assign (v := .int (valu (ts.take n)).length) ok (hcs ▸ rfl) (Ev_pcall ok F.len b_len (hcs ▸ rfl) (EvL_cons (Ev_eq (Ev_smeth1 ok Ev_str (Ev_comp2 (ls := ((cellsOf 0 ts).take n).map fun c => c.2.2) ok (Ev_eq (Ev_lsl_ns ok (Ev_name' ok hcs rfl rfl) (Ev_name' ok hcs rfl rfl)) (w := .list (((cellsOf 0 ts).take n).map cellPV)) ?_) (third_cells ((cellsOf 0 ts).take n)) (by kernel_rfl) (by decide +kernel) (by kernel_rfl) (by decide +kernel) (by kernel_rfl)) getM_join _ rfl (pu_join (by decide) (by simp [cellsOf_len]; omega) ?_)) (w := .str (valu (ts.take n))) (congrArg PV.str e1)) EvL_nil) pu_len) ?_)
    · exact congrArg PV.list ((slP__n _ _).trans (List.map_take ..).symm)
    · rw [e1]; omega
    refine Ex_cons (Ex1_assign (v := .str (aft (spell ts) p)) ok (hcs ▸ rfl) (Ev_eq (Ev_sl_ss (Ev_name' ok hcs rfl rfl) (Ev_bin ok (Ev_name' ok hcs rfl rfl) Ev_int op_add_int) (Ev_bin ok (Ev_name' ok hcs rfl rfl) Ev_int op_add_int)) (congrArg PV.str ?_)) ?_)
    · have := sl_nn (spell ts) (p + 1) (p + 2)
      rw [show p + 2 - (p + 1) = 1 by omega] at this
      exact this
    refine Ex_cons (Ex1_assign (v := .str (fur (spell ts) p)) ok (hcs ▸ rfl) (Ev_eq (Ev_sl_ss (Ev_name' ok hcs rfl rfl) (Ev_bin ok (Ev_name' ok hcs rfl rfl) Ev_int op_add_int) (Ev_bin ok (Ev_name' ok hcs rfl rfl) Ev_int op_add_int)) (congrArg PV.str ?_)) ?_)
    · have := sl_nn (spell ts) (p + 2) (p + 3)
      rw [show p + 3 - (p + 2) = 1 by omega] at this
      exact this
    refine Ex_cons (Ex1_join (fEnv3 text ts p s n la ke) none ?_ ?_)
    · refine Ex1_if (Tr_cmp ok (Ev_name' ok hcs rfl rfl) Ev_str op_eq_str) ?_ ?_
      · intro hs
        have hs : s = 61 := by
          have hs : ([s] == [61]) = true := hs
          simpa using hs
        refine Ex_cons (Ex1_if (c := decide (fig (aft (spell ts) p) = true ∧ fig (fur (spell ts) p) = true)) ?_ ?_ ?_)
        · refine Tr_eq (Tr_and (Tr_bool (Ev_def ok (by decide) F.figure.1 (hcs ▸ rfl) F.figure.2.1 (fn_figure F (aft_le _ _)) (EvL_cons (Ev_name' ok hcs rfl rfl) EvL_nil))) fun _ => Tr_and (Tr_bool (Ev_def ok (by decide) F.figure.1 (hcs ▸ rfl) F.figure.2.1 (fn_figure F (fur_le _ _)) (EvL_cons (Ev_name' ok hcs rfl rfl) EvL_nil))) fun _ => Tr_and_nil) ?_
          show (fig (aft (spell ts) p) && (fig (fur (spell ts) p) && true)) = _
          rw [Bool.eq_iff_iff]; simp
        · intro hf
          have hf := of_decide_eq_true hf
          obtain ⟨k1, k2, k3, k4, k5⟩ := H.hlk2 hs hf.1 hf.2
          refine Ex_cons (Ex1_while (σ := Nat) (fun q => n ≤ q ∧ q ≤ la) (fEnv2 text ts p s n) (fun _ => none) (fun q => la - q) (fun q => decide (((posn ts (q + 1) : Nat) : Int) ≤ (p : Int) + 2)) n ⟨rfl, rfl, rfl, rfl, rfl, rfl, rfl, rfl, rfl, rfl, rfl, trivial⟩ rfl ⟨Nat.le_refl _, k1⟩ ?_ ?_ ?_)
          · intro q hq
            exact Tr_cmp ok (Ev_tup_item ok (Ev_list_item (i := (q : Int)) ok (Ev_name' ok hcs rfl rfl) (Ev_name' ok hcs rfl rfl) (by omega) (by omega) (cellPV_at q (by omega))) Ev_int (by decide) (by decide) rfl) (Ev_bin ok (Ev_name' ok hcs rfl rfl) Ev_int op_add_int) op_le_int
          · intro q hq hc
            have hc := of_decide_eq_true hc
            have hlt : q < la := by
              refine Nat.lt_of_le_of_ne hq.2 fun e => ?_
              subst e; omega
            exact Ex_cons (Ex1_aug ok rfl (hcs ▸ rfl) Ev_int op_iadd_int (Ex_nil ⟨q + 1, ⟨rfl, rfl, rfl, rfl, rfl, rfl, rfl, rfl, rfl, rfl, rfl, trivial⟩, rfl, ⟨by omega, hlt⟩, by omega⟩))
          · intro q hq hc
            have hc := of_decide_eq_false hc
            have e : q = la := by
              refine Decidable.byContradiction fun e => ?_
              have := k4 q hq.1 (by omega)
              omega
            subst e
            subst k5
            exact Ex_nil (Ex_nil ⟨_, rfl, ⟨rfl, rfl, rfl, rfl, rfl, rfl, rfl, rfl, rfl, rfl, rfl, trivial⟩⟩)
        · intro hf
          have hf := of_decide_eq_false hf
          refine Ex_cons (Ex1_if (Tr_cmp ok (Ev_name' ok hcs rfl rfl) Ev_str op_eq_str) ?_ ?_)
          · intro ha
            have ha : aft (spell ts) p = [10] := beq_iff_eq.mp ha
            obtain ⟨k1, k2⟩ := H.hlk3 hs hf ha
            subst k1
            subst k2
            exact Ex_cons (Ex1_aug ok rfl (hcs ▸ rfl) Ev_int op_iadd_int (Ex_nil (Ex_nil (Ex_nil ⟨_, rfl, ⟨rfl, rfl, rfl, rfl, rfl, rfl, rfl, rfl, rfl, rfl, rfl, trivial⟩⟩))))
          · intro ha
            have ha : ¬ aft (spell ts) p = [10] := by
              have ha : (aft (spell ts) p == [10]) = false := ha
              simpa using ha
            refine Ex_cons (Ex1_if (c := decide (aft (spell ts) p = [] ∧ posn ts (n + 1) = posn ts n + 1 ∧ (text.take (valu (ts.take n)).length).getLast? = some 10)) ?_ ?_ ?_)
            · refine Tr_eq (Tr_and (Tr_cmp ok (Ev_name' ok hcs rfl rfl) Ev_str op_eq_str) fun _ => Tr_and (Tr_cmp ok (Ev_bin ok (Ev_tup_item ok (Ev_list_item (i := (n : Int)) ok (Ev_name' ok hcs rfl rfl) (Ev_name' ok hcs rfl rfl) (by omega) (by omega) (cellPV_at n (by omega))) Ev_int (by decide) (by decide) rfl) (Ev_tup_item ok (Ev_list_item (i := (n : Int)) ok (Ev_name' ok hcs rfl rfl) (Ev_name' ok hcs rfl rfl) (by omega) (by omega) (cellPV_at n (by omega))) Ev_int (by decide) (by decide) rfl) op_sub_int) Ev_int op_eq_int) fun _ => Tr_and (Tr_cmp ok (Ev_sl_sn (Ev_sl_ns (Ev_name' ok hcs rfl rfl) (Ev_name' ok hcs rfl rfl)) (Ev_neg Ev_int)) Ev_str op_eq_str) fun _ => Tr_and_nil) ?_
              rw [sl__n, sl_m_]
              show ((aft (spell ts) p == []) && ((((posn ts (n + 1) : Nat) : Int) - ((posn ts n : Nat) : Int) == 1) && (((text.take (valu (ts.take n)).length).drop ((text.take (valu (ts.take n)).length).length - 1) == [10]) && true))) = _
              rw [Bool.eq_iff_iff]
              simp only [Bool.and_eq_true, beq_iff_eq, decide_eq_true_eq, last_drop, and_true]
              constructor
              · rintro ⟨a1, a2, a3⟩; exact ⟨a1, by omega, a3⟩
              · rintro ⟨a1, a2, a3⟩; exact ⟨a1, by omega, a3⟩
            · intro hq
              obtain ⟨k1, k2⟩ := H.hlk4 hs hf ha (of_decide_eq_true hq)
              subst k1
              have e : ((valu (ts.take la)).length : Int) - 1 = (ke : Int) := by omega
              exact Ex_cons (Ex1_aug ok rfl (hcs ▸ rfl) Ev_int op_isub_int (Ex_nil (Ex_nil (Ex_nil (Ex_nil ⟨_, rfl, ⟨rfl, congrArg (fun z => some (PV.int z)) e, rfl, rfl, rfl, rfl, rfl, rfl, rfl, rfl, rfl, trivial⟩⟩)))))
            · intro hq
              obtain ⟨k1, k2⟩ := H.hlk5 hs hf ha (of_decide_eq_false hq)
              subst k1
              subst k2
              exact Ex_nil (Ex_nil (Ex_nil (Ex_nil ⟨_, rfl, ⟨rfl, rfl, rfl, rfl, rfl, rfl, rfl, rfl, rfl, rfl, rfl, trivial⟩⟩)))
      · intro hs
        have hs : s ≠ 61 := by
          have hs : ([s] == [61]) = false := hs
          simpa using hs
        obtain ⟨k1, k2⟩ := H.hlk1 hs
        subst k1
        subst k2
        exact Ex_nil ⟨_, rfl, ⟨rfl, rfl, rfl, rfl, rfl, rfl, rfl, rfl, rfl, rfl, rfl, trivial⟩⟩
    · have hrl : (valu (ts.drop (la + 1))).length ≤ 10000 := by have := valu_len (ts.drop (la + 1)); simp at this; omega
      have e2 : joinL (lit "") (((cellsOf 0 ts).drop (la + 1)).map fun c : Cell => c.2.2) = valu (ts.drop (la + 1)) := by rw [cells_drop]; exact cells_join (b := [])
      have hwl : (flipW (spell ts) p s).length ≤ 10000 := by unfold flipW; simp; omega
      have hdl : (flipW (spell ts) p s).length = (spell ts).length := by unfold flipW; simp; omega
      have t1 := H.told1
      have t2 := H.told2
      have t3 := H.told3
      have t4 := H.told4
      have t5 := H.sil
      refine Ex_cons (Ex1_assign (v := .str (valu (ts.drop (la + 1)))) ok (hcs ▸ rfl) (Ev_eq (Ev_smeth1 ok Ev_str (Ev_comp2 (ls := ((cellsOf 0 ts).drop (la + 1)).map fun c => c.2.2) ok (Ev_eq (Ev_lsl_sn ok (Ev_name' ok hcs rfl rfl) (Ev_bin ok (Ev_name' ok hcs rfl rfl) Ev_int op_add_int)) (w := .list (((cellsOf 0 ts).drop (la + 1)).map cellPV)) ?_) (third_cells ((cellsOf 0 ts).drop (la + 1))) (by kernel_rfl) (by decide +kernel) (by kernel_rfl) (by decide +kernel) (by kernel_rfl)) getM_join _ rfl (pu_join (by decide) (by simp [cellsOf_len]; omega) ?_)) (w := .str (valu (ts.drop (la + 1)))) (congrArg PV.str e2)) ?_)
      · exact congrArg PV.list ((slP_n_ _ (la + 1)).trans (List.map_drop ..).symm)
      · rw [e2]; omega
      refine Ex_cons (Ex1_assign (v := .str (decodeP (flipW (spell ts) p s))) ok (hcs ▸ rfl) (Ev_def ok (by decide) F.decode.1 (hcs ▸ rfl) F.decode.2.1 (fn_decode F H.hb (by omega)) (EvL_cons (Ev_eq (Ev_bin ok (Ev_bin ok (Ev_sl_ns (Ev_name' ok hcs rfl rfl) (Ev_name' ok hcs rfl rfl)) (Ev_name' ok hcs rfl rfl) (op_add_str ?_)) (Ev_sl_sn (Ev_name' ok hcs rfl rfl) (Ev_bin ok (Ev_name' ok hcs rfl rfl) Ev_int op_add_int)) (op_add_str ?_)) (congrArg PV.str ?_)) EvL_nil)) ?_)
      · have := sl_len (spell ts) none (some (p : Int))
        show _ + 1 ≤ _; omega
      · have := sl_len (spell ts) none (some (p : Int))
        have := sl_len (spell ts) (some ((p : Int) + 1)) none
        simp only [List.length_append, List.length_singleton]; omega
      · unfold flipW
        rw [sl__n, show (p : Int) + 1 = ((p + 1 : Nat) : Int) from rfl, sl_n_]
      generalize decodeP (flipW (spell ts) p s) = D at *
      refine Ex_cons (Ex1_if (c := false) (Tr_eq (Tr_or (Tr_cmp ok (Ev_sl_ns (Ev_name' ok hcs rfl rfl) (Ev_name' ok hcs rfl rfl)) (Ev_sl_ns (Ev_name' ok hcs rfl rfl) (Ev_name' ok hcs rfl rfl)) op_ne_str) fun _ => Tr_or (Tr_cmp ok (Ev_sl_sn (Ev_name' ok hcs rfl rfl) (Ev_bin ok (Ev_pcall ok F.len b_len (hcs ▸ rfl) (EvL_cons (Ev_name' ok hcs rfl rfl) EvL_nil) pu_len) (Ev_pcall ok F.len b_len (hcs ▸ rfl) (EvL_cons (Ev_name' ok hcs rfl rfl) EvL_nil) pu_len) op_sub_int)) (Ev_name' ok hcs rfl rfl) op_ne_str) fun _ => Tr_or_nil) ?_) (fun h => by cases h) fun _ => Ex_nil ?_)
      · rw [show (D.length : Int) - ((valu (ts.drop (la + 1))).length : Int) = ((D.length - (valu (ts.drop (la + 1))).length : Nat) : Int) by omega, sl__n, sl__n, sl_n_, t1, t2]
        simp
      refine Ex_cons (Ex1_if (c := false) (Tr_eq (Tr_or (Tr_cmp ok (Ev_bin ok (Ev_bin ok (Ev_pcall ok F.len b_len (hcs ▸ rfl) (EvL_cons (Ev_name' ok hcs rfl rfl) EvL_nil) pu_len) (Ev_name' ok hcs rfl rfl) op_sub_int) (Ev_pcall ok F.len b_len (hcs ▸ rfl) (EvL_cons (Ev_name' ok hcs rfl rfl) EvL_nil) pu_len) op_sub_int) Ev_int op_gt_int) fun _ => Tr_or (Tr_cmp ok (Ev_pcall ok F.len b_len (hcs ▸ rfl) (EvL_cons (Ev_name' ok hcs rfl rfl) EvL_nil) pu_len) (Ev_bin ok (Ev_name' ok hcs rfl rfl) (Ev_pcall ok F.len b_len (hcs ▸ rfl) (EvL_cons (Ev_name' ok hcs rfl rfl) EvL_nil) pu_len) op_add_int) op_lt_int) fun _ => Tr_or_nil) ?_) (fun h => by cases h) fun _ => Ex_nil ?_)
      · rw [Bool.eq_false_iff]
        simp
        omega
      refine Ex_cons (Ex1_assign (v := .bool (escP ts n p)) ok (hcs ▸ rfl) (Ev_and (Ev_cmp ok (Ev_bin ok (Ev_tup_item ok (Ev_list_item (i := (n : Int)) ok (Ev_name' ok hcs rfl rfl) (Ev_name' ok hcs rfl rfl) (by omega) (by omega) (cellPV_at n (by omega))) Ev_int (by decide) (by decide) rfl) (Ev_tup_item ok (Ev_list_item (i := (n : Int)) ok (Ev_name' ok hcs rfl rfl) (Ev_name' ok hcs rfl rfl) (by omega) (by omega) (cellPV_at n (by omega))) Ev_int (by decide) (by decide) rfl) op_sub_int) Ev_int op_eq_int) fun _ => Ev_bool1 (Ev_cmp ok (Ev_name' ok hcs rfl rfl) (Ev_tup_item ok (Ev_list_item (i := (n : Int)) ok (Ev_name' ok hcs rfl rfl) (Ev_name' ok hcs rfl rfl) (by omega) (by omega) (cellPV_at n (by omega))) Ev_int (by decide) (by decide) rfl) op_gt_int)) ?_)
      refine Ex_cons (Ex1_assign (v := .bool (escP ts n p && (([lowC s] : List Nat) == [lowC ((spell ts).getD p 0)]))) ok (hcs ▸ rfl) (Ev_and (Ev_name' ok hcs rfl rfl) fun _ => Ev_bool1 (Ev_cmp ok (Ev_smeth0 ok (Ev_name' ok hcs rfl rfl) getM_lower _ rfl (pu_lower H.hs)) (Ev_smeth0 ok (Ev_name' ok hcs rfl rfl) getM_lower _ rfl (pu_lower H.hold)) op_eq_str)) ?_)
      refine Ex_cons (Ex1_if (c := escP ts n p && ((sl (spell ts) (some ((p : Int) - 2)) (some ((p : Int) + 1)) == [61, 51, 68]) && (([s] : List Nat) == [61]))) (Tr_eq (Tr_and (Tr_bool (Ev_name' ok hcs rfl rfl)) fun _ => Tr_and (Tr_cmp ok (Ev_sl_ss (Ev_name' ok hcs rfl rfl) (Ev_bin ok (Ev_name' ok hcs rfl rfl) Ev_int op_sub_int) (Ev_bin ok (Ev_name' ok hcs rfl rfl) Ev_int op_add_int)) Ev_str op_eq_str) fun _ => Tr_and (Tr_cmp ok (Ev_name' ok hcs rfl rfl) Ev_str op_eq_str) fun _ => Tr_and_nil) ?_) ?_ ?_)
      · show (escP ts n p && ((sl (spell ts) (some ((p : Int) - 2)) (some ((p : Int) + 1)) == [61, 51, 68]) && (([s] == [61]) && true))) = _
        rw [Bool.and_true]
      · intro hq
        have hsil : silentP (spell ts) (escP ts n p) p s = ((aft (spell ts) p == [51]) && ((fur (spell ts) p != []) && (lit "0123456789").contains ((fur (spell ts) p).getD 0 0))) := by
          unfold silentP; rw [if_pos hq]
        refine Ex_cons (Ex1_assign (v := .bool (silentP (spell ts) (escP ts n p) p s)) ok (hcs ▸ rfl) ?_ ?_)
        · rw [hsil]
          refine Ev_and (Ev_cmp ok (Ev_name' ok hcs rfl rfl) Ev_str op_eq_str) fun _ => Ev_and (Ev_cmp ok (Ev_name' ok hcs rfl rfl) Ev_str op_ne_str) fun h => ?_
          have hfl := fur_le (spell ts) p
          generalize hB : fur (spell ts) p = B at *
          obtain ⟨c, rfl⟩ : ∃ c, B = [c] := by
            match B, hfl with
            | [], _ => simp at h
            | [c], _ => exact ⟨c, rfl⟩
          exact Ev_bool1 (Ev_cmp ok (Ev_name' ok hcs (by show some (PV.str (fur (spell ts) p)) = _; rw [hB]; rfl) rfl) Ev_str op_in_str)
        · refine Ex_nil (Ex_cons (Ex1_ret (v := .bool true) (Ev_eq (Ev_cmp ok (Ev_cmp ok (Ev_name' ok hcs rfl rfl) (Ev_name' ok hcs rfl rfl) op_eq_str) (Ev_name' ok hcs rfl rfl) op_eq_bool) (congrArg PV.bool t5)) rfl))
      · intro hq
        have hsil : silentP (spell ts) (escP ts n p) p s = (escP ts n p && (([lowC s] : List Nat) == [lowC ((spell ts).getD p 0)])) := by
          unfold silentP; rw [if_neg (by rw [hq]; decide)]
        rw [hsil] at t5
        exact Ex_nil (Ex_cons (Ex1_ret (v := .bool true) (Ev_eq (Ev_cmp ok (Ev_cmp ok (Ev_name' ok hcs rfl rfl) (Ev_name' ok hcs rfl rfl) op_eq_str) (Ev_name' ok hcs rfl rfl) op_eq_bool) (congrArg PV.bool t5)) rfl))
end
end Mine
end

section
open PySem PySem.W PySem.Calls PyProof.Rows
set_option maxRecDepth 100000
set_option linter.unusedVariables false
set_option autoImplicit false
set_option maxHeartbeats 8000000
namespace Mine
section
variable {G : Run}

def lenP : List Int → Nat
  | [] => 0
  | x :: _ => (x.fmod 9).toNat
def signs7 : List Nat := [61, 51, 100, 97, 107, 95, 48]

/-- what the law's own steps need, said without the program -/
structure LawF (ns : List Int) (ts : List Tk) : Prop where
  tne : textP ns ≠ []
  tlt : ∀ c ∈ textP ns, c < 256
  elb : Lb ((textP ns).flatMap encC)
  elen : ((textP ns).flatMap encC).length ≤ 1000
  enc : encodeP (lenP ns) (textP ns) = spell ts
  tok : ∀ t ∈ ts, t.ok
  val : valu ts = textP ns
  wlen : (spell ts).length ≤ 10000
  wlb : Lb (spell ts)
  dec : decodeP (spell ts) = textP ns
  some : ∃ q, q < (spell ts).length ∧ (spell ts).getD q 0 ≠ 10
  flip : ∀ p s, p < (spell ts).length → (spell ts).getD p 0 ≠ 10 → s ∈ signs7 → s ≠ (spell ts).getD p 0 → ∃ o la ke, FlipF (textP ns) ts p s o la ke

theorem fmod_nat (a b : Nat) : (a : Int).fmod (b : Int) = ((a % b : Nat) : Int) := by
  rw [Int.fmod_eq_emod_of_nonneg _ (by omega)]; rfl
theorem fdiv_nat (a b : Nat) : (a : Int).fdiv (b : Int) = ((a / b : Nat) : Int) := by
  rw [Int.fdiv_eq_ediv_of_nonneg _ (by omega)]; rfl
theorem lenP_lt (ns : List Int) : lenP ns ≤ 8 := by
  cases ns with
  | nil => simp [lenP]
  | cons x r => have := fm_lt x (n := 9) (by decide); simp only [lenP]; omega
theorem bits_small {n : Nat} (h : n < 4294967296) : Builtin.Int.intBits (n : Int) ≤ 64 := by
  unfold Builtin.Int.intBits
  split
  · omega
  · rename_i h0
    have hn : n ≠ 0 := by simpa using h0
    have : ((n : Int)).natAbs.log2 < 32 := by
      rw [Int.natAbs_natCast]
      exact (Nat.log2_lt hn).mpr (by omega)
    omega
theorem signs_ok : ∀ n, n < 8 → (signsL.getD n []) = [(signsL.getD n []).getD 0 0] ∧ (signsL.getD n []).getD 0 0 ∈ signs7 := by decide

def wEnv (ns : List Int) (ts : List Tk) (st : Nat) (fl : Nat) : PEnv := [("flips", .int fl), ("seed", .int ns.sum), ("step", .int st), ("cells", .list ((cellsOf 0 ts).map cellPV)), ("written", .str (spell ts)), ("text", .str (textP ns))]

theorem law_walk (F : Facts G) {C : Act} {ns : List Int} {ts : List Tk} (hn : ns.length ≤ 63) (H : LawF ns ts) (ok : Ok G C 20) (hcs : C.cs = scN 30) :
    Ex G C [("script", .list (ns.map .int))] none (bodyN 30) (fun o => o = .ret (.bool true)) := by
  have hu : C.A.units + 64 < cLine := by have := ok.uni; omega
  have hm := lenP_lt ns
  refine Ex_cons (Ex1_assign (v := .int ((lenP ns + 4 : Nat) : Int)) ok (hcs ▸ rfl) ?_ ?_)
  · refine Ev_eq (Ev_bin (v := .int (lenP ns)) ok Ev_int ?_ op_add_int) (congrArg PV.int (by omega))
    cases ns with
    | nil =>
      exact Ev_eq (Ev_ifexp (v1 := .none) (c := false) (Tr_eq (Tr_cmp ok (Ev_name' ok hcs rfl rfl) Ev_nil (op_ne_ints (ns := []) (ms := []) hu)) rfl) (fun h => by cases h) (fun _ => Ev_int)) rfl
    | cons x r =>
      refine Ev_eq (Ev_ifexp (v2 := .none) (c := true) (Tr_eq (Tr_cmp ok (Ev_name' ok hcs rfl rfl) Ev_nil (op_ne_ints (ns := x :: r) (ms := []) hu)) (by simp)) (fun _ => Ev_bin ok (Ev_list_item (d := .int x) ok (Ev_name' ok hcs rfl rfl) Ev_int (by decide) (by decide) rfl) Ev_int (op_mod_int (by decide))) (fun h => by cases h)) ?_
      have := fm_nonneg x (n := 9) (by decide)
      show PV.int (x.fmod 9) = PV.int ((x.fmod 9).toNat : Nat)
      rw [Int.toNat_of_nonneg this]
  refine Ex_cons (Ex1_assign ok (hcs ▸ rfl) (Ev_def ok (by decide) F.text.1 (hcs ▸ rfl) F.text.2.1 (fn_text F hn) (EvL_cons (Ev_name' ok hcs rfl rfl) EvL_nil)) ?_)
  refine Ex_cons (Ex1_assign (v := .str (spell ts)) ok (hcs ▸ rfl) (Ev_eq (Ev_def ok (by decide) F.body_encode.1 (hcs ▸ rfl) F.body_encode.2.1 (fn_encode F (by omega) H.tne H.tlt H.elb H.elen) (EvL_cons (Ev_name' ok hcs rfl rfl) (EvL_cons (Ev_name' ok hcs rfl rfl) EvL_nil))) (congrArg PV.str H.enc)) ?_)
  refine Ex_cons (Ex1_assign ok (hcs ▸ rfl) (Ev_def ok (by decide) F.cells.1 (hcs ▸ rfl) F.cells.2.1 (fn_cells F H.tok (by have := H.wlen; omega)) (EvL_cons (Ev_name' ok hcs rfl rfl) EvL_nil)) ?_)
  have hW := H.wlen
  have htl := len_spell ts
  have hvl := valu_len ts
  have e1 : joinL (lit "") ((cellsOf 0 ts).map fun c : Cell => c.2.2) = valu ts := cells_join (b := [])
  refine Ex_cons (Ex1_if (c := false) (Tr_eq (Tr_or (Tr_cmp ok (Ev_eq (Ev_smeth1 ok Ev_str (Ev_comp2 (ls := (cellsOf 0 ts).map fun c => c.2.2) ok (Ev_name' ok hcs rfl rfl) (third_cells (cellsOf 0 ts)) (by kernel_rfl) (by decide +kernel) (by kernel_rfl) (by decide +kernel) (by kernel_rfl)) getM_join _ rfl (pu_join (by decide) (by simp [cellsOf_len]; omega) (by rw [e1]; omega))) (w := .str (valu ts)) (congrArg PV.str e1)) (Ev_name' ok hcs rfl rfl) op_ne_str) fun _ => Tr_or (Tr_cmp ok (Ev_def ok (by decide) F.decode.1 (hcs ▸ rfl) F.decode.2.1 (fn_decode F H.wlb (by omega)) (EvL_cons (Ev_name' ok hcs rfl rfl) EvL_nil)) (Ev_name' ok hcs rfl rfl) op_ne_str) fun _ => Tr_or_nil) ?_) (fun h => by cases h) fun _ => Ex_nil ?_)
  · rw [H.val, H.dec]; simp
  obtain ⟨q, hq, hq10⟩ := H.some
  have hnp : 0 < (spell ts).length := by omega
  refine Ex_cons (Ex1_assign (v := .int (1 + (spell ts).length / 16 : Nat)) ok (hcs ▸ rfl) (Ev_eq (Ev_bin ok Ev_int (Ev_bin ok (Ev_pcall ok F.len b_len (hcs ▸ rfl) (EvL_cons (Ev_name' ok hcs rfl rfl) EvL_nil) pu_len) Ev_int (op_div_int (by decide) (PyProof.noPylong_small (by decide)))) op_add_int) (congrArg PV.int ?_)) ?_)
  · have := fdiv_nat (spell ts).length 16
    rw [show ((16 : Nat) : Int) = 16 from rfl] at this
    rw [this]; omega
  refine Ex_cons (Ex1_assign ok (hcs ▸ rfl) (Ev_sum ok F.sum b_sum (hcs ▸ rfl) (Ev_name' ok hcs rfl rfl)) ?_)
  refine Ex_cons (Ex1_assign ok (hcs ▸ rfl) Ev_int ?_)
  generalize hst : 1 + (spell ts).length / 16 = st at *
  have hst0 : 0 < st := by omega
  have hN1 : ((spell ts).length + st - 1) / st ≤ 20000 := Nat.le_trans (Nat.div_le_self _ _) (by omega)
  have hN0 : 0 < ((spell ts).length + st - 1) / st := Nat.div_pos (by omega) hst0
  refine Ex_cons (Ex1_range (n := (((spell ts).length + st - 1) / st : Nat)) ok (hcs ▸ rfl) (σ := Nat) (fun i a => a = i) (wEnv ns ts st) (fun _ => none) 0 F.range b_range (hcs ▸ rfl) ?_ (Int.natCast_nonneg _) ?_ rfl ⟨rfl, rfl, rfl, rfl, rfl, rfl, trivial⟩ rfl ?_ (fun _ _ _ => rfl) ?_)
  · refine Ev_eq (Ev_bin ok (Ev_bin ok (Ev_bin ok (Ev_pcall ok F.len b_len (hcs ▸ rfl) (EvL_cons (Ev_name' ok hcs rfl rfl) EvL_nil) pu_len) (Ev_name' ok hcs rfl rfl) op_add_int) Ev_int op_sub_int) (Ev_name' ok hcs rfl rfl) (op_div_int (by omega) (PyProof.noPylong_small (by omega)))) (congrArg PV.int ?_)
    rw [← fdiv_nat]
    congr 1
    omega
  · generalize ((spell ts).length + st - 1) / st = N at *
    omega
  · intro i a ha hi
    subst ha
    have hi : a ≤ 20000 := by
      generalize ((spell ts).length + st - 1) / st = N at *
      omega
    clear hN1 hN0
    generalize hpl0 : (((a : Int) * (st : Int) + ns.sum.fmod st).fmod ((spell ts).length : Int)).toNat = pl0
    have hpl0i : ((a : Int) * (st : Int) + ns.sum.fmod st).fmod ((spell ts).length : Int) = (pl0 : Int) := by
      rw [← hpl0, Int.toNat_of_nonneg (fm_nonneg _ (by omega))]
    have hpl0n : pl0 < (spell ts).length := by
      have := fm_lt ((a : Int) * (st : Int) + ns.sum.fmod st) (n := ((spell ts).length : Int)) (by omega)
      omega
    refine Ex_cons (Ex1_assign (v := .int (pl0 : Int)) ok (hcs ▸ rfl) (Ev_eq (Ev_bin ok (Ev_bin ok (Ev_bin ok (Ev_name' ok hcs rfl rfl) (Ev_name' ok hcs rfl rfl) (op_mul_int (IntMulOk.of_left (bits_small (by omega))))) (Ev_bin ok (Ev_name' ok hcs rfl rfl) (Ev_name' ok hcs rfl rfl) (op_mod_int (by omega))) op_add_int) (Ev_pcall ok F.len b_len (hcs ▸ rfl) (EvL_cons (Ev_name' ok hcs rfl rfl) EvL_nil) pu_len) (op_mod_int (by omega))) (congrArg PV.int hpl0i)) ?_)
    clear hpl0 hpl0i
    refine Ex_cons (Ex1_while (σ := Nat) (fun pl => pl < (spell ts).length) (fun pl => ("place", .int pl) :: ("k", .int a) :: wEnv ns ts st a) (fun _ => none) (fun pl => if pl ≤ q then q - pl else q + (spell ts).length - pl) (fun pl => decide ((spell ts).getD pl 0 = 10)) pl0 ⟨rfl, rfl, rfl, rfl, rfl, rfl, rfl, rfl, trivial⟩ rfl hpl0n ?_ ?_ ?_)
    · intro pl hpl
      refine Tr_eq (Tr_cmp ok (Ev_eq (Ev_item (Ev_name' ok hcs rfl rfl) (Ev_name' ok hcs rfl rfl) (by omega) (by omega)) (congrArg (fun z => PV.str [z]) (at'_n _ _))) Ev_str op_eq_str) ?_
      show ([(spell ts).getD pl 0] == [10]) = _
      rw [Bool.eq_iff_iff]; simp
    · intro pl hpl hc
      have hc := of_decide_eq_true hc
      have hne : pl ≠ q := fun e => hq10 (e ▸ hc)
      refine Ex_cons (Ex1_assign (v := .int (((pl + 1) % (spell ts).length : Nat) : Int)) ok (hcs ▸ rfl) (Ev_eq (Ev_bin ok (Ev_bin ok (Ev_name' ok hcs rfl rfl) Ev_int op_add_int) (Ev_pcall ok F.len b_len (hcs ▸ rfl) (EvL_cons (Ev_name' ok hcs rfl rfl) EvL_nil) pu_len) (op_mod_int (by omega))) (congrArg PV.int (fmod_nat (pl + 1) _))) (Ex_nil ⟨(pl + 1) % (spell ts).length, ⟨rfl, rfl, rfl, rfl, rfl, rfl, rfl, rfl, trivial⟩, rfl, Nat.mod_lt _ hnp, ?_⟩))
      by_cases h1 : pl + 1 < (spell ts).length
      · rw [Nat.mod_eq_of_lt h1]
        split <;> split <;> omega
      · have : pl + 1 = (spell ts).length := by omega
        rw [this, Nat.mod_self]
        split <;> split <;> omega
    intro pl hpl hc
    have hc := of_decide_eq_false hc
    clear hpl0n
    have hs0 := fm_nonneg (ns.sum + 3 * (a : Int)) (n := 8) (by decide)
    have hs1 := fm_lt (ns.sum + 3 * (a : Int)) (n := 8) (by decide)
    obtain ⟨hsa, hsb⟩ := signs_ok ((ns.sum + 3 * (a : Int)).fmod 8).toNat (by omega)
    have hsg : (signsL.map PV.str)[((ns.sum + 3 * (a : Int)).fmod 8).toNat]? = some (.str [(signsL.getD ((ns.sum + 3 * (a : Int)).fmod 8).toNat []).getD 0 0]) := by
      have h8 : ((ns.sum + 3 * (a : Int)).fmod 8).toNat < signsL.length := by show _ < 8; omega
      rw [← hsa, List.getElem?_map, List.getElem?_eq_getElem h8, List.getD_eq_getElem?_getD, List.getElem?_eq_getElem h8]; rfl
    generalize (signsL.getD ((ns.sum + 3 * (a : Int)).fmod 8).toNat []).getD 0 0 = s0 at *
    refine Ex_cons (Ex1_assign ok (hcs ▸ rfl) (Ev_tup_item (d := .str [s0]) ok (Ev_gobj ok hcs F.signs rfl) (Ev_bin ok (Ev_bin ok (Ev_name' ok hcs rfl rfl) (Ev_bin ok Ev_int (Ev_name' ok hcs rfl rfl) (op_mul_int (IntMulOk.of_left (by decide)))) op_add_int) Ev_int (op_mod_int (by decide))) hs0 (by omega) hsg) ?_)
    clear hs0 hs1 hsa hsg
    have ht0 := fm_nonneg (ns.sum + (a : Int)) (n := 2) (by decide)
    have ht1 := fm_lt (ns.sum + (a : Int)) (n := 2) (by decide)
    have hj1 : ∃ s1, s1 ∈ signs7 ∧ s1 = (if (spell ts).getD pl 0 = 68 then (if (ns.sum + (a : Int)).fmod 2 = 0 then 61 else 100) else s0) := ⟨_, by split <;> (try split) <;> first | exact hsb | decide, rfl⟩
    obtain ⟨s1, hs1, hs1e⟩ := hj1
    refine Ex_cons (Ex1_join (("sign", .str [s1]) :: ("place", .int pl) :: ("k", .int a) :: wEnv ns ts st a) none ?_ ?_)
    · refine Ex1_if (c := decide ((spell ts).getD pl 0 = 68)) (Tr_eq (Tr_cmp ok (Ev_eq (Ev_item (Ev_name' ok hcs rfl rfl) (Ev_name' ok hcs rfl rfl) (by omega) (by omega)) (congrArg (fun z => PV.str [z]) (at'_n _ _))) Ev_str op_eq_str) ?_) ?_ ?_
      · show ([(spell ts).getD pl 0] == [68]) = _
        rw [Bool.eq_iff_iff]; simp
      · intro h
        rw [if_pos (of_decide_eq_true h)] at hs1e
        refine Ex_cons (Ex1_assign (v := .str [s1]) ok (hcs ▸ rfl) (Ev_tup_item (d := .str [s1]) ok (Ev_tuple (EvL_cons Ev_str (EvL_cons Ev_str EvL_nil))) (Ev_bin ok (Ev_bin ok (Ev_name' ok hcs rfl rfl) (Ev_name' ok hcs rfl rfl) op_add_int) Ev_int (op_mod_int (by decide))) ht0 (by omega) ?_) (Ex_nil ⟨_, rfl, ⟨rfl, rfl, rfl, rfl, rfl, rfl, rfl, rfl, rfl, trivial⟩⟩))
        rcases (show (ns.sum + (a : Int)).fmod 2 = 0 ∨ (ns.sum + (a : Int)).fmod 2 = 1 by omega) with e | e
        · rw [e] at hs1e ⊢; subst hs1e; rfl
        · rw [e] at hs1e ⊢; subst hs1e; rfl
      · intro h
        rw [if_neg (of_decide_eq_false h)] at hs1e
        subst hs1e
        exact Ex_nil ⟨_, rfl, ⟨rfl, rfl, rfl, rfl, rfl, rfl, rfl, rfl, rfl, trivial⟩⟩
    clear hs1e ht0 ht1 hsb
    have hj2 : ∃ s2, (s2 ∈ signs7 ∧ s2 ≠ (spell ts).getD pl 0) ∧ s2 = (if s1 = (spell ts).getD pl 0 then (if s1 ≠ 107 then 107 else 95) else s1) := by
      refine ⟨_, ?_, rfl⟩
      split
      · rename_i e
        rw [← e]
        split
        · rename_i e2; exact ⟨by decide, Ne.symm e2⟩
        · rename_i e2
          have : s1 = 107 := Decidable.byContradiction e2
          subst this; decide
      · rename_i e; exact ⟨hs1, e⟩
    obtain ⟨s2, ⟨hs2, hs2n⟩, hs2e⟩ := hj2
    refine Ex_cons (Ex1_join (("sign", .str [s2]) :: ("place", .int pl) :: ("k", .int a) :: wEnv ns ts st a) none ?_ ?_)
    · refine Ex1_if (c := decide (s1 = (spell ts).getD pl 0)) (Tr_eq (Tr_cmp ok (Ev_name' ok hcs rfl rfl) (Ev_eq (Ev_item (Ev_name' ok hcs rfl rfl) (Ev_name' ok hcs rfl rfl) (by omega) (by omega)) (congrArg (fun z => PV.str [z]) (at'_n _ _))) op_eq_str) ?_) ?_ ?_
      · rw [Bool.eq_iff_iff]; simp
      · intro h
        rw [if_pos (of_decide_eq_true h)] at hs2e
        refine Ex_cons (Ex1_assign (v := .str [s2]) ok (hcs ▸ rfl) (Ev_eq (Ev_ifexp (Tr_cmp ok (Ev_name' ok hcs rfl rfl) Ev_str op_ne_str) (fun _ => Ev_str) (fun _ => Ev_str)) ?_) (Ex_nil ⟨_, rfl, ⟨rfl, rfl, rfl, rfl, rfl, rfl, rfl, rfl, rfl, trivial⟩⟩))
        by_cases e : s1 = 107
        · subst e; rw [hs2e]; rfl
        · rw [if_pos e] at hs2e
          rw [hs2e]
          have : ([s1] != lit "k") = true := by show ([s1] != [107]) = true; simpa using e
          rw [this]; rfl
      · intro h
        rw [if_neg (of_decide_eq_false h)] at hs2e
        subst hs2e
        exact Ex_nil ⟨_, rfl, ⟨rfl, rfl, rfl, rfl, rfl, rfl, rfl, rfl, rfl, trivial⟩⟩
    clear hs2e hs1
    obtain ⟨o, la, ke, HF⟩ := H.flip pl s2 hpl hc hs2 hs2n
    refine Ex_cons (Ex1_if (c := false) (Tr_eq (Tr_not (Tr_bool (Ev_def ok (by decide) F.flip.1 (hcs ▸ rfl) F.flip.2.1 (fn_flip F HF) (EvL_cons (Ev_name' ok hcs rfl rfl) (EvL_cons (Ev_name' ok hcs rfl rfl) (EvL_cons (Ev_name' ok hcs rfl rfl) (EvL_cons (Ev_name' ok hcs rfl rfl) (EvL_cons (Ev_name' ok hcs rfl rfl) EvL_nil)))))))) rfl) (fun h => by cases h) fun _ => Ex_nil ?_)
    exact Ex_cons (Ex1_aug ok rfl (hcs ▸ rfl) Ev_int op_iadd_int (Ex_nil ⟨a + 1, ⟨rfl, rfl, rfl, rfl, rfl, rfl, trivial⟩, rfl, rfl⟩))
  · intro a ha
    have ha : 0 < a := by
      generalize ((spell ts).length + st - 1) / st = N at *
      omega
    exact Ex_cons (Ex1_ret (v := .bool true) (Ev_eq (Ev_cmp ok (Ev_name' ok hcs rfl rfl) Ev_int op_gt_int) (congrArg PV.bool (decide_eq_true (by show (0 : Int) < a; omega)))) rfl)
end
end Mine
end

section
set_option maxRecDepth 100000
set_option linter.unusedVariables false
set_option autoImplicit false
namespace Mine

/-! decode, said as one scan over the whole writing -/
def hex2 (r : List Nat) : Bool := decide (2 ≤ r.length) && isHex (r.getD 0 0) && isHex (r.getD 1 0)
def val2 (r : List Nat) : Nat := 16 * hv (r.getD 0 0) + hv (r.getD 1 0)
def dec (x : List Nat) : List Nat :=
  match x with
  | [] => []
  | c :: r => if c ≠ 61 then c :: dec r else if r = [] then [] else if r.getD 0 0 = 10 then dec (r.drop 1) else if hex2 r = true then val2 r :: dec (r.drop 2) else 61 :: dec r
termination_by x.length
decreasing_by all_goals (simp only [List.length_cons, List.length_drop]; omega)
/-- the scan ends at a bare sign = -/
def bare (x : List Nat) : Bool :=
  match x with
  | [] => false
  | c :: r => if c ≠ 61 then bare r else if r = [] then true else if r.getD 0 0 = 10 then bare (r.drop 1) else if hex2 r = true then bare (r.drop 2) else bare r
termination_by x.length
decreasing_by all_goals (simp only [List.length_cons, List.length_drop]; omega)
theorem dec_nil : dec [] = [] := by rw [dec]
theorem bare_nil : bare [] = false := by rw [bare]
theorem dec_cons (c : Nat) (r : List Nat) : dec (c :: r) = if c ≠ 61 then c :: dec r else if r = [] then [] else if r.getD 0 0 = 10 then dec (r.drop 1) else if hex2 r = true then val2 r :: dec (r.drop 2) else 61 :: dec r := by rw [dec]
theorem bare_cons (c : Nat) (r : List Nat) : bare (c :: r) = if c ≠ 61 then bare r else if r = [] then true else if r.getD 0 0 = 10 then bare (r.drop 1) else if hex2 r = true then bare (r.drop 2) else bare r := by rw [bare]

theorem dec_lit {c : Nat} (h : c ≠ 61) (r : List Nat) : dec (c :: r) = c :: dec r := by rw [dec_cons, if_pos h]
theorem bare_lit {c : Nat} (h : c ≠ 61) (r : List Nat) : bare (c :: r) = bare r := by rw [bare_cons, if_pos h]
theorem isHex_10 : isHex 10 = false := by decide
theorem hex2_ne {r : List Nat} (h : hex2 r = true) : r ≠ [] ∧ r.getD 0 0 ≠ 10 := by
  constructor
  · rintro rfl; simp [hex2] at h
  · intro e
    unfold hex2 at h
    rw [e, isHex_10] at h
    simp at h
theorem dec_hex {r : List Nat} (h : hex2 r = true) : dec (61 :: r) = val2 r :: dec (r.drop 2) := by
  rw [dec_cons, if_neg (by simp), if_neg (hex2_ne h).1, if_neg (hex2_ne h).2, if_pos h]
theorem bare_hex {r : List Nat} (h : hex2 r = true) : bare (61 :: r) = bare (r.drop 2) := by
  rw [bare_cons, if_neg (by simp), if_neg (hex2_ne h).1, if_neg (hex2_ne h).2, if_pos h]
theorem dec_raw {r : List Nat} (hne : r ≠ []) (h10 : r.getD 0 0 ≠ 10) (h : ¬ hex2 r = true) : dec (61 :: r) = 61 :: dec r := by
  rw [dec_cons, if_neg (by simp), if_neg hne, if_neg h10, if_neg h]
theorem bare_raw {r : List Nat} (hne : r ≠ []) (h10 : r.getD 0 0 ≠ 10) (h : ¬ hex2 r = true) : bare (61 :: r) = bare r := by
  rw [bare_cons, if_neg (by simp), if_neg hne, if_neg h10, if_neg h]
theorem dec_soft (r : List Nat) : dec (61 :: 10 :: r) = dec r := by
  rw [dec_cons, if_neg (by simp), if_neg (by simp), if_pos (show (10 :: r).getD 0 0 = 10 from rfl)]; rfl
theorem bare_soft (r : List Nat) : bare (61 :: 10 :: r) = bare r := by
  rw [bare_cons, if_neg (by simp), if_neg (by simp), if_pos (show (10 :: r).getD 0 0 = 10 from rfl)]; rfl
theorem dec_one : dec [61] = [] := by rw [dec_cons, if_neg (by simp), if_pos rfl]
theorem bare_one : bare [61] = true := by rw [bare_cons, if_neg (by simp), if_pos rfl]
theorem hex2_nl (l rest : List Nat) (hl : 10 ∉ l) : hex2 (l ++ 10 :: rest) = hex2 l := by
  match l with
  | [] => simp [hex2, isHex_10]
  | [a] => simp [hex2, isHex_10]
  | a :: b :: r => simp [hex2]
/-- a line, its end, and what follows -/
theorem dec_line : ∀ (n : Nat) (l rest : List Nat), l.length ≤ n → 10 ∉ l → dec (l ++ 10 :: rest) = dec l ++ (if bare l = true then [] else [10]) ++ dec rest ∧ bare (l ++ 10 :: rest) = bare rest := by
  intro n
  induction n with
  | zero =>
    intro l rest h _
    obtain rfl := List.eq_nil_of_length_eq_zero (Nat.le_zero.mp h)
    rw [List.nil_append, dec_lit (by decide), bare_lit (by decide), dec_nil, bare_nil]
    simp
  | succ n ih =>
    intro l rest h hl
    cases l with
    | nil =>
      rw [List.nil_append, dec_lit (by decide), bare_lit (by decide), dec_nil, bare_nil]
      simp
    | cons c r =>
      have hr : 10 ∉ r := fun e => hl (.tail _ e)
      have hlen : r.length ≤ n := by simp at h; omega
      by_cases hc : c ≠ 61
      · rw [List.cons_append, dec_lit hc, bare_lit hc, dec_lit hc, bare_lit hc]
        obtain ⟨h1, h2⟩ := ih r rest hlen hr
        rw [h1, h2]; simp
      · have hc : c = 61 := Decidable.byContradiction hc
        subst hc
        cases r with
        | nil =>
          show dec (61 :: 10 :: rest) = _ ∧ bare (61 :: 10 :: rest) = _
          rw [dec_soft, bare_soft, dec_one, bare_one]; simp
        | cons a r' =>
          have ha : a ≠ 10 := fun e => hr (e ▸ .head _)
          by_cases hh : hex2 (a :: r') = true
          · have hh2 : hex2 ((a :: r') ++ 10 :: rest) = true := by rw [hex2_nl _ _ hr]; exact hh
            have h2l : 2 ≤ (a :: r').length := by
              have hh' := hh
              unfold hex2 at hh'; simp only [Bool.and_eq_true, decide_eq_true_eq] at hh'; exact hh'.1.1
            have ed : ((a :: r') ++ 10 :: rest).drop 2 = (a :: r').drop 2 ++ 10 :: rest := by
              rw [List.drop_append_of_le_length h2l]
            have ev : val2 ((a :: r') ++ 10 :: rest) = val2 (a :: r') := by
              cases r' with
              | nil => simp at h2l
              | cons b r'' => rfl
            obtain ⟨h1, h2⟩ := ih ((a :: r').drop 2) rest (by simp at hlen ⊢; omega) (fun e => hr (List.mem_of_mem_drop e))
            rw [List.cons_append, dec_hex hh2, bare_hex hh2, dec_hex hh, bare_hex hh, ed, ev, h1, h2]; simp
          · have hh2 : ¬ hex2 ((a :: r') ++ 10 :: rest) = true := by rw [hex2_nl _ _ hr]; exact hh
            obtain ⟨h1, h2⟩ := ih (a :: r') rest hlen hr
            rw [List.cons_append, dec_raw (by simp) (show ((a :: r') ++ 10 :: rest).getD 0 0 ≠ 10 from ha) hh2, bare_raw (by simp) (show ((a :: r') ++ 10 :: rest).getD 0 0 ≠ 10 from ha) hh2, dec_raw (by simp) (show (a :: r').getD 0 0 ≠ 10 from ha) hh, bare_raw (by simp) (show (a :: r').getD 0 0 ≠ 10 from ha) hh, h1, h2]; simp

/-! one line as the text scans it -/
theorem scanL_end (line d : List Nat) : scanL line line.length d = d := by unfold scanL; rw [dif_neg (by omega)]
theorem getD_drop (l : List Nat) (i k : Nat) : (l.drop i).getD k 0 = l.getD (i + k) 0 := by
  rw [List.getD_eq_getElem?_getD, List.getD_eq_getElem?_getD, List.getElem?_drop]
theorem scanL_dec (line : List Nat) (hl : 10 ∉ line) : ∀ (n i : Nat) (d : List Nat), line.length - i ≤ n → i < line.length → scanL line i d = d ++ dec (line.drop i) ++ (if bare (line.drop i) = true then [] else [10]) := by
  intro n
  induction n with
  | zero => intro i d h hi; omega
  | succ n ih =>
    intro i d h hi
    have fin : ∀ (k : Nat) (d' : List Nat), i < k → k ≤ line.length → (if k = line.length then scanL line k (d' ++ [10]) else scanL line k d') = d' ++ dec (line.drop k) ++ (if bare (line.drop k) = true then [] else [10]) := by
      intro k d' hk hk2
      by_cases e : k = line.length
      · rw [if_pos e, e, scanL_end, List.drop_of_length_le (Nat.le_refl _), dec_nil, bare_nil]; simp
      · rw [if_neg e]; exact ih k d' (by omega) (by omega)
    have hun : scanL line i d = if line.getD i 0 ≠ 61 then (if i + 1 = line.length then scanL line (i + 1) (d ++ [line.getD i 0] ++ [10]) else scanL line (i + 1) (d ++ [line.getD i 0]))
        else if i + 1 = line.length then scanL line (i + 1) d
        else if i + 2 < line.length ∧ isHex (line.getD (i + 1) 0) = true ∧ isHex (line.getD (i + 2) 0) = true then
          (if i + 3 = line.length then scanL line (i + 3) (d ++ [16 * hv (line.getD (i + 1) 0) + hv (line.getD (i + 2) 0)] ++ [10]) else scanL line (i + 3) (d ++ [16 * hv (line.getD (i + 1) 0) + hv (line.getD (i + 2) 0)]))
        else scanL line (i + 1) (d ++ [61]) := by
      conv => lhs; unfold scanL
      rw [dif_pos hi]
    have hcons : line.drop i = line.getD i 0 :: line.drop (i + 1) := by
      rw [List.drop_eq_getElem_cons hi, List.getD_eq_getElem?_getD, List.getElem?_eq_getElem hi]; rfl
    rw [hun, hcons]
    have hd1 : ∀ k, (line.drop (i + 1)).getD k 0 = line.getD (i + 1 + k) 0 := fun k => getD_drop _ _ _
    by_cases hc : line.getD i 0 ≠ 61
    · rw [if_pos hc, dec_lit hc, bare_lit hc, fin (i + 1) _ (by omega) (by omega)]; simp
    · rw [if_neg hc]
      have hc : line.getD i 0 = 61 := Decidable.byContradiction hc
      rw [hc]
      by_cases he : i + 1 = line.length
      · have : line.drop (i + 1) = [] := List.drop_of_length_le (by omega)
        rw [if_pos he, this, he, scanL_end, dec_one, bare_one]; simp
      · have hne : line.drop (i + 1) ≠ [] := by
          intro e; have := congrArg List.length e; simp at this; omega
        have h10 : (line.drop (i + 1)).getD 0 0 ≠ 10 := by
          rw [hd1]
          intro e
          refine hl ?_
          rw [← e, List.getD_eq_getElem?_getD, List.getElem?_eq_getElem (show i + 1 + 0 < line.length by omega)]
          exact List.getElem_mem _
        have hh : (hex2 (line.drop (i + 1)) = true) ↔ (i + 2 < line.length ∧ isHex (line.getD (i + 1) 0) = true ∧ isHex (line.getD (i + 2) 0) = true) := by
          unfold hex2
          rw [hd1, hd1, List.length_drop]
          simp only [Bool.and_eq_true, decide_eq_true_eq, Nat.add_zero]
          constructor
          · rintro ⟨⟨a1, a2⟩, a3⟩; exact ⟨by omega, a2, a3⟩
          · rintro ⟨a1, a2, a3⟩; exact ⟨⟨by omega, a2⟩, a3⟩
        rw [if_neg he]
        by_cases hx : hex2 (line.drop (i + 1)) = true
        · have hx' := hh.mp hx
          rw [if_pos hx', dec_hex hx, bare_hex hx, fin (i + 3) _ (by omega) (by omega), List.drop_drop]
          have : val2 (line.drop (i + 1)) = 16 * hv (line.getD (i + 1) 0) + hv (line.getD (i + 2) 0) := by
            unfold val2; rw [hd1, hd1]
          rw [this]; simp
        · rw [if_neg (fun h => hx (hh.mpr h)), dec_raw hne h10 hx, bare_raw hne h10 hx]
          rw [ih (i + 1) _ (by omega) (by omega)]; simp

theorem lineDec_dec (d line : List Nat) (hl : 10 ∉ line) (hr : rstripL line = line) : lineDec d line = d ++ dec line ++ (if bare line = true then [] else [10]) := by
  unfold lineDec
  rw [hr]
  by_cases h : line = []
  · rw [if_pos h, h, dec_nil, bare_nil]; simp
  · rw [if_neg h]
    have := scanL_dec line hl _ 0 d (Nat.le_refl _) (List.length_pos_iff.mpr h)
    simpa using this

def tailE (y : List Nat) : List Nat := if y = [] ∨ y.getLast? = some 10 then [] else if bare y = true then [] else [10]
theorem fold_dec : ∀ (x cur d : List Nat), 10 ∉ cur → (∀ l ∈ linesA cur x, rstripL l = l) → (linesA cur x).foldl lineDec d = d ++ dec (cur ++ x) ++ tailE (cur ++ x) := by
  intro x
  induction x with
  | nil =>
    intro cur d hc hr
    rw [List.append_nil]
    unfold linesA at hr ⊢
    by_cases h : cur = []
    · rw [if_pos h, h, dec_nil]; simp [tailE]
    · rw [if_neg h] at hr ⊢
      have hlast : ¬ (cur = [] ∨ cur.getLast? = some 10) := by
        rintro (e | e)
        · exact h e
        · exact hc (List.mem_of_getLast? e)
      rw [List.foldl_cons, List.foldl_nil, lineDec_dec d cur hc (hr cur (by simp))]
      unfold tailE
      rw [if_neg hlast]
  | cons c r ih =>
    intro cur d hc hr
    unfold linesA at hr ⊢
    by_cases h : c = 10
    · subst h
      rw [if_pos rfl] at hr ⊢
      rw [List.foldl_cons, ih [] _ (by simp) (fun l hl => hr l (.tail _ hl)), lineDec_dec d cur hc (hr cur (.head _))]
      obtain ⟨h1, h2⟩ := dec_line cur.length cur r (Nat.le_refl _) hc
      rw [h1, List.nil_append]
      have : tailE (cur ++ 10 :: r) = tailE r := by
        unfold tailE
        rw [h2]
        cases r with
        | nil => simp
        | cons a r' =>
          have e : (cur ++ 10 :: a :: r').getLast? = (a :: r').getLast? := by
            rw [List.getLast?_append]; simp [List.getLast?_cons]
          rw [e]; simp
      rw [this]; simp
    · rw [if_neg h] at hr ⊢
      rw [ih (cur ++ [c]) d (by simp [hc]; exact Ne.symm h) hr]; simp

theorem decodeP_dec {w : List Nat} (h13 : 13 ∉ w) (hr : ∀ l ∈ linesL w, rstripL l = l) : decodeP w = if bare w = true ∧ (dec w).getLast? = some 10 then (dec w).dropLast else dec w := by
  unfold decodeP
  by_cases hw : w = []
  · rw [if_pos hw, hw, bare_nil, dec_nil]; simp
  · rw [if_neg hw]
    have hf := fold_dec w [] [] (by simp) hr
    rw [List.nil_append, List.nil_append] at hf
    show (if _ then _ else _) = _
    unfold linesL
    rw [hf]
    have hlast : ∃ c, w.getLast? = some c ∧ w.getLastD 0 = c := by
      cases e : w.getLast? with
      | none => exact absurd (List.getLast?_eq_none_iff.mp e) hw
      | some c => exact ⟨c, rfl, by rw [List.getLastD_eq_getLast?, e]; rfl⟩
    obtain ⟨c, hc1, hc2⟩ := hlast
    have hc13 : c ≠ 13 := fun e => h13 (e ▸ List.mem_of_getLast? hc1)
    rw [hc2]
    unfold tailE
    by_cases h10 : c = 10
    · have hb : bare w = false := by
        obtain ⟨y, hy⟩ : ∃ y, w = y ++ [10] := by
          rcases List.eq_nil_or_concat w with e | ⟨y, b, e⟩
          · exact absurd e hw
          · refine ⟨y, ?_⟩; rw [e] at hc1; simp at hc1; rw [e, hc1, h10]; simp
        have key : ∀ n (y : List Nat), y.length ≤ n → bare (y ++ [10]) = false := by
          intro n
          induction n with
          | zero => intro y h; obtain rfl := List.eq_nil_of_length_eq_zero (Nat.le_zero.mp h); rw [List.nil_append, bare_lit (by decide), bare_nil]
          | succ n ih =>
            intro y h
            cases y with
            | nil => rw [List.nil_append, bare_lit (by decide), bare_nil]
            | cons a r =>
              have hr : r.length ≤ n := by simp at h; omega
              rw [List.cons_append]
              by_cases ha : a ≠ 61
              · rw [bare_lit ha]; exact ih r hr
              · have ha : a = 61 := Decidable.byContradiction ha
                subst ha
                by_cases hx : hex2 (r ++ [10]) = true
                · rw [bare_hex hx]
                  match r, hr with
                  | [], _ => simp [hex2] at hx
                  | [b], _ => simp [hex2, isHex_10] at hx
                  | b :: b2 :: r', hr => exact ih r' (by simp at hr; omega)
                · by_cases h0 : (r ++ [10]).getD 0 0 = 10
                  · cases r with
                    | nil => rw [List.nil_append, bare_soft, bare_nil]
                    | cons b r' =>
                      have h0 : b = 10 := h0
                      subst h0
                      rw [List.cons_append, bare_soft]
                      exact ih r' (by simp at hr; omega)
                  · rw [bare_raw (by simp) h0 hx]; exact ih r hr
        rw [hy]; exact key y.length y (Nat.le_refl _)
      rw [if_neg (by simp [h10]), if_pos (.inr (h10 ▸ hc1)), hb]; simp
    · have hn : ¬ (w = [] ∨ w.getLast? = some 10) := by
        rintro (e | e)
        · exact hw e
        · rw [hc1] at e; exact h10 (Option.some.inj e)
      rw [if_neg hn]
      cases hb : bare w with
      | true => simp [hc13, h10]
      | false => simp [hc13, h10]
end Mine
end

section
set_option maxRecDepth 100000
set_option linter.unusedVariables false
set_option autoImplicit false
namespace Mine

def okC (c : Nat) : Prop := c = 9 ∨ c = 10 ∨ (32 ≤ c ∧ c ≤ 126)
/-- no white sign stands ahead of a line end -/
def Adj (x : List Nat) : Prop := ∀ i c, x[i]? = some c → isW c = true → x[i + 1]? ≠ some 10
theorem adj_app {a b : List Nat} (h : Adj (a ++ b)) : Adj b := fun i c hc hw => by
  have := h (a.length + i) c (by rw [List.getElem?_append_right (by omega), Nat.add_sub_cancel_left]; exact hc) hw
  rw [List.getElem?_append_right (by omega), show a.length + i + 1 - a.length = i + 1 by omega] at this
  exact this
theorem adj_nil : Adj [] := fun i c h => by simp at h
theorem adj_cons {c : Nat} {r : List Nat} (h : isW c = true → r[0]? ≠ some 10) (hr : Adj r) : Adj (c :: r) := fun i d hd hw => by
  cases i with
  | zero => simp at hd; subst hd; simpa using h hw
  | succ i => simp at hd; simpa using hr i d hd hw
theorem isW_10 : isW 10 = false := by decide

theorem sp_all : ((List.range 127).all fun c => !(c == 9 || c == 10 || (32 ≤ c)) || (isSp c == (c == 9 || c == 10 || c == 32))) = true := by decide +kernel
theorem sp_ok {c : Nat} (h : okC c) : isSp c = (c == 9 || c == 10 || c == 32) := by
  have h1 : c < 127 := by unfold okC at h; omega
  have := List.all_eq_true.mp sp_all c (by simpa using h1)
  have h2 : (c == 9 || c == 10 || decide (32 ≤ c)) = true := by unfold okC at h; simp; omega
  rw [h2] at this
  simpa using this
theorem lb_all : ((List.range 127).all fun c => !(c == 9 || c == 10 || (32 ≤ c)) || (!PySem.Unicode.isLineBreak c || c == 10)) = true := by decide +kernel
theorem lb_ok {c : Nat} (h : okC c) (hb : PySem.Unicode.isLineBreak c = true) : c = 10 := by
  have h1 : c < 127 := by unfold okC at h; omega
  have := List.all_eq_true.mp lb_all c (by simpa using h1)
  have h2 : (c == 9 || c == 10 || decide (32 ≤ c)) = true := by unfold okC at h; simp; omega
  rw [h2, hb] at this
  simpa using this
theorem lb_of {w : List Nat} (h : ∀ c ∈ w, okC c) : Lb w := fun c hc hb => lb_ok (h c hc) hb

theorem rstrip_fixed {l : List Nat} (h : ∀ y c, l = y ++ [c] → isSp c = false) : rstripL l = l := by
  rcases List.eq_nil_or_concat l with rfl | ⟨y, c, e⟩
  · rfl
  · have e : l = y ++ [c] := by rw [e]; simp
    have := h y c e
    unfold rstripL
    rw [e, List.reverse_append]
    simp [this]
theorem lines_fixed : ∀ (x cur : List Nat), (∀ c ∈ cur ++ x, okC c) → Adj (cur ++ x ++ [10]) → 10 ∉ cur → ∀ l ∈ linesA cur x, rstripL l = l := by
  intro x
  have one : ∀ (cur r : List Nat), (∀ c ∈ cur, okC c) → Adj (cur ++ 10 :: r) → 10 ∉ cur → rstripL cur = cur := by
    intro cur r hc ha h10
    refine rstrip_fixed fun y c e => ?_
    subst e
    rw [sp_ok (hc c (by simp))]
    have h1 : c ≠ 10 := fun e => h10 (by simp [e])
    have h2 : ¬ isW c = true := fun hw => by
      rw [List.append_assoc] at ha
      have := adj_app ha 0 c (by simp) hw
      simp at this
    unfold isW at h2
    simp at h2 ⊢
    exact ⟨⟨h2.2, h1⟩, h2.1⟩
  induction x with
  | nil =>
    intro cur hc ha h10 l hl
    unfold linesA at hl
    split at hl
    · cases hl
    · rw [List.mem_singleton.mp hl]
      rw [List.append_nil] at ha hc
      exact one cur [] hc ha h10
  | cons c r ih =>
    intro cur hc ha h10 l hl
    unfold linesA at hl
    split at hl
    · rename_i e
      subst e
      rcases List.mem_cons.mp hl with rfl | hl
      · rw [List.append_assoc] at ha
        exact one l (r ++ [10]) (fun c h => hc c (by simp [h])) (by simpa using ha) h10
      · refine ih [] (fun c h => hc c (by simp at h; simp [h])) ?_ (by simp) l hl
        have : cur ++ 10 :: r ++ [10] = (cur ++ [10]) ++ ([] ++ r ++ [10]) := by simp
        rw [this] at ha
        exact adj_app ha
    · rename_i e
      refine ih (cur ++ [c]) (fun d h => hc d (by simpa using h)) (by simpa using ha) (by simp [h10]; exact Ne.symm e) l hl

/-! the scan over cells -/
theorem esc_all : ((List.range 256).all fun c => isHex (hexU (c / 16)) && isHex (hexU (c % 16)) && (16 * hv (hexU (c / 16)) + hv (hexU (c % 16)) == c)) = true := by decide +kernel
theorem esc_ok {c : Nat} (h : c < 256) : isHex (hexU (c / 16)) = true ∧ isHex (hexU (c % 16)) = true ∧ 16 * hv (hexU (c / 16)) + hv (hexU (c % 16)) = c := by
  have := List.all_eq_true.mp esc_all c (by simpa using h)
  simp only [Bool.and_eq_true, beq_iff_eq] at this
  exact ⟨this.1.1, this.1.2, this.2⟩
theorem dec_sp {t : Tk} (h : t.ok) (Y : List Nat) : dec (t.sp ++ Y) = t.val ++ dec Y ∧ bare (t.sp ++ Y) = bare Y := by
  cases t with
  | lit c => exact ⟨dec_lit h.1 Y, bare_lit h.1 Y⟩
  | soft => exact ⟨dec_soft Y, bare_soft Y⟩
  | esc c =>
    obtain ⟨h1, h2, h3⟩ := esc_ok h.1
    have hh : hex2 (hexU (c / 16) :: hexU (c % 16) :: Y) = true := by
      unfold hex2
      show (decide _ && isHex (hexU (c / 16)) && isHex (hexU (c % 16))) = true
      rw [h1, h2]; simp
    have hv' : val2 (hexU (c / 16) :: hexU (c % 16) :: Y) = c := h3
    refine ⟨(dec_hex hh).trans ?_, (bare_hex hh).trans rfl⟩
    rw [hv']; rfl
theorem dec_spell : ∀ (ts : List Tk), (∀ t ∈ ts, t.ok) → ∀ Y, dec (spell ts ++ Y) = valu ts ++ dec Y ∧ bare (spell ts ++ Y) = bare Y
  | [], _, Y => ⟨rfl, rfl⟩
  | t :: r, h, Y => by
    obtain ⟨h1, h2⟩ := dec_spell r (fun t ht => h t (.tail _ ht)) Y
    obtain ⟨h3, h4⟩ := dec_sp (h t (.head _)) (spell r ++ Y)
    rw [spell_cons, valu_cons, List.append_assoc, h3, h4, h1, h2, List.append_assoc]
    exact ⟨rfl, rfl⟩

theorem hexU_okC : ∀ d, d < 16 → (48 ≤ hexU d ∧ hexU d ≤ 70) := by decide
theorem sp_okC {t : Tk} (h : t.ok) : ∀ c ∈ t.sp, okC c := by
  intro c hc
  cases t with
  | lit d => simp [Tk.sp] at hc; subst hc; exact h.2
  | soft => simp [Tk.sp] at hc; unfold okC; omega
  | esc d =>
    have := hexU_okC (d / 16) (by have := h.1; omega)
    have := hexU_okC (d % 16) (by omega)
    simp [Tk.sp, quoteC] at hc
    unfold okC; omega
theorem spell_okC {ts : List Tk} (h : ∀ t ∈ ts, t.ok) : ∀ c ∈ spell ts, okC c := by
  intro c hc
  obtain ⟨t, ht, hc⟩ := List.mem_flatMap.mp hc
  exact sp_okC (h t ht) c hc

structure Good (ts : List Tk) : Prop where
  ok : ∀ t ∈ ts, t.ok
  adj : Adj (spell ts ++ [10])

theorem dec_good {ts : List Tk} (h : Good ts) : decodeP (spell ts) = valu ts := by
  have hc := spell_okC h.ok
  rw [decodeP_dec (fun e => by have := hc 13 e; unfold okC at this; omega) (lines_fixed _ [] (by simpa using hc) (by simpa using h.adj) (by simp))]
  have := dec_spell ts h.ok []
  rw [List.append_nil, dec_nil, bare_nil, List.append_nil] at this
  rw [this.1, this.2]; simp

/-! one sign changed -/
theorem flip_get {w : List Nat} {p s : Nat} (hp : p < w.length) (i : Nat) : (flipW w p s)[i]? = if i = p then some s else w[i]? := by
  have : flipW w p s = w.set p s := by
    unfold flipW
    rw [List.set_eq_take_append_cons_drop, if_pos hp]; simp
  rw [this, List.getElem?_set]
  by_cases e : p = i
  · subst e; simp [hp]
  · rw [if_neg e, if_neg (Ne.symm e)]
theorem flip_len {w : List Nat} {p s : Nat} (hp : p < w.length) : (flipW w p s).length = w.length := by
  unfold flipW; simp; omega
theorem flip_dec {ts : List Tk} (h : Good ts) {p s : Nat} (hp : p < (spell ts).length) (hp10 : (spell ts).getD p 0 ≠ 10) (hs : okC s) (hs10 : s ≠ 10) (hsw : isW s = false) :
    Lb (flipW (spell ts) p s) ∧ decodeP (flipW (spell ts) p s) = if bare (flipW (spell ts) p s) = true ∧ (dec (flipW (spell ts) p s)).getLast? = some 10 then (dec (flipW (spell ts) p s)).dropLast else dec (flipW (spell ts) p s) := by
  have hc0 := spell_okC h.ok
  have hc : ∀ c ∈ flipW (spell ts) p s, okC c := by
    intro c hc
    obtain ⟨i, hi⟩ := List.mem_iff_getElem?.mp hc
    rw [flip_get hp] at hi
    split at hi
    · cases hi; exact hs
    · exact hc0 c (List.mem_of_getElem? hi)
  refine ⟨lb_of hc, decodeP_dec (fun e => by have := hc 13 e; unfold okC at this; omega) (lines_fixed _ [] (by simpa using hc) ?_ (by simp))⟩
  rw [List.nil_append]
  intro i c hi hw
  have hl := flip_len (w := spell ts) (s := s) hp
  have key : ∀ i : Nat, i ≠ p → (flipW (spell ts) p s ++ [10])[i]? = (spell ts ++ [10])[i]? := by
    intro i hip
    by_cases hi : i < (spell ts).length
    · rw [List.getElem?_append_left (by omega), List.getElem?_append_left hi, flip_get hp, if_neg hip]
    · rw [List.getElem?_append_right (by omega), List.getElem?_append_right (by omega), hl]
  have keyp : (flipW (spell ts) p s ++ [10])[p]? = some s := by
    rw [List.getElem?_append_left (by omega), flip_get hp, if_pos rfl]
  by_cases e : i = p
  · subst e
    rw [keyp] at hi
    cases hi
    rw [hsw] at hw; cases hw
  · rw [key i e] at hi
    have h2 := h.adj i c hi hw
    by_cases e2 : i + 1 = p
    · rw [e2, keyp]
      intro e3; cases e3; exact hs10 rfl
    · rw [key _ e2]; exact h2
end Mine
end

section
set_option maxRecDepth 100000
set_option linter.unusedVariables false
set_option autoImplicit false
namespace Mine

theorem posn_split (t1 u : List Tk) (k : Nat) : posn (t1 ++ u) (t1.length + k) = (spell t1).length + (spell (u.take k)).length := by
  unfold posn
  rw [List.take_append, List.take_of_length_le (by omega), Nat.add_sub_cancel_left, spell_app, List.length_append]
theorem posn_split0 (t1 u : List Tk) : posn (t1 ++ u) t1.length = (spell t1).length := by
  have := posn_split t1 u 0
  simpa [spell] using this
theorem signs7_ok : ∀ s ∈ signs7, s < 128 ∧ (32 ≤ s ∧ s ≤ 126) ∧ s ≠ 10 ∧ isW s = false := by decide

theorem flip_mk {t1 t2 : List Tk} {tk : Tk} {j s e ke p : Nat} {v1 mid : List Nat} (hG : Good (t1 ++ tk :: t2)) (hwl : (spell (t1 ++ tk :: t2)).length ≤ 10000) (htl : (valu (t1 ++ tk :: t2)).length ≤ 10000)
    (hj : j < tk.sp.length) (hp : p = (spell t1).length + j) (hp10 : tk.sp.getD j 0 ≠ 10) (hs7 : s ∈ signs7)
    (hv1 : (valu (t1 ++ tk :: t2)).take ke = v1) (hke : v1.length = ke) (hmid : mid.length ≤ 3)
    (hD : (if bare (tk.sp.set j s ++ spell t2) = true ∧ (valu t1 ++ dec (tk.sp.set j s ++ spell t2)).getLast? = some 10 then (valu t1 ++ dec (tk.sp.set j s ++ spell t2)).dropLast else valu t1 ++ dec (tk.sp.set j s ++ spell t2)) = v1 ++ mid ++ valu (t2.drop e))
    (hlk : (s ≠ 61 ∧ e = 0 ∧ ke = (valu t1).length) ∨
      (s = 61 ∧ (fig (((tk.sp ++ spell t2).drop (j + 1)).take 1) = true ∧ fig (((tk.sp ++ spell t2).drop (j + 2)).take 1) = true) ∧ e ≤ t2.length ∧ j + 2 < (spell ((tk :: t2).take (e + 1))).length ∧ (spell ((tk :: t2).take e)).length ≤ j + 2 ∧ ke = (valu t1).length) ∨
      (s = 61 ∧ ¬ (fig (((tk.sp ++ spell t2).drop (j + 1)).take 1) = true ∧ fig (((tk.sp ++ spell t2).drop (j + 2)).take 1) = true) ∧ ((tk.sp ++ spell t2).drop (j + 1)).take 1 = [10] ∧ e = 1 ∧ ke = (valu t1).length) ∨
      (s = 61 ∧ ¬ (fig (((tk.sp ++ spell t2).drop (j + 1)).take 1) = true ∧ fig (((tk.sp ++ spell t2).drop (j + 2)).take 1) = true) ∧ ¬ ((tk.sp ++ spell t2).drop (j + 1)).take 1 = [10] ∧ (((tk.sp ++ spell t2).drop (j + 1)).take 1 = [] ∧ tk.sp.length = 1 ∧ (valu t1).getLast? = some 10) ∧ e = 0 ∧ ke + 1 = (valu t1).length) ∨
      (s = 61 ∧ ¬ (fig (((tk.sp ++ spell t2).drop (j + 1)).take 1) = true ∧ fig (((tk.sp ++ spell t2).drop (j + 2)).take 1) = true) ∧ ¬ ((tk.sp ++ spell t2).drop (j + 1)).take 1 = [10] ∧ ¬ (((tk.sp ++ spell t2).drop (j + 1)).take 1 = [] ∧ tk.sp.length = 1 ∧ (valu t1).getLast? = some 10) ∧ e = 0 ∧ ke = (valu t1).length))
    (hsil : ((v1 ++ mid ++ valu (t2.drop e) == valu (t1 ++ tk :: t2)) == silentP (spell (t1 ++ tk :: t2)) (decide (tk.sp.length = 3) && decide (0 < j)) p s) = true) :
    FlipF (valu (t1 ++ tk :: t2)) (t1 ++ tk :: t2) p s t1.length (t1.length + e) ke := by
  have hW : spell (t1 ++ tk :: t2) = spell t1 ++ (tk.sp ++ spell t2) := by rw [spell_app, spell_cons]
  have hplt : p < (spell (t1 ++ tk :: t2)).length := by rw [hW]; simp; omega
  have hgetp : (spell (t1 ++ tk :: t2)).getD p 0 = tk.sp.getD j 0 := by
    rw [hW, getD_at _ _ p j hp, List.getD_eq_getElem?_getD, List.getD_eq_getElem?_getD, List.getElem?_append_left hj]
  have hflip : flipW (spell (t1 ++ tk :: t2)) p s = spell t1 ++ (tk.sp.set j s ++ spell t2) := by
    have : flipW (spell (t1 ++ tk :: t2)) p s = (spell (t1 ++ tk :: t2)).set p s := by
      unfold flipW
      rw [List.set_eq_take_append_cons_drop, if_pos hplt]; simp
    rw [this, hW, hp, List.set_append_right _ _ (by omega), Nat.add_sub_cancel_left, List.set_append_left _ _ hj]
  obtain ⟨hs1, hs2, hs3, hs4⟩ := signs7_ok s hs7
  obtain ⟨hlb, hdec⟩ := flip_dec hG hplt (by rw [hgetp]; exact hp10) (s := s) (.inr (.inr hs2)) hs3 hs4
  have ht1 : ∀ t ∈ t1, t.ok := fun t ht => hG.ok t (by simp [ht])
  obtain ⟨hd1, hd2⟩ := dec_spell t1 ht1 (tk.sp.set j s ++ spell t2)
  rw [hflip, hd1, hd2, hD] at hdec
  rw [← hflip] at hdec
  have haft : aft (spell (t1 ++ tk :: t2)) p = ((tk.sp ++ spell t2).drop (j + 1)).take 1 := by
    unfold aft; rw [hW, drop_at _ _ (p + 1) (j + 1) (by omega)]
  have hfur : fur (spell (t1 ++ tk :: t2)) p = ((tk.sp ++ spell t2).drop (j + 2)).take 1 := by
    unfold fur; rw [hW, drop_at _ _ (p + 2) (j + 2) (by omega)]
  have hp0 := posn_split0 t1 (tk :: t2)
  have hp1 : posn (t1 ++ tk :: t2) (t1.length + 1) = (spell t1).length + tk.sp.length := by
    rw [posn_split]; simp [spell]
  have hv0 : (valu ((t1 ++ tk :: t2).take t1.length)) = valu t1 := by rw [List.take_left']; rfl
  have hvt : (valu (t1 ++ tk :: t2)).take (valu t1).length = valu t1 := by rw [valu_app, List.take_left']; rfl
  have hdrop : (t1 ++ tk :: t2).drop (t1.length + e + 1) = t2.drop e := by
    rw [List.drop_append, List.drop_of_length_le (by omega), show t1.length + e + 1 - t1.length = e + 1 by omega]; rfl
  have hesc : escP (t1 ++ tk :: t2) t1.length p = (decide (tk.sp.length = 3) && decide (0 < j)) := by
    unfold escP
    rw [hp0, hp1, hp]
    congr 1
    · rw [Bool.eq_iff_iff]; simp; omega
    · rw [Bool.eq_iff_iff]; simp only [decide_eq_true_eq]; omega
  have hle : e ≤ t2.length + 1 := by rcases hlk with h | h | h | h | h <;> omega
  exact {
    ho := by simp
    hp0 := by rw [hp0]; omega
    hp1 := by rw [hp1]; omega
    hla := by simp; omega
    hs := hs1
    hold := by
      have hc := spell_okC hG.ok ((spell (t1 ++ tk :: t2)).getD p 0) (by rw [List.getD_eq_getElem?_getD, List.getElem?_eq_getElem hplt]; exact List.getElem_mem _)
      unfold okC at hc; omega
    hlk1 := by
      intro h; rw [hv0]
      rcases hlk with ⟨_, h1, h2⟩ | ⟨h0, _⟩ | ⟨h0, _⟩ | ⟨h0, _⟩ | ⟨h0, _⟩
      · exact ⟨by omega, h2⟩
      all_goals exact absurd h0 h
    hlk2 := by
      intro h ha hb; rw [hv0]
      rw [haft] at ha; rw [hfur] at hb
      rcases hlk with ⟨h0, _⟩ | ⟨_, _, h1, h2, h3, h4⟩ | ⟨_, h0, _⟩ | ⟨_, h0, _⟩ | ⟨_, h0, _⟩
      · exact absurd h h0
      · refine ⟨by omega, by simp; omega, ?_, ?_, h4⟩
        · rw [show t1.length + e + 1 = t1.length + (e + 1) by omega, posn_split]; omega
        · intro n hn1 hn2
          have := posn_mono (t1 ++ tk :: t2) (show n + 1 ≤ t1.length + e by omega)
          rw [posn_split] at this; omega
      all_goals exact absurd ⟨ha, hb⟩ h0
    hlk3 := by
      intro h hf ha; rw [hv0]
      rw [haft] at ha hf; rw [hfur] at hf
      rcases hlk with ⟨h0, _⟩ | ⟨_, h0, _⟩ | ⟨_, _, _, h1, h2⟩ | ⟨_, _, h0, _⟩ | ⟨_, _, h0, _⟩
      · exact absurd h h0
      · exact absurd h0 hf
      · exact ⟨by omega, h2⟩
      all_goals exact absurd ha h0
    hlk4 := by
      intro h hf ha hq; rw [hv0]
      rw [haft] at ha hf hq; rw [hfur] at hf
      rw [hv0, hvt, hp0, hp1] at hq
      rcases hlk with ⟨h0, _⟩ | ⟨_, h0, _⟩ | ⟨_, _, h0, _⟩ | ⟨_, _, _, _, h1, h2⟩ | ⟨_, _, _, h0, _⟩
      · exact absurd h h0
      · exact absurd h0 hf
      · exact absurd h0 ha
      · exact ⟨by omega, h2⟩
      · exact absurd ⟨hq.1, by omega, hq.2.2⟩ h0
    hlk5 := by
      intro h hf ha hq; rw [hv0]
      rw [haft] at ha hf hq; rw [hfur] at hf
      rw [hv0, hvt, hp0, hp1] at hq
      rcases hlk with ⟨h0, _⟩ | ⟨_, h0, _⟩ | ⟨_, _, h0, _⟩ | ⟨_, _, _, h0, _⟩ | ⟨_, _, _, _, h1, h2⟩
      · exact absurd h h0
      · exact absurd h0 hf
      · exact absurd h0 ha
      · exact absurd ⟨h0.1, by omega, h0.2.2⟩ hq
      · exact ⟨by omega, h2⟩
    hb := hlb
    hw := hwl
    htext := htl
    told1 := by rw [hdec, hv1, List.append_assoc, List.take_left' hke]
    told2 := by
      rw [hdec, hdrop]
      have : (v1 ++ mid ++ valu (t2.drop e)).length - (valu (t2.drop e)).length = (v1 ++ mid).length := by rw [List.length_append]; omega
      rw [this, List.drop_left']; rfl
    told3 := by rw [hdec, hdrop]; simp; omega
    told4 := by rw [hdec, hdrop]; simp; omega
    sil := by rw [hdec, hesc]; exact hsil }
end Mine
end

section
set_option maxRecDepth 100000
set_option linter.unusedVariables false
set_option autoImplicit false
namespace Mine

theorem head_lit {t2 : List Tk} (h : ∀ t ∈ t2, t.ok) {a : Nat} {Y : List Nat} (e : spell t2 = a :: Y) (ha : a ≠ 61) : ∃ t3, t2 = .lit a :: t3 ∧ spell t3 = Y := by
  cases t2 with
  | nil => cases e
  | cons t r =>
    rw [spell_cons] at e
    cases t with
    | lit c =>
      have e : c :: spell r = a :: Y := e
      cases e
      exact ⟨r, rfl, rfl⟩
    | esc c =>
      have e : 61 :: (hexU (c / 16) :: hexU (c % 16) :: spell r) = a :: Y := e
      cases e; exact absurd rfl ha
    | soft =>
      have e : 61 :: (10 :: spell r) = a :: Y := e
      cases e; exact absurd rfl ha
theorem hex_same (c : Nat) : hexs.contains c = isHex c := by
  unfold isHex
  rw [Bool.eq_iff_iff]
  simp [hexs, hexL]
  omega
theorem fig_nil : fig [] = false := rfl
theorem fig_one (c : Nat) : fig [c] = isHex c := by
  unfold fig
  rw [show ([c] : List Nat).getD 0 0 = c from rfl, hex_same]; simp
theorem hex2_fig (Y : List Nat) : hex2 Y = true ↔ (fig (Y.take 1) = true ∧ fig ((Y.drop 1).take 1) = true) := by
  match Y with
  | [] => simp [hex2, fig_nil]
  | [a] => simp [hex2, fig_nil]
  | a :: b :: r =>
    show _ ↔ (fig [a] = true ∧ fig [b] = true)
    rw [fig_one, fig_one]; simp [hex2]
theorem isHex_ne {a : Nat} (h : isHex a = true) : a ≠ 61 ∧ a ≠ 10 := by
  constructor
  · rintro rfl; revert h; decide
  · rintro rfl; revert h; decide
theorem ne_len {x y : List Nat} (h : x.length ≠ y.length) : (x == y) = false := by
  rw [beq_eq_false_iff_ne]
  intro e; exact h (congrArg _ e)
theorem silent_false (w : List Nat) (p s : Nat) : silentP w false p s = false := by
  unfold silentP; simp
theorem dec_end {ts : List Tk} (h : ∀ t ∈ ts, t.ok) : dec (spell ts) = valu ts ∧ bare (spell ts) = false := by
  have := dec_spell ts h []
  rw [List.append_nil, dec_nil, bare_nil, List.append_nil] at this
  exact this
theorem fig2 {Y : List Nat} (h : fig (Y.take 1) = true) : ∃ a r, Y = a :: r ∧ isHex a = true := by
  cases Y with
  | nil => rw [List.take_nil, fig_nil] at h; cases h
  | cons a r => exact ⟨a, r, rfl, by rw [show (a :: r).take 1 = [a] from rfl, fig_one] at h; exact h⟩

section
variable {t1 t2 : List Tk} {s p : Nat}

theorem flip_lit {c : Nat} (hG : Good (t1 ++ .lit c :: t2)) (hwl : (spell (t1 ++ .lit c :: t2)).length ≤ 10000) (htl : (valu (t1 ++ .lit c :: t2)).length ≤ 10000)
    (hp : p = (spell t1).length + 0) (hp10 : c ≠ 10) (hs7 : s ∈ signs7) (hsc : s ≠ c) : ∃ o la ke, FlipF (valu (t1 ++ .lit c :: t2)) (t1 ++ .lit c :: t2) p s o la ke := by
  have hc : c ≠ 61 := (hG.ok (.lit c) (by simp)).1
  have ok2 : ∀ t ∈ t2, t.ok := fun t ht => hG.ok t (by simp [ht])
  obtain ⟨d2, b2⟩ := dec_end ok2
  have hvt : (valu (t1 ++ .lit c :: t2)).take (valu t1).length = valu t1 := by rw [valu_app, List.take_left']; rfl
  have hval : valu (t1 ++ .lit c :: t2) = valu t1 ++ c :: valu t2 := by rw [valu_app, valu_cons]; rfl
  have hset : (Tk.lit c).sp.set 0 s = [s] := rfl
  by_cases hs : s = 61
  · subst hs
    have mk := @flip_mk t1 t2 (.lit c) 0 61
    rw [hset] at mk
    simp only [show ((Tk.lit c).sp ++ spell t2).drop (0 + 1) = spell t2 from rfl, show ((Tk.lit c).sp ++ spell t2).drop (0 + 2) = (spell t2).drop 1 from rfl, show (Tk.lit c).sp.length = 1 from rfl, show (decide ((1 : Nat) = 3) && decide ((0 : Nat) < 0)) = false from rfl] at mk
    by_cases hF : fig ((spell t2).take 1) = true ∧ fig (((spell t2).drop 1).take 1) = true
    · obtain ⟨a, r, e, ha⟩ := fig2 hF.1
      obtain ⟨t3, rfl, e3⟩ := head_lit ok2 e (isHex_ne ha).1
      have hF2 := hF.2
      rw [e, show (a :: r).drop 1 = r from rfl] at hF2
      obtain ⟨b, r', e', hb⟩ := fig2 hF2
      rw [e'] at e3
      obtain ⟨t4, rfl, e4⟩ := head_lit (fun t ht => ok2 t (.tail _ ht)) e3 (isHex_ne hb).1
      have h2 := (hex2_fig _).mpr hF
      obtain ⟨d4, b4⟩ := dec_end (ts := t4) (fun t ht => ok2 t (.tail _ (.tail _ ht)))
      have hsp : spell (.lit a :: .lit b :: t4) = a :: b :: spell t4 := rfl
      refine ⟨_, _, _, mk (e := 2) (v1 := valu t1) (mid := [val2 (a :: b :: spell t4)]) hG hwl htl (by decide) hp hp10 hs7 hvt rfl (by simp) ?_ (.inr (.inl ⟨trivial, hF, by simp, by simp [spell, Tk.sp], by simp [spell, Tk.sp], rfl⟩)) ?_⟩
      · rw [show ([61] : List Nat) ++ spell (.lit a :: .lit b :: t4) = 61 :: spell (.lit a :: .lit b :: t4) from rfl, dec_hex h2, bare_hex h2, hsp, show (a :: b :: spell t4).drop 2 = spell t4 from rfl, d4, b4]
        simp
      · rw [silent_false, ne_len]
        · rfl
        · rw [hval]; simp [valu, Tk.val]; try omega
    · have hx : ¬ hex2 (spell t2) = true := fun h => hF ((hex2_fig _).mp h)
      by_cases hN : (spell t2).take 1 = [10]
      · obtain ⟨r, e⟩ : ∃ r, spell t2 = 10 :: r := by
          cases h : spell t2 with
          | nil => rw [h] at hN; cases hN
          | cons a r => rw [h] at hN; cases hN; exact ⟨r, rfl⟩
        obtain ⟨t3, rfl, e3⟩ := head_lit ok2 e (by decide)
        obtain ⟨d3, b3⟩ := dec_end (ts := t3) (fun t ht => ok2 t (.tail _ ht))
        refine ⟨_, _, _, mk (e := 1) (v1 := valu t1) (mid := []) hG hwl htl (by decide) hp hp10 hs7 hvt rfl (by simp) ?_ (.inr (.inr (.inl ⟨trivial, hF, hN, rfl, rfl⟩))) ?_⟩
        · rw [show ([61] : List Nat) ++ spell (.lit 10 :: t3) = 61 :: 10 :: spell t3 from rfl, dec_soft, bare_soft, d3, b3]
          simp
        · rw [silent_false, ne_len]
          · rfl
          · rw [hval]; simp [valu, Tk.val]; try omega
      · by_cases hY : spell t2 = []
        · have ht2 : t2 = [] := by
            cases t2 with
            | nil => rfl
            | cons t r =>
              rw [spell_cons] at hY
              have h0 := (List.append_eq_nil_iff.mp hY).1
              have := sp_pos t
              rw [h0] at this
              simp at this
          subst ht2
          by_cases hl : (valu t1).getLast? = some 10
          · refine ⟨_, _, _, mk (e := 0) (ke := (valu t1).length - 1) (v1 := (valu t1).dropLast) (mid := []) hG hwl htl (by decide) hp hp10 hs7 ?_ (by simp) (by simp) ?_ (.inr (.inr (.inr (.inl ⟨trivial, hF, hN, ⟨rfl, trivial, hl⟩, rfl, ?_⟩)))) ?_⟩
            · rw [valu_app, List.take_append_of_le_length (by omega), List.dropLast_eq_take]
            · rw [show ([61] : List Nat) ++ spell [] = [61] from rfl, dec_one, bare_one, List.append_nil, if_pos ⟨rfl, hl⟩]
              simp [valu]
            · have : valu t1 ≠ [] := fun e => by rw [e] at hl; cases hl
              have := List.length_pos_iff.mpr this; omega
            · rw [silent_false, ne_len]
              · rfl
              · rw [hval]; simp [valu]; try omega
          · refine ⟨_, _, _, mk (e := 0) (v1 := valu t1) (mid := []) hG hwl htl (by decide) hp hp10 hs7 hvt rfl (by simp) ?_ (.inr (.inr (.inr (.inr ⟨trivial, hF, hN, fun h => hl h.2.2, rfl, rfl⟩)))) ?_⟩
            · rw [show ([61] : List Nat) ++ spell [] = [61] from rfl, dec_one, bare_one, List.append_nil, if_neg (fun h => hl h.2)]
              simp [valu]
            · rw [silent_false, ne_len]
              · rfl
              · rw [hval]; simp [valu]
        · have h10 : (spell t2).getD 0 0 ≠ 10 := by
            intro h
            cases e : spell t2 with
            | nil => exact hY e
            | cons a r => rw [e] at h hN; exact hN (by rw [show a = 10 from h]; rfl)
          refine ⟨_, _, _, mk (e := 0) (v1 := valu t1) (mid := [61]) hG hwl htl (by decide) hp hp10 hs7 hvt rfl (by simp) ?_ (.inr (.inr (.inr (.inr ⟨trivial, hF, hN, fun h => ?_, rfl, rfl⟩)))) ?_⟩
          · rw [show ([61] : List Nat) ++ spell t2 = 61 :: spell t2 from rfl, dec_raw hY h10 hx, bare_raw hY h10 hx, d2, b2]
            simp
          · cases e : spell t2 with
            | nil => exact hY e
            | cons a r => have := h.1; rw [e] at this; cases this
          · rw [silent_false, hval]
            have : (valu t1 ++ [61] ++ valu (t2.drop 0) == valu t1 ++ c :: valu t2) = false := by
              rw [beq_eq_false_iff_ne]
              intro e
              simp at e; exact hc e.symm
            rw [this]; rfl
  · refine ⟨_, _, _, flip_mk (tk := .lit c) (j := 0) (e := 0) (v1 := valu t1) (mid := [s]) hG hwl htl (Nat.zero_lt_one) hp hp10 hs7 hvt rfl (by simp) ?_ (.inl ⟨hs, rfl, rfl⟩) ?_⟩
    · rw [hset, show ([s] : List Nat) ++ spell t2 = s :: spell t2 from rfl, dec_lit hs, bare_lit hs, d2, b2]
      simp
    · rw [show (decide ((Tk.lit c).sp.length = 3) && decide ((0 : Nat) < 0)) = false from rfl, silent_false, hval]
      have : (valu t1 ++ [s] ++ valu (t2.drop 0) == valu t1 ++ c :: valu t2) = false := by
        rw [beq_eq_false_iff_ne]
        intro e
        simp at e; exact hsc e
      rw [this]; rfl

theorem flip_soft (hG : Good (t1 ++ .soft :: t2)) (hwl : (spell (t1 ++ .soft :: t2)).length ≤ 10000) (htl : (valu (t1 ++ .soft :: t2)).length ≤ 10000)
    (hp : p = (spell t1).length + 0) (hs7 : s ∈ signs7) (hs : s ≠ 61) : ∃ o la ke, FlipF (valu (t1 ++ .soft :: t2)) (t1 ++ .soft :: t2) p s o la ke := by
  have ok2 : ∀ t ∈ t2, t.ok := fun t ht => hG.ok t (by simp [ht])
  obtain ⟨d2, b2⟩ := dec_end ok2
  have hvt : (valu (t1 ++ .soft :: t2)).take (valu t1).length = valu t1 := by rw [valu_app, List.take_left']; rfl
  have hval : valu (t1 ++ .soft :: t2) = valu t1 ++ valu t2 := by rw [valu_app, valu_cons]; rfl
  refine ⟨_, _, _, flip_mk (tk := .soft) (j := 0) (e := 0) (v1 := valu t1) (mid := [s, 10]) hG hwl htl (by decide) hp (by decide) hs7 hvt rfl (by simp) ?_ (.inl ⟨hs, rfl, rfl⟩) ?_⟩
  · rw [show Tk.soft.sp.set 0 s ++ spell t2 = s :: 10 :: spell t2 from rfl, dec_lit hs, bare_lit hs, dec_lit (by decide), bare_lit (by decide), d2, b2]
    simp
  · rw [show (decide (Tk.soft.sp.length = 3) && decide ((0 : Nat) < 0)) = false from rfl, silent_false, ne_len]
    · rfl
    · rw [hval]; simp; omega
end
end Mine
end

section
set_option maxRecDepth 100000
set_option linter.unusedVariables false
set_option autoImplicit false
namespace Mine

theorem hx_eq : ∀ d, d < 16 → ∀ s ∈ signs7, s ≠ hexU d → isHex s = true → (hv s = d ↔ lowC s = lowC (hexU d)) := by decide
theorem hx_ne : ∀ d, d < 16 → ∀ s ∈ signs7, isHex s = false → lowC s ≠ lowC (hexU d) := by decide
theorem hx_hv : ∀ d, d < 16 → hv (hexU d) = d ∧ isHex (hexU d) = true ∧ hexU d ≠ 61 ∧ hexU d ≠ 10 := by decide
theorem hx_51 : ∀ d, d < 16 → (hexU d = 51 ↔ d = 3) := by decide
theorem hx_68 : ∀ d, d < 16 → (hexU d = 68 ↔ d = 13) := by decide
theorem hexL_fact : ∀ b ∈ hexL, b < 128 ∧ hv b < 16 ∧ (48 + hv b = b ↔ (lit "0123456789").contains b = true) := by decide +kernel
theorem isHex_mem {b : Nat} (h : isHex b = true) : b ∈ hexL := by simpa [isHex] using h

theorem silent_ne {w : List Nat} {esc : Bool} {p s : Nat} (hs : s ≠ 61) : silentP w esc p s = (esc && (([lowC s] : List Nat) == [lowC (w.getD p 0)])) := by
  unfold silentP
  rw [if_neg]
  simp [hs]
theorem silent_eq {w : List Nat} {p : Nat} (h : ¬ sl w (some ((p : Int) - 2)) (some ((p : Int) + 1)) = [61, 51, 68]) : silentP w true p 61 = (([lowC 61] : List Nat) == [lowC (w.getD p 0)]) := by
  unfold silentP
  rw [if_neg]
  · rfl
  · simp [h]
theorem silent_yes {w : List Nat} {p : Nat} (h : sl w (some ((p : Int) - 2)) (some ((p : Int) + 1)) = [61, 51, 68]) : silentP w true p 61 = ((aft w p == [51]) && ((fur w p != []) && (lit "0123456789").contains ((fur w p).getD 0 0))) := by
  unfold silentP
  rw [if_pos]
  simp [h]
theorem mid_eq (v1 v2 : List Nat) (x c : Nat) : (v1 ++ [x] ++ v2 == v1 ++ c :: v2) = (x == c) := by
  rw [Bool.eq_iff_iff]; simp

section
variable {t1 t2 : List Tk} {s p c : Nat}

theorem flip_esc0 (hG : Good (t1 ++ .esc c :: t2)) (hwl : (spell (t1 ++ .esc c :: t2)).length ≤ 10000) (htl : (valu (t1 ++ .esc c :: t2)).length ≤ 10000)
    (hp : p = (spell t1).length + 0) (hs7 : s ∈ signs7) (hs : s ≠ 61) : ∃ o la ke, FlipF (valu (t1 ++ .esc c :: t2)) (t1 ++ .esc c :: t2) p s o la ke := by
  have hc := (hG.ok (.esc c) (by simp)).1
  have ok2 : ∀ t ∈ t2, t.ok := fun t ht => hG.ok t (by simp [ht])
  obtain ⟨d2, b2⟩ := dec_end ok2
  have hvt : (valu (t1 ++ .esc c :: t2)).take (valu t1).length = valu t1 := by rw [valu_app, List.take_left']; rfl
  have hval : valu (t1 ++ .esc c :: t2) = valu t1 ++ c :: valu t2 := by rw [valu_app, valu_cons]; rfl
  obtain ⟨a1, a2, a3, a4⟩ := hx_hv (c / 16) (by omega)
  obtain ⟨b1, b2', b3, b4⟩ := hx_hv (c % 16) (by omega)
  refine ⟨_, _, _, flip_mk (tk := .esc c) (j := 0) (e := 0) (v1 := valu t1) (mid := [s, hexU (c / 16), hexU (c % 16)]) hG hwl htl (Nat.zero_lt_succ _) hp (by show (61 : Nat) ≠ 10; decide) hs7 hvt rfl (by simp) ?_ (.inl ⟨hs, rfl, rfl⟩) ?_⟩
  · rw [show (Tk.esc c).sp.set 0 s ++ spell t2 = s :: hexU (c / 16) :: hexU (c % 16) :: spell t2 from rfl, dec_lit hs, bare_lit hs, dec_lit a3, bare_lit a3, dec_lit b3, bare_lit b3, d2, b2]
    simp
  · rw [show (decide ((Tk.esc c).sp.length = 3) && decide ((0 : Nat) < 0)) = false from rfl, silent_false, ne_len]
    · rfl
    · rw [hval]; simp; try omega

theorem flip_esc1 (hG : Good (t1 ++ .esc c :: t2)) (hwl : (spell (t1 ++ .esc c :: t2)).length ≤ 10000) (htl : (valu (t1 ++ .esc c :: t2)).length ≤ 10000)
    (hp : p = (spell t1).length + 1) (hs7 : s ∈ signs7) (hsH : s ≠ hexU (c / 16)) : ∃ o la ke, FlipF (valu (t1 ++ .esc c :: t2)) (t1 ++ .esc c :: t2) p s o la ke := by
  have hc := (hG.ok (.esc c) (by simp)).1
  have ok2 : ∀ t ∈ t2, t.ok := fun t ht => hG.ok t (by simp [ht])
  obtain ⟨d2, b2⟩ := dec_end ok2
  have hvt : (valu (t1 ++ .esc c :: t2)).take (valu t1).length = valu t1 := by rw [valu_app, List.take_left']; rfl
  have hval : valu (t1 ++ .esc c :: t2) = valu t1 ++ c :: valu t2 := by rw [valu_app, valu_cons]; rfl
  obtain ⟨a1, a2, a3, a4⟩ := hx_hv (c / 16) (by omega)
  obtain ⟨b1, b2', b3, b4⟩ := hx_hv (c % 16) (by omega)
  have hW : spell (t1 ++ .esc c :: t2) = spell t1 ++ (61 :: hexU (c / 16) :: hexU (c % 16) :: spell t2) := by rw [spell_app, spell_cons]; rfl
  have hgp : (spell (t1 ++ .esc c :: t2)).getD p 0 = hexU (c / 16) := by rw [hW, getD_at _ _ p 1 hp]; rfl
  have hset : (Tk.esc c).sp.set 1 s ++ spell t2 = 61 :: s :: hexU (c % 16) :: spell t2 := rfl
  have hE : (decide ((Tk.esc c).sp.length = 3) && decide ((0 : Nat) < 1)) = true := rfl
  by_cases hs : s = 61
  · subst hs
    have hE3 : ¬ sl (spell (t1 ++ .esc c :: t2)) (some ((p : Int) - 2)) (some ((p : Int) + 1)) = [61, 51, 68] := by
      intro h
      have hlen : (spell (t1 ++ .esc c :: t2)).length = (spell t1).length + (3 + (spell t2).length) := by rw [hW]; simp; omega
      by_cases h0 : (spell t1).length = 0
      · have e1 : cl ((p : Int) - 2) (spell (t1 ++ .esc c :: t2)).length = (spell (t1 ++ .esc c :: t2)).length - 1 := by unfold cl; rw [hp, h0]; simp; omega
        have e2 : cl ((p : Int) + 1) (spell (t1 ++ .esc c :: t2)).length = 2 := by unfold cl; rw [hp, h0]; simp; omega
        have := congrArg List.length h
        simp only [sl, Option.elim, e1, e2] at this
        simp at this
        omega
      · have e1 : (p : Int) - 2 = (((spell t1).length - 1 : Nat) : Int) := by omega
        have e2 : (p : Int) + 1 = (((spell t1).length + 2 : Nat) : Int) := by omega
        rw [e1, e2, sl_nn] at h
        have h1 := congrArg (fun x : List Nat => x.getD 1 0) h
        simp only [List.getD_eq_getElem?_getD] at h1
        rw [List.getElem?_take, if_pos (by omega), List.getElem?_drop, ← List.getD_eq_getElem?_getD, hW, getD_at _ _ _ 0 (by omega)] at h1
        exact absurd (show (61 : Nat) = 51 from h1) (by decide)
    have hsil : silentP (spell (t1 ++ .esc c :: t2)) (decide ((Tk.esc c).sp.length = 3) && decide ((0 : Nat) < 1)) p 61 = false := by
      rw [hE, silent_eq hE3, hgp, beq_eq_false_iff_ne]
      intro e
      exact hx_ne (c / 16) (by omega) 61 hs7 (by decide) (List.cons.inj e).1
    have mk := fun {e ke : Nat} {v1 mid : List Nat} => @flip_mk t1 t2 (.esc c) 1 61 e ke p v1 mid
    rw [hset, hsil] at mk
    simp only [show ((Tk.esc c).sp ++ spell t2).drop (1 + 1) = hexU (c % 16) :: spell t2 from rfl, show ((Tk.esc c).sp ++ spell t2).drop (1 + 2) = spell t2 from rfl, show (hexU (c % 16) :: spell t2).take 1 = [hexU (c % 16)] from rfl] at mk
    have hraw : ¬ hex2 (61 :: hexU (c % 16) :: spell t2) = true := by
      intro h; unfold hex2 at h; simp only [Bool.and_eq_true] at h
      exact absurd (show isHex 61 = true from h.1.2) (by decide)
    have hL10 : ¬ [hexU (c % 16)] = [10] := fun e => b4 (List.cons.inj e).1
    by_cases hF : fig ((spell t2).take 1) = true
    · obtain ⟨b, r, e, hb⟩ := fig2 hF
      obtain ⟨t3, rfl, e3⟩ := head_lit ok2 e (isHex_ne hb).1
      obtain ⟨d3, b3'⟩ := dec_end (ts := t3) (fun t ht => ok2 t (.tail _ ht))
      have hsp : spell (.lit b :: t3) = b :: spell t3 := rfl
      have h2 : hex2 (hexU (c % 16) :: spell (.lit b :: t3)) = true := by
        unfold hex2
        show (decide _ && isHex (hexU (c % 16)) && isHex b) = true
        rw [b2', hb, hsp]; simp
      refine ⟨_, _, _, mk (e := 1) (v1 := valu t1) (mid := [61, 16 * hv (hexU (c % 16)) + hv b]) hG hwl htl (by show 1 < 3; decide) hp a4 hs7 hvt rfl (by simp) ?_ (.inr (.inl ⟨trivial, ⟨by rw [fig_one]; exact b2', hF⟩, by simp, by simp [spell, Tk.sp, quoteC], by simp [spell, Tk.sp, quoteC], rfl⟩)) ?_⟩
      · rw [dec_raw (by simp) (by show (61 : Nat) ≠ 10; decide) hraw, bare_raw (by simp) (by show (61 : Nat) ≠ 10; decide) hraw, dec_hex h2, bare_hex h2, show (hexU (c % 16) :: spell (.lit b :: t3)).drop 2 = spell t3 from rfl, d3, b3']
        show (if _ then _ else _) = _
        rw [if_neg (by simp)]
        show _ = valu t1 ++ [61, val2 (hexU (c % 16) :: spell (.lit b :: t3))] ++ valu t3
        simp
      · rw [hval]
        have : (valu t1 ++ [61, 16 * hv (hexU (c % 16)) + hv b] ++ valu ((Tk.lit b :: t3).drop 1) == valu t1 ++ c :: valu (.lit b :: t3)) = false := by
          rw [beq_eq_false_iff_ne]
          intro e
          rw [show (Tk.lit b :: t3).drop 1 = t3 from rfl, valu_cons] at e
          simp [Tk.val] at e
          obtain ⟨e1, e2⟩ := e
          have hb' := hexL_fact b (isHex_mem hb)
          rw [b1] at e2
          subst e1
          omega
        rw [this]; rfl
    · have hx : ¬ hex2 (hexU (c % 16) :: spell t2) = true := by
        intro h
        have := (hex2_fig _).mp h
        exact hF this.2
      refine ⟨_, _, _, mk (e := 0) (v1 := valu t1) (mid := [61, 61, hexU (c % 16)]) hG hwl htl (by show 1 < 3; decide) hp a4 hs7 hvt rfl (by simp) ?_ (.inr (.inr (.inr (.inr ⟨trivial, fun h => hF h.2, hL10, (fun h => by have := h.1; cases this), rfl, rfl⟩)))) ?_⟩
      · rw [dec_raw (by simp) (by show (61 : Nat) ≠ 10; decide) hraw, bare_raw (by simp) (by show (61 : Nat) ≠ 10; decide) hraw, dec_raw (by simp) (show (hexU (c % 16) :: spell t2).getD 0 0 ≠ 10 from b4) hx, bare_raw (by simp) (show (hexU (c % 16) :: spell t2).getD 0 0 ≠ 10 from b4) hx, dec_lit b3, bare_lit b3, d2, b2]
        simp
      · rw [hval, ne_len]
        · rfl
        · simp; try omega
  · have hesc : silentP (spell (t1 ++ .esc c :: t2)) (decide ((Tk.esc c).sp.length = 3) && decide ((0 : Nat) < 1)) p s = (([lowC s] : List Nat) == [lowC (hexU (c / 16))]) := by
      rw [hE, silent_ne hs, hgp]; rfl
    by_cases hh : isHex s = true
    · have h2 : hex2 (s :: hexU (c % 16) :: spell t2) = true := by
        unfold hex2
        show (decide _ && isHex s && isHex (hexU (c % 16))) = true
        rw [b2', hh]; simp
      refine ⟨_, _, _, flip_mk (tk := .esc c) (j := 1) (e := 0) (v1 := valu t1) (mid := [16 * hv s + hv (hexU (c % 16))]) hG hwl htl (by show 1 < 3; decide) hp a4 hs7 hvt rfl (by simp) ?_ (.inl ⟨hs, rfl, rfl⟩) ?_⟩
      · rw [hset, dec_hex h2, bare_hex h2, show (s :: hexU (c % 16) :: spell t2).drop 2 = spell t2 from rfl, d2, b2, if_neg (by simp)]
        show _ = valu t1 ++ [val2 (s :: hexU (c % 16) :: spell t2)] ++ valu t2
        simp
      · rw [hesc, hval, show t2.drop 0 = t2 from rfl, mid_eq, beq_iff_eq, Bool.eq_iff_iff, beq_iff_eq, beq_iff_eq, b1]
        have := hx_eq (c / 16) (by omega) s hs7 hsH hh
        constructor
        · intro h; rw [this.mp (by omega)]
        · intro h; have := this.mpr (List.cons.inj h).1; omega
    · have hh' : isHex s = false := by simpa using hh
      have hx : ¬ hex2 (s :: hexU (c % 16) :: spell t2) = true := by
        intro h; unfold hex2 at h; simp only [Bool.and_eq_true] at h
        exact hh h.1.2
      have hs10 : s ≠ 10 := (signs7_ok s hs7).2.2.1
      refine ⟨_, _, _, flip_mk (tk := .esc c) (j := 1) (e := 0) (v1 := valu t1) (mid := [61, s, hexU (c % 16)]) hG hwl htl (by show 1 < 3; decide) hp a4 hs7 hvt rfl (by simp) ?_ (.inl ⟨hs, rfl, rfl⟩) ?_⟩
      · rw [hset, dec_raw (by simp) (show (s :: hexU (c % 16) :: spell t2).getD 0 0 ≠ 10 from hs10) hx, bare_raw (by simp) (show (s :: hexU (c % 16) :: spell t2).getD 0 0 ≠ 10 from hs10) hx, dec_lit hs, bare_lit hs, dec_lit b3, bare_lit b3, d2, b2]
        simp
      · have h1 : (([lowC s] : List Nat) == [lowC (hexU (c / 16))]) = false := by
          rw [beq_eq_false_iff_ne]; intro e; exact hx_ne (c / 16) (by omega) s hs7 hh' (List.cons.inj e).1
        rw [hesc, h1, hval, ne_len]
        · rfl
        · simp; try omega
end
end Mine
end

section
set_option maxRecDepth 100000
set_option linter.unusedVariables false
set_option autoImplicit false
namespace Mine
section
variable {t1 t2 : List Tk} {s p c : Nat}

theorem flip_esc2 (hG : Good (t1 ++ .esc c :: t2)) (hwl : (spell (t1 ++ .esc c :: t2)).length ≤ 10000) (htl : (valu (t1 ++ .esc c :: t2)).length ≤ 10000)
    (hp : p = (spell t1).length + 2) (hs7 : s ∈ signs7) (hsL : s ≠ hexU (c % 16)) : ∃ o la ke, FlipF (valu (t1 ++ .esc c :: t2)) (t1 ++ .esc c :: t2) p s o la ke := by
  have hc := (hG.ok (.esc c) (by simp)).1
  have ok2 : ∀ t ∈ t2, t.ok := fun t ht => hG.ok t (by simp [ht])
  obtain ⟨d2, b2⟩ := dec_end ok2
  have hvt : (valu (t1 ++ .esc c :: t2)).take (valu t1).length = valu t1 := by rw [valu_app, List.take_left']; rfl
  have hval : valu (t1 ++ .esc c :: t2) = valu t1 ++ c :: valu t2 := by rw [valu_app, valu_cons]; rfl
  obtain ⟨a1, a2, a3, a4⟩ := hx_hv (c / 16) (by omega)
  obtain ⟨b1, b2', b3, b4⟩ := hx_hv (c % 16) (by omega)
  have hW : spell (t1 ++ .esc c :: t2) = spell t1 ++ (61 :: hexU (c / 16) :: hexU (c % 16) :: spell t2) := by rw [spell_app, spell_cons]; rfl
  have hgp : (spell (t1 ++ .esc c :: t2)).getD p 0 = hexU (c % 16) := by rw [hW, getD_at _ _ p 2 hp]; rfl
  have hset : (Tk.esc c).sp.set 2 s ++ spell t2 = 61 :: hexU (c / 16) :: s :: spell t2 := rfl
  have hE : (decide ((Tk.esc c).sp.length = 3) && decide ((0 : Nat) < 2)) = true := rfl
  by_cases hs : s = 61
  · subst hs
    have hA : aft (spell (t1 ++ .esc c :: t2)) p = (spell t2).take 1 := by
      unfold aft; rw [hW, drop_at _ _ (p + 1) 3 (by omega)]; rfl
    have hB : fur (spell (t1 ++ .esc c :: t2)) p = ((spell t2).drop 1).take 1 := by
      unfold fur; rw [hW, drop_at _ _ (p + 2) 4 (by omega)]; rfl
    have hslice : sl (spell (t1 ++ .esc c :: t2)) (some ((p : Int) - 2)) (some ((p : Int) + 1)) = [61, hexU (c / 16), hexU (c % 16)] := by
      have e1 : (p : Int) - 2 = (((spell t1).length : Nat) : Int) := by omega
      have e2 : (p : Int) + 1 = (((spell t1).length + 3 : Nat) : Int) := by omega
      rw [e1, e2, sl_nn, show (spell t1).length + 3 - (spell t1).length = 3 by omega, hW, drop_at _ _ (spell t1).length 0 (by omega)]; rfl
    have h3d : ([61, hexU (c / 16), hexU (c % 16)] = [61, 51, 68]) ↔ c = 61 := by
      have h1 := hx_51 (c / 16) (by omega)
      have h2 := hx_68 (c % 16) (by omega)
      constructor
      · intro e
        simp only [List.cons.injEq, and_true, true_and] at e
        have := h1.mp e.1; have := h2.mp e.2; omega
      · intro e
        rw [h1.mpr (by omega), h2.mpr (by omega)]
    have hsil : silentP (spell (t1 ++ .esc c :: t2)) (decide ((Tk.esc c).sp.length = 3) && decide ((0 : Nat) < 2)) p 61 = (decide (c = 61) && (((spell t2).take 1 == [51]) && ((((spell t2).drop 1).take 1 != []) && (lit "0123456789").contains ((((spell t2).drop 1).take 1).getD 0 0)))) := by
      rw [hE]
      by_cases h61 : c = 61
      · rw [silent_yes (by rw [hslice]; exact h3d.mpr h61), hA, hB, decide_eq_true h61, Bool.true_and]
      · rw [silent_eq (by rw [hslice]; exact fun e => h61 (h3d.mp e)), hgp, decide_eq_false h61, Bool.false_and, beq_eq_false_iff_ne]
        intro e
        exact hx_ne (c % 16) (by omega) 61 hs7 (by decide) (List.cons.inj e).1
    have mk := fun {e ke : Nat} {v1 mid : List Nat} => @flip_mk t1 t2 (.esc c) 2 61 e ke p v1 mid
    rw [hset, hsil] at mk
    simp only [show ((Tk.esc c).sp ++ spell t2).drop (2 + 1) = spell t2 from rfl, show ((Tk.esc c).sp ++ spell t2).drop (2 + 2) = (spell t2).drop 1 from rfl] at mk
    have hraw : ¬ hex2 (hexU (c / 16) :: 61 :: spell t2) = true := by
      intro h; unfold hex2 at h; simp only [Bool.and_eq_true] at h
      exact absurd (show isHex 61 = true from h.2) (by decide)
    have e1 : dec (61 :: hexU (c / 16) :: 61 :: spell t2) = 61 :: hexU (c / 16) :: dec (61 :: spell t2) := by
      rw [dec_raw (by simp) (show (hexU (c / 16) :: 61 :: spell t2).getD 0 0 ≠ 10 from a4) hraw, dec_lit a3]
    have e2 : bare (61 :: hexU (c / 16) :: 61 :: spell t2) = bare (61 :: spell t2) := by
      rw [bare_raw (by simp) (show (hexU (c / 16) :: 61 :: spell t2).getD 0 0 ≠ 10 from a4) hraw, bare_lit a3]
    rw [e1, e2] at mk
    by_cases hF : fig ((spell t2).take 1) = true ∧ fig (((spell t2).drop 1).take 1) = true
    · obtain ⟨a, r, e, ha⟩ := fig2 hF.1
      obtain ⟨t3, rfl, e3⟩ := head_lit ok2 e (isHex_ne ha).1
      have hF2 := hF.2
      rw [e, show (a :: r).drop 1 = r from rfl] at hF2
      obtain ⟨b, r', e', hb⟩ := fig2 hF2
      rw [e'] at e3
      obtain ⟨t4, rfl, e4⟩ := head_lit (fun t ht => ok2 t (.tail _ ht)) e3 (isHex_ne hb).1
      have h2 := (hex2_fig _).mpr hF
      obtain ⟨d4, b4'⟩ := dec_end (ts := t4) (fun t ht => ok2 t (.tail _ (.tail _ ht)))
      have hsp : spell (.lit a :: .lit b :: t4) = a :: b :: spell t4 := rfl
      refine ⟨_, _, _, mk (e := 2) (v1 := valu t1) (mid := [61, hexU (c / 16), 16 * hv a + hv b]) hG hwl htl (by show 2 < 3; decide) hp b4 hs7 hvt rfl (by simp) ?_ (.inr (.inl ⟨trivial, hF, by simp, by simp [spell, Tk.sp, quoteC], by simp [spell, Tk.sp, quoteC], rfl⟩)) ?_⟩
      · rw [dec_hex h2, bare_hex h2, hsp, show (a :: b :: spell t4).drop 2 = spell t4 from rfl, d4, b4', if_neg (by simp)]
        show _ = valu t1 ++ [61, hexU (c / 16), val2 (a :: b :: spell t4)] ++ valu t4
        simp
      · rw [hval, hsp]
        obtain ⟨hb1, hb2, hb3⟩ := hexL_fact b (isHex_mem hb)
        have h51 := hx_51 (c / 16) (by omega)
        have h3 : (valu t1 ++ [61, hexU (c / 16), 16 * hv a + hv b] ++ valu ((Tk.lit a :: .lit b :: t4).drop 2) == valu t1 ++ c :: valu (.lit a :: .lit b :: t4)) = decide (c = 61 ∧ a = 51 ∧ 48 + hv b = b) := by
          rw [Bool.eq_iff_iff, beq_iff_eq, decide_eq_true_eq, show (Tk.lit a :: Tk.lit b :: t4).drop 2 = t4 from rfl, show valu (.lit a :: .lit b :: t4) = a :: b :: valu t4 from rfl]
          simp only [List.append_assoc, List.cons_append, List.nil_append, List.append_cancel_left_eq, List.cons.injEq, and_true]
          constructor
          · rintro ⟨q1, q2, q3⟩
            have q4 : hexU (c / 16) = 51 := h51.mpr (by omega)
            have q5 : a = 51 := by omega
            subst q5
            have : hv 51 = 3 := by decide
            exact ⟨q1.symm, rfl, by omega⟩
          · rintro ⟨q1, q2, q3⟩
            have q4 : hexU (c / 16) = 51 := h51.mpr (by omega)
            subst q2
            have : hv 51 = 3 := by decide
            exact ⟨q1.symm, q4, by omega⟩
        have h4 : ((a :: b :: spell t4).take 1 == [51]) = decide (a = 51) := by
          rw [Bool.eq_iff_iff]; simp
        have h5 : (((a :: b :: spell t4).drop 1).take 1 != []) = true := rfl
        have h6 : (((a :: b :: spell t4).drop 1).take 1).getD 0 0 = b := rfl
        rw [h3, h4, h5, h6, Bool.true_and, beq_iff_eq, Bool.eq_iff_iff]
        simp only [decide_eq_true_eq, Bool.and_eq_true]
        rw [hb3]
    · have hx : ¬ hex2 (spell t2) = true := fun h => hF ((hex2_fig _).mp h)
      have hns : ((spell t2).take 1 == [51] && (((spell t2).drop 1).take 1 != [] && (lit "0123456789").contains ((((spell t2).drop 1).take 1).getD 0 0))) = false := by
        rw [Bool.eq_false_iff]
        intro h
        simp only [Bool.and_eq_true, beq_iff_eq, bne_iff_ne, ne_eq] at h
        refine hF ⟨by rw [h.1]; decide, ?_⟩
        cases hr : (spell t2).drop 1 with
        | nil => rw [hr] at h; exact absurd rfl h.2.1
        | cons b r =>
          rw [hr] at h
          have hb : (lit "0123456789").contains b = true := h.2.2
          show fig [b] = true
          rw [fig_one]
          have : ∀ x ∈ lit "0123456789", isHex x = true := by decide +kernel
          exact this b (by simpa using hb)
      rw [hns, Bool.and_false] at mk
      by_cases hN : (spell t2).take 1 = [10]
      · obtain ⟨r, e⟩ : ∃ r, spell t2 = 10 :: r := by
          cases h : spell t2 with
          | nil => rw [h] at hN; cases hN
          | cons a r => rw [h] at hN; cases hN; exact ⟨r, rfl⟩
        obtain ⟨t3, rfl, e3⟩ := head_lit ok2 e (by decide)
        obtain ⟨d3, b3'⟩ := dec_end (ts := t3) (fun t ht => ok2 t (.tail _ ht))
        refine ⟨_, _, _, mk (e := 1) (v1 := valu t1) (mid := [61, hexU (c / 16)]) hG hwl htl (by show 2 < 3; decide) hp b4 hs7 hvt rfl (by simp) ?_ (.inr (.inr (.inl ⟨trivial, hF, hN, rfl, rfl⟩))) ?_⟩
        · rw [show spell (.lit 10 :: t3) = 10 :: spell t3 from rfl, dec_soft, bare_soft, d3, b3', if_neg (by simp)]
          simp
        · have : (valu t1 ++ [61, hexU (c / 16)] ++ valu ((Tk.lit 10 :: t3).drop 1) == valu (t1 ++ .esc c :: .lit 10 :: t3)) = false := by
            rw [hval, beq_eq_false_iff_ne, show (Tk.lit 10 :: t3).drop 1 = t3 from rfl, show valu (.lit 10 :: t3) = 10 :: valu t3 from rfl]
            intro e
            simp only [List.append_assoc, List.cons_append, List.nil_append, List.append_cancel_left_eq, List.cons.injEq, and_true] at e
            exact a4 e.2
          rw [this]; rfl
      · by_cases hY : spell t2 = []
        · have ht2 : t2 = [] := by
            cases t2 with
            | nil => rfl
            | cons t r =>
              rw [spell_cons] at hY
              have h0 := (List.append_eq_nil_iff.mp hY).1
              have := sp_pos t
              rw [h0] at this
              simp at this
          subst ht2
          refine ⟨_, _, _, mk (e := 0) (v1 := valu t1) (mid := [61, hexU (c / 16)]) hG hwl htl (by show 2 < 3; decide) hp b4 hs7 hvt rfl (by simp) ?_ (.inr (.inr (.inr (.inr ⟨trivial, hF, hN, (fun h => absurd h.2.1 (by show ¬ 3 = 1; decide)), rfl, rfl⟩)))) ?_⟩
          · rw [show spell [] = [] from rfl, dec_one, if_neg]
            · simp [valu]
            · intro h
              have := h.2
              rw [List.getLast?_append] at this
              simp at this
              exact a4 this
          · rw [hval, ne_len]
            · rfl
            · simp [valu]
        · have h10 : (spell t2).getD 0 0 ≠ 10 := by
            intro h
            cases e : spell t2 with
            | nil => exact hY e
            | cons a r => rw [e] at h hN; exact hN (by rw [show a = 10 from h]; rfl)
          refine ⟨_, _, _, mk (e := 0) (v1 := valu t1) (mid := [61, hexU (c / 16), 61]) hG hwl htl (by show 2 < 3; decide) hp b4 hs7 hvt rfl (by simp) ?_ (.inr (.inr (.inr (.inr ⟨trivial, hF, hN, (fun h => absurd h.2.1 (by show ¬ 3 = 1; decide)), rfl, rfl⟩)))) ?_⟩
          · rw [dec_raw hY h10 hx, bare_raw hY h10 hx, d2, b2, if_neg (by simp)]
            simp
          · rw [hval, ne_len]
            · rfl
            · simp; try omega
  · have hesc : silentP (spell (t1 ++ .esc c :: t2)) (decide ((Tk.esc c).sp.length = 3) && decide ((0 : Nat) < 2)) p s = (([lowC s] : List Nat) == [lowC (hexU (c % 16))]) := by
      rw [hE, silent_ne hs, hgp]; rfl
    by_cases hh : isHex s = true
    · have h2 : hex2 (hexU (c / 16) :: s :: spell t2) = true := by
        unfold hex2
        show (decide _ && isHex (hexU (c / 16)) && isHex s) = true
        rw [a2, hh]; simp
      refine ⟨_, _, _, flip_mk (tk := .esc c) (j := 2) (e := 0) (v1 := valu t1) (mid := [16 * hv (hexU (c / 16)) + hv s]) hG hwl htl (by show 2 < 3; decide) hp b4 hs7 hvt rfl (by simp) ?_ (.inl ⟨hs, rfl, rfl⟩) ?_⟩
      · rw [hset, dec_hex h2, bare_hex h2, show (hexU (c / 16) :: s :: spell t2).drop 2 = spell t2 from rfl, d2, b2, if_neg (by simp)]
        show _ = valu t1 ++ [val2 (hexU (c / 16) :: s :: spell t2)] ++ valu t2
        simp
      · rw [hesc, hval, show t2.drop 0 = t2 from rfl, mid_eq, beq_iff_eq, Bool.eq_iff_iff, beq_iff_eq, beq_iff_eq, a1]
        have := hx_eq (c % 16) (by omega) s hs7 hsL hh
        constructor
        · intro h; rw [this.mp (by omega)]
        · intro h; have := this.mpr (List.cons.inj h).1; omega
    · have hh' : isHex s = false := by simpa using hh
      have hx : ¬ hex2 (hexU (c / 16) :: s :: spell t2) = true := by
        intro h; unfold hex2 at h; simp only [Bool.and_eq_true] at h
        exact hh h.2
      refine ⟨_, _, _, flip_mk (tk := .esc c) (j := 2) (e := 0) (v1 := valu t1) (mid := [61, hexU (c / 16), s]) hG hwl htl (by show 2 < 3; decide) hp b4 hs7 hvt rfl (by simp) ?_ (.inl ⟨hs, rfl, rfl⟩) ?_⟩
      · rw [hset, dec_raw (by simp) (show (hexU (c / 16) :: s :: spell t2).getD 0 0 ≠ 10 from a4) hx, bare_raw (by simp) (show (hexU (c / 16) :: s :: spell t2).getD 0 0 ≠ 10 from a4) hx, dec_lit a3, bare_lit a3, dec_lit hs, bare_lit hs, d2, b2]
        simp
      · have h1 : (([lowC s] : List Nat) == [lowC (hexU (c % 16))]) = false := by
          rw [beq_eq_false_iff_ne]; intro e; exact hx_ne (c % 16) (by omega) s hs7 hh' (List.cons.inj e).1
        rw [hesc, h1, hval, ne_len]
        · rfl
        · simp; try omega
end

theorem split_at : ∀ (ts : List Tk) (p : Nat), p < (spell ts).length → ∃ t1 tk t2 j, ts = t1 ++ tk :: t2 ∧ p = (spell t1).length + j ∧ j < tk.sp.length
  | [], p, h => by simp [spell] at h
  | t :: r, p, h => by
    by_cases h1 : p < t.sp.length
    · exact ⟨[], t, r, p, rfl, by simp [spell], h1⟩
    · rw [spell_cons, List.length_append] at h
      obtain ⟨t1, tk, t2, j, e1, e2, e3⟩ := split_at r (p - t.sp.length) (by omega)
      refine ⟨t :: t1, tk, t2, j, by rw [e1]; rfl, ?_, e3⟩
      rw [spell_cons, List.length_append]; omega

theorem flip_all {ts : List Tk} (hG : Good ts) (hwl : (spell ts).length ≤ 10000) (htl : (valu ts).length ≤ 10000) {p s : Nat} (hp : p < (spell ts).length) (hp10 : (spell ts).getD p 0 ≠ 10) (hs7 : s ∈ signs7) (hs : s ≠ (spell ts).getD p 0) :
    ∃ o la ke, FlipF (valu ts) ts p s o la ke := by
  obtain ⟨t1, tk, t2, j, rfl, hj, hjl⟩ := split_at ts p hp
  have hg : (spell (t1 ++ tk :: t2)).getD p 0 = tk.sp.getD j 0 := by
    rw [spell_app, spell_cons, getD_at _ _ p j hj, List.getD_eq_getElem?_getD, List.getD_eq_getElem?_getD, List.getElem?_append_left hjl]
  rw [hg] at hp10 hs
  cases tk with
  | lit c =>
    have h0 : j = 0 := by simp [Tk.sp] at hjl; exact hjl
    subst h0
    exact flip_lit hG hwl htl hj hp10 hs7 hs
  | soft =>
    have h0 : j = 0 ∨ j = 1 := by simp [Tk.sp] at hjl; omega
    rcases h0 with rfl | rfl
    · exact flip_soft hG hwl htl hj hs7 hs
    · exact absurd rfl hp10
  | esc c =>
    have h0 : j = 0 ∨ j = 1 ∨ j = 2 := by simp [Tk.sp, quoteC] at hjl; omega
    rcases h0 with rfl | rfl | rfl
    · exact flip_esc0 hG hwl htl hj hs7 hs
    · exact flip_esc1 hG hwl htl hj hs7 hs
    · exact flip_esc2 hG hwl htl hj hs7 hs
end Mine
end

section
set_option maxRecDepth 100000
set_option linter.unusedVariables false
set_option autoImplicit false
namespace Mine

def glue (ls : List (List Nat)) : List Nat := ls.flatMap (· ++ [10])
theorem glue_app (a b : List (List Nat)) : glue (a ++ b) = glue a ++ glue b := by simp [glue]
theorem glue_one (x : List Nat) : glue [x] = x ++ [10] := by simp [glue]
theorem glue_join : ∀ ls : List (List Nat), ls ≠ [] → glue ls = joinL [10] ls ++ [10]
  | [], h => absurd rfl h
  | [x], _ => by simp [glue, joinL]
  | x :: y :: r, _ => by
    have := glue_join (y :: r) (by simp)
    rw [show x :: y :: r = [x] ++ (y :: r) from rfl, glue_app, this, glue_one]
    simp [joinL]

/-- a sign of a line: no line end, no soft break -/
def Pl (t : Tk) : Prop := t.ok ∧ t ≠ .soft ∧ t ≠ .lit 10
theorem bnd1 : ∀ (b : List Tk) (k : Nat), (∀ t ∈ b, Pl t) → (spell b).getD k 0 = 61 → ∃ c1 b1, b = c1 ++ b1 ∧ (spell c1).length = k
  | [], k, _, h => by simp [spell] at h
  | t :: r, k, hp, h => by
    have ht := hp t (.head _)
    have hr : ∀ t ∈ r, Pl t := fun t h => hp t (.tail _ h)
    by_cases h0 : k = 0
    · exact ⟨[], t :: r, rfl, by rw [h0]; rfl⟩
    · by_cases hk : t.sp.length ≤ k
      · rw [spell_cons, getD_at _ _ k (k - t.sp.length) (by omega)] at h
        obtain ⟨c1, b1, e1, e2⟩ := bnd1 r _ hr h
        exact ⟨t :: c1, b1, by rw [e1]; rfl, by rw [spell_cons, List.length_append]; omega⟩
      · cases t with
        | lit c => simp [Tk.sp] at hk; omega
        | soft => exact absurd rfl ht.2.1
        | esc c =>
          have hc := ht.1.1
          have a := (hx_hv (c / 16) (by omega)).2.2.1
          have b := (hx_hv (c % 16) (by omega)).2.2.1
          have hk3 : k = 1 ∨ k = 2 := by simp [Tk.sp, quoteC] at hk; omega
          rcases hk3 with rfl | rfl
          · exact absurd h a
          · exact absurd h b
theorem bnd2 : ∀ (b : List Tk) (k : Nat), (∀ t ∈ b, Pl t) → k ≤ (spell b).length → (1 ≤ k → (spell b).getD (k - 1) 0 ≠ 61) → (2 ≤ k → (spell b).getD (k - 2) 0 ≠ 61) → ∃ c1 b1, b = c1 ++ b1 ∧ (spell c1).length = k
  | [], k, _, h, _, _ => ⟨[], [], rfl, by simp [spell] at h ⊢; omega⟩
  | t :: r, k, hp, h, h1, h2 => by
    have ht := hp t (.head _)
    have hr : ∀ t ∈ r, Pl t := fun t h => hp t (.tail _ h)
    by_cases h0 : k = 0
    · exact ⟨[], t :: r, rfl, by rw [h0]; rfl⟩
    · by_cases hk : t.sp.length ≤ k
      · rw [spell_cons] at h h1 h2
        have g : ∀ d, t.sp.length ≤ d → (t.sp ++ spell r).getD d 0 = (spell r).getD (d - t.sp.length) 0 := fun d hd => getD_at _ _ _ _ (by omega)
        obtain ⟨c1, b1, e1, e2⟩ := bnd2 r (k - t.sp.length) hr (by rw [List.length_append] at h; omega)
          (fun hh => by have := h1 (by omega); rw [g _ (by omega)] at this; rw [show k - t.sp.length - 1 = k - 1 - t.sp.length by omega]; exact this)
          (fun hh => by have := h2 (by omega); rw [g _ (by omega)] at this; rw [show k - t.sp.length - 2 = k - 2 - t.sp.length by omega]; exact this)
        exact ⟨t :: c1, b1, by rw [e1]; rfl, by rw [spell_cons, List.length_append]; omega⟩
      · cases t with
        | lit c => simp [Tk.sp] at hk; omega
        | soft => exact absurd rfl ht.2.1
        | esc c =>
          have hk3 : k = 1 ∨ k = 2 := by simp [Tk.sp, quoteC] at hk; omega
          rcases hk3 with rfl | rfl
          · exact absurd rfl (h1 (by omega))
          · exact absurd rfl (h2 (by omega))

theorem wrap_tok (m : Nat) (lt : List Tk) (hpl : ∀ t ∈ lt, Pl t) : ∀ (n : Nat) (a b : List Tk) (ls : List (List Nat)), lt = a ++ b → (spell lt).length - (spell a).length ≤ n →
    ∃ c b' mid, b = c ++ b' ∧ (wrapL m (spell lt) (spell a).length ls).1 = (spell (a ++ c)).length ∧ glue (wrapL m (spell lt) (spell a).length ls).2 = glue ls ++ spell mid ∧ valu mid = valu c ∧
      (∀ t ∈ mid, t.ok ∧ t ≠ .lit 10) ∧ (mid = [] ∨ ∃ mid', mid = mid' ++ [.soft]) ∧ (b ≠ [] → b' ≠ []) ∧ (spell mid).length ≤ 3 * (spell c).length := by
  intro n
  induction n with
  | zero =>
    intro a b ls e hn
    rw [wrapL_un, if_neg (by omega)]
    exact ⟨[], b, [], rfl, by simp, by simp [spell], rfl, by simp, .inl rfl, id, (by show (0 : Nat) ≤ 3 * 0; decide)⟩
  | succ n ih =>
    intro a b ls e hn
    rw [wrapL_un]
    by_cases hs : (spell a).length + 1 + (m + 4) ≤ (spell lt).length
    · rw [if_pos hs]
      have hsp : spell lt = spell a ++ spell b := by rw [e, spell_app]
      have hg : ∀ k, (spell lt).getD ((spell a).length + k) 0 = (spell b).getD k 0 := fun k => by rw [hsp]; exact getD_at _ _ _ _ rfl
      have hplb : ∀ t ∈ b, Pl t := fun t ht => hpl t (by rw [e]; simp [ht])
      have hlb : (spell lt).length = (spell a).length + (spell b).length := by rw [hsp, List.length_append]
      have hcut : ∃ c1 b1, b = c1 ++ b1 ∧ cutAt m (spell lt) (spell a).length = (spell a).length + (spell c1).length := by
        unfold cutAt
        rw [Nat.add_assoc, Nat.add_assoc, Nat.add_assoc, hg, hg]
        split
        · rename_i h1
          obtain ⟨c1, b1, e1, e2⟩ := bnd1 b _ hplb h1
          exact ⟨c1, b1, e1, by omega⟩
        · rename_i h1
          split
          · rename_i h2
            obtain ⟨c1, b1, e1, e2⟩ := bnd1 b _ hplb h2
            exact ⟨c1, b1, e1, by omega⟩
          · rename_i h2
            obtain ⟨c1, b1, e1, e2⟩ := bnd2 b (m + 3) hplb (by omega) (fun _ => h2) (fun _ => h1)
            exact ⟨c1, b1, e1, by omega⟩
      have hc1 := cutAt_lt m (spell lt) (spell a).length
      have hc2 := cutAt_le m (spell lt) (spell a).length
      obtain ⟨c1, b1, e1, e2⟩ := hcut
      rw [e2] at hc1 hc2 ⊢
      have hac : (spell a).length + (spell c1).length = (spell (a ++ c1)).length := by rw [spell_app, List.length_append]
      have hchunk : ((spell lt).drop (spell a).length).take ((spell a).length + (spell c1).length - (spell a).length) = spell c1 := by
        rw [hsp, List.drop_left', Nat.add_sub_cancel_left, e1, spell_app, List.take_left']
        · rfl
        · rfl
      rw [hchunk, hac]
      obtain ⟨c2, b', mid, f1, f2, f3, f4, f5, f6, f7, f8⟩ := ih (a ++ c1) b1 (ls ++ [spell c1 ++ [61]]) (by rw [e, e1, List.append_assoc]) (by omega)
      have hb1 : b1 ≠ [] := by
        rintro rfl
        have : (spell lt).length = (spell (a ++ c1)).length := by rw [e, e1, List.append_nil]
        omega
      refine ⟨c1 ++ c2, b', c1 ++ [.soft] ++ mid, by rw [e1, f1, List.append_assoc], by rw [f2, List.append_assoc], ?_, ?_, ?_, ?_, fun _ => f7 hb1, ?_⟩
      · rw [f3, glue_app, glue_one, spell_app, spell_app]; simp [spell, Tk.sp]
      · rw [valu_app, valu_app, f4, valu_app]; simp [valu, Tk.val]
      · intro t ht
        rw [List.append_assoc] at ht
        rcases List.mem_append.mp ht with h | h
        · have := hplb t (by rw [e1]; simp [h]); exact ⟨this.1, this.2.2⟩
        · rcases List.mem_append.mp h with h | h
          · rw [List.mem_singleton.mp h]; exact ⟨trivial, by simp⟩
          · exact f5 t h
      · rcases f6 with rfl | ⟨mid', rfl⟩
        · exact .inr ⟨c1, by simp⟩
        · exact .inr ⟨c1 ++ [.soft] ++ mid', by simp⟩
      · rw [spell_app, spell_app, spell_app]
        have : (spell [Tk.soft]).length = 2 := rfl
        simp only [List.length_append, this]
        omega
    · rw [if_neg hs]
      exact ⟨[], b, [], rfl, by simp, by simp [spell], rfl, by simp, .inl rfl, id, (by show (0 : Nat) ≤ 3 * 0; decide)⟩

/-- the last sign is no white one that stands for itself -/
def LW (out : List Tk) : Prop := ∀ y w, out = y ++ [Tk.lit w] → isW w = false
theorem hexU_nw : ∀ d, d < 16 → isW (hexU d) = false := by decide
theorem adj_out : ∀ (out : List Tk), (∀ t ∈ out, t.ok ∧ t ≠ .lit 10) → LW out → Adj (spell out ++ [10])
  | [], _, _ => adj_cons (fun h => by rw [isW_10] at h; cases h) adj_nil
  | t :: r, h, hl => by
    have ih := adj_out r (fun t ht => h t (.tail _ ht)) (fun y w e => hl (t :: y) w (by rw [e]; rfl))
    rw [spell_cons, List.append_assoc]
    have ht := h t (.head _)
    cases t with
    | lit c =>
      refine adj_cons (fun hw => ?_) ih
      cases r with
      | nil => rw [hl [] c rfl] at hw; cases hw
      | cons t' r' =>
        have ht' := h t' (.tail _ (.head _))
        cases t' with
        | lit c' =>
          show some c' ≠ some 10
          intro e; cases e; exact ht'.2 rfl
        | esc c' => show some 61 ≠ some 10; decide
        | soft => show some 61 ≠ some 10; decide
    | esc c =>
      have hc := ht.1.1
      exact adj_cons (fun hw => absurd hw (by decide)) (adj_cons (fun hw => by rw [hexU_nw _ (by omega)] at hw; cases hw) (adj_cons (fun hw => by rw [hexU_nw _ (by omega)] at hw; cases hw) ih))
    | soft => exact adj_cons (fun hw => absurd hw (by decide)) (adj_cons (fun hw => absurd hw (by decide)) ih)

theorem line_tok (m : Nat) (lt : List Tk) (hpl : ∀ t ∈ lt, Pl t) (ls : List (List Nat)) :
    ∃ out, glue (lineStep m ls (spell lt)) = glue ls ++ spell out ++ [10] ∧ valu out = valu lt ∧ (∀ t ∈ out, t.ok ∧ t ≠ .lit 10) ∧ LW out ∧ (spell out).length ≤ 3 * (spell lt).length + 5 := by
  obtain ⟨c, b', mid, f1, f2, f3, f4, f5, f6, f7, f8⟩ := wrap_tok m lt hpl _ [] lt ls rfl (Nat.le_refl _)
  rw [List.nil_append] at f2
  have hs0 : (spell ([] : List Tk)).length = 0 := rfl
  rw [hs0] at f2 f3
  have hL : lineStep m ls (spell lt) = (wrapL m (spell lt) 0 ls).2 ++ [lastPiece m (spell lt) (wrapL m (spell lt) 0 ls).1] := rfl
  have hsp : spell lt = spell c ++ spell b' := by rw [← spell_app, ← f1]
  rw [hL, glue_app, f3, glue_one, f2]
  have okb : ∀ t ∈ b', t.ok ∧ t ≠ .lit 10 := fun t ht => by have := hpl t (by rw [f1]; simp [ht]); exact ⟨this.1, this.2.2⟩
  have hvl : valu lt = valu c ++ valu b' := by rw [← valu_app, ← f1]
  have hmid : ∀ (z : List Tk), (∀ t ∈ z, t.ok ∧ t ≠ .lit 10) → ∀ t ∈ mid ++ z, t.ok ∧ t ≠ .lit 10 := fun z hz t ht => (List.mem_append.mp ht).elim (f5 t) (hz t)
  by_cases hW : spell lt ≠ [] ∧ isW ((spell lt).getLastD 0) = true
  · have hlt : lt ≠ [] := fun e => hW.1 (by rw [e]; rfl)
    rcases List.eq_nil_or_concat b' with e | ⟨b2, tl, e⟩
    · exact absurd e (f7 hlt)
    have e : b' = b2 ++ [tl] := by rw [e]; simp
    subst e
    have hlastc : ∀ (x : List Nat) (d : Nat), spell lt = x ++ [d] → (spell lt).getLastD 0 = d := fun x d e => by rw [e]; simp
    have htl := hpl tl (by rw [f1]; simp)
    cases tl with
    | soft => exact absurd rfl htl.2.1
    | esc d =>
      have hd := htl.1.1
      have : (spell lt).getLastD 0 = hexU (d % 16) := hlastc (spell c ++ spell b2 ++ [61, hexU (d / 16)]) _ (by rw [hsp, spell_app]; simp [spell, Tk.sp, quoteC])
      have h2 := hW.2
      rw [this, hexU_nw _ (by omega)] at h2
      cases h2
    | lit w =>
      have hline : spell lt = spell c ++ spell b2 ++ [w] := by rw [hsp, spell_app]; simp [spell, Tk.sp]
      have hlast := hlastc _ _ hline
      have hw : isW w = true := by rw [← hlast]; exact hW.2
      have hw2 : w = 32 ∨ w = 9 := by unfold isW at hw; simpa using hw
      have htk : ((spell lt).take ((spell lt).length - 1)).drop (spell c).length = spell b2 := by
        rw [hline, List.length_append, List.length_singleton, Nat.add_sub_cancel, List.take_left', List.drop_left']
        · rfl
        · rfl
      have hb2 : ∀ t ∈ b2, t.ok ∧ t ≠ .lit 10 := fun t ht => okb t (by simp [ht])
      have hlen : (spell lt).length = (spell c).length + (spell b2).length + 1 := by rw [hline]; simp; omega
      have hvl2 : valu lt = valu c ++ valu b2 ++ [w] := by rw [hvl, valu_app]; simp [valu, Tk.val]
      unfold lastPiece
      rw [if_pos hW, htk, hlast]
      have hesc : ∀ t ∈ ([Tk.esc w] : List Tk), t.ok ∧ t ≠ .lit 10 := fun t ht => by
        rw [List.mem_singleton.mp ht]; exact ⟨⟨by omega, by omega⟩, by simp⟩
      split
      · refine ⟨mid ++ (b2 ++ [.esc w]), ?_, ?_, hmid _ (fun t ht => (List.mem_append.mp ht).elim (hb2 t) (hesc t)), ?_, ?_⟩
        · simp [spell_app, spell, Tk.sp]
        · rw [valu_app, f4, valu_app, hvl2]; simp [valu, Tk.val]
        · intro y w' e
          have := congrArg List.getLast? e
          simp at this
        · rw [spell_app, spell_app]; simp [spell_cons, spell_nil, Tk.sp, quoteC]; omega
      · split
        · refine ⟨mid ++ (b2 ++ [.lit w, .soft]), ?_, ?_, hmid _ (fun t ht => (List.mem_append.mp ht).elim (hb2 t) fun h => ?_), ?_, ?_⟩
          · simp [spell_app, spell, Tk.sp]
          · rw [valu_app, f4, valu_app, hvl2]; simp [valu, Tk.val]
          · rcases List.mem_cons.mp h with rfl | h
            · exact ⟨htl.1, htl.2.2⟩
            · rw [List.mem_singleton.mp h]; exact ⟨trivial, by simp⟩
          · intro y w' e
            have := congrArg List.getLast? e
            simp at this
          · rw [spell_app, spell_app]; simp [spell_cons, spell_nil, Tk.sp, quoteC]; omega
        · refine ⟨mid ++ (b2 ++ [.soft, .esc w]), ?_, ?_, hmid _ (fun t ht => (List.mem_append.mp ht).elim (hb2 t) fun h => ?_), ?_, ?_⟩
          · simp [spell_app, spell, Tk.sp]
          · rw [valu_app, f4, valu_app, hvl2]; simp [valu, Tk.val]
          · rcases List.mem_cons.mp h with rfl | h
            · exact ⟨trivial, by simp⟩
            · exact hesc t h
          · intro y w' e
            have := congrArg List.getLast? e
            simp at this
          · rw [spell_app, spell_app]; simp [spell_cons, spell_nil, Tk.sp, quoteC]; omega
  · unfold lastPiece
    rw [if_neg hW, hsp, List.drop_left' rfl]
    refine ⟨mid ++ b', ?_, ?_, hmid _ okb, ?_, ?_⟩
    · simp [spell_app]
    · rw [valu_app, f4, hvl]
    · intro y w e
      rcases List.eq_nil_or_concat b' with eb | ⟨b2, tl, eb⟩
      · rw [eb, List.append_nil] at e
        rcases f6 with h | ⟨mid', h⟩
        · rw [h] at e; simp at e
        · rw [h] at e
          have := congrArg List.getLast? e
          simp at this
      · have eb : b' = b2 ++ [tl] := by rw [eb]; simp
        rw [eb, ← List.append_assoc] at e
        have := congrArg List.getLast? e
        simp at this
        subst this
        rw [Bool.eq_false_iff]
        intro hw
        refine hW ⟨?_, ?_⟩
        · rw [hsp, eb, spell_app]; simp [spell, Tk.sp]
        · rw [hsp, eb, spell_app]; simp [spell, Tk.sp]; exact hw
    · rw [spell_app, List.length_append, List.length_append]; omega
end Mine
end

section
set_option maxRecDepth 100000
set_option linter.unusedVariables false
set_option autoImplicit false
namespace Mine

theorem adj_join {a b : List Nat} (ha : Adj a) (hb : Adj b) (he : a = [] ∨ a.getLast? = some 10) : Adj (a ++ b) := by
  intro i c hc hw
  by_cases h1 : i < a.length
  · rw [List.getElem?_append_left h1] at hc
    by_cases h2 : i + 1 < a.length
    · rw [List.getElem?_append_left h2]; exact ha i c hc hw
    · exfalso
      rcases he with rfl | he
      · simp at h1
      · rw [List.getLast?_eq_getElem?, show a.length - 1 = i by omega, hc] at he
        cases he; rw [isW_10] at hw; cases hw
  · rw [List.getElem?_append_right (by omega)] at hc ⊢
    rw [show i + 1 - a.length = i - a.length + 1 by omega]
    exact hb _ c hc hw

def tail10 (y : List Nat) : List Nat := if y = [] ∨ y.getLast? = some 10 then [] else [10]
theorem tail10_nl (a r : List Nat) : tail10 (a ++ 10 :: r) = tail10 r := by
  unfold tail10
  cases r with
  | nil => simp
  | cons b r' =>
    have e : (a ++ 10 :: b :: r').getLast? = (b :: r').getLast? := by
      rw [List.getLast?_append]; simp [List.getLast?_cons]
    rw [e]; simp

/-- what the lines of a writing come to -/
structure Ln (acc : List Tk) : Prop where
  ok : ∀ t ∈ acc, t.ok
  adj : Adj (spell acc)
  lst : acc = [] ∨ ∃ a, acc = a ++ [.lit 10]
theorem Ln.out {out acc : List Tk} (h1 : ∀ t ∈ out, t.ok ∧ t ≠ .lit 10) (h2 : LW out) (h : Ln acc) : Ln (out ++ [.lit 10] ++ acc) := by
  have e10 : spell (out ++ [.lit 10]) = spell out ++ [10] := by rw [spell_app]; rfl
  refine ⟨?_, ?_, ?_⟩
  · intro t ht
    rcases List.mem_append.mp ht with h' | h'
    · rcases List.mem_append.mp h' with h' | h'
      · exact (h1 t h').1
      · rw [List.mem_singleton.mp h']; exact ⟨by decide, .inr (.inl rfl)⟩
    · exact h.ok t h'
  · rw [spell_app, e10]
    exact adj_join (adj_out out h1 h2) h.adj (.inr (by simp))
  · rcases h.lst with rfl | ⟨a, rfl⟩
    · exact .inr ⟨out, by simp⟩
    · exact .inr ⟨out ++ [.lit 10] ++ a, by simp⟩
theorem Ln.nil : Ln [] := ⟨by simp, adj_nil, .inl rfl⟩

theorem linesA_ne {c : Nat} (h : c ≠ 10) (cur r : List Nat) : linesA cur (c :: r) = linesA (cur ++ [c]) r := by
  conv => lhs; unfold linesA
  rw [if_neg h]
def Pm (t : Tk) : Prop := t.ok ∧ t ≠ .soft
theorem fold_tok (m : Nat) : ∀ (u cur : List Tk) (ls : List (List Nat)), (∀ t ∈ u, Pm t) → (∀ t ∈ cur, Pl t) →
    ∃ acc, glue ((linesA (spell cur) (spell u)).foldl (lineStep m) ls) = glue ls ++ spell acc ∧ valu acc = valu (cur ++ u) ++ tail10 (spell (cur ++ u)) ∧ Ln acc ∧ (spell acc).length ≤ 9 * (spell (cur ++ u)).length := by
  intro u
  induction u with
  | nil =>
    intro cur ls hu hc
    rw [spell_nil, List.append_nil]
    unfold linesA
    by_cases h : cur = []
    · subst h
      exact ⟨[], by simp [spell], by simp [valu, spell, tail10], Ln.nil, by simp [spell]⟩
    · have hne : spell cur ≠ [] := fun e => h (by
        cases cur with
        | nil => rfl
        | cons t r => rw [spell_cons] at e; have := sp_pos t; rw [(List.append_eq_nil_iff.mp e).1] at this; simp at this)
      rw [if_neg hne]
      obtain ⟨out, g1, g2, g3, g4, g5⟩ := line_tok m cur hc ls
      have hpos := List.length_pos_iff.mpr hne
      refine ⟨out ++ [.lit 10] ++ [], ?_, ?_, Ln.out g3 g4 Ln.nil, ?_⟩
      · rw [List.foldl_cons, List.foldl_nil, g1, List.append_nil, spell_app, List.append_assoc]; rfl
      · rw [List.append_nil, valu_app, g2]
        have h10 : ¬ (spell cur).getLast? = some 10 := by
          intro e
          rcases List.eq_nil_or_concat cur with e2 | ⟨y, t, e2⟩
          · exact h e2
          · have e2 : cur = y ++ [t] := by rw [e2]; simp
            have ht := hc t (by rw [e2]; simp)
            rw [e2, spell_app] at e
            cases t with
            | lit c => simp [spell, Tk.sp] at e; subst e; exact ht.2.2 rfl
            | soft => exact ht.2.1 rfl
            | esc c =>
              have := (hx_hv (c % 16) (by omega)).2.2.2
              simp [spell, Tk.sp, quoteC] at e; exact this e
        unfold tail10
        rw [if_neg (by rintro (e | e); exact hne e; exact h10 e)]; rfl
      · rw [List.append_nil, spell_app, List.length_append, show (spell [Tk.lit 10]).length = 1 from rfl]; omega
  | cons t r ih =>
    intro cur ls hu hc
    have hr : ∀ t ∈ r, Pm t := fun t h => hu t (.tail _ h)
    have ht := hu t (.head _)
    have hnext : t ≠ .lit 10 → ∀ x ∈ cur ++ [t], Pl x := fun hne x hx => by
      rcases List.mem_append.mp hx with h | h
      · exact hc x h
      · rw [List.mem_singleton.mp h]; exact ⟨ht.1, ht.2, hne⟩
    have hassoc : cur ++ t :: r = (cur ++ [t]) ++ r := by simp
    cases t with
    | soft => exact absurd rfl ht.2
    | lit c =>
      rw [show spell (.lit c :: r) = c :: spell r from rfl]
      unfold linesA
      by_cases h10 : c = 10
      · subst h10
        rw [if_pos rfl, List.foldl_cons]
        obtain ⟨out, g1, g2, g3, g4, g5⟩ := line_tok m cur hc ls
        obtain ⟨acc, f1, f2, f3, f4⟩ := ih [] (lineStep m ls (spell cur)) hr (by simp)
        rw [spell_nil] at f1
        rw [List.nil_append] at f2 f4
        refine ⟨out ++ [.lit 10] ++ acc, ?_, ?_, Ln.out g3 g4 f3, ?_⟩
        · rw [f1, g1, spell_app, spell_app]; simp [spell, Tk.sp]
        · rw [valu_app, valu_app, g2, f2, valu_app, valu_cons, spell_app, show spell (.lit 10 :: r) = 10 :: spell r from rfl, tail10_nl]; simp [valu, Tk.val]
        · rw [spell_app, spell_app, spell_app, show spell (.lit 10 :: r) = 10 :: spell r from rfl]
          simp only [List.length_append, List.length_cons, show (spell [Tk.lit 10]).length = 1 from rfl]; omega
      · rw [if_neg h10]
        obtain ⟨acc, f1, f2, f3, f4⟩ := ih (cur ++ [.lit c]) ls hr (hnext (by intro e; cases e; exact h10 rfl))
        rw [spell_app, show spell [Tk.lit c] = [c] from rfl] at f1
        exact ⟨acc, f1, by rw [hassoc]; exact f2, f3, by rw [hassoc]; exact f4⟩
    | esc c =>
      have hc' := ht.1.1
      have a := (hx_hv (c / 16) (by omega)).2.2.2
      have b := (hx_hv (c % 16) (by omega)).2.2.2
      rw [show spell (.esc c :: r) = 61 :: hexU (c / 16) :: hexU (c % 16) :: spell r from rfl]
      obtain ⟨acc, f1, f2, f3, f4⟩ := ih (cur ++ [.esc c]) ls hr (hnext (by simp))
      rw [spell_app, show spell [Tk.esc c] = [61, hexU (c / 16), hexU (c % 16)] from rfl] at f1
      refine ⟨acc, ?_, by rw [hassoc]; exact f2, f3, by rw [hassoc]; exact f4⟩
      rw [← f1]
      rw [linesA_ne (by decide), linesA_ne a, linesA_ne b]
      simp only [List.append_assoc, List.cons_append, List.nil_append]

def tkOf (c : Nat) : Tk := if (safeC c || c == 10) = true then .lit c else .esc c
theorem tkOf_sp {c : Nat} (h13 : c ≠ 13) : (tkOf c).sp = encC c ∧ (tkOf c).val = [c] := by
  unfold tkOf encC
  have e13 : (c == 13) = false := by simpa using h13
  rw [e13, Bool.or_false]
  split <;> exact ⟨rfl, rfl⟩
theorem tkOf_pm {c : Nat} (h : c < 256) : Pm (tkOf c) := by
  unfold tkOf
  split
  · rename_i hs
    refine ⟨?_, by simp⟩
    simp [safeC] at hs
    show c ≠ 61 ∧ _
    omega
  · rename_i hs
    refine ⟨⟨h, ?_⟩, by simp⟩
    intro e; subst e; simp at hs
theorem map_tk : ∀ (t : List Nat), 13 ∉ t → spell (t.map tkOf) = t.flatMap encC ∧ valu (t.map tkOf) = t
  | [], _ => ⟨rfl, rfl⟩
  | c :: r, h => by
    obtain ⟨h1, h2⟩ := map_tk r (fun e => h (.tail _ e))
    obtain ⟨h3, h4⟩ := tkOf_sp (c := c) (fun e => h (e ▸ .head _))
    rw [List.map_cons, spell_cons, valu_cons, h1, h2, h3, h4]
    exact ⟨by simp, rfl⟩

theorem encode_tok (m : Nat) {t : List Nat} (hne : t ≠ []) (hlt : ∀ c ∈ t, c < 256) (h13 : 13 ∉ t) :
    ∃ ts, encodeP m t = spell ts ∧ Good ts ∧ valu ts = t ∧ (spell ts).length ≤ 9 * (t.flatMap encC).length := by
  obtain ⟨hb, hv⟩ := map_tk t h13
  have hpm : ∀ x ∈ t.map tkOf, Pm x := fun x hx => by
    obtain ⟨c, hc, rfl⟩ := List.mem_map.mp hx
    exact tkOf_pm (hlt c hc)
  obtain ⟨acc, f1, f2, f3, f4⟩ := fold_tok m (t.map tkOf) [] [] hpm (by simp)
  rw [spell_nil, hb, show glue [] = [] from rfl, List.nil_append] at f1
  rw [List.nil_append, hb, hv] at f2
  rw [List.nil_append, hb] at f4
  have hbne : t.flatMap encC ≠ [] := by
    cases t with
    | nil => exact absurd rfl hne
    | cons a r => simp only [List.flatMap_cons, encC]; split <;> simp [quoteC]
  have hok : ∀ c ∈ t.flatMap encC, okC c := by rw [← hb]; exact spell_okC fun x hx => (hpm x hx).1
  obtain ⟨cl, hcl1, hcl2⟩ : ∃ c, (t.flatMap encC).getLast? = some c ∧ (t.flatMap encC).getLastD 0 = c := by
    cases e : (t.flatMap encC).getLast? with
    | none => exact absurd (List.getLast?_eq_none_iff.mp e) hbne
    | some c => exact ⟨c, rfl, by rw [List.getLastD_eq_getLast?, e]; rfl⟩
  have hcl13 : cl ≠ 13 := fun e => by have := hok cl (List.mem_of_getLast? hcl1); unfold okC at this; omega
  have hfin : ∀ (L : List (List Nat)) (ACC : List Tk), glue L = spell ACC → valu ACC = t ++ [10] → Ln ACC → ∃ ts, ACC = ts ++ [.lit 10] ∧ joinL [10] L = spell ts ∧ Good ts ∧ valu ts = t := by
    intro L ACC h1 h2 h3
    rcases h3.lst with rfl | ⟨ts, rfl⟩
    · simp [valu] at h2
    · have hL : L ≠ [] := by
        rintro rfl
        have := congrArg List.length h1
        rw [spell_app] at this
        simp [glue, spell, Tk.sp] at this
      rw [glue_join L hL, spell_app, show spell [Tk.lit 10] = [10] from rfl] at h1
      rw [valu_app, show valu [Tk.lit 10] = [10] from rfl] at h2
      have e10 : spell (ts ++ [.lit 10]) = spell ts ++ [10] := by rw [spell_app]; rfl
      exact ⟨ts, rfl, List.append_cancel_right h1, ⟨fun x hx => h3.ok x (by simp [hx]), by rw [← e10]; exact h3.adj⟩, List.append_cancel_right h2⟩
  have henc : encodeP m t = joinL [10] (if cl = 10 ∨ cl = 13 then (linesL (t.flatMap encC)).foldl (lineStep m) [] ++ [[]] else (linesL (t.flatMap encC)).foldl (lineStep m) []) := by
    rw [← hcl2]; rfl
  rw [henc]
  have f1' : glue ((linesL (t.flatMap encC)).foldl (lineStep m) []) = spell acc := f1
  have hpos := List.length_pos_iff.mpr hbne
  by_cases h10 : cl = 10
  · rw [if_pos (.inl h10)]
    have ht : tail10 (t.flatMap encC) = [] := by unfold tail10; rw [if_pos (.inr (h10 ▸ hcl1))]
    rw [ht, List.append_nil] at f2
    have hLn : Ln (acc ++ [.lit 10]) := by
      refine ⟨?_, ?_, .inr ⟨acc, rfl⟩⟩
      · intro x hx
        rcases List.mem_append.mp hx with h | h
        · exact f3.ok x h
        · rw [List.mem_singleton.mp h]; exact ⟨by decide, .inr (.inl rfl)⟩
      · rw [spell_app]
        refine adj_join f3.adj (adj_cons (fun h => by rw [isW_10] at h; cases h) adj_nil) ?_
        rcases f3.lst with rfl | ⟨a, rfl⟩
        · exact .inl rfl
        · right; rw [spell_app]; simp [spell, Tk.sp]
    obtain ⟨ts, e1, e2, e3, e4⟩ := hfin ((linesL (t.flatMap encC)).foldl (lineStep m) [] ++ [[]]) (acc ++ [.lit 10]) (by rw [glue_app, f1', spell_app]; rfl) (by rw [valu_app, f2]; rfl) hLn
    have : acc = ts := List.append_cancel_right e1
    exact ⟨ts, e2, e3, e4, by rw [← this]; exact f4⟩
  · rw [if_neg (by rintro (e | e); exact h10 e; exact hcl13 e)]
    have ht : tail10 (t.flatMap encC) = [10] := by
      unfold tail10
      rw [if_neg]
      rintro (e | e)
      · exact hbne e
      · rw [hcl1] at e; exact h10 (Option.some.inj e)
    rw [ht] at f2
    obtain ⟨ts, e1, e2, e3, e4⟩ := hfin _ acc f1 f2 f3
    refine ⟨ts, e2, e3, e4, Nat.le_trans ?_ f4⟩
    rw [e1, spell_app, List.length_append]; omega
end Mine
end

section
set_option maxRecDepth 100000
set_option linter.unusedVariables false
set_option autoImplicit false
namespace Mine

theorem pieces_ok : ∀ n, n < 16 → ∀ c ∈ piecesL.getD n [], c < 256 ∧ c ≠ 13 := by decide +kernel
theorem pieceP_ok (x : Int) : ∀ c ∈ pieceP x, c < 256 ∧ c ≠ 13 := by
  intro c hc
  unfold pieceP at hc
  split at hc
  · rename_i h
    have := fm_nonneg x (n := 32) (by decide)
    exact pieces_ok _ (by omega) c hc
  · split at hc
    · rw [List.mem_singleton.mp hc]; decide
    · rename_i h1 h2
      have b0 := fm_nonneg (x.fdiv 32) (n := 256) (by decide)
      have b1 := fm_lt (x.fdiv 32) (n := 256) (by decide)
      rw [List.mem_singleton.mp hc]
      omega
theorem pre_ok (l : List Int) : ∀ c ∈ l.flatMap pieceP, c < 256 ∧ c ≠ 13 := by
  intro c hc
  obtain ⟨x, _, hx⟩ := List.mem_flatMap.mp hc
  exact pieceP_ok x c hx
theorem textP_ok (ns : List Int) : (∀ c ∈ textP ns, c < 256 ∧ c ≠ 13) ∧ (textP ns).length ≤ 21 ∧ ∃ c ∈ textP ns, c ≠ 10 := by
  have h0 := pre_ok ((ns.drop 1).take 6)
  have hlen := flatMap_len ((ns.drop 1).take 6)
  have h6 : ((ns.drop 1).take 6).length ≤ 6 := by simp; omega
  have e : textP ns = if (((ns.drop 1).take 6).flatMap pieceP).all (· == 10) then (((ns.drop 1).take 6).flatMap pieceP) ++ lit "=33" else (((ns.drop 1).take 6).flatMap pieceP) := rfl
  rw [e]
  generalize ((ns.drop 1).take 6).flatMap pieceP = a at *
  have h33 : lit "=33" = [61, 51, 51] := by decide +kernel
  rw [h33]
  split
  · refine ⟨?_, by simp; omega, 61, by simp, by decide⟩
    intro c hc
    rcases List.mem_append.mp hc with h | h
    · exact h0 c h
    · simp at h; omega
  · rename_i h
    refine ⟨h0, by omega, ?_⟩
    refine Classical.byContradiction fun hn => h ?_
    rw [List.all_eq_true]
    intro c hc
    refine beq_iff_eq.mpr (Classical.byContradiction fun hne => hn ⟨c, hc, hne⟩)
theorem encC_len (c : Nat) : (encC c).length ≤ 3 := by unfold encC; split <;> simp [quoteC]
theorem enc_len (t : List Nat) : (t.flatMap encC).length ≤ 3 * t.length := by
  induction t with
  | nil => simp
  | cons c r ih => have := encC_len c; simp only [List.flatMap_cons, List.length_append, List.length_cons]; omega

theorem lawF (ns : List Int) : ∃ ts, LawF ns ts := by
  obtain ⟨h1, h2, c0, hc0, hc10⟩ := textP_ok ns
  have hne : textP ns ≠ [] := fun e => by rw [e] at hc0; cases hc0
  have h13 : 13 ∉ textP ns := fun e => (h1 13 e).2 rfl
  have hel := enc_len (textP ns)
  obtain ⟨ts, e1, e2, e3, e4⟩ := encode_tok (lenP ns) hne (fun c hc => (h1 c hc).1) h13
  obtain ⟨hb, hv⟩ := map_tk (textP ns) h13
  have hbok : ∀ c ∈ (textP ns).flatMap encC, okC c := by
    rw [← hb]
    refine spell_okC fun x hx => ?_
    obtain ⟨c, hc, rfl⟩ := List.mem_map.mp hx
    exact (tkOf_pm (h1 c hc).1).1
  refine ⟨ts, {
    tne := hne
    tlt := fun c hc => (h1 c hc).1
    elb := lb_of hbok
    elen := by omega
    enc := e1
    tok := e2.ok
    val := e3
    wlen := by omega
    wlb := lb_of (spell_okC e2.ok)
    dec := by rw [dec_good e2, e3]
    some := ?_
    flip := ?_ }⟩
  · rw [← e3] at hc0
    obtain ⟨t, ht, hc⟩ := List.mem_flatMap.mp hc0
    obtain ⟨d, hd, hd10⟩ : ∃ d ∈ t.sp, d ≠ 10 := by
      cases t with
      | lit c => simp [Tk.val] at hc; subst hc; exact ⟨c0, by simp [Tk.sp], hc10⟩
      | esc c => exact ⟨61, by simp [Tk.sp, quoteC], by decide⟩
      | soft => simp [Tk.val] at hc
    obtain ⟨q, hq⟩ := List.mem_iff_getElem?.mp (show d ∈ spell ts from List.mem_flatMap.mpr ⟨t, ht, hd⟩)
    obtain ⟨hq1, hq2⟩ := List.getElem?_eq_some_iff.mp hq
    exact ⟨q, hq1, by rw [List.getD_eq_getElem?_getD, hq]; exact hd10⟩
  · intro p s hp hp10 hs hsn
    rw [← e3]
    exact flip_all e2 (by omega) (by rw [e3]; omega) hp hp10 hs hsn
end Mine
end

section
open PySem PySem.W PySem.Calls PyProof.Rows
set_option maxRecDepth 100000
set_option linter.unusedVariables false
set_option autoImplicit false
set_option maxHeartbeats 8000000
namespace Mine
def isS (v : Value) (l : List Nat) : Bool := match v with
  | .str x _ => x == T l && decide (l.length ≤ 1048576)
  | _ => false
theorem isS_ok {k : Led} {v : Value} {l : List Nat} (h : isS v l = true) : Rp k v (.str l) := by
  cases v with
  | str x t =>
    simp only [isS, Bool.and_eq_true, beq_iff_eq, decide_eq_true_eq] at h
    obtain ⟨rfl, h2⟩ := h
    exact .str _ _ h2
  | _ => cases h
def chkS : List Value → List (List Nat) → Bool
  | [], [] => true
  | v :: vs, l :: ls => isS v l && chkS vs ls
  | _, _ => false
theorem chkS_ok {k : Led} : ∀ {vs : List Value} {ls : List (List Nat)}, chkS vs ls = true → RpAll k vs (ls.map .str)
  | [], [], _ => .nil
  | v :: vs, l :: ls, h => by
    simp only [chkS, Bool.and_eq_true] at h
    exact .cons (isS_ok h.1) (chkS_ok h.2)
  | [], _ :: _, h => by cases h
  | _ :: _, [], h => by cases h
theorem intsAre_to {k : Led} : ∀ {vs : List Value} {ns : List Int}, IntsAre vs ns → RpAll k vs (ns.map .int)
  | _, _, .nil => .nil
  | _, _, .cons n t r => .cons (.int n t) (intsAre_to r)
def KFacts (K : Frag) : Prop := ∀ G : Run, G.K = K → (∀ o, K.lookup 17 = some o → (17, o) ∈ G.olds) → (∀ o, K.lookup 46 = some o → (46, o) ∈ G.olds) → (∀ o, K.lookup 66 = some o → (66, o) ∈ G.olds) → (∀ o, K.lookup 67 = some o → (67, o) ∈ G.olds) → Facts G
theorem rpTexts {K : Frag} {G : Run} {a : Addr} {o : Obj} {v : PV} (h1 : K.lookup a = some o) (h2 : ∀ o, K.lookup a = some o → (a, o) ∈ G.olds) (h3 : Rp [(a, o)] (.ref a) v) : ∃ o, (a, o) ∈ G.olds ∧ Rp [(a, o)] (.ref a) v := ⟨o, h2 o h1, h3⟩
theorem rpList {a : Addr} {o : Obj} {vs : List Value} {ls : List (List Nat)} {f : Nat → List Nat} (h1 : IsSeq "list" o vs) (h2 : ls = (List.range 256).map f) (h3 : chkS vs ls = true) : Rp [(a, o)] (.ref a) (.list ((List.range 256).map fun c => .str (f c))) := by
  have e : ((List.range 256).map fun c => PV.str (f c)) = ls.map .str := by rw [h2, List.map_map]; rfl
  rw [e]
  refine .list (.head _) h1 ?_ (chkS_ok h3)
  rw [h2]; simp
theorem rpTup {a : Addr} {o : Obj} {vs : List Value} {ls : List (List Nat)} (h1 : IsSeq "tuple" o vs) (h3 : chkS vs ls = true) : Rp [(a, o)] (.ref a) (.tup (ls.map .str)) := .tup (.head _) h1 (chkS_ok h3)
theorem law_close {prog : Program} {w : World} {K : Frag} {s₁ : Shared} {p : Program} {loose : List Str} {mean : ExcName → Option Value} {mg mb : Str → Option Value} {L fa : Addr} {cd : Value} {ns : List Int} {vs : List Value} {ax : Addr} {h₁ : Heap} {tk : Nat} {Φ : Flow → Shared → Prop} {Ψ : Value → Shared → Prop}
    (X : K.In s₁.heap) (x17 : ∃ o, K.lookup 17 = some o) (x46 : ∃ o, K.lookup 46 = some o) (x66 : ∃ o, K.lookup 66 = some o) (x67 : ∃ o, K.lookup 67 = some o) (KF : KFacts K) (T : Top p loose mean mg mb s₁.heap) (hL : s₁.heap.IsList ax vs.toArray) (hI : IntsAre vs ns) (hn : ¬ ((63 : Nat) : Int) < (ns.length : Int)) (K0 : Below callerA s₁.heap [] s₁.heap)
    (F : Fr s₁.heap L h₁ (fun x => List.lookup x [(("script" : Str), Value.ref ax)].reverse)) (N : News s₁.heap L h₁ [])
    (hΦ : ∀ h' tk' m, Fr s₁.heap L h' m → Φ (.ret (.bool true)) { heap := h', gens := s₁.gens, drawn := s₁.drawn, toks := tk', os := s₁.os }) :
    wpAny (model prog w) (callerA.deeper (envX "law" (scN 30) L fa cd [])) (execs (bodyN 30) (envX "law" (scN 30) L fa cd [])) Φ Ψ { heap := h₁, gens := s₁.gens, drawn := s₁.drawn, toks := tk, os := s₁.os } := by
  obtain ⟨ox, hx1, hx2, n, hx3⟩ := hL
  obtain ⟨a17, l17⟩ := x17
  obtain ⟨a46, l46⟩ := x46
  obtain ⟨a66, l66⟩ := x66
  obtain ⟨a67, l67⟩ := x67
  let olds : Led := [(17, a17), (46, a46), (66, a66), (67, a67)]
  let G : Run := ⟨prog, w, K, p, loose, mg, mb, olds⟩
  have FG : Facts G := KF G rfl
    (fun o h => by rw [l17] at h; cases h; exact .head _) (fun o h => by rw [l46] at h; cases h; exact .tail _ (.head _))
    (fun o h => by rw [l66] at h; cases h; exact .tail _ (.tail _ (.head _))) (fun o h => by rw [l67] at h; cases h; exact .tail _ (.tail _ (.tail _ (.head _))))
  let C : Act := { A := callerA.deeper (envX "law" (scN 30) L fa cd []), cn := "law", cs := scN 30, L := L, fa := fa, cd := cd, h₀ := s₁.heap, A₀ := callerA, base := s₁.heap, outer := [], old := (ax, ox) :: olds }
  have ok : Ok G C 20 := ⟨K0, rfl, rfl, X, topRead_of T, rfl, (by show callerA.depth + 1 + 20 < recursionLimit; decide), (by show callerA.units + 3 + 3 * 20 + 20 < cLine; decide), (by
    intro q hq
    rcases List.mem_cons.mp hq with rfl | hq
    · exact hx1
    rcases List.mem_cons.mp hq with rfl | hq
    · exact X _ _ l17
    rcases List.mem_cons.mp hq with rfl | hq
    · exact X _ _ l46
    rcases List.mem_cons.mp hq with rfl | hq
    · exact X _ _ l66
    rcases List.mem_cons.mp hq with rfl | hq
    · exact X _ _ l67
    cases hq), fun q hq => .tail _ hq⟩
  have hn' : ns.length ≤ 63 := by omega
  have R : Rp [(ax, ox)] (.ref ax) (.list (ns.map .int)) := .list (.head _) ⟨hx2, n, hx3⟩ (by rw [List.length_map]; omega) (intsAre_to hI)
  have S : St C [] [("script", .list (ns.map .int))] none [(ax, ox)] h₁ := ⟨_, [], [], F, N, rfl, (fun q hq => by cases hq), (fun q hq => by
    rcases List.mem_cons.mp hq with rfl | hq
    · exact ⟨.inr (.head _), fun q hq => by cases hq⟩
    · cases hq), binds_ok (names := ["script"]) (Us := [.ref ax]) (us := [.list (ns.map .int)]) (by decide) (.cons R .nil)⟩
  obtain ⟨ts, H⟩ := lawF ns
  refine wpAny_mono ((law_walk FG hn' H ok rfl).of [] _ { heap := h₁, gens := s₁.gens, drawn := s₁.drawn, toks := tk, os := s₁.os } Φ S fun o f k' h' tk' ho s' hi => ?_) (fun _ _ x => x) (fun _ _ x => x.elim)
  subst ho
  obtain ⟨V, ρ, rfl, S2, R2⟩ := hi
  cases R2
  obtain ⟨m, led, fz, F2, _⟩ := S2.ex
  exact hΦ h' tk' m F2
end Mine
end

open PySem PySem.W PyProof.Rows
set_option maxRecDepth 100000 in
set_option maxHeartbeats 8000000 in
theorem PySem.Challenge.cw_dj5004_01_holds : PySem.Challenge.rw_dj5004_01.Holds := by
  w_on
  o_law
  k_head
  (case hw => w_witness2)
  k_go0
  refine Mine.law_close (by assumption) ⟨_, rfl⟩ ⟨_, rfl⟩ ⟨_, rfl⟩ ⟨_, rfl⟩ ?_ (by assumption) (by assumption) (by assumption) (by assumption) (by assumption) (by assumption) (by assumption) ?_
  · intro G hK h17 h46 h66 h67
    refine ⟨?_, ?_, ?_, ?_, ?_, ?_, ?_, ?_, ?_, ?_, ?_, ?_, ?_, ?_, ?_, ?_, ?_, ?_, ?_, ?_, ?_, ?_, ?_⟩
    all_goals rw [hK]
    · exact ⟨rfl, rfl, _, _, _, _, _, _, _, _, _, _, rfl, rfl⟩
    · exact ⟨rfl, rfl, _, _, _, _, _, _, _, _, _, _, rfl, rfl⟩
    · exact ⟨rfl, rfl, _, ⟨_, _, _, _, _, _, _, _, _, _, rfl, rfl⟩, _, _, _, _, rfl, rfl⟩
    · exact ⟨rfl, rfl, _, ⟨_, _, _, _, _, _, _, _, _, _, rfl, rfl⟩, _, _, _, rfl, rfl⟩
    · exact ⟨rfl, rfl, _, _, _, _, _, _, _, _, _, _, rfl, rfl⟩
    · exact ⟨rfl, rfl, _, _, _, _, _, _, _, _, _, _, rfl, rfl⟩
    · exact ⟨rfl, rfl, _, _, _, _, _, _, _, _, _, _, rfl, rfl⟩
    · exact ⟨rfl, rfl, _, _, _, _, _, _, _, _, _, _, rfl, rfl⟩
    · exact ⟨rfl, rfl, _, _, _, _, _, _, _, _, _, _, rfl, rfl⟩
    · exact ⟨_, rfl⟩
    · exact ⟨_, rfl⟩
    · exact ⟨_, rfl⟩
    · exact ⟨_, rfl⟩
    · exact ⟨rfl, Mine.rpTexts rfl h17 (Mine.rpList ⟨rfl, _, rfl⟩ rfl (by decide +kernel))⟩
    · exact ⟨rfl, Mine.rpTexts rfl h46 (Mine.rpList ⟨rfl, _, rfl⟩ rfl (by decide +kernel))⟩
    · exact ⟨rfl, Mine.rpTexts rfl h66 (Mine.rpTup ⟨rfl, _, rfl⟩ (by decide +kernel))⟩
    · exact ⟨rfl, Mine.rpTexts rfl h67 (Mine.rpTup ⟨rfl, _, rfl⟩ (by decide +kernel))⟩
    all_goals rfl
  · intro h' tk' m F'
    exact goodW_bool F' (by assumption) (raisesW_false (by wrow_none_raised)) (by wrow_post)
