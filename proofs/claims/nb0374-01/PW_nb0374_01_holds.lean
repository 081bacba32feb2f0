import PyProof.Rows.All
import Wide.All
import OpenK.AllK
import Wide.FinOn
import Lean
import PySem.Challenge.RW_nb0374_01
set_option Elab.async false
section
open PySem PySem.W PyProof.Rows
namespace Mine
set_option maxRecDepth 100000 in
set_option maxHeartbeats 8000000 in
open_top hd for PySem.Challenge.rw_nb0374_01
end Mine
end
section
namespace Mine
/-- a square of four numbers -/
structure Sq where
  a : Int
  b : Int
  c : Int
  d : Int
deriving DecidableEq
def Sq.l (q : Sq) : List Int := [q.a, q.b, q.c, q.d]
def Sq.one : Sq := ⟨1, 0, 0, 1⟩
def Sq.mul (p q : Sq) : Sq := ⟨p.a * q.a + p.b * q.c, p.a * q.b + p.b * q.d, p.c * q.a + p.d * q.c, p.c * q.b + p.d * q.d⟩
def sqOf (x : Int) : Sq := if x = 1 ∨ x = -1 then ⟨1, 2 * x, 0, 1⟩ else ⟨1, 0, x, 1⟩
def prod (ns : List Int) : Sq := ns.foldl (fun q x => q.mul (sqOf x)) Sq.one
/-- the entries are small -/
def Sq.Fits (q : Sq) : Prop := (-(2 ^ 60) ≤ q.a ∧ q.a ≤ 2 ^ 60) ∧ (-(2 ^ 60) ≤ q.b ∧ q.b ≤ 2 ^ 60) ∧ (-(2 ^ 60) ≤ q.c ∧ q.c ≤ 2 ^ 60) ∧ (-(2 ^ 60) ≤ q.d ∧ q.d ≤ 2 ^ 60)
end Mine
namespace Mine
theorem prod_take {ns : List Int} {i : Nat} {n : Int} (h : ns[i]? = some n) : prod (ns.take (i + 1)) = (prod (ns.take i)).mul (sqOf n) := by
  unfold prod
  rw [List.take_add_one, h]
  simp
end Mine
namespace Mine
/-- the sign that the law reads off a square -/
def pick (q : Sq) : Int := if q.d * q.d < q.b * q.b then (if 0 < q.b * q.d then 1 else -1) else (if 0 < q.a * q.c then 2 else -2)
theorem pick_range (q : Sq) : -2 ≤ pick q ∧ pick q ≤ 2 := by unfold pick; split <;> split <;> omega
/-- the law's reading back, as a relation -/
inductive RdBack : Sq → List Int → Prop
  | done : RdBack Sq.one []
  | step {q : Sq} {r : List Int} : q ≠ Sq.one → q.Fits → RdBack ((sqOf (-(pick q))).mul q) r → RdBack q (pick q :: r)
theorem sqOf_fits {x : Int} (h : -2 ≤ x ∧ x ≤ 2) : (sqOf x).Fits := by
  unfold sqOf
  split <;> (unfold Sq.Fits; dsimp only; omega)
end Mine
namespace Mine
/-- how many end signs of the one and first signs of the other are opposites: the law's count -/
def cancFrom (ns ms : List Int) : Nat → Nat → Nat
  | 0, i => i
  | f + 1, i => if i < ns.length ∧ i < ms.length ∧ ns.getD (ns.length - 1 - i) 0 = -(ms.getD i 0) then cancFrom ns ms f (i + 1) else i
def canc (ns ms : List Int) : Nat := cancFrom ns ms ns.length 0
end Mine
namespace Mine
theorem cancFrom_step {ns ms : List Int} {i : Nat} (h1 : i < ns.length) (h2 : i < ms.length) (h3 : ns.getD (ns.length - 1 - i) 0 = -(ms.getD i 0)) :
    cancFrom ns ms (ns.length - i) i = cancFrom ns ms (ns.length - (i + 1)) (i + 1) := by
  have e : ns.length - i = (ns.length - (i + 1)) + 1 := by omega
  rw [e, cancFrom, if_pos ⟨h1, h2, h3⟩]
theorem cancFrom_stop {ns ms : List Int} {n i : Nat} (h : ¬(i < ns.length ∧ i < ms.length ∧ ns.getD (ns.length - 1 - i) 0 = -(ms.getD i 0))) : cancFrom ns ms n i = i := by
  cases n with
  | zero => rfl
  | succ n => rw [cancFrom, if_neg h]
end Mine
namespace Mine
/-- two words joined -/
def join (ns ms : List Int) : List Int := ns.take (ns.length - canc ns ms) ++ ms.drop (canc ns ms)
theorem join_length (ns ms : List Int) : (join ns ms).length ≤ ns.length + ms.length := by
  unfold join
  rw [List.length_append, List.length_take, List.length_drop]
  omega
end Mine
namespace Mine
/-- a row's word, sign by sign -/
def wordOf (ns : List Int) : List Int := ns.foldl (fun w x => join w [x]) []
theorem wordOf_take {ns : List Int} {i : Nat} {n : Int} (h : ns[i]? = some n) : wordOf (ns.take (i + 1)) = join (wordOf (ns.take i)) [n] := by
  unfold wordOf
  rw [List.take_add_one, h]
  simp
theorem wordOf_length (ns : List Int) : (wordOf ns).length ≤ ns.length := by
  have key : ∀ (l w : List Int), (l.foldl (fun w x => join w [x]) w).length ≤ w.length + l.length := by
    intro l
    induction l with
    | nil => intro w; simp
    | cons x l ih =>
      intro w
      have h1 := ih (join w [x])
      have h2 := join_length w [x]
      simp only [List.foldl_cons, List.length_cons, List.length_nil] at h1 h2 ⊢
      omega
  have := key ns []
  simpa [wordOf] using this
end Mine
end
section
open PySem PySem.Spec PySem.Calls PySem.W PyProof.Rows
namespace Mine
/-- a list or a tuple as an object -/
abbrev seqOf (c : String) (its : Array Value) (n : Nat) : Obj := { cls := .type c, data := .seq its n }
/-- what a call of a def of the text does: from a caller's frame, over a ledger -/
def Does (w : World) (f : Addr) (k : Nat) (news : List (Addr × Obj)) (vs : List Value) (Out : Value → List (Addr × Obj) → Prop) : Prop :=
  ∀ (mean : ExcName → Option Value) (mg mb : PySem.Str → Option Value) (dp un : Nat) (gd : Option (List Code)) (cn : PySem.Str) (cs : Scope) (a : Addr) (ccd : Value) (cl : List (PySem.Str × Addr)) (outer : List Env) (A₀ : Around)
    (base h₀ : Heap) (L : Addr) (m : PySem.Str → Option Value) (s : Shared) (Q E : Value → Shared → Prop),
    Below A₀ base outer h₀ → Fr h₀ L s.heap m → (Mine.hd.heap_39 w.params).In h₀ → News h₀ L s.heap news → Top Mine.hd.view_39 (looseW Mine.hd.view_39 []) mean mg mb h₀ → cs.kind = .function →
    dp + k < recursionLimit → un + 8 * k + 200 < cLine →
    (∀ r news' h' tk', Fr h₀ L h' m → News h₀ L h' news' → (∀ p ∈ news, p ∈ news') → Out r news' → Q r { s with heap := h', toks := tk' }) →
    wpAny (model PySem.Challenge.rw_nb0374_01.row.prog w) (ktrTop dp un gd cn cs L a ccd cl outer) (call (.ref f) vs) Q E s
end Mine
end
section
open PySem PySem.Spec PySem.Calls PySem.W PyProof.Rows
namespace Mine
def isSeq (o : Obj) : Bool := match o.data with
  | .seq _ _ => true
  | _ => false
def SubS (a b : List (Addr × Obj)) : Prop := ∀ p ∈ a, isSeq p.2 = true → p ∈ b
theorem SubS.refl (a : List (Addr × Obj)) : SubS a a := fun _ h _ => h
theorem SubS.of {a b : List (Addr × Obj)} (h : ∀ p ∈ a, p ∈ b) : SubS a b := fun p hp _ => h p hp
theorem SubS.trans {a b c : List (Addr × Obj)} (h : SubS a b) (k : SubS b c) : SubS a c := fun p hp hs => k p (h p hp hs) hs
/-- a list or tuple of ints on the ledger -/
def SeqIn (c : String) (news : List (Addr × Obj)) (v : Value) (ns : List Int) : Prop :=
  ∃ (a : Addr) (vs : List Value) (n : Nat), v = .ref a ∧ (a, seqOf c vs.toArray n) ∈ news ∧ IntsAre vs ns
theorem SeqIn.subS {c : String} {a b : List (Addr × Obj)} {v : Value} {ns : List Int} (h : SeqIn c a v ns) (s : SubS a b) : SeqIn c b v ns := by
  obtain ⟨x, vs, n, e, hm, hi⟩ := h
  exact ⟨x, vs, n, e, s _ hm rfl, hi⟩
theorem SeqIn.mono {c : String} {a b : List (Addr × Obj)} {v : Value} {ns : List Int} (h : SeqIn c a v ns) (s : ∀ p ∈ a, p ∈ b) : SeqIn c b v ns := h.subS (.of s)
section
variable {prog : Program} {w : World} {A : Around} {E : Value → Shared → Prop} {s : Shared} {env : Env} {h₀ : Heap} {x : PySem.Str} {body : List Stmt} {Q : Flow → Shared → Prop}
/-- what a turn of a loop leaves -/
def TurnEnd (h₀ : Heap) (L : Addr) (J : (PySem.Str → Option Value) → List (Addr × Obj) → Prop) (newsA : List (Addr × Obj)) (s : Shared) (f : Flow) (s₂ : Shared) : Prop :=
  f = .next ∧ ∃ h' tk' m' news', s₂ = { s with heap := h', toks := tk' } ∧ Fr h₀ L h' m' ∧ News h₀ L h' news' ∧ (∀ p ∈ newsA, p ∈ news') ∧ J m' news'
theorem loop_ints {l nl : Nat} {vs : List Value} {ns : List Int} {m₀ : PySem.Str → Option Value} {news : List (Addr × Obj)} (J : Nat → (PySem.Str → Option Value) → List (Addr × Obj) → Prop)
    (mono : ∀ i m a b, SubS a b → J i m a → J i m b)
    (hh : A.handled = none) (hl : (l, seqOf "list" vs.toArray nl) ∈ news) (hi : IntsAre vs ns) (F : Fr h₀ env.locals s.heap m₀) (N : News h₀ env.locals s.heap news) (hj : J 0 m₀ news)
    (turn : ∀ i n t m₁ newsA h tk, ns[i]? = some n → (∀ p ∈ news, p ∈ newsA) → J i m₁ newsA → Fr h₀ env.locals h (fun y => if y = x then some (.int n t) else m₁ y) → News h₀ env.locals h newsA →
      wpAny (model prog w) A (execs body env) (TurnEnd h₀ env.locals (J (i + 1)) newsA { s with heap := h, toks := tk }) E { s with heap := h, toks := tk })
    (done : ∀ m₁ news₁ h tk, J ns.length m₁ news₁ → (∀ p ∈ news, p ∈ news₁) → Fr h₀ env.locals h m₁ → News h₀ env.locals h news₁ → Q .next { s with heap := h, toks := tk }) :
    wpAny (model prog w) A (pyIter (.ref l)) (fun it s₂ => LoopAtV prog w A h₀ env x body Q E it s₂) E s := by
  have hls : s.heap.IsList l vs.toArray := News.isList N hl
  have hlt : l < s.heap.objs.size := Heap.lt_size (N _ hl).1
  have hne : l ≠ s.heap.objs.size := Nat.ne_of_lt hlt
  have hlL : l ≠ env.locals := (N _ hl).2.1
  refine wpAny_pyIter_list hls ?_
  have W := Walks.list (prog := prog) (w := w) hh s.heap.objs.size l hne vs.toArray
  have hlen : vs.toArray.size = ns.length := by simp [hi.length]
  rw [hlen] at W
  let J' : Nat → (PySem.Str → Option Value) → List (Addr × Obj) → Prop := fun i m₁ news₁ => J i m₁ news₁ ∧ ∀ p ∈ news, p ∈ news₁
  refine ⟨_, _, _, ns.length, _, _, m₀, news, J', rfl, W, ?_, ?_, ?_, ⟨⟨_, Heap.get?_push_size _ rfl, rfl, rfl⟩, hls.at fun o e => Heap.get?_push_of_some _ e⟩, F.push _, (fun p hp => ⟨Heap.get?_push_of_some _ (N p hp).1, (N p hp).2⟩), ⟨hj, fun _ h => h⟩, ?_, ?_⟩
  · intro hm
    rcases List.mem_cons.mp hm with e | hm
    · exact absurd F.ns.lt (e ▸ Nat.lt_irrefl _)
    · exact hlL (List.mem_singleton.mp hm).symm
  · intro b hb
    rw [List.mem_singleton.mp hb]
    exact next_is_new F
  · intro p hp hI
    exact absurd (Heap.lt_size (N p hp).1) ((List.mem_singleton.mp hI) ▸ Nat.lt_irrefl _)
  · rintro i v m₁ news₁ s₁ own ⟨hh', tk', rfl⟩ hin hP ⟨hJ, hsub⟩ hoff hof hown hmem hst F₁ N₁
    have hlt' : i < ns.length := hin
    obtain ⟨t, hx⟩ := hi.get i ns[i] (by simp [hlt'])
    have hv : v = .int ns[i] t := by
      have hP' : vs[i]? = some v := by simpa using hP
      rw [hx] at hP'; exact (Option.some.inj hP').symm
    subst hv
    have hsA : SubS news₁ (own ++ news₁) := .of fun p hp => List.mem_append_right _ hp
    refine wpAny_mono (turn i ns[i] t m₁ (own ++ news₁) hh' tk' (by simp [hlt']) (fun p hp => List.mem_append_right _ (hsub p hp)) (mono _ _ _ _ hsA hJ) F₁ N₁) (fun f s₂ p => ?_) fun _ _ e => e
    obtain ⟨rfl, h', tk, m', news', rfl, F', N', hn, hm⟩ := p
    obtain ⟨⟨oI, hoI, hcI, hdI⟩, hstl⟩ := hst
    have hI : (s.heap.objs.size, oI) ∈ own := hmem _ (.head _) (next_is_new F) _ hoI
    have keep : SubS news' (news'.filter fun p => !(p.1 == s.heap.objs.size)) := fun p hp hs => by
      refine List.mem_filter.mpr ⟨hp, ?_⟩
      by_cases e : p.1 = s.heap.objs.size
      · have h1 := (N' p hp).1
        have h2 := (N' _ (hn _ (List.mem_append_left _ hI))).1
        rw [e] at h1
        rw [h1] at h2
        have e2 : p.2 = oI := Option.some.inj h2
        rw [e2] at hs
        simp [isSeq, hdI] at hs
      · simp [e]
    refine .next ⟨rfl, h', tk, m', news'.filter fun p => !(p.1 == s.heap.objs.size), rfl, F', ?_, ?_, mono _ _ _ _ keep hm, ?_⟩
    · intro p hp
      rcases List.mem_append.mp hp with q | q
      · exact N' p (hn p (List.mem_append_left _ q))
      · exact N' p (List.mem_filter.mp q).1
    · intro p hp q
      have := (List.mem_filter.mp hp).2
      rw [List.mem_singleton.mp q] at this
      simp at this
    · intro p hp
      refine List.mem_filter.mpr ⟨hn p (List.mem_append_right _ (hsub p hp)), ?_⟩
      have := Heap.lt_size (N p hp).1
      have hne' : p.1 ≠ s.heap.objs.size := Nat.ne_of_lt this
      simp [hne']
  · rintro h' tk m' news' F' N' _ ⟨hJ, hsub⟩
    exact done m' news' h' tk hJ hsub F' N'
end
end Mine
end
section
open PySem PySem.Spec PySem.Calls PySem.W PyProof.Rows
namespace Mine
theorem Does.use {w : World} {f : Addr} {k : Nat} {news : List (Addr × Obj)} {vs : List Value} {Out : Value → List (Addr × Obj) → Prop} (D : Does w f k news vs Out)
    {mean : ExcName → Option Value} {mg mb : PySem.Str → Option Value} {dp un : Nat} {gd : Option (List Code)} {cn : PySem.Str} {cs : Scope} {a : Addr} {ccd : Value} {cl : List (PySem.Str × Addr)} {outer : List Env} {A₀ : Around}
    {base h₀ : Heap} {L : Addr} {m : PySem.Str → Option Value} {s : Shared} {Q E : Value → Shared → Prop}
    (B : Below A₀ base outer h₀) (F : Fr h₀ L s.heap m) (X : (Mine.hd.heap_39 w.params).In h₀) (N : News h₀ L s.heap news) (T : Top Mine.hd.view_39 (looseW Mine.hd.view_39 []) mean mg mb h₀) (hk : cs.kind = .function)
    (hd : dp + k < recursionLimit) (hu : un + 8 * k + 200 < cLine)
    (ret : ∀ r news' h' tk', Fr h₀ L h' m → News h₀ L h' news' → (∀ p ∈ news, p ∈ news') → Out r news' → Q r { s with heap := h', toks := tk' }) :
    wpAny (model PySem.Challenge.rw_nb0374_01.row.prog w) (ktrTop dp un gd cn cs L a ccd cl outer) (call (.ref f) vs) Q E s :=
  D mean mg mb dp un gd cn cs a ccd cl outer A₀ base h₀ L m s Q E B F X N T hk hd hu ret
end Mine
namespace Mine
theorem upd_know {m : PySem.Str → Option PySem.Value} {x : PySem.Str} {v : Option PySem.Value} (h : m x = v) : m = fun y => if y = x then v else m y := by
  funext y
  by_cases e : y = x
  · rw [if_pos e, e, h]
  · rw [if_neg e]
theorem fr_know {h₀ h : PySem.Heap} {L : PySem.Addr} {m : PySem.Str → Option PySem.Value} {x : PySem.Str} {v : Option PySem.Value} (F : PyProof.Rows.Fr h₀ L h m) (e : m x = v) : PyProof.Rows.Fr h₀ L h (fun y => if y = x then v else m y) := upd_know e ▸ F
theorem fr_know1 {h₀ h : PySem.Heap} {L : PySem.Addr} {m : PySem.Str → Option PySem.Value} {z : PySem.Str} {u : Option PySem.Value} {x : PySem.Str} {v : Option PySem.Value} (F : PyProof.Rows.Fr h₀ L h (fun y => if y = z then u else m y)) (e : m x = v) :
    PyProof.Rows.Fr h₀ L h (fun y => if y = z then u else if y = x then v else m y) := by
  have := upd_know e
  exact (congrArg (fun f : PySem.Str → Option PySem.Value => PyProof.Rows.Fr h₀ L h (fun y => if y = z then u else f y)) this).mp F
end Mine
namespace Mine
open PySem PySem.Spec PySem.Calls PySem.W PyProof.Rows
def off (D : Addr) (a : List (Addr × Obj)) : List (Addr × Obj) := a.filter fun p => !(p.1 == D)
theorem mem_off {D : Addr} {a : List (Addr × Obj)} {p : Addr × Obj} : p ∈ off D a ↔ p ∈ a ∧ p.1 ≠ D := by simp [off]
theorem SeqIn.off {c : String} {a : List (Addr × Obj)} {v : Value} {ns : List Int} {D : Addr} {o : Obj} (h : SeqIn c a v ns) (hv : v ≠ .ref D) : SeqIn c ((D, o) :: off D a) v ns := by
  obtain ⟨x, vs, n, rfl, hm, hi⟩ := h
  exact ⟨x, vs, n, rfl, .tail _ (mem_off.mpr ⟨hm, fun e => hv (by rw [← e])⟩), hi⟩
section
variable {prog : Program} {w : World} {A : Around} {E : Value → Shared → Prop} {s : Shared} {h₀ : Heap} {L D : Addr} {m : PySem.Str → Option Value} {a : List (Addr × Obj)}
theorem append_in {its : Array Value} {n : Nat} {x : Value} {Q : Value → Shared → Prop} (F : Fr h₀ L s.heap m) (N : News h₀ L s.heap a) (hm : (D, seqOf "list" its n) ∈ a)
    (h : ∀ h', Fr h₀ L h' m → News h₀ L h' ((D, seqOf "list" (its.push x) (n + 1)) :: off D a) → Q .none { s with heap := h' }) (hsz : its.size ≤ sizeLine := by size_fits) :
    wpAny (model prog w) A (call (.builtin "list.append") [.ref D, x]) Q E s := by
  have z := N _ hm
  refine append_at (hsz := hsz) z.1 fun h' hs ho' => h h' (F.change hs z.2.1 z.2.2) fun p hp => ?_
  rcases List.mem_cons.mp hp with rfl | hp
  · exact ⟨ho', z.2⟩
  · obtain ⟨h1, h2⟩ := mem_off.mp hp
    exact ⟨(hs.2 _ h2).trans (N p h1).1, (N p h1).2⟩
end
theorem intsPush {vs : List Value} {ns : List Int} (h : IntsAre vs ns) (x : Int) (t : Tok) : IntsAre (vs ++ [.int x t]) (ns ++ [x]) := h.append (.cons x t .nil)
theorem IntsAre.eq {vs : List Value} {ns ms : List Int} (h : IntsAre vs ns) (k : IntsAre vs ms) : ns = ms := by
  induction h generalizing ms with
  | nil => cases k; rfl
  | cons n t r ih => cases k with | cons n t k => rw [ih k]
end Mine
theorem Mine.News.tl {h₀ h : PySem.Heap} {L : PySem.Addr} {x : PySem.Addr × PySem.Obj} {a : List (PySem.Addr × PySem.Obj)} (N : PyProof.Rows.News h₀ L h (x :: a)) : PyProof.Rows.News h₀ L h a := fun p hp => N p (.tail _ hp)
namespace Mine
open PySem PySem.Spec PySem.Calls PySem.W PyProof.Rows
theorem Keeps.same (s : Shared) : Keeps s s := ⟨s.heap, s.toks, rfl, fun _ _ e => e⟩
theorem news_plain {h₀ h : Heap} {L D : Addr} {m : PySem.Str → Option Value} {a : List (Addr × Obj)} {ys : Array Value} (F : Fr h₀ L h m) (N : News h₀ L h a) (hD : h₀.get? D = none) (P : NewPlain h a D ys) :
    ∃ n, News h₀ L h ((D, seqOf "list" ys n) :: a) := by
  have hne := P.ne_locals F
  obtain ⟨⟨n, e⟩, _⟩ := P
  refine ⟨n, fun p hp => ?_⟩
  rcases List.mem_cons.mp hp with rfl | hp
  · exact ⟨e, hne, hD⟩
  · exact N p hp
theorem ints_of_filter {ys : List Value} {ns : List Int} (h : CarriedAll ys ((ns.filter fun _ => true).map PyData.int)) : IntsAre ys ns := by
  have := CarriedAll.intsOf (f := id) (as := ns) (vs := ys) (by simpa [filter_allG] using h)
  simpa using this
end Mine
namespace Mine
open PySem PySem.Spec PySem.Calls PySem.W PyProof.Rows
theorem Does.mono {w : World} {f : Addr} {k : Nat} {news : List (Addr × Obj)} {vs : List Value} {Out Out' : Value → List (Addr × Obj) → Prop} (D : Does w f k news vs Out) (h : ∀ r a, Out r a → Out' r a) : Does w f k news vs Out' := by
  intro mean mg mb dp un gd cn cs a ccd cl outer A₀ base h₀ L m s Q E B F X N T hk hd hu hret
  exact D mean mg mb dp un gd cn cs a ccd cl outer A₀ base h₀ L m s Q E B F X N T hk hd hu fun r news' h' tk' F' N' hs ho => hret r news' h' tk' F' N' hs (h _ _ ho)
end Mine
end
section
open PySem PySem.Spec PySem.Calls PySem.W PyProof.Rows
namespace Mine
section
variable {prog : Program} {w : World} {A : Around} {E : Value → Shared → Prop} {s : Shared}
/-- a tuple's slice that runs from lo over n places by ones -/
theorem getItem_tuple_run {t sl : Addr} {items : Array Value} {lo n : Nat} {Q : Value → Shared → Prop} (ht : IsTup s.heap t items) (hT : s.TypeIs (.ref sl) "slice")
    (hap : ∀ (Q' : Int × Int × Nat → Shared → Prop) (E' : Value → Shared → Prop) (A' : Around), Q' ((lo : Int), 1, n) s → wpAny (model prog w) A' (Builtin.Slice.sliceApplied (.ref sl) (pure (items.size : Int))) Q' E' s)
    (hn : lo + n ≤ items.size)
    (hw : lo = 0 → n = items.size → Q (.ref t) s)
    (h : ¬(lo = 0 ∧ n = items.size) → Q (.ref s.heap.objs.size) { s with heap := s.heap.push { cls := .type "tuple", data := .seq ((items.toList.drop lo).take n).toArray } })
    (hsz : items.size ≤ sizeLine) : wpAny (model prog w) A (getItem (.ref t) (.ref sl)) Q E s := by
  have hdrop : sizeOk (.seq ((items.toList.drop lo).take n).toArray) := by
    show ((items.toList.drop lo).take n).toArray.size ≤ sizeLine
    rw [List.size_toArray, List.length_take, List.length_drop, Array.length_toList]
    omega
  have hpick : ((List.range n).filterMap fun (k : Nat) => items[((lo : Int) + (k : Int) * 1).toNat]?).toArray = ((items.toList.drop lo).take n).toArray := by
    have e : (fun (k : Nat) => items[((lo : Int) + (k : Int) * 1).toNat]?) = fun k => items[lo + k]? := by
      funext k
      have : ((lo : Int) + (k : Int) * 1).toNat = lo + k := by omega
      rw [this]
    rw [e]
    have := pick_run items lo n
    rw [List.filterMap_map] at this
    have e2 : ((fun x => items[x]?) ∘ fun x => lo + x) = fun k => items[lo + k]? := rfl
    rw [e2] at this
    rw [this]
  unfold getItem
  try with_reducible refine wpAny_holding ?_
  first | refine wpAny_bind (wpAny_pure ?_) | skip
  refine wpAny_bind (wpAny_sequenceKey ht.typeIs (by decide) ?_)
  refine wpAny_bind (wpAny_callSpecial?_slot (name := Str.ofString "__getitem__") ht.typeIs slot_tuple_getitem
    (wpAny_call_entry slot_tuple_getitem ht.typeIs entry_tuple_getitem ?_ (args_tuple_getitem _ _)))
  show wpAny _ _ (Builtin.Tuple.tupleItemsOf (.ref t) >>= _) _ _ s
  refine wpAny_bind (tupleItemsOf_ ht ?_)
  refine wpAny_bind (wpAny_typeOf hT ?_)
  rw [if_pos (by decide)]
  refine wpAny_bind (hap _ _ _ ?_)
  by_cases hc : lo = 0 ∧ n = items.size
  · have hy : ((lo : Int) == 0 && (1 : Int) == 1 && n == items.size) = true := by rw [hc.1, hc.2]; simp
    show wpAny _ _ (if ((lo : Int) == 0 && (1 : Int) == 1 && n == items.size) = true then _ else _) _ _ s
    rw [if_pos hy]
    have hx : wpAny (model prog w) A.in1 (Builtin.Tuple.tupleIsExact (.ref t)) (fun b s' => b = true ∧ s' = s) E s := by
      unfold Builtin.Tuple.tupleIsExact
      exact wpAny_bind (wpAny_typeOf ht.typeIs (wpAny_pure ⟨rfl, rfl⟩))
    refine wpAny_bind (wpAny_mono hx (fun b s' hb => ?_) fun _ _ e => ?_)
    · obtain ⟨rfl, rfl⟩ := hb
      rw [if_pos rfl]
      exact wpAny_bind (wpAny_rule (wpAny_pure ⟨_, rfl, wpAny_pure (hw hc.1 hc.2)⟩))
    · exact e
  · have hno : ¬ (((lo : Int) == 0 && (1 : Int) == 1 && n == items.size) = true) := by
      intro e
      simp only [Bool.and_eq_true, beq_iff_eq] at e
      exact hc ⟨by omega, e.2⟩
    show wpAny _ _ (if ((lo : Int) == 0 && (1 : Int) == 1 && n == items.size) = true then _ else _) _ _ s
    rw [if_neg hno, hpick]
    first
      | exact wpAny_bind (m := Builtin.Tuple.tupleExact _) (wpAny_newObj_type (wpAny_pure ⟨_, rfl, wpAny_pure (h hc)⟩) hdrop)
      | exact wpAny_bind (m := Builtin.Tuple.tupleExact _) (wpAny_newObj_type (wpAny_bind (wpAny_pure (wpAny_pure ⟨_, rfl, wpAny_pure (h hc)⟩))) hdrop)
      | exact wpAny_bind (wpAny_bind (m := Builtin.Tuple.tupleExact _) (wpAny_newObj_type (wpAny_pure (wpAny_pure ⟨_, rfl, wpAny_pure (h hc)⟩)) hdrop))
      | exact wpAny_bind (wpAny_bind (m := Builtin.Tuple.tupleExact _) (wpAny_newObj_type (wpAny_pure ⟨_, rfl, wpAny_pure (h hc)⟩) hdrop))
theorem sliceApplied_upto {sl : Addr} {b n : Nat} {u : Tok} {Q : Int × Int × Nat → Shared → Prop} (hs : s.heap.IsSliceOf sl .none (.int b u) .none) (hb : b ≤ n) (h : Q (((0 : Nat) : Int), 1, b) s) :
    wpAny (model prog w) A (Builtin.Slice.sliceApplied (.ref sl) (pure (n : Int))) Q E s := by
  obtain ⟨os, hos, hcs, hds⟩ := id hs
  unfold Builtin.Slice.sliceApplied Builtin.Slice.sliceFields
  refine wpAny_bind (wpAny_bind (wpAny_field hos hds (x := .none) rfl (wpAny_bind (wpAny_field hos hds (x := .int b u) rfl (wpAny_bind (wpAny_field hos hds (x := .none) rfl (wpAny_pure ?_)))))))
  refine wpAny_bind (slicePart_none ?_)
  show wpAny _ _ (if ((1 : Int) == 0) = true then _ else _) _ _ s
  rw [if_neg (by decide)]
  refine wpAny_bind (slicePart_none (wpAny_bind (slicePart_int (wpAny_bind (wpAny_pure ?_)))))
  have e1 : Builtin.Slice.sliceAdjust none (some (b : Int)) 1 (n : Int) = (((0 : Nat) : Int), (b : Int)) := by
    unfold Builtin.Slice.sliceAdjust
    have h1 : ¬ ((1 : Int) < 0) := by omega
    have h2 : ¬ ((b : Int) < 0) := by omega
    simp only [h1, h2, if_false]
    congr 1
    omega
  have e2 : Builtin.Slice.slicePlaces ((0 : Nat) : Int) (b : Int) 1 = b := by
    unfold Builtin.Slice.slicePlaces
    have h1 : (1 : Int) > 0 := by omega
    simp only [h1, if_true, Int.ediv_one]
    split <;> omega
  show wpAny _ _ (match Builtin.Slice.sliceAdjust none (some (b : Int)) 1 (n : Int) with | (lo, hi) => pure (lo, (1 : Int), Builtin.Slice.slicePlaces lo hi 1)) _ _ s
  rw [e1]
  show wpAny _ _ (pure (((0 : Nat) : Int), (1 : Int), Builtin.Slice.slicePlaces ((0 : Nat) : Int) (b : Int) 1)) _ _ s
  rw [e2]
  exact wpAny_pure h
end
section
variable {prog : Program} {w : World} {A : Around} {E : Value → Shared → Prop} {s : Shared} {h₀ : Heap} {L : Addr} {m : PySem.Str → Option Value} {news : List (Addr × Obj)}
theorem slice_tup_from {value slice : PySem.Expr} {t n0 : Nat} {vs : List Value} {ns : List Int} {a : Nat} {i : Int} {u : Tok} {Q : Value → Shared → Prop}
    (F : Fr h₀ L s.heap m) (N : News h₀ L s.heap news) (ht : (t, seqOf "tuple" vs.toArray n0) ∈ news) (hi : IntsAre vs ns) (hl : ns.length ≤ 1000) (hia : i = (a : Int)) (ha : a ≤ ns.length)
    (h : ∀ r h' news', Fr h₀ L h' m → News h₀ L h' news' → (∀ p ∈ news, p ∈ news') → SeqIn "tuple" news' r (ns.drop a) → Q r { s with heap := h' })
    (hs : subscripted slice false (.ref t) (.ref s.heap.objs.size) = operate [.ref s.heap.objs.size, .ref t] (getItem (.ref t) (.ref s.heap.objs.size)) := by with_unfolding_all rfl)
    (hg : ∀ r, letTemporaryGo value (.ref t) r = pure () := by intro _; with_unfolding_all rfl) :
    wpAny (model prog w) A (subscriptTail value slice (.ref t) (.ref s.heap.objs.size)) Q E { s with heap := s.heap.push { cls := .type "slice", data := .fields #[.int i u, .none, .none] } } := by
  subst hia
  have hT := News.isTup N ht
  have hlen : vs.length = ns.length := hi.length
  have hz : vs.toArray.size ≤ sizeLine := by rw [List.size_toArray, hlen, sizeLine_eq]; omega
  have ht' : IsTup (s.heap.push { cls := .type "slice", data := .fields #[.int a u, .none, .none] }) t vs.toArray := hT.keeps fun _ _ e => Heap.get?_push_of_some _ e
  have N0 : News h₀ L (s.heap.push { cls := .type "slice", data := .fields #[.int a u, .none, .none] }) news := N.grown fun _ _ e => Heap.get?_push_of_some _ e
  have F0 := F.push { cls := .type "slice", data := .fields #[.int a u, .none, .none] }
  refine subscriptTail_ops (s := { s with heap := s.heap.push { cls := .type "slice", data := .fields #[.int a u, .none, .none] } }) ht'.typeIs slot_tuple_getitem.lookup
    (getItem_tuple_run (lo := a) (n := vs.toArray.size - a) ht' ⟨_, Heap.get?_push_size _ rfl, rfl⟩ (fun Q' E' A' hq => sliceApplied_from (Heap.IsSliceOf.new ..) (by rw [List.size_toArray]; omega) hq) (by rw [List.size_toArray]; omega) ?_ ?_ hz) hs hg
  · intro h0 _
    subst h0
    exact h _ _ _ F0 N0 (fun _ hp => hp) ⟨_, _, _, rfl, ht, by simpa using hi⟩
  · intro _
    have N1 := News.push F0 N0 { cls := .type "tuple", data := .seq (((vs.toArray).toList.drop a).take (vs.toArray.size - a)).toArray }
    refine h _ _ _ (F0.push _) N1 (fun _ hp => .tail _ hp) ⟨_, _, _, rfl, .head _, ?_⟩
    have e : ((vs.toArray).toList.drop a).take (vs.toArray.size - a) = vs.drop a := by
      rw [List.take_of_length_le (by simp)]
    rw [e]
    exact hi.drop a
theorem slice_tup_upto {value slice : PySem.Expr} {t n0 : Nat} {vs : List Value} {ns : List Int} {b : Nat} {i : Int} {u : Tok} {Q : Value → Shared → Prop}
    (F : Fr h₀ L s.heap m) (N : News h₀ L s.heap news) (ht : (t, seqOf "tuple" vs.toArray n0) ∈ news) (hi : IntsAre vs ns) (hl : ns.length ≤ 1000) (hib : i = (b : Int)) (hb : b ≤ ns.length)
    (h : ∀ r h' news', Fr h₀ L h' m → News h₀ L h' news' → (∀ p ∈ news, p ∈ news') → SeqIn "tuple" news' r (ns.take b) → Q r { s with heap := h' })
    (hs : subscripted slice false (.ref t) (.ref s.heap.objs.size) = operate [.ref s.heap.objs.size, .ref t] (getItem (.ref t) (.ref s.heap.objs.size)) := by with_unfolding_all rfl)
    (hg : ∀ r, letTemporaryGo value (.ref t) r = pure () := by intro _; with_unfolding_all rfl) :
    wpAny (model prog w) A (subscriptTail value slice (.ref t) (.ref s.heap.objs.size)) Q E { s with heap := s.heap.push { cls := .type "slice", data := .fields #[.none, .int i u, .none] } } := by
  subst hib
  have hT := News.isTup N ht
  have hlen : vs.length = ns.length := hi.length
  have hz : vs.toArray.size ≤ sizeLine := by rw [List.size_toArray, hlen, sizeLine_eq]; omega
  have ht' : IsTup (s.heap.push { cls := .type "slice", data := .fields #[.none, .int b u, .none] }) t vs.toArray := hT.keeps fun _ _ e => Heap.get?_push_of_some _ e
  have N0 : News h₀ L (s.heap.push { cls := .type "slice", data := .fields #[.none, .int b u, .none] }) news := N.grown fun _ _ e => Heap.get?_push_of_some _ e
  have F0 := F.push { cls := .type "slice", data := .fields #[.none, .int b u, .none] }
  refine subscriptTail_ops (s := { s with heap := s.heap.push { cls := .type "slice", data := .fields #[.none, .int b u, .none] } }) ht'.typeIs slot_tuple_getitem.lookup
    (getItem_tuple_run (lo := 0) (n := b) ht' ⟨_, Heap.get?_push_size _ rfl, rfl⟩ (fun Q' E' A' hq => sliceApplied_upto (Heap.IsSliceOf.new ..) (by rw [List.size_toArray]; omega) hq) (by rw [List.size_toArray]; omega) ?_ ?_ hz) hs hg
  · intro _ h0
    refine h _ _ _ F0 N0 (fun _ hp => hp) ⟨_, _, _, rfl, ht, ?_⟩
    rw [h0, List.size_toArray, hlen, List.take_length]
    exact hi
  · intro _
    have N1 := News.push F0 N0 { cls := .type "tuple", data := .seq (((vs.toArray).toList.drop 0).take b).toArray }
    refine h _ _ _ (F0.push _) N1 (fun _ hp => .tail _ hp) ⟨_, _, _, rfl, .head _, ?_⟩
    exact hi.take b
end
end Mine
end
section
open PySem PySem.Spec PySem.Calls PySem.W PyProof.Rows
namespace Mine
section
variable {prog : Program} {w : World} {A : Around} {E : Value → Shared → Prop} {s : Shared} {h₀ : Heap} {L : Addr} {m : PySem.Str → Option Value} {news : List (Addr × Obj)} {c : String}
theorem slice_lst_from {value slice : PySem.Expr} {t n0 : Nat} {vs : List Value} {ns : List Int} {a : Nat} {i : Int} {u : Tok} {Q : Value → Shared → Prop}
    (F : Fr h₀ L s.heap m) (N : News h₀ L s.heap news) (ht : (t, seqOf "list" vs.toArray n0) ∈ news) (hi : IntsAre vs ns) (hl : ns.length ≤ 1000) (hia : i = (a : Int)) (ha : a ≤ ns.length)
    (h : ∀ r h' news', Fr h₀ L h' m → News h₀ L h' news' → (∀ p ∈ news, p ∈ news') → SeqIn "list" news' r (ns.drop a) → Q r { s with heap := h' })
    (hs : subscripted slice false (.ref t) (.ref s.heap.objs.size) = operate [.ref s.heap.objs.size, .ref t] (getItem (.ref t) (.ref s.heap.objs.size)) := by with_unfolding_all rfl)
    (hg : ∀ r, letTemporaryGo value (.ref t) r = pure () := by intro _; with_unfolding_all rfl) :
    wpAny (model prog w) A (subscriptTail value slice (.ref t) (.ref s.heap.objs.size)) Q E { s with heap := s.heap.push { cls := .type "slice", data := .fields #[.int i u, .none, .none] } } := by
  subst hia
  refine slice_list F N (News.isList N ht) (.int _ _) .none (fun h' F' N' => ?_) hs hg (by rw [List.size_toArray, hi.length, sizeLine_eq]; omega)
  refine h _ _ _ F' N' (fun _ hp => .tail _ hp) ⟨_, _, _, rfl, .head _, ?_⟩
  exact slice_ints_from hi (by omega) (by omega)
theorem slice_lst_upto {value slice : PySem.Expr} {t n0 : Nat} {vs : List Value} {ns : List Int} {b : Nat} {i : Int} {u : Tok} {Q : Value → Shared → Prop}
    (F : Fr h₀ L s.heap m) (N : News h₀ L s.heap news) (ht : (t, seqOf "list" vs.toArray n0) ∈ news) (hi : IntsAre vs ns) (hl : ns.length ≤ 1000) (hib : i = (b : Int)) (hb : b ≤ ns.length)
    (h : ∀ r h' news', Fr h₀ L h' m → News h₀ L h' news' → (∀ p ∈ news, p ∈ news') → SeqIn "list" news' r (ns.take b) → Q r { s with heap := h' })
    (hs : subscripted slice false (.ref t) (.ref s.heap.objs.size) = operate [.ref s.heap.objs.size, .ref t] (getItem (.ref t) (.ref s.heap.objs.size)) := by with_unfolding_all rfl)
    (hg : ∀ r, letTemporaryGo value (.ref t) r = pure () := by intro _; with_unfolding_all rfl) :
    wpAny (model prog w) A (subscriptTail value slice (.ref t) (.ref s.heap.objs.size)) Q E { s with heap := s.heap.push { cls := .type "slice", data := .fields #[.none, .int i u, .none] } } := by
  subst hib
  refine slice_list F N (News.isList N ht) .none (.int _ _) (fun h' F' N' => ?_) hs hg (by rw [List.size_toArray, hi.length, sizeLine_eq]; omega)
  refine h _ _ _ F' N' (fun _ hp => .tail _ hp) ⟨_, _, _, rfl, .head _, ?_⟩
  exact slice_ints_upto hi (by omega) (by omega)
theorem slice_from {value slice : PySem.Expr} {t n0 : Nat} {vs : List Value} {ns : List Int} {a : Nat} {i : Int} {u : Tok} {Q : Value → Shared → Prop} (hc : c = "list" ∨ c = "tuple")
    (F : Fr h₀ L s.heap m) (N : News h₀ L s.heap news) (ht : (t, seqOf c vs.toArray n0) ∈ news) (hi : IntsAre vs ns) (hl : ns.length ≤ 1000) (hia : i = (a : Int)) (ha : a ≤ ns.length)
    (h : ∀ r h' news', Fr h₀ L h' m → News h₀ L h' news' → (∀ p ∈ news, p ∈ news') → SeqIn c news' r (ns.drop a) → Q r { s with heap := h' })
    (hs : subscripted slice false (.ref t) (.ref s.heap.objs.size) = operate [.ref s.heap.objs.size, .ref t] (getItem (.ref t) (.ref s.heap.objs.size)) := by with_unfolding_all rfl)
    (hg : ∀ r, letTemporaryGo value (.ref t) r = pure () := by intro _; with_unfolding_all rfl) :
    wpAny (model prog w) A (subscriptTail value slice (.ref t) (.ref s.heap.objs.size)) Q E { s with heap := s.heap.push { cls := .type "slice", data := .fields #[.int i u, .none, .none] } } := by
  rcases hc with rfl | rfl
  · exact slice_lst_from F N ht hi hl hia ha h hs hg
  · exact slice_tup_from F N ht hi hl hia ha h hs hg
theorem slice_upto {value slice : PySem.Expr} {t n0 : Nat} {vs : List Value} {ns : List Int} {b : Nat} {i : Int} {u : Tok} {Q : Value → Shared → Prop} (hc : c = "list" ∨ c = "tuple")
    (F : Fr h₀ L s.heap m) (N : News h₀ L s.heap news) (ht : (t, seqOf c vs.toArray n0) ∈ news) (hi : IntsAre vs ns) (hl : ns.length ≤ 1000) (hib : i = (b : Int)) (hb : b ≤ ns.length)
    (h : ∀ r h' news', Fr h₀ L h' m → News h₀ L h' news' → (∀ p ∈ news, p ∈ news') → SeqIn c news' r (ns.take b) → Q r { s with heap := h' })
    (hs : subscripted slice false (.ref t) (.ref s.heap.objs.size) = operate [.ref s.heap.objs.size, .ref t] (getItem (.ref t) (.ref s.heap.objs.size)) := by with_unfolding_all rfl)
    (hg : ∀ r, letTemporaryGo value (.ref t) r = pure () := by intro _; with_unfolding_all rfl) :
    wpAny (model prog w) A (subscriptTail value slice (.ref t) (.ref s.heap.objs.size)) Q E { s with heap := s.heap.push { cls := .type "slice", data := .fields #[.none, .int i u, .none] } } := by
  rcases hc with rfl | rfl
  · exact slice_lst_upto F N ht hi hl hib hb h hs hg
  · exact slice_tup_upto F N ht hi hl hib hb h hs hg
theorem len_in {t n0 : Nat} {vs : List Value} {ns : List Int} {Q : Value → Shared → Prop} (hc : c = "list" ∨ c = "tuple") (N : News h₀ L s.heap news) (ht : (t, seqOf c vs.toArray n0) ∈ news) (hi : IntsAre vs ns) (hl : ns.length ≤ 1000)
    (h : ∀ tk, Q (.int (ns.length : Int) tk) { s with toks := s.toks + 1 + 1 }) : wpAny (model prog w) A (call (.builtin "len") [.ref t]) Q E s := by
  have hz : ((vs.toArray).size : Int) = (ns.length : Int) := by rw [List.size_toArray, hi.length]
  rcases hc with rfl | rfl
  · exact kun_lenL (News.isList N ht) hz (by omega) (h _)
  · exact kun_lenT (News.isTup N ht) hz (by omega) (h _)
theorem item_in {value slice : PySem.Expr} {t n0 : Nat} {vs : List Value} {ns : List Int} {k : Int} {u : Tok} {Q : Value → Shared → Prop} (hc : c = "list" ∨ c = "tuple") (N : News h₀ L s.heap news) (ht : (t, seqOf c vs.toArray n0) ∈ news) (hi : IntsAre vs ns) (hl : ns.length ≤ 1000)
    (h0 : 0 ≤ k) (h1 : k < ns.length) (h : ∀ t, Q (.int (ns.getD k.toNat 0) t) s)
    (hs : subscripted slice false (.ref t) (.int k u) = operate [.ref t, .int k u] (getItem (.ref t) (.int k u)) := by with_unfolding_all rfl) (hg : ∀ r, letTemporaryGo value (.ref t) r = pure () := by intro _; with_unfolding_all rfl) :
    wpAny (model prog w) A (subscriptTail value slice (.ref t) (.int k u)) Q E s := by
  rcases hc with rfl | rfl
  · exact item_list_ints (News.isList N ht) hi h0 h1 (by omega) h hs hg
  · exact item_tuple_ints (News.isTup N ht) hi h0 h1 (by omega) h hs hg
end
end Mine
namespace Mine
section
variable {prog : Program} {w : World} {A : Around} {E : Value → Shared → Prop} {s : Shared} {h₀ : Heap} {L : Addr} {m : PySem.Str → Option Value} {news : List (Addr × Obj)} {c : String}
theorem item_at {value slice : PySem.Expr} {t n0 : Nat} {its : Array Value} {k : Int} {u : Tok} {x : Value} {Q : Value → Shared → Prop} (N : News h₀ L s.heap news) (ht : (t, seqOf "list" its n0) ∈ news)
    (h0 : 0 ≤ k) (h1 : k < 2 ^ 63) (hx : its[k.toNat]? = some x) (h : Q x s)
    (hs : subscripted slice false (.ref t) (.int k u) = operate [.ref t, .int k u] (getItem (.ref t) (.int k u)) := by with_unfolding_all rfl) (hg : ∀ r, letTemporaryGo value (.ref t) r = pure () := by intro _; with_unfolding_all rfl) :
    wpAny (model prog w) A (subscriptTail value slice (.ref t) (.int k u)) Q E s :=
  item_list (News.isList N ht) h0 h1 hx h hs hg
end
end Mine
namespace Mine
section
variable {prog : Program} {w : World} {A : Around} {E : Value → Shared → Prop} {s : Shared} {h₀ : Heap} {L : Addr} {news : List (Addr × Obj)} {c : String}
theorem eq_empty {e t n1 n2 : Nat} {Q : Value → Shared → Prop} (hc : c = "list" ∨ c = "tuple") (N : News h₀ L s.heap news) (m1 : (e, seqOf c #[] n1) ∈ news) (m2 : (t, seqOf "tuple" #[] n2) ∈ news) (hu : A.units + 64 < cLine)
    (h : Q (.bool (decide (c = "tuple"))) s) : wpAny (model prog w) A (compareOp .Eq (.ref e) (.ref t)) Q E s := by
  rcases hc with rfl | rfl
  · exact eq_dataH (reads_list_at (News.get N m1) rfl rfl ReadsAll.nil) (reads_tuple_at (News.get N m2) rfl rfl ReadsAll.nil) rfl rfl hu h
  · exact eq_dataH (reads_tuple_at (News.get N m1) rfl rfl ReadsAll.nil) (reads_tuple_at (News.get N m2) rfl rfl ReadsAll.nil) rfl rfl hu h
end
theorem SeqIn.empty {c : String} {news : List (Addr × Obj)} {v : Value} (h : SeqIn c news v []) : ∃ e n, v = .ref e ∧ (e, seqOf c #[] n) ∈ news := by
  obtain ⟨a, vs, n, rfl, hm, hi⟩ := h
  cases hi
  exact ⟨a, n, rfl, hm⟩
end Mine
namespace Mine
open PySem PyProof.Rows
theorem SeqIn.cons {c : String} {a : List (Addr × Obj)} {x : Addr × Obj} {v : Value} {ns : List Int} (h : SeqIn c a v ns) : SeqIn c (x :: a) v ns := h.mono fun _ hp => .tail _ hp
end Mine
namespace Mine
open PySem PySem.Spec PySem.Calls PySem.W PyProof.Rows
section
variable {prog : Program} {w : World} {A : Around} {E : Value → Shared → Prop} {s : Shared} {h₀ : Heap} {L : Addr} {news : List (Addr × Obj)}
theorem reads_ints {v : Value} {ns : List Int} (N : News h₀ L s.heap news) (h : SeqIn "list" news v ns) : ∃ as, Reads s.heap v (.list (ns.map PyData.int)) as := by
  obtain ⟨a, vs, n, rfl, hm, hi⟩ := h
  exact ⟨_, reads_of_ints (News.isList N hm) hi⟩
theorem reads_pair {a n : Nat} {u1 u2 : Value} {ns ms : List Int} (N : News h₀ L s.heap news) (hm : (a, seqOf "list" #[u1, u2] n) ∈ news) (h1 : SeqIn "list" news u1 ns) (h2 : SeqIn "list" news u2 ms) :
    ∃ as, Reads s.heap (.ref a) (.list [.list (ns.map PyData.int), .list (ms.map PyData.int)]) as := by
  obtain ⟨as1, r1⟩ := reads_ints N h1
  obtain ⟨as2, r2⟩ := reads_ints N h2
  exact ⟨_, reads_list_at (News.get N hm) rfl rfl (ReadsAll.cons r1 (ReadsAll.cons r2 ReadsAll.nil))⟩
theorem shaped_pair (ns ms : List Int) : SeqAt.shaped (.list [.list (ns.map PyData.int), .list (ms.map PyData.int)]) = true := by
  simp [SeqAt.shaped, PyData.canLay0, PyData.canLayAll0, PyData.depth, PyData.depthAll, ke_canLayAll0, ke_depthAll]
theorem eqv_pair (ns ms : List Int) : PyData.eqv (.list [.list (ns.map PyData.int), .list (ms.map PyData.int)]) (.list [.list (ns.map PyData.int), .list (ms.map PyData.int)]) = true := by
  simp [PyData.eqv, PyData.eqvAll, ked_eqvAll]
theorem ne_pairs {a b n n' : Nat} {u1 u2 w1 w2 : Value} {ns ms : List Int} {Q : Value → Shared → Prop} (N : News h₀ L s.heap news) (mA : (a, seqOf "list" #[u1, u2] n) ∈ news) (h1 : SeqIn "list" news u1 ns) (h2 : SeqIn "list" news u2 ms)
    (mB : (b, seqOf "list" #[w1, w2] n') ∈ news) (h3 : SeqIn "list" news w1 ns) (h4 : SeqIn "list" news w2 ms) (hu : A.units + 64 < cLine) (h : Q (.bool false) s) : wpAny (model prog w) A (compareOp .NotEq (.ref a) (.ref b)) Q E s := by
  obtain ⟨as1, r1⟩ := reads_pair N mA h1 h2
  obtain ⟨as2, r2⟩ := reads_pair N mB h3 h4
  refine ne_dataH r1 r2 (shaped_pair _ _) (shaped_pair _ _) hu ?_
  rw [eqv_pair]
  exact h
theorem eq_pairs {a b n n' : Nat} {u1 u2 w1 w2 : Value} {ns ms : List Int} {Q : Value → Shared → Prop} (N : News h₀ L s.heap news) (mA : (a, seqOf "list" #[u1, u2] n) ∈ news) (h1 : SeqIn "list" news u1 ns) (h2 : SeqIn "list" news u2 ms)
    (mB : (b, seqOf "list" #[w1, w2] n') ∈ news) (h3 : SeqIn "list" news w1 ns) (h4 : SeqIn "list" news w2 ms) (hu : A.units + 64 < cLine) (h : Q (.bool true) s) : wpAny (model prog w) A (compareOp .Eq (.ref a) (.ref b)) Q E s := by
  obtain ⟨as1, r1⟩ := reads_pair N mA h1 h2
  obtain ⟨as2, r2⟩ := reads_pair N mB h3 h4
  refine eq_dataH r1 r2 (shaped_pair _ _) (shaped_pair _ _) hu ?_
  rw [eqv_pair]
  exact h
end
end Mine
namespace Mine
open PySem PySem.Spec PySem.Calls PySem.W PyProof.Rows
section
variable {prog : Program} {w : World} {A : Around} {E : Value → Shared → Prop} {s : Shared} {h₀ : Heap} {L : Addr} {news : List (Addr × Obj)} {t n x y n' : Nat} {its its' : Array Value} {Q : Value → Shared → Prop}
theorem isi_ll (N : News h₀ L s.heap news) (m : (t, seqOf "list" its n) ∈ news) (h : ∀ k, Q (.bool true) { s with toks := k }) : wpAny (model prog w) A (call (.builtin "isinstance") [.ref t, .type "list"]) Q E s := IsiPair.list_list (News.get N m) rfl (h _)
theorem isi_lt (N : News h₀ L s.heap news) (m : (t, seqOf "list" its n) ∈ news) (h : ∀ k, Q (.bool false) { s with toks := k }) : wpAny (model prog w) A (call (.builtin "isinstance") [.ref t, .type "tuple"]) Q E s := IsiPair.list_tuple (News.get N m) rfl (h _)
theorem isi_tl (N : News h₀ L s.heap news) (m : (t, seqOf "tuple" its n) ∈ news) (h : ∀ k, Q (.bool false) { s with toks := k }) : wpAny (model prog w) A (call (.builtin "isinstance") [.ref t, .type "list"]) Q E s := IsiPair.tuple_list (News.get N m) rfl (h _)
theorem isi_tt (N : News h₀ L s.heap news) (m : (t, seqOf "tuple" its n) ∈ news) (h : ∀ k, Q (.bool true) { s with toks := k }) : wpAny (model prog w) A (call (.builtin "isinstance") [.ref t, .type "tuple"]) Q E s := IsiPair.tuple_tuple (News.get N m) rfl (h _)
theorem is_other {M : Model} (N : News h₀ L s.heap news) (m : (x, seqOf "list" its n) ∈ news) (m' : (y, seqOf "list" its' n') ∈ news) (hxy : x ≠ y) (hq : Q (.bool false) s) : wpAny M A (compareOp .Is (.ref x) (.ref y)) Q E s :=
  kto_is (News.get N m) (News.get N m') hxy (fun e => absurd (show Value.type "list" = Value.type "tuple" from e) (by decide)) hq
end
end Mine
namespace Mine
open PySem PySem.Spec PySem.Calls PySem.W PyProof.Rows
theorem ne_bools {prog : Program} {w : World} {A : Around} {E : Value → Shared → Prop} {s : Shared} {h₀ : Heap} {L : Addr} {news : List (Addr × Obj)} {a b n n' : Nat} {x y : Bool} {Q : Value → Shared → Prop} (N : News h₀ L s.heap news)
    (mA : (a, seqOf "list" #[.bool x, .bool y] n) ∈ news) (mB : (b, seqOf "list" #[.bool x, .bool y] n') ∈ news) (hu : A.units + 64 < cLine) (h : Q (.bool false) s) : wpAny (model prog w) A (compareOp .NotEq (.ref a) (.ref b)) Q E s := by
  refine ne_dataH (reads_list_at (News.get N mA) rfl rfl (ReadsAll.cons (Reads.bool _) (ReadsAll.cons (Reads.bool _) ReadsAll.nil))) (reads_list_at (News.get N mB) rfl rfl (ReadsAll.cons (Reads.bool _) (ReadsAll.cons (Reads.bool _) ReadsAll.nil))) rfl rfl hu ?_
  have e : PyData.eqv (.list [.bool x, .bool y]) (.list [.bool x, .bool y]) = true := by cases x <;> cases y <;> rfl
  rw [e]
  exact h
end Mine
end
section
open PySem PySem.Spec PySem.Calls PySem.W PyProof.Rows
open Sem (wp)
set_option maxRecDepth 100000
set_option maxHeartbeats 8000000
namespace Mine
local macro_rules | `(tactic| walk_at "mine.wp") => `(tactic| first
  | with_reducible (first | refine wpAny_bind ?_ | refine wpAny_pure ?_ | refine wpAny_of_eq (by assumption) ?_ | refine wpAny_typeOf (by assumption) ?_ | refine wpAny_isInstance_val (by assumption) (by assumption) ?_ | refine wpAny_isInstance (by assumption) (by assumption) ?_ | refine wpAny_specialOf_val (by assumption) (by assumption) ?_ | refine wpAny_specialOf (by assumption) (by assumption) ?_)
  | ((with_reducible show wpAny _ _ (if _ then _ else _) _ _ _); (first | ((with_reducible refine wpAny_ite_false ?_ ?_); focus (rfl; done)) | ((with_reducible refine wpAny_ite_true ?_ ?_); focus (rfl; done)) | ((with_reducible refine wpAny_ite_false ?_ ?_); focus (simp [*]; done)) | ((with_reducible refine wpAny_ite_true ?_ ?_); focus (simp [*]; done)) | wp_step))
  | ((first | (with_reducible show wpAny _ _ (Sem.attempt _) _ _ _) | (with_reducible show wpAny _ _ (holding _ _) _ _ _) | (with_reducible show wpAny _ _ (rule _) _ _ _) | (with_reducible show wpAny _ _ (throw _) _ _ _) | (with_reducible show wpAny _ _ (mkStr _) _ _ _) | (with_reducible show wpAny _ _ (call _ _ _) _ _ _)); wp_step)
  | wp_delta
  | wp_step)
namespace HA
theorem kind_hasattr : builtinKind "hasattr" = none := by decide +kernel
theorem plain_hasattr : plainId "hasattr" = true := by decide +kernel
theorem entry_hasattr : entryFor table "hasattr" = some Builtin.«hasattr» := entryFor_of_tree (by kernel_rfl)
theorem args_hasattr_2 (a b : Value) : argsOk "hasattr" ⟨[a, b], []⟩ := by unfold argsOk; kernel_rfl
theorem ty_list_gi : typeOf (.builtin "list.__getitem__") = pure (.type "method_descriptor") := by kernel_rfl
theorem ty_tuple_gi : typeOf (.builtin "tuple.__getitem__") = pure (.type "wrapper_descriptor") := by kernel_rfl
theorem ty_str_gi : typeOf (.builtin "str.__getitem__") = pure (.type "wrapper_descriptor") := by kernel_rfl
theorem lk_list_gi : typeLookup (.type "list") "__getitem__" = pure (some (.builtin "list.__getitem__")) := by rw [typeLookup_type, builtinLookup_eq_fast]; kernel_rfl
theorem lk_tuple_gi : typeLookup (.type "tuple") "__getitem__" = pure (some (.builtin "tuple.__getitem__")) := by rw [typeLookup_type, builtinLookup_eq_fast]; kernel_rfl
theorem lk_str_gi : typeLookup (.type "str") "__getitem__" = pure (some (.builtin "str.__getitem__")) := by rw [typeLookup_type, builtinLookup_eq_fast]; kernel_rfl
theorem lk_int_gi : typeLookup (.type "int") "__getitem__" = pure none := by rw [typeLookup_type, builtinLookup_eq_fast]; kernel_rfl
theorem lk_float_gi : typeLookup (.type "float") "__getitem__" = pure none := by rw [typeLookup_type, builtinLookup_eq_fast]; kernel_rfl
theorem lk_none_gi : typeLookup (.type "NoneType") "__getitem__" = pure none := by rw [typeLookup_type, builtinLookup_eq_fast]; kernel_rfl
theorem slot_md_get : Slot "method_descriptor" "__get__" "method_descriptor.__get__" :=
  .of (owner := "method_descriptor") (n := "__get__") (by rw [typeLookup_type, builtinLookup_eq_fast]; kernel_rfl) (by decide +kernel) (by decide +kernel) (by decide +kernel)
    (by first | exact .inl (by decide +kernel) | exact .inr (by decide +kernel)) (by rw [isSubtype_type]; kernel_rfl)
theorem slot_wd_get : Slot "wrapper_descriptor" "__get__" "wrapper_descriptor.__get__" :=
  .of (owner := "wrapper_descriptor") (n := "__get__") (by rw [typeLookup_type, builtinLookup_eq_fast]; kernel_rfl) (by decide +kernel) (by decide +kernel) (by decide +kernel)
    (by first | exact .inl (by decide +kernel) | exact .inr (by decide +kernel)) (by rw [isSubtype_type]; kernel_rfl)
theorem md_set : typeLookup (.type "method_descriptor") "__set__" = pure none := by rw [typeLookup_type, builtinLookup_eq_fast]; kernel_rfl
theorem wd_set : typeLookup (.type "wrapper_descriptor") "__set__" = pure none := by rw [typeLookup_type, builtinLookup_eq_fast]; kernel_rfl
theorem md_del : typeLookup (.type "method_descriptor") "__delete__" = pure none := by rw [typeLookup_type, builtinLookup_eq_fast]; kernel_rfl
theorem wd_del : typeLookup (.type "wrapper_descriptor") "__delete__" = pure none := by rw [typeLookup_type, builtinLookup_eq_fast]; kernel_rfl
theorem entry_md_get : entryFor table "method_descriptor.__get__" = some Builtin.«method_descriptor.__get__» := entryFor_of_tree (by kernel_rfl)
theorem entry_wd_get : entryFor table "wrapper_descriptor.__get__" = some Builtin.«wrapper_descriptor.__get__» := entryFor_of_tree (by kernel_rfl)
theorem args_md_get (a b c : Value) : argsOk "method_descriptor.__get__" ⟨[a, b, c], []⟩ := by unfold argsOk; kernel_rfl
theorem args_wd_get (a b c : Value) : argsOk "wrapper_descriptor.__get__" ⟨[a, b, c], []⟩ := by unfold argsOk; kernel_rfl
theorem sub_list_gi_owner : isSubtype (.type "list") (.type (".".intercalate ("list.__getitem__".cutAt '.').dropLast)) = pure true := by
  have e0 : "list.__getitem__".cutAt '.' = ["list", "__getitem__"] := by first | rfl | decide +kernel
  have e1 : (".".intercalate ("list.__getitem__".cutAt '.').dropLast) = "list" := by rw [e0]; decide +kernel
  rw [e1, isSubtype_type]; kernel_rfl
theorem sub_tuple_gi_owner : isSubtype (.type "tuple") (.type (".".intercalate ("tuple.__getitem__".cutAt '.').dropLast)) = pure true := by
  have e0 : "tuple.__getitem__".cutAt '.' = ["tuple", "__getitem__"] := by first | rfl | decide +kernel
  have e1 : (".".intercalate ("tuple.__getitem__".cutAt '.').dropLast) = "tuple" := by rw [e0]; decide +kernel
  rw [e1, isSubtype_type]; kernel_rfl
theorem sub_str_gi_owner : isSubtype (.type "str") (.type (".".intercalate ("str.__getitem__".cutAt '.').dropLast)) = pure true := by
  have e0 : "str.__getitem__".cutAt '.' = ["str", "__getitem__"] := by first | rfl | decide +kernel
  have e1 : (".".intercalate ("str.__getitem__".cutAt '.').dropLast) = "str" := by rw [e0]; decide +kernel
  rw [e1, isSubtype_type]; kernel_rfl
theorem entry_tuple_ga : entryFor table "tuple.__getattribute__" = some Builtin.«object.__getattribute__» :=
  entryFor_alias (id' := "object.__getattribute__") (by kernel_rfl) (by first | rfl | decide +kernel) (by decide +kernel) (by kernel_rfl)
end HA
section
variable {prog : Program} {w : World} {A : Around} {E : Value → Shared → Prop} {h : Heap} {g : Array GenState} {d : Drawn} {t : Nat} {os : OsState} {a : Addr} {its : Array Value} {n : Nat} {x : PySem.Str} {u : Tok}
theorem gi_get_list {R : Result → Shared → Prop} (hx : h.get? a = some { cls := .type "list", data := .seq its n }) (hq : ∀ ob, R (.ok (.ret (.ref h.objs.size))) ⟨h.push ob, g, d, t, os⟩) :
    codeAny (model prog w) A (.call (.builtin "method_descriptor.__get__") ⟨[.builtin "list.__getitem__", .ref a, .type "list"], []⟩) R ⟨h, g, d, t, os⟩ := by
  have hT : (⟨h, g, d, t, os⟩ : Shared).TypeIs (.ref a) "list" := ⟨_, hx, rfl⟩
  have hT5 : (⟨h, g, d, t, os⟩ : Shared).TypeIs (.builtin "list.__getitem__") "method_descriptor" := HA.ty_list_gi
  have f8 := HA.sub_list_gi_owner
  refine codeAny_call_builtin HA.slot_md_get.plain HA.entry_md_get (HA.slot_md_get.check _ _ _ _ _ _ _ _ hT5 (HA.args_md_get _ _ _) ?_)
  repeat (any_goals (first | assumption | walk_at "mine.wp"))
  exact hq _
theorem gi_entry_list {tk : Tok} {Q : Fin → Shared → Prop} (hx : h.get? a = some { cls := .type "list", data := .seq its n }) (hq : ∀ ob, Q (.done (.ret (.ref h.objs.size))) ⟨h.push ob, g, d, t, os⟩) :
    wpAny (model prog w) A (Builtin.«object.__getattribute__» ⟨[.ref a, .str "__getitem__" tk], []⟩) Q E ⟨h, g, d, t, os⟩ := by
  have hT : (⟨h, g, d, t, os⟩ : Shared).TypeIs (.ref a) "list" := ⟨_, hx, rfl⟩
  have hT5 : (⟨h, g, d, t, os⟩ : Shared).TypeIs (.builtin "list.__getitem__") "method_descriptor" := HA.ty_list_gi
  have f4 := HA.lk_list_gi
  have f5 := HA.ty_list_gi
  have f6 := HA.slot_md_get.lookup
  have f7 := HA.md_set
  have f8 := HA.md_del
  repeat (any_goals (first | assumption | walk_at "mine.wp"))
  refine gi_get_list hx fun ob => ?_
  repeat (any_goals (first | assumption | walk_at "mine.wp"))
  exact hq _
theorem gi_call_list {tk : Tok} {R : Result → Shared → Prop} (hx : h.get? a = some { cls := .type "list", data := .seq its n }) (hq : ∀ ob, R (.ok (.ret (.ref h.objs.size))) ⟨h.push ob, g, d, t, os⟩) :
    codeAny (model prog w) A (.call (.builtin "list.__getattribute__") ⟨[.ref a, .str "__getitem__" tk], []⟩) R ⟨h, g, d, t, os⟩ :=
  codeAny_call_builtin F.slot_list_getattribute.plain F.entry_list_ga (F.slot_list_getattribute.check _ _ _ _ _ _ _ _ (show (⟨h, g, d, t, os⟩ : Shared).TypeIs (.ref a) "list" from ⟨_, hx, rfl⟩) (F.args_list_getattribute_2 _ _) (gi_entry_list hx hq))
theorem gi_by_list {tk : Tok} {Q : Value → Shared → Prop} (hx : h.get? a = some { cls := .type "list", data := .seq its n }) (hq : ∀ ob, Q (.ref h.objs.size) ⟨h.push ob, g, d, t, os⟩) :
    wpAny (model prog w) A (getAttrBy (.ref a) (.str "__getitem__" tk) false) Q E ⟨h, g, d, t, os⟩ := by
  have hT : (⟨h, g, d, t, os⟩ : Shared).TypeIs (.ref a) "list" := ⟨_, hx, rfl⟩
  have f2 := F.slot_list_getattribute.lookup
  have f3 := F.slot_list_getattribute.bind (.ref a)
  repeat (any_goals (first | assumption | walk_at "mine.wp"))
  refine gi_call_list hx fun ob => ?_
  repeat (any_goals (first | assumption | walk_at "mine.wp"))
  exact hq _
theorem has_list {tk : Tok} {Q : Value → Shared → Prop} (hx : h.get? a = some { cls := .type "list", data := .seq its n }) (hq : ∀ h' tk', (∀ b o, h.get? b = some o → h'.get? b = some o) → Q (.bool true) ⟨h', g, d, tk', os⟩) :
    wpAny (model prog w) A (call (.builtin "hasattr") [.ref a, .str "__getitem__" tk]) Q E ⟨h, g, d, t, os⟩ := by
  refine Calls.call_function_entry HA.kind_hasattr HA.plain_hasattr HA.entry_hasattr (HA.args_hasattr_2 _ _) ?_
  have hT : (⟨h, g, d, t, os⟩ : Shared).TypeIs (.ref a) "list" := ⟨_, hx, rfl⟩
  have f2 := F.slot_list_getattribute.lookup
  have f3 := F.slot_list_getattribute.bind (.ref a)
  have f4 := HA.lk_list_gi
  have f5 : isSubtype (.type "list") (.type "module") = pure false := by rw [isSubtype_type]; kernel_rfl
  unfold Builtin.«hasattr»
  repeat (any_goals (first | assumption | ((with_reducible show wpAny _ _ (getAttrBy _ _ _) _ _ _); refine gi_by_list hx ?_) | walk_at "mine.wp"))
  intro ob
  repeat (any_goals (first | assumption | walk_at "mine.wp"))
  exact ⟨_, rfl, hq _ _ fun b o e => Heap.get?_push_of_some _ e⟩
theorem gi_get_tuple {R : Result → Shared → Prop} (hx : h.get? a = some { cls := .type "tuple", data := .seq its n }) (hq : ∀ ob, R (.ok (.ret (.ref h.objs.size))) ⟨h.push ob, g, d, t, os⟩) :
    codeAny (model prog w) A (.call (.builtin "wrapper_descriptor.__get__") ⟨[.builtin "tuple.__getitem__", .ref a, .type "tuple"], []⟩) R ⟨h, g, d, t, os⟩ := by
  have hT : (⟨h, g, d, t, os⟩ : Shared).TypeIs (.ref a) "tuple" := ⟨_, hx, rfl⟩
  have hT5 : (⟨h, g, d, t, os⟩ : Shared).TypeIs (.builtin "tuple.__getitem__") "wrapper_descriptor" := HA.ty_tuple_gi
  have f8 := HA.sub_tuple_gi_owner
  refine codeAny_call_builtin HA.slot_wd_get.plain HA.entry_wd_get (HA.slot_wd_get.check _ _ _ _ _ _ _ _ hT5 (HA.args_wd_get _ _ _) ?_)
  repeat (any_goals (first | assumption | walk_at "mine.wp"))
  exact hq _
theorem gi_entry_tuple {tk : Tok} {Q : Fin → Shared → Prop} (hx : h.get? a = some { cls := .type "tuple", data := .seq its n }) (hq : ∀ ob, Q (.done (.ret (.ref h.objs.size))) ⟨h.push ob, g, d, t, os⟩) :
    wpAny (model prog w) A (Builtin.«object.__getattribute__» ⟨[.ref a, .str "__getitem__" tk], []⟩) Q E ⟨h, g, d, t, os⟩ := by
  have hT : (⟨h, g, d, t, os⟩ : Shared).TypeIs (.ref a) "tuple" := ⟨_, hx, rfl⟩
  have hT5 : (⟨h, g, d, t, os⟩ : Shared).TypeIs (.builtin "tuple.__getitem__") "wrapper_descriptor" := HA.ty_tuple_gi
  have f4 := HA.lk_tuple_gi
  have f5 := HA.ty_tuple_gi
  have f6 := HA.slot_wd_get.lookup
  have f7 := HA.wd_set
  have f8 := HA.wd_del
  repeat (any_goals (first | assumption | walk_at "mine.wp"))
  refine gi_get_tuple hx fun ob => ?_
  repeat (any_goals (first | assumption | walk_at "mine.wp"))
  exact hq _
theorem gi_call_tuple {tk : Tok} {R : Result → Shared → Prop} (hx : h.get? a = some { cls := .type "tuple", data := .seq its n }) (hq : ∀ ob, R (.ok (.ret (.ref h.objs.size))) ⟨h.push ob, g, d, t, os⟩) :
    codeAny (model prog w) A (.call (.builtin "tuple.__getattribute__") ⟨[.ref a, .str "__getitem__" tk], []⟩) R ⟨h, g, d, t, os⟩ :=
  codeAny_call_builtin F.slot_tuple_getattribute.plain HA.entry_tuple_ga (F.slot_tuple_getattribute.check _ _ _ _ _ _ _ _ (show (⟨h, g, d, t, os⟩ : Shared).TypeIs (.ref a) "tuple" from ⟨_, hx, rfl⟩) (F.args_tuple_getattribute_2 _ _) (gi_entry_tuple hx hq))
theorem gi_by_tuple {tk : Tok} {Q : Value → Shared → Prop} (hx : h.get? a = some { cls := .type "tuple", data := .seq its n }) (hq : ∀ ob, Q (.ref h.objs.size) ⟨h.push ob, g, d, t, os⟩) :
    wpAny (model prog w) A (getAttrBy (.ref a) (.str "__getitem__" tk) false) Q E ⟨h, g, d, t, os⟩ := by
  have hT : (⟨h, g, d, t, os⟩ : Shared).TypeIs (.ref a) "tuple" := ⟨_, hx, rfl⟩
  have f2 := F.slot_tuple_getattribute.lookup
  have f3 := F.slot_tuple_getattribute.bind (.ref a)
  repeat (any_goals (first | assumption | walk_at "mine.wp"))
  refine gi_call_tuple hx fun ob => ?_
  repeat (any_goals (first | assumption | walk_at "mine.wp"))
  exact hq _
theorem has_tuple {tk : Tok} {Q : Value → Shared → Prop} (hx : h.get? a = some { cls := .type "tuple", data := .seq its n }) (hq : ∀ h' tk', (∀ b o, h.get? b = some o → h'.get? b = some o) → Q (.bool true) ⟨h', g, d, tk', os⟩) :
    wpAny (model prog w) A (call (.builtin "hasattr") [.ref a, .str "__getitem__" tk]) Q E ⟨h, g, d, t, os⟩ := by
  refine Calls.call_function_entry HA.kind_hasattr HA.plain_hasattr HA.entry_hasattr (HA.args_hasattr_2 _ _) ?_
  have hT : (⟨h, g, d, t, os⟩ : Shared).TypeIs (.ref a) "tuple" := ⟨_, hx, rfl⟩
  have f2 := F.slot_tuple_getattribute.lookup
  have f3 := F.slot_tuple_getattribute.bind (.ref a)
  have f4 := HA.lk_tuple_gi
  have f5 : isSubtype (.type "tuple") (.type "module") = pure false := by rw [isSubtype_type]; kernel_rfl
  unfold Builtin.«hasattr»
  repeat (any_goals (first | assumption | ((with_reducible show wpAny _ _ (getAttrBy _ _ _) _ _ _); refine gi_by_tuple hx ?_) | walk_at "mine.wp"))
  intro ob
  repeat (any_goals (first | assumption | walk_at "mine.wp"))
  exact ⟨_, rfl, hq _ _ fun b o e => Heap.get?_push_of_some _ e⟩
theorem gi_get_str {R : Result → Shared → Prop}  (hq : ∀ ob, R (.ok (.ret (.ref h.objs.size))) ⟨h.push ob, g, d, t, os⟩) :
    codeAny (model prog w) A (.call (.builtin "wrapper_descriptor.__get__") ⟨[.builtin "str.__getitem__", .str x u, .type "str"], []⟩) R ⟨h, g, d, t, os⟩ := by
  have hT : (⟨h, g, d, t, os⟩ : Shared).TypeIs (.str x u) "str" := rfl
  have hT5 : (⟨h, g, d, t, os⟩ : Shared).TypeIs (.builtin "str.__getitem__") "wrapper_descriptor" := HA.ty_str_gi
  have f8 := HA.sub_str_gi_owner
  refine codeAny_call_builtin HA.slot_wd_get.plain HA.entry_wd_get (HA.slot_wd_get.check _ _ _ _ _ _ _ _ hT5 (HA.args_wd_get _ _ _) ?_)
  repeat (any_goals (first | assumption | walk_at "mine.wp"))
  exact hq _
theorem gi_entry_str {tk : Tok} {Q : Fin → Shared → Prop}  (hq : ∀ ob, Q (.done (.ret (.ref h.objs.size))) ⟨h.push ob, g, d, t, os⟩) :
    wpAny (model prog w) A (Builtin.«object.__getattribute__» ⟨[.str x u, .str "__getitem__" tk], []⟩) Q E ⟨h, g, d, t, os⟩ := by
  have hT : (⟨h, g, d, t, os⟩ : Shared).TypeIs (.str x u) "str" := rfl
  have hT5 : (⟨h, g, d, t, os⟩ : Shared).TypeIs (.builtin "str.__getitem__") "wrapper_descriptor" := HA.ty_str_gi
  have f4 := HA.lk_str_gi
  have f5 := HA.ty_str_gi
  have f6 := HA.slot_wd_get.lookup
  have f7 := HA.wd_set
  have f8 := HA.wd_del
  repeat (any_goals (first | assumption | walk_at "mine.wp"))
  refine gi_get_str  fun ob => ?_
  repeat (any_goals (first | assumption | walk_at "mine.wp"))
  exact hq _
theorem gi_call_str {tk : Tok} {R : Result → Shared → Prop}  (hq : ∀ ob, R (.ok (.ret (.ref h.objs.size))) ⟨h.push ob, g, d, t, os⟩) :
    codeAny (model prog w) A (.call (.builtin "object.__getattribute__") ⟨[.str x u, .str "__getitem__" tk], []⟩) R ⟨h, g, d, t, os⟩ :=
  codeAny_call_builtin F.slot_str_getattribute.plain F.entry_object_getattribute (F.slot_str_getattribute.check _ _ _ _ _ _ _ _ (show (⟨h, g, d, t, os⟩ : Shared).TypeIs (.str x u) "str" from rfl) (F.args_object_getattribute_2 _ _) (gi_entry_str  hq))
theorem gi_by_str {tk : Tok} {Q : Value → Shared → Prop}  (hq : ∀ ob, Q (.ref h.objs.size) ⟨h.push ob, g, d, t, os⟩) :
    wpAny (model prog w) A (getAttrBy (.str x u) (.str "__getitem__" tk) false) Q E ⟨h, g, d, t, os⟩ := by
  have hT : (⟨h, g, d, t, os⟩ : Shared).TypeIs (.str x u) "str" := rfl
  have f2 := F.slot_str_getattribute.lookup
  have f3 := F.slot_str_getattribute.bind (.str x u)
  repeat (any_goals (first | assumption | walk_at "mine.wp"))
  refine gi_call_str  fun ob => ?_
  repeat (any_goals (first | assumption | walk_at "mine.wp"))
  exact hq _
theorem has_str {tk : Tok} {Q : Value → Shared → Prop}  (hq : ∀ h' tk', (∀ b o, h.get? b = some o → h'.get? b = some o) → Q (.bool true) ⟨h', g, d, tk', os⟩) :
    wpAny (model prog w) A (call (.builtin "hasattr") [.str x u, .str "__getitem__" tk]) Q E ⟨h, g, d, t, os⟩ := by
  refine Calls.call_function_entry HA.kind_hasattr HA.plain_hasattr HA.entry_hasattr (HA.args_hasattr_2 _ _) ?_
  have hT : (⟨h, g, d, t, os⟩ : Shared).TypeIs (.str x u) "str" := rfl
  have f2 := F.slot_str_getattribute.lookup
  have f3 := F.slot_str_getattribute.bind (.str x u)
  have f4 := HA.lk_str_gi
  have f5 : isSubtype (.type "str") (.type "module") = pure false := by rw [isSubtype_type]; kernel_rfl
  unfold Builtin.«hasattr»
  repeat (any_goals (first | assumption | ((with_reducible show wpAny _ _ (getAttrBy _ _ _) _ _ _); refine gi_by_str ?_) | walk_at "mine.wp"))
  intro ob
  repeat (any_goals (first | assumption | walk_at "mine.wp"))
  exact ⟨_, rfl, hq _ _ fun b o e => Heap.get?_push_of_some _ e⟩
end
end Mine
end
section
open PySem PySem.Spec PySem.Calls PySem.W PyProof.Rows
open Sem (wp)
set_option maxRecDepth 100000
set_option maxHeartbeats 8000000
namespace Mine
local macro_rules | `(tactic| walk_at "mine.wp") => `(tactic| first
  | with_reducible (first | refine wpAny_bind ?_ | refine wpAny_pure ?_ | refine wpAny_of_eq (by assumption) ?_ | refine wpAny_typeOf (by assumption) ?_ | refine wpAny_isInstance_val (by assumption) (by assumption) ?_ | refine wpAny_isInstance (by assumption) (by assumption) ?_ | refine wpAny_specialOf_val (by assumption) (by assumption) ?_ | refine wpAny_specialOf (by assumption) (by assumption) ?_)
  | ((with_reducible show wpAny _ _ (if _ then _ else _) _ _ _); (first | ((with_reducible refine wpAny_ite_false ?_ ?_); focus (rfl; done)) | ((with_reducible refine wpAny_ite_true ?_ ?_); focus (rfl; done)) | ((with_reducible refine wpAny_ite_false ?_ ?_); focus (simp [*]; done)) | ((with_reducible refine wpAny_ite_true ?_ ?_); focus (simp [*]; done)) | wp_step))
  | ((first | (with_reducible show wpAny _ _ (Sem.attempt _) _ _ _) | (with_reducible show wpAny _ _ (holding _ _) _ _ _) | (with_reducible show wpAny _ _ (rule _) _ _ _) | (with_reducible show wpAny _ _ (throw _) _ _ _) | (with_reducible show wpAny _ _ (mkStr _) _ _ _) | (with_reducible show wpAny _ _ (call _ _ _) _ _ _)); wp_step)
  | wp_delta
  | wp_step)
section
variable {prog : Program} {w : World} {A : Around} {E : Value → Shared → Prop} {h : Heap} {g : Array GenState} {d : Drawn} {t : Nat} {os : OsState}
theorem miss_float (n : UInt64) (t : Tok) (name : PySem.Str) (u : Tok) (hmiss : typeLookup (.type "float") name = pure none) (hsz : name.length + 100 ≤ sizeLine := by size_fits) :
    Meets (Builtin.«object.__getattribute__» ⟨[.float n t, .str name u], []⟩) (raisesAttr (.float n t) name) :=
  Meets.of_wp fun prog w A R s hs => by
    obtain ⟨hp, g, d, tk, os⟩ := s
    have hT : ∀ s' : Shared, s'.TypeIs (.float n t) "float" := fun _ => rfl
    unfold Builtin.«object.__getattribute__»
    repeat (any_goals (first | assumption | walk_at "mine.wp"))
    exact wpAny_raiseAttrError hs.1 hs.2 (attrMsg_fits (by decide +kernel) hsz)
theorem has_int {tk : Tok} {Q : Value → Shared → Prop} {i : Int} {u : Tok} (hA : A.handled = none) (hq : ∀ h' tk', (∀ b o, h.get? b = some o → h'.get? b = some o) → Q (.bool false) ⟨h', g, d, tk', os⟩) :
    wpAny (model prog w) A (call (.builtin "hasattr") [.int i u, .str "__getitem__" tk]) Q E ⟨h, g, d, t, os⟩ := by
  refine Calls.call_function_entry HA.kind_hasattr HA.plain_hasattr HA.entry_hasattr (HA.args_hasattr_2 _ _) ?_
  have hT : ∀ s' : Shared, s'.TypeIs (.int i u) "int" := fun _ => rfl
  have f1 := sub_AttributeError
  have f3 := F.slot_int_getattribute.lookup
  have f4 := F.slot_int_getattribute.bind (.int i u)
  have f5 : typeLookup (.type "int") "__getattr__" = pure none := by rw [typeLookup_type, builtinLookup_eq_fast]; kernel_rfl
  have f6 := HA.lk_int_gi
  unfold Builtin.«hasattr»
  repeat (any_goals (first | assumption | ((with_reducible show wpAny _ _ (call (Value.builtin "int.__getattribute__") _ _) _ _ _); refine call_meets F.slot_int_getattribute (hT _) am_entry_int_getattribute (F.args_int_getattribute_2 _ _) (meets_getattribute_miss_int _ _ "__getitem__" _ HA.lk_int_gi (by decide +kernel)) ⟨hA, fun h' tk' e hx => ?_⟩) | walk_at "mine.wp"))
  obtain ⟨t', u', he⟩ := hx.there
  show wpAny _ _ (getattributeRaised _ _ _ _ _ _ _) _ _ _
  unfold getattributeRaised
  repeat (any_goals (first | assumption | walk_at "mine.wp"))
  exact ⟨_, rfl, hq _ _ hx.keeps⟩
theorem has_NoneType {tk : Tok} {Q : Value → Shared → Prop}  (hA : A.handled = none) (hq : ∀ h' tk', (∀ b o, h.get? b = some o → h'.get? b = some o) → Q (.bool false) ⟨h', g, d, tk', os⟩) :
    wpAny (model prog w) A (call (.builtin "hasattr") [.none, .str "__getitem__" tk]) Q E ⟨h, g, d, t, os⟩ := by
  refine Calls.call_function_entry HA.kind_hasattr HA.plain_hasattr HA.entry_hasattr (HA.args_hasattr_2 _ _) ?_
  have hT : ∀ s' : Shared, s'.TypeIs (.none) "NoneType" := fun _ => rfl
  have f1 := sub_AttributeError
  have f3 := F.slot_NoneType_getattribute.lookup
  have f4 := F.slot_NoneType_getattribute.bind (.none)
  have f5 : typeLookup (.type "NoneType") "__getattr__" = pure none := by rw [typeLookup_type, builtinLookup_eq_fast]; kernel_rfl
  have f6 := HA.lk_none_gi
  unfold Builtin.«hasattr»
  repeat (any_goals (first | assumption | ((with_reducible show wpAny _ _ (call (Value.builtin "object.__getattribute__") _ _) _ _ _); refine call_meets F.slot_NoneType_getattribute (hT _) F.entry_object_getattribute (F.args_object_getattribute_2 _ _) (meets_getattribute_miss_none "__getitem__" _ HA.lk_none_gi (by decide +kernel)) ⟨hA, fun h' tk' e hx => ?_⟩) | walk_at "mine.wp"))
  obtain ⟨t', u', he⟩ := hx.there
  show wpAny _ _ (getattributeRaised _ _ _ _ _ _ _) _ _ _
  unfold getattributeRaised
  repeat (any_goals (first | assumption | walk_at "mine.wp"))
  exact ⟨_, rfl, hq _ _ hx.keeps⟩
theorem has_float {tk : Tok} {Q : Value → Shared → Prop} {i : UInt64} {u : Tok} (hA : A.handled = none) (hq : ∀ h' tk', (∀ b o, h.get? b = some o → h'.get? b = some o) → Q (.bool false) ⟨h', g, d, tk', os⟩) :
    wpAny (model prog w) A (call (.builtin "hasattr") [.float i u, .str "__getitem__" tk]) Q E ⟨h, g, d, t, os⟩ := by
  refine Calls.call_function_entry HA.kind_hasattr HA.plain_hasattr HA.entry_hasattr (HA.args_hasattr_2 _ _) ?_
  have hT : ∀ s' : Shared, s'.TypeIs (.float i u) "float" := fun _ => rfl
  have f1 := sub_AttributeError
  have f3 := F.slot_float_getattribute.lookup
  have f4 := F.slot_float_getattribute.bind (.float i u)
  have f5 : typeLookup (.type "float") "__getattr__" = pure none := by rw [typeLookup_type, builtinLookup_eq_fast]; kernel_rfl
  have f6 := HA.lk_float_gi
  unfold Builtin.«hasattr»
  repeat (any_goals (first | assumption | ((with_reducible show wpAny _ _ (call (Value.builtin "object.__getattribute__") _ _) _ _ _); refine call_meets F.slot_float_getattribute (hT _) F.entry_object_getattribute (F.args_object_getattribute_2 _ _) (miss_float _ _ "__getitem__" _ HA.lk_float_gi (by decide +kernel)) ⟨hA, fun h' tk' e hx => ?_⟩) | walk_at "mine.wp"))
  obtain ⟨t', u', he⟩ := hx.there
  show wpAny _ _ (getattributeRaised _ _ _ _ _ _ _) _ _ _
  unfold getattributeRaised
  repeat (any_goals (first | assumption | walk_at "mine.wp"))
  exact ⟨_, rfl, hq _ _ hx.keeps⟩
end
end Mine
end
section
open PySem PySem.Spec PySem.Calls PySem.W PyProof.Rows
namespace Mine
set_option maxRecDepth 100000
set_option maxHeartbeats 8000000
theorem times_ok {w : World} {news : List (Addr × Obj)} {v1 v2 : Value} {p q : Sq} (i1 : SeqIn "list" news v1 p.l) (i2 : SeqIn "list" news v2 q.l) (hp : p.Fits) :
    Does w 28 1 news [v1, v2] (fun r news' => SeqIn "list" news' r (p.mul q).l ∧ ∀ z ∈ news, r ≠ .ref z.1) := by
  obtain ⟨l1, vs1, n1, rfl, m1, j1⟩ := i1
  obtain ⟨l2, vs2, n2, rfl, m2, j2⟩ := i2
  obtain ⟨x1, x2, x3, x4⟩ := p
  obtain ⟨y1, y2, y3, y4⟩ := q
  obtain ⟨b1, b2, b3, b4⟩ := hp
  dsimp only at b1 b2 b3 b4
  obtain _ | ⟨_, t1, j1⟩ := j1
  obtain _ | ⟨_, t2, j1⟩ := j1
  obtain _ | ⟨_, t3, j1⟩ := j1
  obtain _ | ⟨_, t4, j1⟩ := j1
  cases j1
  obtain _ | ⟨_, u1, j2⟩ := j2
  obtain _ | ⟨_, u2, j2⟩ := j2
  obtain _ | ⟨_, u3, j2⟩ := j2
  obtain _ | ⟨_, u4, j2⟩ := j2
  cases j2
  have hfill : PySem.Challenge.rw_nb0374_01 = PySem.Challenge.rw_nb0374_01 ∧ Mine.hd.heap_39 = Mine.hd.heap_39 := by (k_fill; exact ⟨rfl, rfl⟩)
  clear hfill
  w_on
  unfold Does
  intro mean mg mb dp un gd cn cs a ccd cl outer A₀ base h₀ L m s Q E B F X N T hk hd hu hret
  refine wpAny_call ?_
  k_dflt ktr_enter
  k_steps
  (rename ∀ p ∈ news, p.1 < _ => l1)
  exact hret _ _ _ _ (by k_asm) (by k_asm) (fun p hp => .tail _ hp) ⟨⟨_, _, _, rfl, .head _, .cons _ _ (.cons _ _ (.cons _ _ (.cons _ _ .nil)))⟩, fun z hz e => by have h9 := l1 z hz; injection e with e; rw [e] at h9; exact absurd h9 (Nat.lt_irrefl _)⟩
theorem square_ok {w : World} {news : List (Addr × Obj)} {x : Int} {t : Tok} (hb : -2 ≤ x ∧ x ≤ 2) :
    Does w 35 1 news [.int x t] (fun r news' => SeqIn "list" news' r (sqOf x).l) := by
  have hfill : PySem.Challenge.rw_nb0374_01 = PySem.Challenge.rw_nb0374_01 ∧ Mine.hd.heap_39 = Mine.hd.heap_39 := by (k_fill; exact ⟨rfl, rfl⟩)
  clear hfill
  w_on
  unfold Does
  intro mean mg mb dp un gd cn cs a ccd cl outer A₀ base h₀ L m s Q E B F X N T hk hd hu hret
  refine wpAny_call ?_
  k_dflt ktr_enter
  k_steps
  · refine hret _ _ _ _ (by k_asm) (by k_asm) (fun p hp => .tail _ hp) ?_
    have e : sqOf x = ⟨1, 2 * x, 0, 1⟩ := if_pos (by omega)
    dsimp only
    rw [e]
    exact ⟨_, _, _, rfl, .head _, .cons _ _ (.cons _ _ (.cons _ _ (.cons _ _ .nil)))⟩
  · refine hret _ _ _ _ (by k_asm) (by k_asm) (fun p hp => .tail _ hp) ?_
    have e : sqOf x = ⟨1, 2 * x, 0, 1⟩ := if_pos (by omega)
    dsimp only
    rw [e]
    exact ⟨_, _, _, rfl, .head _, .cons _ _ (.cons _ _ (.cons _ _ (.cons _ _ .nil)))⟩
  · refine hret _ _ _ _ (by k_asm) (by k_asm) (fun p hp => .tail _ hp) ?_
    have e : sqOf x = ⟨1, 0, x, 1⟩ := if_neg (by omega)
    dsimp only
    rw [e]
    exact ⟨_, _, _, rfl, .head _, .cons _ _ (.cons _ _ (.cons _ _ (.cons _ _ .nil)))⟩
end Mine
end
section
open PySem PySem.Spec PySem.Calls PySem.W PyProof.Rows
namespace Mine
set_option maxRecDepth 100000
set_option maxHeartbeats 8000000
theorem product_ok {w : World} {news : List (Addr × Obj)} {v : Value} {ns : List Int} (i1 : SeqIn "list" news v ns) (hs : ∀ x ∈ ns, -2 ≤ x ∧ x ≤ 2) (hf : ∀ i, (prod (ns.take i)).Fits) :
    Does w 42 2 news [v] (fun r news' => SeqIn "list" news' r (prod ns).l ∧ ∀ z ∈ news, r ≠ .ref z.1) := by
  obtain ⟨l1, vs1, n1, rfl, m1, j1⟩ := i1
  have hfill : PySem.Challenge.rw_nb0374_01 = PySem.Challenge.rw_nb0374_01 ∧ Mine.hd.heap_39 = Mine.hd.heap_39 := by (k_fill; exact ⟨rfl, rfl⟩)
  clear hfill
  w_on
  unfold Does
  intro mean mg mb dp un gd cn cs a ccd cl outer A₀ base h₀ L m s Q E B F X N T hk hd hu hret
  refine wpAny_call ?_
  k_dflt ktr_enter
  k_steps
  (with_reducible rename News _ _ _ _ => N2)
  (with_reducible rename IntsAre _ _ => j1)
  (rename ∀ p ∈ news, p.1 < _ => l9)
  k_dflt (refine' loop_ints (fun i m₁ a => ∃ v', m₁ "square" = some v' ∧ SeqIn "list" a v' (prod (ns.take i)).l ∧ ∀ z ∈ news, v' ≠ .ref z.1) ?mono ?hh ?hl j1 ?F N2 ?hj ?turn ?done)
  case hh => rfl
  case hl => exact .tail _ m1
  case mono => rintro i m₁ a b hab ⟨v', e, h, hz⟩; exact ⟨v', e, h.subS hab, hz⟩
  case F => k_asm
  case hj => exact ⟨_, rfl, ⟨_, _, _, rfl, .head _, .cons _ _ (.cons _ _ (.cons _ _ (.cons _ _ .nil)))⟩, fun z hz e => by have h9 := l9 z hz; injection e with e; rw [e] at h9; exact absurd h9 (Nat.lt_irrefl _)⟩
  case turn =>
    rintro i n t m₁ newsA h tk hn hsub ⟨v', e, hq, hz⟩ F3 N3
    replace F3 := fr_know1 F3 e
    have hb := hs n (List.mem_of_getElem? hn)
    k_steps
    k_dflt (refine' Does.use (square_ok hb) ?k1 ?k2 ?k3 ?k4 ?k5 ?k6 ?k7 ?k8 ?_)
    case k1 => k_asm
    case k2 => k_asm
    case k3 => k_asm
    case k4 => k_asm
    case k5 => k_asm
    case k6 => rfl
    case k7 => ktr_room
    case k8 => ktr_units
    intro r1 news1 h1 tk1 Fx1 Nx1 sub1 o1
    try dsimp only
    k_steps
    k_dflt (refine' Does.use (times_ok (hq.mono sub1) o1 (hf i)) ?k1 ?k2 ?k3 ?k4 ?k5 ?k6 ?k7 ?k8 ?_)
    case k1 => k_asm
    case k2 => k_asm
    case k3 => k_asm
    case k4 => k_asm
    case k5 => k_asm
    case k6 => rfl
    case k7 => ktr_room
    case k8 => ktr_units
    intro r2 news2 h2 tk2 Fx2 Nx2 sub2 o2
    try dsimp only
    k_steps
    refine ⟨rfl, _, _, _, _, rfl, by k_asm, by k_asm, fun p hp => sub2 p (sub1 p hp), _, rfl, ?_, fun z hz => o2.2 z (sub1 z (hsub z (.tail _ hz)))⟩
    rw [prod_take hn]
    exact o2.1
  case done =>
    rintro m₁ news₁ h tk ⟨v', e, hq, hz⟩ hsub F3 N3
    replace F3 := fr_know F3 e
    k_steps
    refine hret _ _ _ _ (by k_asm) (by k_asm) (fun p hp => hsub p (.tail _ hp)) ⟨by rw [List.take_length] at hq; exact hq, hz⟩
end Mine
end
section
open PySem PySem.Spec PySem.Calls PySem.W PyProof.Rows
namespace Mine
set_option maxRecDepth 100000
set_option maxHeartbeats 8000000
local macro_rules | `(tactic| walk_at "mine.toWhile") => `(tactic| repeat' ((fail_if_success (with_reducible show wpAny _ _ (exec (Stmt.While _ _ _ _) _) _ _ _)); (first | (k_unfold; (try dsimp only)) | walk1 | (dsimp only; walk1) | (leave1; walk_say "STEP leave1"; (try dsimp only)) | fail "no step")))
theorem read_ok {w : World} {news : List (Addr × Obj)} {v : Value} {q₀ : Sq} {out : List Int} (i1 : SeqIn "list" news v q₀.l) (hr : RdBack q₀ out) (ho : out.length ≤ 100) :
    Does w 49 2 news [v] (fun r news' => SeqIn "list" news' r out) := by
  obtain ⟨l1, vs1, n1, rfl, m1, j1⟩ := i1
  have hfill : PySem.Challenge.rw_nb0374_01 = PySem.Challenge.rw_nb0374_01 ∧ Mine.hd.heap_39 = Mine.hd.heap_39 := by (k_fill; exact ⟨rfl, rfl⟩)
  clear hfill
  w_on
  unfold Does
  intro mean mg mb dp un gd cn cs a ccd cl outer A₀ base h₀ L m s Q E B F X N T hk hd hu hret
  refine wpAny_call ?_
  k_dflt ktr_enter
  walk_at "mine.toWhile"
  (with_reducible rename News _ _ _ _ => N2)
  (with_reducible rename IntsAre _ _ => j1)
  k_dflt (refine' While_inv (n₀ := out.length) (fun n m₁ a => ∃ v q rest acc D vsD nD, m₁ "square" = some v ∧ v ≠ .ref D ∧ SeqIn "list" a v q.l ∧ m₁ "signs" = some (.ref D) ∧ (D, seqOf "list" (List.toArray vsD) nD) ∈ a ∧ IntsAre vsD acc ∧ RdBack q rest ∧ acc ++ rest = out ∧ n = rest.length ∧ ∀ p ∈ news, p ∈ a ∧ p.1 ≠ D) ?F N2 ?hJ ?turn ?hE)
  case F => k_asm
  case hJ =>
    (rename ∀ p ∈ news, p.1 < _ => lt1)
    have hne : ∀ p ∈ news, p.1 ≠ _ := fun p hp => Nat.ne_of_lt (lt1 p hp)
    refine ⟨_, q₀, out, [], _, [], _, rfl, ?_, ⟨_, _, _, rfl, .tail _ m1, j1⟩, rfl, .head _, .nil, hr, rfl, rfl, fun p hp => ⟨.tail _ hp, hne p hp⟩⟩
    intro e
    injection e with e
    exact hne _ m1 e
  case hE => passes_own
  case turn =>
    rintro n m₁ a₁ h tk F3 N3 ⟨v, q, rest, acc, D, vsD, nD, e1, hv, hq, e2, hD, hacc, hrd, hout, hn, hsub⟩
    replace F3 := fr_know1 (fr_know F3 e1) e2
    have hqq := hq
    obtain ⟨l2, vs2, n2, rfl, m2, j2⟩ := hq
    cases hrd with
    | done =>
      k_steps
      k_dflt (refine ke_ne_ints (News.isList (by k_asm) (.tail _ m2)) (News.isList (by k_asm) (.head _)) j2 (.cons _ _ (.cons _ _ (.cons _ _ (.cons _ _ .nil)))) (by ktr_units) ?_)
      have e0 : (!decide (Sq.one.l = [1, 0, 0, 1])) = false := rfl
      rw [e0]
      k_steps
      refine hret _ _ _ _ (by k_asm) (by k_asm) (fun p hp => .tail _ (hsub p hp).1) ⟨_, _, _, rfl, .tail _ hD, ?_⟩
      rw [List.append_nil] at hout
      exact hout ▸ hacc
    | step hne hfit hrest =>
      rename_i rest
      obtain ⟨qa, qb, qc, qd⟩ := q
      obtain _ | ⟨_, u1, j2⟩ := j2
      obtain _ | ⟨_, u2, j2⟩ := j2
      obtain _ | ⟨_, u3, j2⟩ := j2
      obtain _ | ⟨_, u4, j2⟩ := j2
      cases j2
      k_steps
      k_dflt (refine ke_ne_ints (News.isList (by k_asm) (.tail _ m2)) (News.isList (by k_asm) (.head _)) (.cons _ _ (.cons _ _ (.cons _ _ (.cons _ _ .nil)))) (.cons _ _ (.cons _ _ (.cons _ _ (.cons _ _ .nil)))) (by ktr_units) ?_)
      have e0 : (!decide ([qa, qb, qc, qd] = [1, 0, 0, 1])) = true := by
        simp only [Bool.not_eq_true', decide_eq_false_iff_not]
        intro e
        injection e with ea e
        injection e with eb e
        injection e with ec e
        injection e with ed e
        exact hne (by rw [ea, eb, ec, ed]; rfl)
      rw [e0]
      obtain ⟨b1, b2, b3, b4⟩ := id hfit
      dsimp only at b1 b2 b3 b4
      (with_reducible rename News _ _ _ _ => N5)
      have N6 := News.tl N5
      clear N5
      k_steps
      · have hp : pick ⟨qa, qb, qc, qd⟩ = 1 := by
          unfold pick
          dsimp only
          rw [if_pos (by omega), if_pos (by omega)]
        rw [hp] at hrest hout
        k_dflt (refine' append_in ?F ?N hD ?_ ?hz)
        case F => k_asm
        case N => k_asm
        case hz => (have h1 := IntsAre.length hacc; have h2 := congrArg List.length hout; simp only [List.length_append, List.length_cons, List.size_toArray] at h1 h2 ⊢; rw [sizeLine_eq]; omega)
        intro h5 F5 N5
        rw [List.push_toArray] at N5
        k_steps
        k_dflt (refine' Does.use (square_ok (x := -(1)) (by omega)) ?k1 ?k2 ?k3 ?k4 ?k5 ?k6 ?k7 ?k8 ?_)
        case k1 => k_asm
        case k2 => k_asm
        case k3 => k_asm
        case k4 => k_asm
        case k5 => k_asm
        case k6 => rfl
        case k7 => ktr_room
        case k8 => ktr_units
        intro r1 news1 h1 tk1 Fx1 Nx1 sub1 o1
        try dsimp only
        k_steps
        k_dflt (refine' Does.use (times_ok o1 ((SeqIn.off hqq hv).mono sub1) (sqOf_fits (by omega))) ?k1 ?k2 ?k3 ?k4 ?k5 ?k6 ?k7 ?k8 ?_)
        case k1 => k_asm
        case k2 => k_asm
        case k3 => k_asm
        case k4 => k_asm
        case k5 => k_asm
        case k6 => rfl
        case k7 => ktr_room
        case k8 => ktr_units
        intro r2 news2 h2 tk2 Fx2 Nx2 sub2 o2
        try dsimp only
        k_steps
        refine WhileStep.intro (n' := rest.length) (by k_asm) (by k_asm) (by rw [hn, List.length_cons]; omega) ⟨_, _, rest, acc ++ [1], D, _, _, rfl, o2.2 _ (sub1 _ (.head _)), o2.1, rfl, sub2 _ (sub1 _ (.head _)), intsPush hacc _ _, hrest, by rw [List.append_assoc]; exact hout, rfl, fun p hp => ⟨sub2 _ (sub1 _ (.tail _ (mem_off.mpr (hsub p hp)))), (hsub p hp).2⟩⟩
      · have hp : pick ⟨qa, qb, qc, qd⟩ = -1 := by
          unfold pick
          dsimp only
          rw [if_pos (by omega), if_neg (by omega)]
        rw [hp] at hrest hout
        k_dflt (refine' append_in ?F ?N hD ?_ ?hz)
        case F => k_asm
        case N => k_asm
        case hz => (have h1 := IntsAre.length hacc; have h2 := congrArg List.length hout; simp only [List.length_append, List.length_cons, List.size_toArray] at h1 h2 ⊢; rw [sizeLine_eq]; omega)
        intro h5 F5 N5
        rw [List.push_toArray] at N5
        k_steps
        k_dflt (refine' Does.use (square_ok (x := -(-1)) (by omega)) ?k1 ?k2 ?k3 ?k4 ?k5 ?k6 ?k7 ?k8 ?_)
        case k1 => k_asm
        case k2 => k_asm
        case k3 => k_asm
        case k4 => k_asm
        case k5 => k_asm
        case k6 => rfl
        case k7 => ktr_room
        case k8 => ktr_units
        intro r1 news1 h1 tk1 Fx1 Nx1 sub1 o1
        try dsimp only
        k_steps
        k_dflt (refine' Does.use (times_ok o1 ((SeqIn.off hqq hv).mono sub1) (sqOf_fits (by omega))) ?k1 ?k2 ?k3 ?k4 ?k5 ?k6 ?k7 ?k8 ?_)
        case k1 => k_asm
        case k2 => k_asm
        case k3 => k_asm
        case k4 => k_asm
        case k5 => k_asm
        case k6 => rfl
        case k7 => ktr_room
        case k8 => ktr_units
        intro r2 news2 h2 tk2 Fx2 Nx2 sub2 o2
        try dsimp only
        k_steps
        refine WhileStep.intro (n' := rest.length) (by k_asm) (by k_asm) (by rw [hn, List.length_cons]; omega) ⟨_, _, rest, acc ++ [-1], D, _, _, rfl, o2.2 _ (sub1 _ (.head _)), o2.1, rfl, sub2 _ (sub1 _ (.head _)), intsPush hacc _ _, hrest, by rw [List.append_assoc]; exact hout, rfl, fun p hp => ⟨sub2 _ (sub1 _ (.tail _ (mem_off.mpr (hsub p hp)))), (hsub p hp).2⟩⟩
      · have hp : pick ⟨qa, qb, qc, qd⟩ = 2 := by
          unfold pick
          dsimp only
          rw [if_neg (by omega), if_pos (by omega)]
        rw [hp] at hrest hout
        k_dflt (refine' append_in ?F ?N hD ?_ ?hz)
        case F => k_asm
        case N => k_asm
        case hz => (have h1 := IntsAre.length hacc; have h2 := congrArg List.length hout; simp only [List.length_append, List.length_cons, List.size_toArray] at h1 h2 ⊢; rw [sizeLine_eq]; omega)
        intro h5 F5 N5
        rw [List.push_toArray] at N5
        k_steps
        k_dflt (refine' Does.use (square_ok (x := -(2)) (by omega)) ?k1 ?k2 ?k3 ?k4 ?k5 ?k6 ?k7 ?k8 ?_)
        case k1 => k_asm
        case k2 => k_asm
        case k3 => k_asm
        case k4 => k_asm
        case k5 => k_asm
        case k6 => rfl
        case k7 => ktr_room
        case k8 => ktr_units
        intro r1 news1 h1 tk1 Fx1 Nx1 sub1 o1
        try dsimp only
        k_steps
        k_dflt (refine' Does.use (times_ok o1 ((SeqIn.off hqq hv).mono sub1) (sqOf_fits (by omega))) ?k1 ?k2 ?k3 ?k4 ?k5 ?k6 ?k7 ?k8 ?_)
        case k1 => k_asm
        case k2 => k_asm
        case k3 => k_asm
        case k4 => k_asm
        case k5 => k_asm
        case k6 => rfl
        case k7 => ktr_room
        case k8 => ktr_units
        intro r2 news2 h2 tk2 Fx2 Nx2 sub2 o2
        try dsimp only
        k_steps
        refine WhileStep.intro (n' := rest.length) (by k_asm) (by k_asm) (by rw [hn, List.length_cons]; omega) ⟨_, _, rest, acc ++ [2], D, _, _, rfl, o2.2 _ (sub1 _ (.head _)), o2.1, rfl, sub2 _ (sub1 _ (.head _)), intsPush hacc _ _, hrest, by rw [List.append_assoc]; exact hout, rfl, fun p hp => ⟨sub2 _ (sub1 _ (.tail _ (mem_off.mpr (hsub p hp)))), (hsub p hp).2⟩⟩
      · have hp : pick ⟨qa, qb, qc, qd⟩ = -2 := by
          unfold pick
          dsimp only
          rw [if_neg (by omega), if_neg (by omega)]
        rw [hp] at hrest hout
        k_dflt (refine' append_in ?F ?N hD ?_ ?hz)
        case F => k_asm
        case N => k_asm
        case hz => (have h1 := IntsAre.length hacc; have h2 := congrArg List.length hout; simp only [List.length_append, List.length_cons, List.size_toArray] at h1 h2 ⊢; rw [sizeLine_eq]; omega)
        intro h5 F5 N5
        rw [List.push_toArray] at N5
        k_steps
        k_dflt (refine' Does.use (square_ok (x := -(-2)) (by omega)) ?k1 ?k2 ?k3 ?k4 ?k5 ?k6 ?k7 ?k8 ?_)
        case k1 => k_asm
        case k2 => k_asm
        case k3 => k_asm
        case k4 => k_asm
        case k5 => k_asm
        case k6 => rfl
        case k7 => ktr_room
        case k8 => ktr_units
        intro r1 news1 h1 tk1 Fx1 Nx1 sub1 o1
        try dsimp only
        k_steps
        k_dflt (refine' Does.use (times_ok o1 ((SeqIn.off hqq hv).mono sub1) (sqOf_fits (by omega))) ?k1 ?k2 ?k3 ?k4 ?k5 ?k6 ?k7 ?k8 ?_)
        case k1 => k_asm
        case k2 => k_asm
        case k3 => k_asm
        case k4 => k_asm
        case k5 => k_asm
        case k6 => rfl
        case k7 => ktr_room
        case k8 => ktr_units
        intro r2 news2 h2 tk2 Fx2 Nx2 sub2 o2
        try dsimp only
        k_steps
        refine WhileStep.intro (n' := rest.length) (by k_asm) (by k_asm) (by rw [hn, List.length_cons]; omega) ⟨_, _, rest, acc ++ [-2], D, _, _, rfl, o2.2 _ (sub1 _ (.head _)), o2.1, rfl, sub2 _ (sub1 _ (.head _)), intsPush hacc _ _, hrest, by rw [List.append_assoc]; exact hout, rfl, fun p hp => ⟨sub2 _ (sub1 _ (.tail _ (mem_off.mpr (hsub p hp)))), (hsub p hp).2⟩⟩
end Mine
end
section
open PySem PySem.Spec PySem.Calls PySem.W PyProof.Rows
namespace Mine
set_option maxRecDepth 100000
set_option maxHeartbeats 8000000
theorem signs_list {w : World} {news : List (Addr × Obj)} {v : Value} {ns : List Int} (i1 : SeqIn "list" news v ns) (hl : ns.length ≤ 1000) :
    Does w 54 1 news [v] (fun r news' => SeqIn "list" news' r ns) := by
  obtain ⟨l1, vs1, n1, rfl, m1, j1⟩ := i1
  have hfill : PySem.Challenge.rw_nb0374_01 = PySem.Challenge.rw_nb0374_01 ∧ Mine.hd.heap_39 = Mine.hd.heap_39 := by (k_fill; exact ⟨rfl, rfl⟩)
  clear hfill
  w_on
  unfold Does
  intro mean mg mb dp un gd cn cs a ccd cl outer A₀ base h₀ L m s Q E B F X N T hk hd hu hret
  refine wpAny_call ?_
  k_dflt ktr_enter
  k_steps
  (with_reducible rename News _ _ _ _ => N2)
  (with_reducible rename IntsAre _ _ => j1)
  k_dflt (refine' srcC_listDW (K := ItemKind.int) (as := ns) (pz := fun _ => true) (d := PyData.int) ?hh ?hl (IntsAre.areOf j1) ?F N2 ?g1 ?g2 ?g3 ?hz)
  case hh => rfl
  case hl => exact News.isList N2 m1
  case F => k_asm
  case hz => rw [sizeLine_eq]; omega
  case g1 =>
    intro C a₁ v₁ s₂ m₂ E' ha hv hn hm ht
    exact wpAny_pure ⟨rfl, Keeps.same _⟩
  case g2 =>
    intro C a₁ v₁ s₂ m₂ E' ha hv hp hn hm ht
    obtain ⟨t, rfl⟩ := hv
    exact wpAny_Name (wpAny_loadName_local rfl rfl hn hm ⟨.int _ _, Keeps.same _⟩)
  case g3 =>
    intro D ys h5 tk5 F5 N5 hD hIL hNP hC
    obtain ⟨nD, N6⟩ := news_plain F5 N5 hD hNP
    have hI := ints_of_filter hC
    clear N5
    k_steps
    exact hret _ _ _ _ (by k_asm) (by k_asm) (fun p hp => .tail _ hp) ⟨_, _, _, rfl, .head _, hI⟩
theorem signs_tuple {w : World} {news : List (Addr × Obj)} {v : Value} {ns : List Int} (i1 : SeqIn "tuple" news v ns) (hl : ns.length ≤ 1000) :
    Does w 54 1 news [v] (fun r news' => SeqIn "list" news' r ns) := by
  obtain ⟨l1, vs1, n1, rfl, m1, j1⟩ := i1
  have hfill : PySem.Challenge.rw_nb0374_01 = PySem.Challenge.rw_nb0374_01 ∧ Mine.hd.heap_39 = Mine.hd.heap_39 := by (k_fill; exact ⟨rfl, rfl⟩)
  clear hfill
  w_on
  unfold Does
  intro mean mg mb dp un gd cn cs a ccd cl outer A₀ base h₀ L m s Q E B F X N T hk hd hu hret
  refine wpAny_call ?_
  k_dflt ktr_enter
  k_steps
  (with_reducible rename News _ _ _ _ => N2)
  (with_reducible rename IntsAre _ _ => j1)
  k_dflt (refine' srcC_tupleDW (K := ItemKind.int) (as := ns) (pz := fun _ => true) (d := PyData.int) ?hh ?hl (IntsAre.areOf j1) ?F N2 ?g1 ?g2 ?g3 ?hz)
  case hh => rfl
  case hl => exact News.isTup N2 m1
  case F => k_asm
  case hz => rw [sizeLine_eq]; omega
  case g1 =>
    intro C a₁ v₁ s₂ m₂ E' ha hv hn hm ht
    exact wpAny_pure ⟨rfl, Keeps.same _⟩
  case g2 =>
    intro C a₁ v₁ s₂ m₂ E' ha hv hp hn hm ht
    obtain ⟨t, rfl⟩ := hv
    exact wpAny_Name (wpAny_loadName_local rfl rfl hn hm ⟨.int _ _, Keeps.same _⟩)
  case g3 =>
    intro D ys h5 tk5 F5 N5 hD hIL hNP hC
    obtain ⟨nD, N6⟩ := news_plain F5 N5 hD hNP
    have hI := ints_of_filter hC
    clear N5
    k_steps
    exact hret _ _ _ _ (by k_asm) (by k_asm) (fun p hp => .tail _ hp) ⟨_, _, _, rfl, .head _, hI⟩
theorem signs_ok {w : World} {news : List (Addr × Obj)} {c : String} {v : Value} {ns : List Int} (hc : c = "list" ∨ c = "tuple") (i1 : SeqIn c news v ns) (hl : ns.length ≤ 1000) :
    Does w 54 1 news [v] (fun r news' => SeqIn "list" news' r ns) := by
  rcases hc with rfl | rfl
  · exact signs_list i1 hl
  · exact signs_tuple i1 hl
end Mine
end
section
open PySem PySem.Spec PySem.Calls PySem.W PyProof.Rows
namespace Mine
set_option maxRecDepth 100000
set_option maxHeartbeats 8000000
theorem concat_list {w : World} {news : List (Addr × Obj)} {v1 v2 : Value} {ns ms : List Int} (i1 : SeqIn "list" news v1 ns) (i2 : SeqIn "list" news v2 ms) (hl : ns.length ≤ 1000) (hl2 : ms.length ≤ 1000) :
    Does w 21 1 news [v1, v2] (fun r news' => SeqIn "list" news' r (ns ++ ms) ∧ ∀ z ∈ news, r ≠ .ref z.1) := by
  obtain ⟨l1, vs1, n1, rfl, m1, j1⟩ := i1
  obtain ⟨l2, vs2, n2, rfl, m2, j2⟩ := i2
  have hfill : PySem.Challenge.rw_nb0374_01 = PySem.Challenge.rw_nb0374_01 ∧ Mine.hd.heap_39 = Mine.hd.heap_39 := by (k_fill; exact ⟨rfl, rfl⟩)
  clear hfill
  w_on
  unfold Does
  intro mean mg mb dp un gd cn cs a ccd cl outer A₀ base h₀ L m s Q E B F X N T hk hd hu hret
  refine wpAny_call ?_
  k_dflt ktr_enter
  k_steps
  (with_reducible rename News _ _ _ _ => N2)
  (with_reducible rename Fr _ _ _ _ => F2)
  k_dflt (refine has_list (N2 _ m1).1 ?_)
  intro h5 tk5 k5
  have F5 := Fr.keeps F2 k5
  have N5 := News.grown N2 k5
  clear N2 F2
  k_steps
  (rename ∀ p ∈ news, p.1 < _ => l9)
  (rename IntsAre _ (ns ++ ms) => hI)
  exact hret _ _ _ _ (by k_asm) (by k_asm) (fun p hp => .tail _ hp) ⟨⟨_, _, _, rfl, .head _, hI⟩, fun z hz e => by have h9 := l9 z hz; injection e with e; rw [e] at h9; exact absurd h9 (Nat.lt_irrefl _)⟩
theorem concat_tuple {w : World} {news : List (Addr × Obj)} {v1 v2 : Value} {ns ms : List Int} (i1 : SeqIn "tuple" news v1 ns) (i2 : SeqIn "tuple" news v2 ms) (hl : ns.length ≤ 1000) (hl2 : ms.length ≤ 1000) :
    Does w 21 1 news [v1, v2] (fun r news' => SeqIn "tuple" news' r (ns ++ ms)) := by
  obtain ⟨l1, vs1, n1, rfl, m1, j1⟩ := i1
  obtain ⟨l2, vs2, n2, rfl, m2, j2⟩ := i2
  have hfill : PySem.Challenge.rw_nb0374_01 = PySem.Challenge.rw_nb0374_01 ∧ Mine.hd.heap_39 = Mine.hd.heap_39 := by (k_fill; exact ⟨rfl, rfl⟩)
  clear hfill
  w_on
  unfold Does
  intro mean mg mb dp un gd cn cs a ccd cl outer A₀ base h₀ L m s Q E B F X N T hk hd hu hret
  refine wpAny_call ?_
  k_dflt ktr_enter
  k_steps
  (with_reducible rename News _ _ _ _ => N2)
  (with_reducible rename Fr _ _ _ _ => F2)
  k_dflt (refine has_tuple (N2 _ m1).1 ?_)
  intro h5 tk5 k5
  have F5 := Fr.keeps F2 k5
  have N5 := News.grown N2 k5
  clear N2 F2
  k_steps
  (with_reducible rename News _ _ _ _ => N6)
  (with_reducible rename IntsAre _ ns => j1)
  (with_reducible rename IntsAre _ ms => j2)
  k_dflt (refine' add_tuples ?F N6 (News.isTup N6 m1) (News.isTup N6 m2) ?h0 ?h1 ?h2 ?hz)
  case F => k_asm
  case hz => (have h1 := IntsAre.length j1; have h2 := IntsAre.length j2; rw [sizeLine_eq]; omega)
  case h0 =>
    intro e
    subst e
    cases j1
    k_steps
    exact hret _ _ _ _ (by k_asm) (by k_asm) (fun p hp => hp) ⟨_, _, _, rfl, m2, j2⟩
  case h1 =>
    intro _ e
    subst e
    cases j2
    k_steps
    refine hret _ _ _ _ (by k_asm) (by k_asm) (fun p hp => hp) ⟨_, _, _, rfl, m1, ?_⟩
    rw [List.append_nil]
    exact j1
  case h2 =>
    intro _ _ h7 F7 N7
    k_steps
    exact hret _ _ _ _ (by k_asm) (by k_asm) (fun p hp => .tail _ hp) ⟨_, _, _, rfl, .head _, j1.append j2⟩
theorem concat_ok {w : World} {news : List (Addr × Obj)} {c : String} {v1 v2 : Value} {ns ms : List Int} (hc : c = "list" ∨ c = "tuple") (i1 : SeqIn c news v1 ns) (i2 : SeqIn c news v2 ms) (hl : ns.length ≤ 1000) (hl2 : ms.length ≤ 1000) :
    Does w 21 1 news [v1, v2] (fun r news' => SeqIn c news' r (ns ++ ms) ∧ (c = "list" → ∀ z ∈ news, r ≠ .ref z.1)) := by
  rcases hc with rfl | rfl
  · exact (concat_list i1 i2 hl hl2).mono fun _ _ h => ⟨h.1, fun _ => h.2⟩
  · exact (concat_tuple i1 i2 hl hl2).mono fun _ _ h => ⟨h, fun e => absurd e (by decide)⟩
end Mine
end
section
open PySem PySem.Spec PySem.Calls PySem.W PyProof.Rows
namespace Mine
set_option maxRecDepth 100000
set_option maxHeartbeats 8000000
local macro_rules | `(tactic| walk_at "mine.toWhile") => `(tactic| repeat' ((fail_if_success (with_reducible show wpAny _ _ (exec (Stmt.While _ _ _ _) _) _ _ _)); (first | (k_unfold; (try dsimp only)) | walk1 | (dsimp only; walk1) | (leave1; walk_say "STEP leave1"; (try dsimp only)) | fail "no step")))
local macro_rules | `(tactic| walk_at "call builtin:len") => `(tactic| ((with_reducible show wpAny _ _ (call (Value.builtin "len") [Value.ref _]) _ _ _); k_dflt (refine' len_in ?a ?b ?c ?d ?e ?_; (case a => assumption); (case b => k_asm); (case c => assumption); (case d => assumption); (case e => assumption)); intro tkL; (try dsimp only)))
local macro_rules | `(tactic| walk_at "subscriptTail") => `(tactic| ((with_reducible show wpAny _ _ (subscriptTail _ _ (Value.ref _) (Value.int _ _)) _ _ _); k_dflt (refine' item_in ?a ?b ?c ?d ?e ?f ?g ?_; (case a => assumption); (case b => k_asm); (case c => assumption); (case d => assumption); (case e => assumption); (case f => omega); (case g => omega)); intro tkI; (try dsimp only)))
theorem pieces_ok {w : World} {news : List (Addr × Obj)} {c : String} {v1 v2 : Value} {ns ms : List Int} (hc : c = "list" ∨ c = "tuple") (i1 : SeqIn c news v1 ns) (i2 : SeqIn c news v2 ms) (hl : ns.length ≤ 1000) (hl2 : ms.length ≤ 1000) :
    Does w 66 1 news [v1, v2] (fun r news' => ∃ a u1 u2 n, r = .ref a ∧ (a, seqOf "list" #[u1, u2] n) ∈ news' ∧ SeqIn c news' u1 (ns.take (ns.length - canc ns ms)) ∧ SeqIn c news' u2 (ms.drop (canc ns ms))) := by
  obtain ⟨l1, vs1, n1, rfl, m1, j1⟩ := i1
  obtain ⟨l2, vs2, n2, rfl, m2, j2⟩ := i2
  have hfill : PySem.Challenge.rw_nb0374_01 = PySem.Challenge.rw_nb0374_01 ∧ Mine.hd.heap_39 = Mine.hd.heap_39 := by (k_fill; exact ⟨rfl, rfl⟩)
  clear hfill
  w_on
  unfold Does
  intro mean mg mb dp un gd cn cs a ccd cl outer A₀ base h₀ L m s Q E B F X N T hk hd hu hret
  refine wpAny_call ?_
  k_dflt ktr_enter
  walk_at "mine.toWhile"
  (with_reducible rename News _ _ _ _ => N2)
  (with_reducible rename IntsAre _ ns => j1)
  (with_reducible rename IntsAre _ ms => j2)
  k_dflt (refine' While_inv (n₀ := ns.length) (fun n m₁ a => ∃ (i : Nat) (t : Tok), m₁ "k" = some (.int (i : Int) t) ∧ m₁ "one" = some (.ref l1) ∧ m₁ "other" = some (.ref l2) ∧ i ≤ ns.length ∧ i ≤ ms.length ∧ n = ns.length - i ∧ cancFrom ns ms n i = canc ns ms ∧ a = news) ?F N2 ?hJ ?turn ?hE)
  case F => k_asm
  case hJ => exact ⟨0, _, rfl, rfl, rfl, Nat.zero_le _, Nat.zero_le _, rfl, rfl, rfl⟩
  case hE => passes_own
  case turn =>
    rintro n m₁ a₁ h tk F3 N3 ⟨i, t, e1, e2, e3, hi1, hi2, hn, hcn, rfl⟩
    replace F3 := fr_know1 (fr_know1 (fr_know F3 e1) e2) ((if_neg (by decide)).trans e3)
    k_steps
    · have e4 : ((ns.length : Int) - 1 - (i : Int)).toNat = ns.length - 1 - i := by omega
      have e5 : ((i : Int)).toNat = i := by omega
      (rename ns.getD _ 0 = _ => h3)
      rw [e4, e5] at h3
      (rename (i : Int) < (ns.length : Int) => h1)
      (rename (i : Int) < (ms.length : Int) => h2)
      refine WhileStep.intro (n' := ns.length - (i + 1)) (by k_asm) (by k_asm) (by omega) ⟨i + 1, _, rfl, rfl, rfl, by omega, by omega, rfl, ?_, rfl⟩
      rw [← cancFrom_step (by omega) (by omega) h3, ← hn]
      exact hcn
    · have e4 : ((ns.length : Int) - 1 - (i : Int)).toNat = ns.length - 1 - i := by omega
      have e5 : ((i : Int)).toNat = i := by omega
      (rename ns.getD _ 0 ≠ _ => h3)
      rw [e4, e5] at h3
      have hk : canc ns ms = i := by rw [← hcn]; exact cancFrom_stop fun h => h3 h.2.2
      k_dflt (refine' slice_upto (b := ns.length - i) hc ?F ?N m1 j1 hl ?e ?l ?_)
      case F => k_asm
      case N => k_asm
      case e => omega
      case l => omega
      intro r1 h1 news1 F5 N5 sub1 o1
      k_steps
      k_dflt (refine' slice_from (a := i) hc ?F ?N (sub1 _ m2) j2 hl2 ?e ?l ?_)
      case F => k_asm
      case N => k_asm
      case e => rfl
      case l => omega
      intro r2 h2 news2 F6 N6 sub2 o2
      k_steps
      rw [hk] at hret
      exact hret _ _ _ _ (by k_asm) (by k_asm) (fun p hp => .tail _ (sub2 _ (sub1 _ hp))) ⟨_, _, _, _, rfl, .head _, (o1.mono sub2).mono fun _ hp => .tail _ hp, o2.mono fun _ hp => .tail _ hp⟩
    · have hk : canc ns ms = i := by rw [← hcn]; exact cancFrom_stop fun h => by omega
      k_dflt (refine' slice_upto (b := ns.length - i) hc ?F ?N m1 j1 hl ?e ?l ?_)
      case F => k_asm
      case N => k_asm
      case e => omega
      case l => omega
      intro r1 h1 news1 F5 N5 sub1 o1
      k_steps
      k_dflt (refine' slice_from (a := i) hc ?F ?N (sub1 _ m2) j2 hl2 ?e ?l ?_)
      case F => k_asm
      case N => k_asm
      case e => rfl
      case l => omega
      intro r2 h2 news2 F6 N6 sub2 o2
      k_steps
      rw [hk] at hret
      exact hret _ _ _ _ (by k_asm) (by k_asm) (fun p hp => .tail _ (sub2 _ (sub1 _ hp))) ⟨_, _, _, _, rfl, .head _, (o1.mono sub2).mono fun _ hp => .tail _ hp, o2.mono fun _ hp => .tail _ hp⟩
    · have hk : canc ns ms = i := by rw [← hcn]; exact cancFrom_stop fun h => by omega
      k_dflt (refine' slice_upto (b := ns.length - i) hc ?F ?N m1 j1 hl ?e ?l ?_)
      case F => k_asm
      case N => k_asm
      case e => omega
      case l => omega
      intro r1 h1 news1 F5 N5 sub1 o1
      k_steps
      k_dflt (refine' slice_from (a := i) hc ?F ?N (sub1 _ m2) j2 hl2 ?e ?l ?_)
      case F => k_asm
      case N => k_asm
      case e => rfl
      case l => omega
      intro r2 h2 news2 F6 N6 sub2 o2
      k_steps
      rw [hk] at hret
      exact hret _ _ _ _ (by k_asm) (by k_asm) (fun p hp => .tail _ (sub2 _ (sub1 _ hp))) ⟨_, _, _, _, rfl, .head _, (o1.mono sub2).mono fun _ hp => .tail _ hp, o2.mono fun _ hp => .tail _ hp⟩
end Mine
end
section
open PySem PySem.Spec PySem.Calls PySem.W PyProof.Rows
namespace Mine
set_option maxRecDepth 100000
set_option maxHeartbeats 8000000
local macro_rules | `(tactic| walk_at "subscriptTail") => `(tactic| ((with_reducible show wpAny _ _ (subscriptTail _ _ (Value.ref _) (Value.int _ _)) _ _ _); k_dflt (refine' item_at ?a ?b ?c ?d ?e ?_; (case a => k_asm); (case b => assumption); (case c => decide); (case d => decide); (case e => rfl)); (try dsimp only)))
theorem join_ok {w : World} {news : List (Addr × Obj)} {c : String} {v1 v2 : Value} {ns ms : List Int} (hc : c = "list" ∨ c = "tuple") (i1 : SeqIn c news v1 ns) (i2 : SeqIn c news v2 ms) (hl : ns.length ≤ 1000) (hl2 : ms.length ≤ 1000) :
    Does w 73 3 news [v1, v2] (fun r news' => SeqIn c news' r (join ns ms) ∧ (c = "list" → ∀ z ∈ news, r ≠ .ref z.1)) := by
  have hfill : PySem.Challenge.rw_nb0374_01 = PySem.Challenge.rw_nb0374_01 ∧ Mine.hd.heap_39 = Mine.hd.heap_39 := by (k_fill; exact ⟨rfl, rfl⟩)
  clear hfill
  w_on
  unfold Does
  intro mean mg mb dp un gd cn cs a ccd cl outer A₀ base h₀ L m s Q E B F X N T hk hd hu hret
  refine wpAny_call ?_
  k_dflt ktr_enter
  k_steps
  k_dflt (refine' Does.use (pieces_ok hc i1 i2 hl hl2) ?k1 ?k2 ?k3 ?k4 ?k5 ?k6 ?k7 ?k8 ?_)
  case k1 => k_asm
  case k2 => k_asm
  case k3 => k_asm
  case k4 => k_asm
  case k5 => k_asm
  case k6 => rfl
  case k7 => ktr_room
  case k8 => ktr_units
  intro r1 news1 h1 tk1 Fx1 Nx1 sub1 o1
  try dsimp only
  obtain ⟨ap, u1, u2, np, rfl, mp, s1, s2⟩ := o1
  k_steps
  k_dflt (refine' Does.use (concat_ok hc s1 s2 (by rw [List.length_take]; omega) (by rw [List.length_drop]; omega)) ?k1 ?k2 ?k3 ?k4 ?k5 ?k6 ?k7 ?k8 ?_)
  case k1 => k_asm
  case k2 => k_asm
  case k3 => k_asm
  case k4 => k_asm
  case k5 => k_asm
  case k6 => rfl
  case k7 => ktr_room
  case k8 => ktr_units
  intro r2 news2 h2 tk2 Fx2 Nx2 sub2 o2
  try dsimp only
  k_steps
  exact hret _ _ _ _ (by k_asm) (by k_asm) (fun p hp => sub2 _ (sub1 _ hp)) ⟨o2.1, fun e z hz => o2.2 e z (sub1 z hz)⟩
end Mine
end
section
open PySem PySem.Spec PySem.Calls PySem.W PyProof.Rows
namespace Mine
set_option maxRecDepth 100000
set_option maxHeartbeats 8000000
theorem word_ok {w : World} {news : List (Addr × Obj)} {c : String} {v ve : Value} {ns : List Int} (hc : c = "list" ∨ c = "tuple") (i1 : SeqIn "list" news v ns) (ie : SeqIn c news ve []) (hl : ns.length ≤ 500) :
    Does w 80 5 news [v, ve] (fun r news' => SeqIn c news' r (wordOf ns) ∧ (c = "list" → r = ve ∨ ∀ z ∈ news, r ≠ .ref z.1)) := by
  obtain ⟨l1, vs1, n1, rfl, m1, j1⟩ := i1
  have ie0 := ie
  obtain ⟨e, ne, rfl, me⟩ := ie.empty
  clear ie
  have hfill : PySem.Challenge.rw_nb0374_01 = PySem.Challenge.rw_nb0374_01 ∧ Mine.hd.heap_39 = Mine.hd.heap_39 := by (k_fill; exact ⟨rfl, rfl⟩)
  clear hfill
  w_on
  unfold Does
  intro mean mg mb dp un gd cn cs a ccd cl outer A₀ base h₀ L m s Q E B F X N T hk hd hu hret
  refine wpAny_call ?_
  k_dflt ktr_enter
  k_steps
  (with_reducible rename News _ _ _ _ => N2)
  (with_reducible rename IntsAre _ _ => j1)
  k_dflt (refine' loop_ints (fun i m₁ a => ∃ v', m₁ "word" = some v' ∧ m₁ "empty" = some (.ref e) ∧ SeqIn c a v' (wordOf (ns.take i)) ∧ (c = "list" → v' = .ref e ∨ ∀ z ∈ news, v' ≠ .ref z.1)) ?mono ?hh m1 j1 ?F N2 ?hj ?turn ?done)
  case hh => rfl
  case mono => rintro i m₁ a b hab ⟨v', e1, e2, h, hz⟩; exact ⟨v', e1, e2, h.subS hab, hz⟩
  case F => k_asm
  case hj => exact ⟨_, rfl, rfl, ie0, fun _ => .inl rfl⟩
  case turn =>
    rintro i n t m₁ newsA h tk hn hsub ⟨v', e1, e2, hq, hz⟩ F3 N3
    replace F3 := fr_know1 (fr_know1 F3 e1) ((if_neg (by decide)).trans e2)
    have hlq : (wordOf (ns.take i)).length ≤ 1000 := by
      have h1 := wordOf_length (ns.take i)
      have h2 : (ns.take i).length ≤ ns.length := by rw [List.length_take]; omega
      omega
    k_steps
    (with_reducible rename News _ _ _ _ => N4)
    k_dflt (refine' eq_empty hc N4 (.tail _ (hsub _ me)) (.head _) ?hu ?_)
    case hu => ktr_units
    rcases hc with rfl | rfl
    · rw [show decide ("list" = "tuple") = false from rfl]
      have N5 := News.tl N4
      clear N4
      k_steps
      k_dflt (refine' Does.use (join_ok (ms := [n]) (.inl rfl) (hq.mono fun _ hp => .tail _ hp) ⟨_, _, _, rfl, .head _, .cons _ _ .nil⟩ hlq (by simp)) ?k1 ?k2 ?k3 ?k4 ?k5 ?k6 ?k7 ?k8 ?_)
      case k1 => k_asm
      case k2 => k_asm
      case k3 => k_asm
      case k4 => k_asm
      case k5 => k_asm
      case k6 => rfl
      case k7 => ktr_room
      case k8 => ktr_units
      intro r1 news1 h1 tk1 Fx1 Nx1 sub1 o1
      try dsimp only
      k_steps
      refine ⟨rfl, _, _, _, _, rfl, by k_asm, by k_asm, fun p hp => sub1 _ (.tail _ hp), _, rfl, rfl, ?_, fun e => .inr fun z hz => o1.2 e z (.tail _ (hsub z hz))⟩
      rw [wordOf_take hn]
      exact o1.1
    · rw [show decide ("tuple" = "tuple") = true from rfl]
      have N5 := News.tl N4
      clear N4
      k_steps
      k_dflt (refine' Does.use (join_ok (ms := [n]) (.inr rfl) (hq.mono fun _ hp => .tail _ hp) ⟨_, _, _, rfl, .head _, .cons _ _ .nil⟩ hlq (by simp)) ?k1 ?k2 ?k3 ?k4 ?k5 ?k6 ?k7 ?k8 ?_)
      case k1 => k_asm
      case k2 => k_asm
      case k3 => k_asm
      case k4 => k_asm
      case k5 => k_asm
      case k6 => rfl
      case k7 => ktr_room
      case k8 => ktr_units
      intro r1 news1 h1 tk1 Fx1 Nx1 sub1 o1
      try dsimp only
      k_steps
      refine ⟨rfl, _, _, _, _, rfl, by k_asm, by k_asm, fun p hp => sub1 _ (.tail _ hp), _, rfl, rfl, ?_, fun e => .inr fun z hz => o1.2 e z (.tail _ (hsub z hz))⟩
      rw [wordOf_take hn]
      exact o1.1
  case done =>
    rintro m₁ news₁ h tk ⟨v', e1, e2, hq, hz⟩ hsub F3 N3
    replace F3 := fr_know F3 e1
    k_steps
    exact hret _ _ _ _ (by k_asm) (by k_asm) hsub ⟨by rw [List.take_length] at hq; exact hq, hz⟩
end Mine
end
section
open PySem PySem.Spec PySem.Calls PySem.W PyProof.Rows
namespace Mine
set_option maxRecDepth 100000
set_option maxHeartbeats 8000000
noncomputable def letter (x : Int) : PySem.Str := Txt.item (Str.ofString "BA ab") (x + 2)
theorem letter_length (x : Int) : (letter x).length = 1 := rfl
noncomputable def textOf (ns : List Int) : PySem.Str := Txt.join (Str.ofString "") (ns.map letter)
theorem ofString_nil : Str.ofString "" = PySem.Str.empty := by decide +kernel
theorem join_cons_nil (x : PySem.Str) (r : List PySem.Str) : PySem.Str.join PySem.Str.empty (x :: r) = x ++ PySem.Str.join PySem.Str.empty r := by
  cases r with
  | nil => simp only [PySem.Str.join]; rw [PySem.Str.append_empty]
  | cons y r => simp only [PySem.Str.join]; rw [PySem.Str.append_empty]
theorem join_append_nil (a b : List PySem.Str) : PySem.Str.join PySem.Str.empty (a ++ b) = PySem.Str.join PySem.Str.empty a ++ PySem.Str.join PySem.Str.empty b := by
  induction a with
  | nil => simp only [List.nil_append, PySem.Str.join]; rw [PySem.Str.empty_append]
  | cons x a ih => rw [List.cons_append, join_cons_nil, join_cons_nil, ih, PySem.Str.append_assoc]
theorem textOf_append (ns ms : List Int) : textOf (ns ++ ms) = textOf ns ++ textOf ms := by
  unfold textOf Txt.join
  rw [StrLaws.glued_eq_join, StrLaws.glued_eq_join, StrLaws.glued_eq_join, ofString_nil, List.map_append, join_append_nil]
theorem sum_letters (ns : List Int) : ((ns.map letter).map (·.length)).sum = ns.length := by
  induction ns with
  | nil => rfl
  | cons x r ih => simp only [List.map_cons, List.sum_cons, List.length_cons, letter_length, ih]; omega
theorem strs_of_filter {ys : List Value} {ns : List Int} (h : CarriedAll ys ((ns.filter fun _ => true).map fun a => PyData.str (letter a))) : StrsAre ys (ns.map letter) := by
  rw [filter_allG] at h
  exact CarriedAll.strsOf h
theorem text_list {w : World} {news : List (Addr × Obj)} {v : Value} {ns : List Int} (i1 : SeqIn "list" news v ns) (hl : ns.length ≤ 1000) (hs : ∀ x ∈ ns, -2 ≤ x ∧ x ≤ 2) :
    Does w 59 1 news [v] (fun r news' => ∃ t, r = .str (textOf ns) t) := by
  obtain ⟨l1, vs1, n1, rfl, m1, j1⟩ := i1
  have hfill : PySem.Challenge.rw_nb0374_01 = PySem.Challenge.rw_nb0374_01 ∧ Mine.hd.heap_39 = Mine.hd.heap_39 := by (k_fill; exact ⟨rfl, rfl⟩)
  clear hfill
  w_on
  unfold Does
  intro mean mg mb dp un gd cn cs a ccd cl outer A₀ base h₀ L m s Q E B F X N T hk hd hu hret
  refine wpAny_call ?_
  k_dflt ktr_enter
  k_steps
  (with_reducible rename News _ _ _ _ => N2)
  (with_reducible rename IntsAre _ _ => j1)
  k_dflt (refine' srcC_listDW (K := ItemKind.int) (as := ns) (pz := fun _ => true) (d := fun a => PyData.str (letter a)) ?hh ?hl (IntsAre.areOf j1) ?F N2 ?g1 ?g2 ?g3 ?hz)
  case hh => rfl
  case hl => exact News.isList N2 m1
  case F => k_asm
  case hz => rw [sizeLine_eq]; omega
  case g1 =>
    intro C a₁ v₁ s₂ m₂ E' ha hv hn hm ht
    exact wpAny_pure ⟨rfl, Keeps.same _⟩
  case g2 =>
    intro C a₁ v₁ s₂ m₂ E' ha hv hp hn hm ht
    obtain ⟨t, rfl⟩ := hv
    have hr := hs a₁ ha
    rcases (show a₁ = -2 ∨ a₁ = -1 ∨ a₁ = 0 ∨ a₁ = 1 ∨ a₁ = 2 by omega) with rfl | rfl | rfl | rfl | rfl
    all_goals k_steps
    all_goals first | exact Carried.str _ _ | exact ⟨_, _, rfl, fun _ _ e => e⟩
  case g3 =>
    intro D ys h5 tk5 F5 N5 hD hIL hNP hC
    have hS := strs_of_filter hC
    k_steps
    k_dflt (refine join_list hIL hS ?_ ?_)
    · rw [sum_letters, List.length_map]
      have e : (Str.ofString "").length = 0 := by decide +kernel
      rw [e]
      omega
    intro t6 k6
    k_steps
    exact hret _ _ _ _ (by k_asm) (by k_asm) (fun p hp => .tail _ hp) ⟨_, rfl⟩
theorem text_tuple {w : World} {news : List (Addr × Obj)} {v : Value} {ns : List Int} (i1 : SeqIn "tuple" news v ns) (hl : ns.length ≤ 1000) (hs : ∀ x ∈ ns, -2 ≤ x ∧ x ≤ 2) :
    Does w 59 1 news [v] (fun r news' => ∃ t, r = .str (textOf ns) t) := by
  obtain ⟨l1, vs1, n1, rfl, m1, j1⟩ := i1
  have hfill : PySem.Challenge.rw_nb0374_01 = PySem.Challenge.rw_nb0374_01 ∧ Mine.hd.heap_39 = Mine.hd.heap_39 := by (k_fill; exact ⟨rfl, rfl⟩)
  clear hfill
  w_on
  unfold Does
  intro mean mg mb dp un gd cn cs a ccd cl outer A₀ base h₀ L m s Q E B F X N T hk hd hu hret
  refine wpAny_call ?_
  k_dflt ktr_enter
  k_steps
  (with_reducible rename News _ _ _ _ => N2)
  (with_reducible rename IntsAre _ _ => j1)
  k_dflt (refine' srcC_tupleDW (K := ItemKind.int) (as := ns) (pz := fun _ => true) (d := fun a => PyData.str (letter a)) ?hh ?hl (IntsAre.areOf j1) ?F N2 ?g1 ?g2 ?g3 ?hz)
  case hh => rfl
  case hl => exact News.isTup N2 m1
  case F => k_asm
  case hz => rw [sizeLine_eq]; omega
  case g1 =>
    intro C a₁ v₁ s₂ m₂ E' ha hv hn hm ht
    exact wpAny_pure ⟨rfl, Keeps.same _⟩
  case g2 =>
    intro C a₁ v₁ s₂ m₂ E' ha hv hp hn hm ht
    obtain ⟨t, rfl⟩ := hv
    have hr := hs a₁ ha
    rcases (show a₁ = -2 ∨ a₁ = -1 ∨ a₁ = 0 ∨ a₁ = 1 ∨ a₁ = 2 by omega) with rfl | rfl | rfl | rfl | rfl
    all_goals k_steps
    all_goals first | exact Carried.str _ _ | exact ⟨_, _, rfl, fun _ _ e => e⟩
  case g3 =>
    intro D ys h5 tk5 F5 N5 hD hIL hNP hC
    have hS := strs_of_filter hC
    k_steps
    k_dflt (refine join_list hIL hS ?_ ?_)
    · rw [sum_letters, List.length_map]
      have e : (Str.ofString "").length = 0 := by decide +kernel
      rw [e]
      omega
    intro t6 k6
    k_steps
    exact hret _ _ _ _ (by k_asm) (by k_asm) (fun p hp => .tail _ hp) ⟨_, rfl⟩
theorem text_ok {w : World} {news : List (Addr × Obj)} {c : String} {v : Value} {ns : List Int} (hc : c = "list" ∨ c = "tuple") (i1 : SeqIn c news v ns) (hl : ns.length ≤ 1000) (hs : ∀ x ∈ ns, -2 ≤ x ∧ x ≤ 2) :
    Does w 59 1 news [v] (fun r news' => ∃ t, r = .str (textOf ns) t) := by
  rcases hc with rfl | rfl
  · exact text_list i1 hl hs
  · exact text_tuple i1 hl hs
end Mine
end
section
open PySem PySem.Spec PySem.Calls PySem.W PyProof.Rows
namespace Mine
set_option maxRecDepth 100000
set_option maxHeartbeats 8000000
theorem concat_str {w : World} {news : List (Addr × Obj)} {x y : PySem.Str} {t u : Tok} (hx : x.length ≤ 1000) (hy : y.length ≤ 1000) :
    Does w 21 1 news [.str x t, .str y u] (fun r news' => ∃ t', r = .str (x ++ y) t') := by
  have hfill : PySem.Challenge.rw_nb0374_01 = PySem.Challenge.rw_nb0374_01 ∧ Mine.hd.heap_39 = Mine.hd.heap_39 := by (k_fill; exact ⟨rfl, rfl⟩)
  clear hfill
  w_on
  unfold Does
  intro mean mg mb dp un gd cn cs a ccd cl outer A₀ base h₀ L m s Q E B F X N T hk hd hu hret
  refine wpAny_call ?_
  k_dflt ktr_enter
  k_steps
  (with_reducible rename News _ _ _ _ => N2)
  (with_reducible rename Fr _ _ _ _ => F2)
  k_dflt (refine has_str ?_)
  intro h5 tk5 k5
  have F5 := Fr.keeps F2 k5
  have N5 := News.grown N2 k5
  clear N2 F2
  k_steps
  exact hret _ _ _ _ (by k_asm) (by k_asm) (fun p hp => hp) ⟨_, rfl⟩
local macro_rules | `(tactic| walk_at "call builtin:isinstance") => `(tactic| ((with_reducible show wpAny _ _ (call (Value.builtin "isinstance") [Value.ref _, Value.type _]) _ _ _); k_dflt (first
  | (refine' isi_ll ?a ?b ?_; (case a => k_asm); (case b => (first | assumption | exact List.Mem.tail _ (by assumption) | exact List.Mem.tail _ (List.Mem.tail _ (by assumption)))))
  | (refine' isi_lt ?a ?b ?_; (case a => k_asm); (case b => (first | assumption | exact List.Mem.tail _ (by assumption) | exact List.Mem.tail _ (List.Mem.tail _ (by assumption)))))
  | (refine' isi_tl ?a ?b ?_; (case a => k_asm); (case b => (first | assumption | exact List.Mem.tail _ (by assumption) | exact List.Mem.tail _ (List.Mem.tail _ (by assumption)))))
  | (refine' isi_tt ?a ?b ?_; (case a => k_asm); (case b => (first | assumption | exact List.Mem.tail _ (by assumption) | exact List.Mem.tail _ (List.Mem.tail _ (by assumption)))))); intro tkI; (try dsimp only)))
local macro_rules | `(tactic| walk_at "compareOp Is ref ref") => `(tactic| ((with_reducible show wpAny _ _ (compareOp CmpOp.Is (Value.ref _) (Value.ref _)) _ _ _); k_dflt (refine' is_other ?a ?b ?b' ?c ?_; (case a => k_asm); (case b => (first | assumption | exact List.Mem.tail _ (by assumption) | exact List.Mem.tail _ (List.Mem.tail _ (by assumption)))); (case b' => (first | assumption | exact List.Mem.tail _ (by assumption) | exact List.Mem.tail _ (List.Mem.tail _ (by assumption)))); (case c => assumption))))
local macro_rules | `(tactic| walk_at "compareOp NotEq ref ref") => `(tactic| ((with_reducible show wpAny _ _ (compareOp CmpOp.NotEq (Value.ref _) (Value.ref _)) _ _ _); k_dflt (refine' ne_bools ?a ?b ?c ?d ?_; (case a => k_asm); (case b => exact List.Mem.tail _ (List.Mem.head _)); (case c => exact List.Mem.head _); (case d => ktr_units))))
local macro_rules | `(tactic| walk_at "mine.toCmp") => `(tactic| repeat' ((fail_if_success (with_reducible show wpAny _ _ (compareOp _ (Value.ref _) (Value.ref _)) _ _ _)); (first | (k_unfold; (try dsimp only)) | walk1 | (dsimp only; walk1) | (leave1; walk_say "STEP leave1"; (try dsimp only)) | fail "no step")))
local macro_rules | `(tactic| walk_at "mine.toSlice") => `(tactic| repeat' ((fail_if_success (with_reducible show wpAny _ _ (subscriptTail _ _ (Value.ref _) (Value.ref _)) _ _ _)); (first | (k_unfold; (try dsimp only)) | walk1 | (dsimp only; walk1) | (leave1; walk_say "STEP leave1"; (try dsimp only)) | fail "no step")))
local macro_rules | `(tactic| walk_at "call builtin:len") => `(tactic| ((with_reducible show wpAny _ _ (call (Value.builtin "len") [Value.ref _]) _ _ _); k_dflt (refine' len_in ?a ?b ?c ?d ?e ?_; (case a => assumption); (case b => k_asm); (case c => assumption); (case d => assumption); (case e => assumption)); intro tkL; (try dsimp only)))
theorem behind_list {w : World} {news : List (Addr × Obj)} {v1 v2 : Value} {ns ms : List Int} (i1 : SeqIn "list" news v1 ns) (i2 : SeqIn "list" news v2 ms) (hl : ns.length ≤ 400) (hl2 : ms.length ≤ 400) :
    Does w 87 3 news [v1, v2] (fun r news' => r = .bool true) := by
  have hfill : PySem.Challenge.rw_nb0374_01 = PySem.Challenge.rw_nb0374_01 ∧ Mine.hd.heap_39 = Mine.hd.heap_39 := by (k_fill; exact ⟨rfl, rfl⟩)
  clear hfill
  w_on
  unfold Does
  intro mean mg mb dp un gd cn cs a ccd cl outer A₀ base h₀ L m s Q E B F X N T hk hd hu hret
  refine wpAny_call ?_
  k_dflt ktr_enter
  k_steps
  k_dflt (refine' Does.use (signs_list i1 (by omega)) ?k1 ?k2 ?k3 ?k4 ?k5 ?k6 ?k7 ?k8 ?_)
  case k1 => k_asm
  case k2 => k_asm
  case k3 => k_asm
  case k4 => k_asm
  case k5 => k_asm
  case k6 => rfl
  case k7 => ktr_room
  case k8 => ktr_units
  intro r1 news1 h1 tk1 Fx1 Nx1 sub1 o1
  try dsimp only
  k_steps
  k_dflt (refine' Does.use (signs_list (i2.mono sub1) (by omega)) ?k1 ?k2 ?k3 ?k4 ?k5 ?k6 ?k7 ?k8 ?_)
  case k1 => k_asm
  case k2 => k_asm
  case k3 => k_asm
  case k4 => k_asm
  case k5 => k_asm
  case k6 => rfl
  case k7 => ktr_room
  case k8 => ktr_units
  intro r2 news2 h2 tk2 Fx2 Nx2 sub2 o2
  try dsimp only
  k_steps
  have b1 := ((i1.mono sub1).mono sub2)
  have b2 := ((i2.mono sub1).mono sub2)
  k_dflt (refine' Does.use (concat_list b1.cons b2.cons (by omega) (by omega)) ?k1 ?k2 ?k3 ?k4 ?k5 ?k6 ?k7 ?k8 ?_)
  case k1 => k_asm
  case k2 => k_asm
  case k3 => k_asm
  case k4 => k_asm
  case k5 => k_asm
  case k6 => rfl
  case k7 => ktr_room
  case k8 => ktr_units
  intro r3 news3 h3 tk3 Fx3 Nx3 sub3 o3
  try dsimp only
  have b1 := b1.cons.mono sub3
  have b2 := b2.cons.mono sub3
  have c1 := (o1.mono sub2).cons.mono sub3
  have c2 := o2.cons.mono sub3
  have mb := sub3 _ (.head _)
  obtain ⟨o3, fresh3⟩ := o3
  have fr1 := fresh3
  have o3s := o3
  obtain ⟨l3, vs3, n3, rfl, m3, j3⟩ := o3
  have b1s := b1
  have b2s := b2
  obtain ⟨l1, vs1, n1, rfl, m1, j1⟩ := b1
  obtain ⟨l2, vs2, n2, rfl, m2, j2⟩ := b2
  have d1 : l3 ≠ l1 := by
    obtain ⟨a0, vs0, n0, e0, m0, _⟩ := i1
    injection e0 with e0
    intro e
    exact fresh3 _ (.tail _ (sub2 _ (sub1 _ m0))) (by rw [e, e0])
  have d2 : l3 ≠ l2 := by
    obtain ⟨a0, vs0, n0, e0, m0, _⟩ := i2
    injection e0 with e0
    intro e
    exact fresh3 _ (.tail _ (sub2 _ (sub1 _ m0))) (by rw [e, e0])
  k_steps
  (with_reducible rename News _ _ _ _ => N9)
  have N10 := News.tl (News.tl N9)
  clear N9
  k_dflt (refine' Does.use (signs_list b1s (by omega)) ?k1 ?k2 ?k3 ?k4 ?k5 ?k6 ?k7 ?k8 ?_)
  case k1 => k_asm
  case k2 => k_asm
  case k3 => k_asm
  case k4 => k_asm
  case k5 => k_asm
  case k6 => rfl
  case k7 => ktr_room
  case k8 => ktr_units
  intro r4 news4 h4 tk4 Fx4 Nx4 sub4 o4
  try dsimp only
  k_steps
  k_dflt (refine' Does.use (signs_list (b2s.mono sub4) (by omega)) ?k1 ?k2 ?k3 ?k4 ?k5 ?k6 ?k7 ?k8 ?_)
  case k1 => k_asm
  case k2 => k_asm
  case k3 => k_asm
  case k4 => k_asm
  case k5 => k_asm
  case k6 => rfl
  case k7 => ktr_room
  case k8 => ktr_units
  intro r5 news5 h5 tk5 Fx5 Nx5 sub5 o5
  try dsimp only
  walk_at "mine.toCmp"
  (with_reducible rename News _ _ _ _ => N9)
  k_dflt (refine' ne_pairs N9 (.head _) (o4.mono sub5).cons o5.cons (.tail _ (sub5 _ (sub4 _ mb))) ((c1.mono sub4).mono sub5).cons ((c2.mono sub4).mono sub5).cons ?hu ?_)
  case hu => ktr_units
  have N10 := News.tl N9
  clear N9
  have m1' := sub5 _ (sub4 _ m1)
  have m3' := sub5 _ (sub4 _ m3)
  have hcc : "list" = "list" ∨ "list" = "tuple" := by first | exact .inl rfl | exact .inr rfl
  have hl' : ns.length ≤ 1000 := by omega
  (with_reducible rename IntsAre _ ns => j1)
  (with_reducible rename IntsAre _ (ns ++ ms) => j3)
  walk_at "mine.toSlice"
  k_dflt (refine' slice_upto (b := ns.length) hcc ?F ?N m3' j3 ?l ?e ?l2 ?_)
  case F => k_asm
  case N => k_asm
  case l => (rw [List.length_append]; omega)
  case e => rfl
  case l2 => (rw [List.length_append]; omega)
  intro r6 h6 news6 F6 N6 sub6 o6
  try dsimp only
  rw [List.take_left'  rfl] at o6
  k_steps
  k_dflt (refine' Does.use (signs_list o6 (by omega)) ?k1 ?k2 ?k3 ?k4 ?k5 ?k6 ?k7 ?k8 ?_)
  case k1 => k_asm
  case k2 => k_asm
  case k3 => k_asm
  case k4 => k_asm
  case k5 => k_asm
  case k6 => rfl
  case k7 => ktr_room
  case k8 => ktr_units
  intro r7 news7 h7 tk7 Fx7 Nx7 sub7 o7
  try dsimp only
  have m1' := sub7 _ (sub6 _ m1')
  have m3' := sub7 _ (sub6 _ m3')
  walk_at "mine.toSlice"
  k_dflt (refine' slice_from (a := ns.length) hcc ?F ?N m3' j3 ?l ?e ?l2 ?_)
  case F => k_asm
  case N => k_asm
  case l => (rw [List.length_append]; omega)
  case e => rfl
  case l2 => (rw [List.length_append]; omega)
  intro r8 h8 news8 F8 N8 sub8 o8
  try dsimp only
  rw [List.drop_left' rfl] at o8
  k_steps
  k_dflt (refine' Does.use (signs_list o8 (by omega)) ?k1 ?k2 ?k3 ?k4 ?k5 ?k6 ?k7 ?k8 ?_)
  case k1 => k_asm
  case k2 => k_asm
  case k3 => k_asm
  case k4 => k_asm
  case k5 => k_asm
  case k6 => rfl
  case k7 => ktr_room
  case k8 => ktr_units
  intro r9 news9 h9 tk9 Fx9 Nx9 sub9 o9
  try dsimp only
  walk_at "mine.toCmp"
  (with_reducible rename News _ _ _ _ => N11)
  have up : ∀ p ∈ news5, p ∈ news9 := fun p hp => sub9 _ (sub8 _ (sub7 _ (sub6 _ hp)))
  k_dflt (refine' eq_pairs N11 (.head _) ((o7.mono sub8).mono sub9).cons o9.cons (.tail _ (up _ (sub5 _ (sub4 _ mb)))) (((c1.mono sub4).mono sub5).mono up).cons (((c2.mono sub4).mono sub5).mono up).cons ?hu ?_)
  case hu => ktr_units
  k_steps
  exact hret _ _ _ _ (by k_asm) (by k_asm) (fun p hp => .tail _ (up _ (sub5 _ (sub4 _ (sub3 _ (.tail _ (sub2 _ (sub1 _ hp)))))))) rfl
theorem behind_tuple {w : World} {news : List (Addr × Obj)} {v1 v2 : Value} {ns ms : List Int} (i1 : SeqIn "tuple" news v1 ns) (i2 : SeqIn "tuple" news v2 ms) (hl : ns.length ≤ 400) (hl2 : ms.length ≤ 400) :
    Does w 87 3 news [v1, v2] (fun r news' => r = .bool true) := by
  have hfill : PySem.Challenge.rw_nb0374_01 = PySem.Challenge.rw_nb0374_01 ∧ Mine.hd.heap_39 = Mine.hd.heap_39 := by (k_fill; exact ⟨rfl, rfl⟩)
  clear hfill
  w_on
  unfold Does
  intro mean mg mb dp un gd cn cs a ccd cl outer A₀ base h₀ L m s Q E B F X N T hk hd hu hret
  refine wpAny_call ?_
  k_dflt ktr_enter
  k_steps
  k_dflt (refine' Does.use (signs_tuple i1 (by omega)) ?k1 ?k2 ?k3 ?k4 ?k5 ?k6 ?k7 ?k8 ?_)
  case k1 => k_asm
  case k2 => k_asm
  case k3 => k_asm
  case k4 => k_asm
  case k5 => k_asm
  case k6 => rfl
  case k7 => ktr_room
  case k8 => ktr_units
  intro r1 news1 h1 tk1 Fx1 Nx1 sub1 o1
  try dsimp only
  k_steps
  k_dflt (refine' Does.use (signs_tuple (i2.mono sub1) (by omega)) ?k1 ?k2 ?k3 ?k4 ?k5 ?k6 ?k7 ?k8 ?_)
  case k1 => k_asm
  case k2 => k_asm
  case k3 => k_asm
  case k4 => k_asm
  case k5 => k_asm
  case k6 => rfl
  case k7 => ktr_room
  case k8 => ktr_units
  intro r2 news2 h2 tk2 Fx2 Nx2 sub2 o2
  try dsimp only
  k_steps
  have b1 := ((i1.mono sub1).mono sub2)
  have b2 := ((i2.mono sub1).mono sub2)
  k_dflt (refine' Does.use (concat_tuple b1.cons b2.cons (by omega) (by omega)) ?k1 ?k2 ?k3 ?k4 ?k5 ?k6 ?k7 ?k8 ?_)
  case k1 => k_asm
  case k2 => k_asm
  case k3 => k_asm
  case k4 => k_asm
  case k5 => k_asm
  case k6 => rfl
  case k7 => ktr_room
  case k8 => ktr_units
  intro r3 news3 h3 tk3 Fx3 Nx3 sub3 o3
  try dsimp only
  have b1 := b1.cons.mono sub3
  have b2 := b2.cons.mono sub3
  have c1 := (o1.mono sub2).cons.mono sub3
  have c2 := o2.cons.mono sub3
  have mb := sub3 _ (.head _)
  have o3s := o3
  obtain ⟨l3, vs3, n3, rfl, m3, j3⟩ := o3
  have b1s := b1
  have b2s := b2
  obtain ⟨l1, vs1, n1, rfl, m1, j1⟩ := b1
  obtain ⟨l2, vs2, n2, rfl, m2, j2⟩ := b2
  k_steps
  (with_reducible rename News _ _ _ _ => N9)
  have N10 := News.tl (News.tl N9)
  clear N9
  k_dflt (refine' Does.use (signs_tuple b1s (by omega)) ?k1 ?k2 ?k3 ?k4 ?k5 ?k6 ?k7 ?k8 ?_)
  case k1 => k_asm
  case k2 => k_asm
  case k3 => k_asm
  case k4 => k_asm
  case k5 => k_asm
  case k6 => rfl
  case k7 => ktr_room
  case k8 => ktr_units
  intro r4 news4 h4 tk4 Fx4 Nx4 sub4 o4
  try dsimp only
  k_steps
  k_dflt (refine' Does.use (signs_tuple (b2s.mono sub4) (by omega)) ?k1 ?k2 ?k3 ?k4 ?k5 ?k6 ?k7 ?k8 ?_)
  case k1 => k_asm
  case k2 => k_asm
  case k3 => k_asm
  case k4 => k_asm
  case k5 => k_asm
  case k6 => rfl
  case k7 => ktr_room
  case k8 => ktr_units
  intro r5 news5 h5 tk5 Fx5 Nx5 sub5 o5
  try dsimp only
  walk_at "mine.toCmp"
  (with_reducible rename News _ _ _ _ => N9)
  k_dflt (refine' ne_pairs N9 (.head _) (o4.mono sub5).cons o5.cons (.tail _ (sub5 _ (sub4 _ mb))) ((c1.mono sub4).mono sub5).cons ((c2.mono sub4).mono sub5).cons ?hu ?_)
  case hu => ktr_units
  have N10 := News.tl N9
  clear N9
  have m1' := sub5 _ (sub4 _ m1)
  have m3' := sub5 _ (sub4 _ m3)
  have hcc : "tuple" = "list" ∨ "tuple" = "tuple" := by first | exact .inl rfl | exact .inr rfl
  have hl' : ns.length ≤ 1000 := by omega
  (with_reducible rename IntsAre _ ns => j1)
  (with_reducible rename IntsAre _ (ns ++ ms) => j3)
  walk_at "mine.toSlice"
  k_dflt (refine' slice_upto (b := ns.length) hcc ?F ?N m3' j3 ?l ?e ?l2 ?_)
  case F => k_asm
  case N => k_asm
  case l => (rw [List.length_append]; omega)
  case e => rfl
  case l2 => (rw [List.length_append]; omega)
  intro r6 h6 news6 F6 N6 sub6 o6
  try dsimp only
  rw [List.take_left'  rfl] at o6
  k_steps
  k_dflt (refine' Does.use (signs_tuple o6 (by omega)) ?k1 ?k2 ?k3 ?k4 ?k5 ?k6 ?k7 ?k8 ?_)
  case k1 => k_asm
  case k2 => k_asm
  case k3 => k_asm
  case k4 => k_asm
  case k5 => k_asm
  case k6 => rfl
  case k7 => ktr_room
  case k8 => ktr_units
  intro r7 news7 h7 tk7 Fx7 Nx7 sub7 o7
  try dsimp only
  have m1' := sub7 _ (sub6 _ m1')
  have m3' := sub7 _ (sub6 _ m3')
  walk_at "mine.toSlice"
  k_dflt (refine' slice_from (a := ns.length) hcc ?F ?N m3' j3 ?l ?e ?l2 ?_)
  case F => k_asm
  case N => k_asm
  case l => (rw [List.length_append]; omega)
  case e => rfl
  case l2 => (rw [List.length_append]; omega)
  intro r8 h8 news8 F8 N8 sub8 o8
  try dsimp only
  rw [List.drop_left' rfl] at o8
  k_steps
  k_dflt (refine' Does.use (signs_tuple o8 (by omega)) ?k1 ?k2 ?k3 ?k4 ?k5 ?k6 ?k7 ?k8 ?_)
  case k1 => k_asm
  case k2 => k_asm
  case k3 => k_asm
  case k4 => k_asm
  case k5 => k_asm
  case k6 => rfl
  case k7 => ktr_room
  case k8 => ktr_units
  intro r9 news9 h9 tk9 Fx9 Nx9 sub9 o9
  try dsimp only
  walk_at "mine.toCmp"
  (with_reducible rename News _ _ _ _ => N11)
  have up : ∀ p ∈ news5, p ∈ news9 := fun p hp => sub9 _ (sub8 _ (sub7 _ (sub6 _ hp)))
  k_dflt (refine' eq_pairs N11 (.head _) ((o7.mono sub8).mono sub9).cons o9.cons (.tail _ (up _ (sub5 _ (sub4 _ mb)))) (((c1.mono sub4).mono sub5).mono up).cons (((c2.mono sub4).mono sub5).mono up).cons ?hu ?_)
  case hu => ktr_units
  k_steps
  exact hret _ _ _ _ (by k_asm) (by k_asm) (fun p hp => .tail _ (up _ (sub5 _ (sub4 _ (sub3 _ (.tail _ (sub2 _ (sub1 _ hp)))))))) rfl
end Mine
end
section
open PySem PySem.Spec PySem.Calls PySem.W PyProof.Rows
set_option maxRecDepth 100000
namespace Mine
section
variable {prog : Program} {w : World} {A₀ A : Around} {s : Shared} {base h₀ : Heap} {L : Addr} {m : PySem.Str → Option Value} {env : Env} {news : List (Addr × Obj)} {K : Frag} {p : Program} {loose : List PySem.Str} {mean : ExcName → Option Value} {mg mb : PySem.Str → Option Value}
    {R : Result → Shared → Prop} {name qual : PySem.Str} {params : Arguments} {body : List Stmt} {scope : Scope} {dV kV doc pm cdv ct oc : Value} {an od : Option Addr} {osl : Array (Option Value)} {f : Addr} {args : Args} {binds : List (PySem.Str × Value)}
theorem mem_one {b : Addr} (hf : env.frame = some L) (hb : b ∈ [env].filterMap (·.frame)) : b = L := by
  obtain ⟨x, hx, e⟩ := List.mem_filterMap.mp hb
  rw [List.mem_singleton.mp hx, hf] at e
  exact (Option.some.inj e).symm
/-- a def that holds a try, called out of the law's own frame (which may have cells): what is under it is as it was, up to the slots of that frame -/
theorem code_tried (B : Below A₀ base [] h₀) (F : Fr h₀ L s.heap m) (X₀ : K.In h₀) (N : News h₀ L s.heap news) (T : Top p loose mean mg mb h₀) (hA : A.frames = some [env]) (hf : env.frame = some L) (hke : env.scope.kind = .function)
    (ho : K.lookup f = some ⟨oc, od, .func (fnOf name qual params body scope dV kV doc pm an cdv ct), osl⟩) (hcd : codeIn K cdv qual = true) (hroom : A.depth < recursionLimit)
    (hbind : BindsTo s (fnOf name qual params body scope dV kV doc pm an cdv ct) args binds) (hloc : ∀ y ∈ binds, scope.names.lookup y.1 = some .local)
    (h : ∀ g L' h₁, Fr h₀ L g m → Fr g L' h₁ (fun y => binds.reverse.lookup y) → News g L' h₁ news → Below A base [env] g → K.In g → Top p loose mean mg mb g → KtsDicts ([env].filterMap (·.frame)) g →
      wpAny (model prog w) (A.deeper (envOf qual scope L' f cdv)) (execs body (envOf qual scope L' f cdv))
        (fun fl s' => LeaveS0 ([env].filterMap (·.frame)) h₀ L m g R (match fl with | .ret v => v | _ => .none) s')
        (fun e s' => wpAny (model prog w) (A.deeper (envOf qual scope L' f cdv)) (leaving (envOf qual scope L' f cdv) e) (fun _ s'' => R (.error e) s'') (fun e' s'' => R (.error e') s'') s')
        { s with heap := h₁, toks := s.toks + binds.length })
    (hco : scope.isCoroutine = false) (hgen : scope.isGenerator = false) (hk : scope.kind = .function)
    (hcell : ∀ x ∈ scope.names, x.2 ≠ .cell) : codeAny (model prog w) A (.call (.ref f) args) R s := by
  have X := X₀.keeps F.keep
  obtain ⟨FG, BG, st, _⟩ := groundX (R := R) B F N hA hf hke
  obtain ⟨oL, es, ep, hLg, hLd, hLk, hLf⟩ := id FG.ns
  have nL₀ : h₀.get? L = none := kts_self F
  refine codeAny_call_def (fd := fnOf name qual params body scope dV kV doc pm an cdv ct) (body := body) (binds := binds) hroom (X _ _ ho) rfl (T.nolimit.keeps F.keep) (codeRec_of X hcd) rfl hbind hcell hloc (fun h₁ hns hk₁ => ?_) hco hgen hk
  have D : KtsDicts ([env].filterMap (·.frame)) (hideAll s.heap (news.map (·.1))) := fun b hb => by
    rw [mem_one hf hb]
    exact ⟨oL, es, ep, hLg, hLd⟩
  refine wpAny_mono (h _ s.heap.objs.size h₁ FG ⟨hns, fun b o e => hk₁ b o (of_hideAll _ e), Nat.le_of_eq (hideAll_size _ _)⟩
    (fun q hq => ⟨hk₁ _ _ (N q hq).1, Nat.ne_of_lt (Heap.lt_size (N q hq).1), hideAll_none _ (List.mem_map_of_mem hq)⟩) BG (X₀.keeps st) (T.keeps st) D) (fun fl s' hl => ?_) fun _ _ y => y
  obtain ⟨g', L', m', news', T', F', N', k⟩ := hl
  obtain ⟨sl, hs⟩ := T'.up hLg
  have hup : ∀ b o, h₀.get? b = some o → s'.heap.get? b = some o := fun b o e => by
    refine F'.keep b o (T'.other b o (st b o e) fun hb => ?_)
    rw [mem_one hf hb] at e
    rw [nL₀] at e
    cases e
  refine k ⟨⟨_, es, ep, F'.keep _ _ hs, hLd, hLk, hLf⟩, hup, F.above⟩ fun q hq => ⟨(N' q hq).1, fun e => ?_, ?_⟩
  · have := (N' q hq).2.2
    rw [e, hs] at this
    cases this
  · cases e : h₀.get? q.1 with
    | none => rfl
    | some o =>
      obtain ⟨sl', hs'⟩ := T'.up (st _ _ e)
      have := (N' q hq).2.2
      rw [hs'] at this
      cases this
end
/-- what a call of a def of the text does that may catch, out of the law's own frame -/
def DoesT (w : World) (f : Addr) (k : Nat) (news : List (Addr × Obj)) (vs : List Value) (Out : Value → List (Addr × Obj) → Prop) : Prop :=
  ∀ (mean : ExcName → Option Value) (mg mb : PySem.Str → Option Value) (dp un : Nat) (gd : Option (List Code)) (cn : PySem.Str) (cs : Scope) (a : Addr) (ccd : Value) (cl : List (PySem.Str × Addr)) (A₀ : Around)
    (base h₀ : Heap) (L : Addr) (m : PySem.Str → Option Value) (s : Shared) (Q E : Value → Shared → Prop),
    Below A₀ base [] h₀ → Fr h₀ L s.heap m → (Mine.hd.heap_39 w.params).In h₀ → News h₀ L s.heap news → Top Mine.hd.view_39 (looseW Mine.hd.view_39 []) mean mg mb h₀ → (Mine.hd.heap_39 w.params).In base → Top Mine.hd.view_39 (looseW Mine.hd.view_39 []) mean mg mb base → cs.kind = .function →
    dp + k < recursionLimit → un + 8 * k + 200 < cLine →
    (∀ r news' h' tk', Fr h₀ L h' m → News h₀ L h' news' → (∀ p ∈ news, p ∈ news') → Out r news' → Q r { s with heap := h', toks := tk' }) →
    wpAny (model PySem.Challenge.rw_nb0374_01.row.prog w) (ktrTop dp un gd cn cs L a ccd cl []) (call (.ref f) vs) Q E s
end Mine
end
section
open PySem PySem.Spec PySem.Calls PySem.W PyProof.Rows
open Sem (wp)
set_option maxRecDepth 100000
set_option maxHeartbeats 4000000
namespace Mine
section
variable {prog : Program} {w : World} {A : Around} {E : Value → Shared → Prop} {s : Shared}
theorem add_list_body {a : Addr} {b : Value} {U : String} (hb : s.TypeIs b U) (hsub : isSubtype (.type U) (.type "list") = pure false) (hU : typeName (.type U) = pure U) (hUl : U.length ≤ 100) (hUb : U ≠ "builtin_function_or_method")
    {Q : Fin → Shared → Prop} (hA : A.handled = none)
    (hE : ∀ h' tk e, Heap.NewExc s.heap h' e "TypeError" → E (.ref e) { s with heap := h', toks := tk }) :
    wpAny (model prog w) A (Builtin.«list.__add__» ⟨[.ref a, b], []⟩) Q E s := by
  unfold Builtin.«list.__add__»
  repeat (any_goals (first | assumption | wp_step))
  refine wpAny_raiseErrorMade plainExc_TypeError hA hE ?_
  have e : (Str.ofString (toString "can only concatenate list (not \"" ++ toString U ++ toString "\") to list")).length ≤ 200 := by
    rw [PySem.ofString_length]
    simp only [String.length_append, toString]
    have h1 : ("can only concatenate list (not \"" : String).length ≤ 50 := by decide
    have h2 : ("\") to list" : String).length ≤ 50 := by decide
    omega
  exact Nat.le_trans e (by rw [sizeLine_eq]; omega)
theorem add_tuple_body {a : Addr} {b : Value} {U : String} (hb : s.TypeIs b U) (hsub : isSubtype (.type U) (.type "tuple") = pure false) (hU : typeName (.type U) = pure U) (hUl : U.length ≤ 100) (hUb : U ≠ "builtin_function_or_method")
    {Q : Fin → Shared → Prop} (hA : A.handled = none)
    (hE : ∀ h' tk e, Heap.NewExc s.heap h' e "TypeError" → E (.ref e) { s with heap := h', toks := tk }) :
    wpAny (model prog w) A (Builtin.«tuple.__add__» ⟨[.ref a, b], []⟩) Q E s := by
  unfold Builtin.«tuple.__add__»
  repeat (any_goals (first | assumption | wp_step))
  refine wpAny_raiseErrorMade plainExc_TypeError hA hE ?_
  have e : (Str.ofString (toString "can only concatenate tuple (not \"" ++ toString U ++ toString "\") to tuple")).length ≤ 200 := by
    rw [PySem.ofString_length]
    simp only [String.length_append, toString]
    have h1 : ("can only concatenate tuple (not \"" : String).length ≤ 50 := by decide
    have h2 : ("\") to tuple" : String).length ≤ 50 := by decide
    omega
  exact Nat.le_trans e (by rw [sizeLine_eq]; omega)
theorem add_list_refused {a : Addr} {b : Value} {U : String} {its : Array Value} {n : Nat} (ha : s.heap.get? a = some { cls := .type "list", data := .seq its n }) (hb : s.TypeIs b U) (hTU : (Value.type "list" == Value.type U) = false) (hfU : fillsNumberSlot (.type U) "add" = pure false)
    (hsub : isSubtype (.type U) (.type "list") = pure false) (hU : typeName (.type U) = pure U) (hUl : U.length ≤ 100) (hUb : U ≠ "builtin_function_or_method")
    {Q : Value → Shared → Prop} (hA : A.handled = none)
    (hE : ∀ h' tk e, Heap.NewExc s.heap h' e "TypeError" → E (.ref e) { s with heap := h', toks := tk }) :
    wpAny (model prog w) A (binaryOp .Add (.ref a) b) Q E s := by
  have hTa : s.TypeIs (.ref a) "list" := ⟨_, ha, rfl⟩
  have f1 := noFill_list_add
  have f3 := seq_list_add
  have hc : wpAny (model prog w) A (call (.builtin "list.__add__") [.ref a, b]) Q E s :=
    wpAny_call_entry F.slot_list_add hTa F.entry_list_add (add_list_body hb hsub hU hUl hUb hA hE) (F.args_list_add_2 _ _)
  unfold binaryOp
  refine wpAny_holding ?_
  have h1 : wpAny (model prog w) A (binaryOp1 "add" (.ref a) b) (fun r s' => r = none ∧ s' = s) E s := by
    unfold binaryOp1
    refine wpAny_bind (wpAny_typeOf hTa (wpAny_bind (wpAny_typeOf hb (wpAny_bind (wpAny_of_eq f1 ?_)))))
    rw [hTU]
    refine wpAny_bind (wpAny_of_eq hfU ?_)
    repeat (any_goals (first | assumption | exact ⟨rfl, rfl⟩ | wp_step))
  refine wpAny_bind (wpAny_mono h1 (fun r s' hr => ?_) fun _ _ e => e)
  obtain ⟨rfl, rfl⟩ := hr
  refine wpAny_bind (wpAny_typeOf hTa ?_)
  refine wpAny_bind (wpAny_of_eq f3 ?_)
  exact wpAny_bind (wpAny_rule hc)
theorem add_list_int {a : Addr} {i : Int} {u : Tok} {its : Array Value} {n : Nat} (ha : s.heap.get? a = some { cls := .type "list", data := .seq its n })
    {Q : Value → Shared → Prop} (hA : A.handled = none)
    (hE : ∀ h' tk e, Heap.NewExc s.heap h' e "TypeError" → E (.ref e) { s with heap := h', toks := tk }) :
    wpAny (model prog w) A (binaryOp .Add (.ref a) (.int i u)) Q E s := by
  have hTa : s.TypeIs (.ref a) "list" := ⟨_, ha, rfl⟩
  have hb : s.TypeIs (.int i u) "int" := rfl
  have f1 := noFill_list_add
  have f3 := seq_list_add
  have f4 : isSubtype (.type "list") (.type "int") = pure false := by rw [isSubtype_type]; kernel_rfl
  have hsub : isSubtype (.type "int") (.type "list") = pure false := by rw [isSubtype_type]; kernel_rfl
  have hc : wpAny (model prog w) A (call (.builtin "list.__add__") [.ref a, .int i u]) Q E s :=
    wpAny_call_entry F.slot_list_add hTa F.entry_list_add (add_list_body hb hsub (by kernel_rfl) (by decide) (by decide) hA hE) (F.args_list_add_2 _ _)
  unfold binaryOp
  refine wpAny_holding ?_
  have h0 : wpAny (model prog w) A (tryMethod (.int i u) (dunderR "add") (.ref a)) (fun r s' => r = none ∧ s' = s) E s := by
    unfold tryMethod
    refine wpAny_bind (wpAny_callSpecial?_slot (name := dunderR "add") hb F.slot_int_radd (wpAny_call_entry F.slot_int_radd hb F.entry_int_radd ?_ (F.args_int_radd_2 _ _)))
    unfold Builtin.«int.__radd__»
    repeat (any_goals (first | assumption | exact ⟨rfl, rfl⟩ | wp_step))
    exact ⟨_, rfl, wpAny_pure ⟨rfl, rfl⟩⟩
  have h1 : wpAny (model prog w) A (binaryOp1 "add" (.ref a) (.int i u)) (fun r s' => r = none ∧ s' = s) E s := by
    unfold binaryOp1
    refine wpAny_bind (wpAny_typeOf hTa (wpAny_bind (wpAny_typeOf hb (wpAny_bind (wpAny_of_eq f1 ?_)))))
    rw [show (Value.type "list" == Value.type "int") = false by decide]
    refine wpAny_bind (wpAny_of_eq F.fills_int_add ?_)
    repeat (any_goals (first | assumption | exact ⟨rfl, rfl⟩ | (refine wpAny_bind (wpAny_mono h0 (fun r s' hr => ?_) fun _ _ e => e); obtain ⟨rfl, rfl⟩ := hr) | wp_step))
  refine wpAny_bind (wpAny_mono h1 (fun r s' hr => ?_) fun _ _ e => e)
  obtain ⟨rfl, rfl⟩ := hr
  refine wpAny_bind (wpAny_typeOf hTa ?_)
  refine wpAny_bind (wpAny_of_eq f3 ?_)
  exact wpAny_bind (wpAny_rule hc)
theorem add_tuple_refused {a : Addr} {b : Value} {U : String} {its : Array Value} {n : Nat} (ha : s.heap.get? a = some { cls := .type "tuple", data := .seq its n }) (hb : s.TypeIs b U) (hTU : (Value.type "tuple" == Value.type U) = false) (hfU : fillsNumberSlot (.type U) "add" = pure false)
    (hsub : isSubtype (.type U) (.type "tuple") = pure false) (hU : typeName (.type U) = pure U) (hUl : U.length ≤ 100) (hUb : U ≠ "builtin_function_or_method")
    {Q : Value → Shared → Prop} (hA : A.handled = none)
    (hE : ∀ h' tk e, Heap.NewExc s.heap h' e "TypeError" → E (.ref e) { s with heap := h', toks := tk }) :
    wpAny (model prog w) A (binaryOp .Add (.ref a) b) Q E s := by
  have hTa : s.TypeIs (.ref a) "tuple" := ⟨_, ha, rfl⟩
  have f1 := noFill_tuple_add
  have f3 := seq_tuple_add
  have hc : wpAny (model prog w) A (call (.builtin "tuple.__add__") [.ref a, b]) Q E s :=
    wpAny_call_entry F.slot_tuple_add hTa F.entry_tuple_add (add_tuple_body hb hsub hU hUl hUb hA hE) (F.args_tuple_add_2 _ _)
  unfold binaryOp
  refine wpAny_holding ?_
  have h1 : wpAny (model prog w) A (binaryOp1 "add" (.ref a) b) (fun r s' => r = none ∧ s' = s) E s := by
    unfold binaryOp1
    refine wpAny_bind (wpAny_typeOf hTa (wpAny_bind (wpAny_typeOf hb (wpAny_bind (wpAny_of_eq f1 ?_)))))
    rw [hTU]
    refine wpAny_bind (wpAny_of_eq hfU ?_)
    repeat (any_goals (first | assumption | exact ⟨rfl, rfl⟩ | wp_step))
  refine wpAny_bind (wpAny_mono h1 (fun r s' hr => ?_) fun _ _ e => e)
  obtain ⟨rfl, rfl⟩ := hr
  refine wpAny_bind (wpAny_typeOf hTa ?_)
  refine wpAny_bind (wpAny_of_eq f3 ?_)
  exact wpAny_bind (wpAny_rule hc)
theorem add_tuple_int {a : Addr} {i : Int} {u : Tok} {its : Array Value} {n : Nat} (ha : s.heap.get? a = some { cls := .type "tuple", data := .seq its n })
    {Q : Value → Shared → Prop} (hA : A.handled = none)
    (hE : ∀ h' tk e, Heap.NewExc s.heap h' e "TypeError" → E (.ref e) { s with heap := h', toks := tk }) :
    wpAny (model prog w) A (binaryOp .Add (.ref a) (.int i u)) Q E s := by
  have hTa : s.TypeIs (.ref a) "tuple" := ⟨_, ha, rfl⟩
  have hb : s.TypeIs (.int i u) "int" := rfl
  have f1 := noFill_tuple_add
  have f3 := seq_tuple_add
  have f4 : isSubtype (.type "tuple") (.type "int") = pure false := by rw [isSubtype_type]; kernel_rfl
  have hsub : isSubtype (.type "int") (.type "tuple") = pure false := by rw [isSubtype_type]; kernel_rfl
  have hc : wpAny (model prog w) A (call (.builtin "tuple.__add__") [.ref a, .int i u]) Q E s :=
    wpAny_call_entry F.slot_tuple_add hTa F.entry_tuple_add (add_tuple_body hb hsub (by kernel_rfl) (by decide) (by decide) hA hE) (F.args_tuple_add_2 _ _)
  unfold binaryOp
  refine wpAny_holding ?_
  have h0 : wpAny (model prog w) A (tryMethod (.int i u) (dunderR "add") (.ref a)) (fun r s' => r = none ∧ s' = s) E s := by
    unfold tryMethod
    refine wpAny_bind (wpAny_callSpecial?_slot (name := dunderR "add") hb F.slot_int_radd (wpAny_call_entry F.slot_int_radd hb F.entry_int_radd ?_ (F.args_int_radd_2 _ _)))
    unfold Builtin.«int.__radd__»
    repeat (any_goals (first | assumption | exact ⟨rfl, rfl⟩ | wp_step))
    exact ⟨_, rfl, wpAny_pure ⟨rfl, rfl⟩⟩
  have h1 : wpAny (model prog w) A (binaryOp1 "add" (.ref a) (.int i u)) (fun r s' => r = none ∧ s' = s) E s := by
    unfold binaryOp1
    refine wpAny_bind (wpAny_typeOf hTa (wpAny_bind (wpAny_typeOf hb (wpAny_bind (wpAny_of_eq f1 ?_)))))
    rw [show (Value.type "tuple" == Value.type "int") = false by decide]
    refine wpAny_bind (wpAny_of_eq F.fills_int_add ?_)
    repeat (any_goals (first | assumption | exact ⟨rfl, rfl⟩ | (refine wpAny_bind (wpAny_mono h0 (fun r s' hr => ?_) fun _ _ e => e); obtain ⟨rfl, rfl⟩ := hr) | wp_step))
  refine wpAny_bind (wpAny_mono h1 (fun r s' hr => ?_) fun _ _ e => e)
  obtain ⟨rfl, rfl⟩ := hr
  refine wpAny_bind (wpAny_typeOf hTa ?_)
  refine wpAny_bind (wpAny_of_eq f3 ?_)
  exact wpAny_bind (wpAny_rule hc)
end
end Mine
namespace Mine
open PySem PySem.Spec PySem.Calls PySem.W PyProof.Rows
theorem noFill_none : fillsNumberSlot (.type "NoneType") "add" = pure false := by
  have f1 : typeLookup (.type "NoneType") (dunder "add") = pure none := by rw [typeLookup_type, builtinLookup_eq_fast]; kernel_rfl
  have f2 : typeLookup (.type "NoneType") (dunderR "add") = pure none := by rw [typeLookup_type, builtinLookup_eq_fast]; kernel_rfl
  unfold fillsNumberSlot
  show (typeLookup (.type "NoneType") (dunder "add") >>= fun f => typeLookup (.type "NoneType") (dunderR "add") >>= fun r => pure ((f.isSome && !isSeqSlot f) || (r.isSome && !isSeqSlot r))) = pure false
  rw [f1, f2]
  rfl
theorem tn_none : typeName (.type "NoneType") = pure "NoneType" := by kernel_rfl
theorem tn_list : typeName (.type "list") = pure "list" := by kernel_rfl
theorem tn_tuple : typeName (.type "tuple") = pure "tuple" := by kernel_rfl
theorem sub_none_list : isSubtype (.type "NoneType") (.type "list") = pure false := by rw [isSubtype_type]; kernel_rfl
theorem sub_none_tuple : isSubtype (.type "NoneType") (.type "tuple") = pure false := by rw [isSubtype_type]; kernel_rfl
theorem sub_list_tuple : isSubtype (.type "list") (.type "tuple") = pure false := by rw [isSubtype_type]; kernel_rfl
theorem sub_tuple_list : isSubtype (.type "tuple") (.type "list") = pure false := by rw [isSubtype_type]; kernel_rfl
end Mine
namespace Mine
open PySem PySem.Spec PySem.Calls PySem.W PyProof.Rows
section
variable {prog : Program} {w : World} {A : Around} {E : Value → Shared → Prop} {s : Shared} {a b : Addr} {its its' : Array Value} {n n' : Nat} {Q : Value → Shared → Prop}
theorem add_list_none (ha : s.heap.get? a = some { cls := .type "list", data := .seq its n }) (hA : A.handled = none) (hE : ∀ h' tk e, Heap.NewExc s.heap h' e "TypeError" → E (.ref e) { s with heap := h', toks := tk }) :
    wpAny (model prog w) A (binaryOp .Add (.ref a) .none) Q E s := add_list_refused (U := "NoneType") ha (show s.TypeIs .none "NoneType" from rfl) (by decide) noFill_none sub_none_list tn_none (by decide) (by decide) hA hE
theorem add_list_other (ha : s.heap.get? a = some { cls := .type "list", data := .seq its n }) (hb : s.heap.get? b = some { cls := .type "tuple", data := .seq its' n' }) (hA : A.handled = none) (hE : ∀ h' tk e, Heap.NewExc s.heap h' e "TypeError" → E (.ref e) { s with heap := h', toks := tk }) :
    wpAny (model prog w) A (binaryOp .Add (.ref a) (.ref b)) Q E s := add_list_refused (U := "tuple") ha (show s.TypeIs (.ref b) "tuple" from ⟨_, hb, rfl⟩) (by decide) noFill_tuple_add sub_tuple_list tn_tuple (by decide) (by decide) hA hE
theorem add_tuple_none (ha : s.heap.get? a = some { cls := .type "tuple", data := .seq its n }) (hA : A.handled = none) (hE : ∀ h' tk e, Heap.NewExc s.heap h' e "TypeError" → E (.ref e) { s with heap := h', toks := tk }) :
    wpAny (model prog w) A (binaryOp .Add (.ref a) .none) Q E s := add_tuple_refused (U := "NoneType") ha (show s.TypeIs .none "NoneType" from rfl) (by decide) noFill_none sub_none_tuple tn_none (by decide) (by decide) hA hE
theorem add_tuple_other (ha : s.heap.get? a = some { cls := .type "tuple", data := .seq its n }) (hb : s.heap.get? b = some { cls := .type "list", data := .seq its' n' }) (hA : A.handled = none) (hE : ∀ h' tk e, Heap.NewExc s.heap h' e "TypeError" → E (.ref e) { s with heap := h', toks := tk }) :
    wpAny (model prog w) A (binaryOp .Add (.ref a) (.ref b)) Q E s := add_tuple_refused (U := "list") ha (show s.TypeIs (.ref b) "list" from ⟨_, hb, rfl⟩) (by decide) noFill_list_add sub_list_tuple tn_list (by decide) (by decide) hA hE
end
end Mine
end
section
open PySem PySem.Spec PySem.Calls PySem.W PyProof.Rows
namespace Mine
set_option maxRecDepth 100000
set_option maxHeartbeats 8000000
theorem refused_i {w : World} {news : List (Addr × Obj)} {x : Int} {v : Value} {t : Tok} :
    DoesT w 94 4 news [.int x t, v] (fun r news' => r = .bool true) := by
  have hfill : PySem.Challenge.rw_nb0374_01 = PySem.Challenge.rw_nb0374_01 ∧ Mine.hd.heap_39 = Mine.hd.heap_39 := by (k_fill; exact ⟨rfl, rfl⟩)
  clear hfill
  w_on
  unfold DoesT
  intro mean mg mb dp un gd cn cs a ccd cl A₀ base h₀ L m s Q E B F X N T XB TB hk hd hu hret
  refine wpAny_call ?_
  k_dflt (refine' code_tried ?k1 ?k2 ?k3 ?k4 ?k5 ?kA ?kF ?kK ?k6 ?k7 ?k8 ?k9 ?kB ?_ ?c2 ?c3 ?c4 ?c5; (case kA => exact rfl); (case kF => exact rfl); (case kK => assumption); (case k1 => k_asm); (case k2 => k_asm); (case k3 => k_asm); (case k4 => k_asm); (case k5 => k_asm); (case k6 => k_is); (case k7 => k_is); (case k8 => ktr_room); (case k9 => exact BindsTo.of_eq rfl); (case c5 => decide); (case kB => exact locs rfl); (case c2 => exact rfl); (case c3 => exact rfl); (case c4 => exact rfl))
  intro g1 L1 h1 FG1 F1 N1 B1 X1 T1 D1
  try dsimp only
  try k_fold
  k_steps
  refine wpAny_call ?_
  k_dflt (refine' code_def ?k1 ?k2 ?k3 ?k4 ?k5 ?kA ?kF ?kK ?k6 ?k7 ?k8 ?k9 ?kB ?_ ?c2 ?c3 ?c4 ?c5; (case kA => exact rfl); (case kF => exact rfl); (case kK => exact rfl); (case k1 => k_asm); (case k2 => k_asm); (case k3 => k_asm); (case k4 => k_asm); (case k5 => k_asm); (case k6 => k_is); (case k7 => k_is); (case k8 => ktr_room); (case k9 => exact BindsTo.of_eq rfl); (case c5 => decide); (case kB => exact locs rfl); (case c2 => exact rfl); (case c3 => exact rfl); (case c4 => exact rfl))
  intro g' L' h' FG' F' N' B' X' T'
  try dsimp only
  try k_fold
  k_steps
  (with_reducible rename News _ _ _ _ => N2)
  (with_reducible rename Fr _ _ _ _ => F2)
  k_dflt (refine has_int rfl ?_)
  intro h5 tk5 k5
  try dsimp only
  have F5 := Fr.keeps F2 k5
  have N5 := News.grown N2 k5
  clear N2 F2
  k_steps
  first
    | exact hret _ _ _ _ (by k_asm) (by k_asm) (fun p hp => hp) rfl
    | exact hret _ _ _ _ (by k_asm) (by k_asm) (fun p hp => .tail _ hp) rfl
theorem refused_f {w : World} {news : List (Addr × Obj)} {x : UInt64} {v : Value} {t : Tok} :
    DoesT w 94 4 news [.float x t, v] (fun r news' => r = .bool true) := by
  have hfill : PySem.Challenge.rw_nb0374_01 = PySem.Challenge.rw_nb0374_01 ∧ Mine.hd.heap_39 = Mine.hd.heap_39 := by (k_fill; exact ⟨rfl, rfl⟩)
  clear hfill
  w_on
  unfold DoesT
  intro mean mg mb dp un gd cn cs a ccd cl A₀ base h₀ L m s Q E B F X N T XB TB hk hd hu hret
  refine wpAny_call ?_
  k_dflt (refine' code_tried ?k1 ?k2 ?k3 ?k4 ?k5 ?kA ?kF ?kK ?k6 ?k7 ?k8 ?k9 ?kB ?_ ?c2 ?c3 ?c4 ?c5; (case kA => exact rfl); (case kF => exact rfl); (case kK => assumption); (case k1 => k_asm); (case k2 => k_asm); (case k3 => k_asm); (case k4 => k_asm); (case k5 => k_asm); (case k6 => k_is); (case k7 => k_is); (case k8 => ktr_room); (case k9 => exact BindsTo.of_eq rfl); (case c5 => decide); (case kB => exact locs rfl); (case c2 => exact rfl); (case c3 => exact rfl); (case c4 => exact rfl))
  intro g1 L1 h1 FG1 F1 N1 B1 X1 T1 D1
  try dsimp only
  try k_fold
  k_steps
  refine wpAny_call ?_
  k_dflt (refine' code_def ?k1 ?k2 ?k3 ?k4 ?k5 ?kA ?kF ?kK ?k6 ?k7 ?k8 ?k9 ?kB ?_ ?c2 ?c3 ?c4 ?c5; (case kA => exact rfl); (case kF => exact rfl); (case kK => exact rfl); (case k1 => k_asm); (case k2 => k_asm); (case k3 => k_asm); (case k4 => k_asm); (case k5 => k_asm); (case k6 => k_is); (case k7 => k_is); (case k8 => ktr_room); (case k9 => exact BindsTo.of_eq rfl); (case c5 => decide); (case kB => exact locs rfl); (case c2 => exact rfl); (case c3 => exact rfl); (case c4 => exact rfl))
  intro g' L' h' FG' F' N' B' X' T'
  try dsimp only
  try k_fold
  k_steps
  (with_reducible rename News _ _ _ _ => N2)
  (with_reducible rename Fr _ _ _ _ => F2)
  k_dflt (refine has_float rfl ?_)
  intro h5 tk5 k5
  try dsimp only
  have F5 := Fr.keeps F2 k5
  have N5 := News.grown N2 k5
  clear N2 F2
  k_steps
  first
    | exact hret _ _ _ _ (by k_asm) (by k_asm) (fun p hp => hp) rfl
    | exact hret _ _ _ _ (by k_asm) (by k_asm) (fun p hp => .tail _ hp) rfl
theorem refused_n {w : World} {news : List (Addr × Obj)} {v : Value} :
    DoesT w 94 4 news [.none, v] (fun r news' => r = .bool true) := by
  have hfill : PySem.Challenge.rw_nb0374_01 = PySem.Challenge.rw_nb0374_01 ∧ Mine.hd.heap_39 = Mine.hd.heap_39 := by (k_fill; exact ⟨rfl, rfl⟩)
  clear hfill
  w_on
  unfold DoesT
  intro mean mg mb dp un gd cn cs a ccd cl A₀ base h₀ L m s Q E B F X N T XB TB hk hd hu hret
  refine wpAny_call ?_
  k_dflt (refine' code_tried ?k1 ?k2 ?k3 ?k4 ?k5 ?kA ?kF ?kK ?k6 ?k7 ?k8 ?k9 ?kB ?_ ?c2 ?c3 ?c4 ?c5; (case kA => exact rfl); (case kF => exact rfl); (case kK => assumption); (case k1 => k_asm); (case k2 => k_asm); (case k3 => k_asm); (case k4 => k_asm); (case k5 => k_asm); (case k6 => k_is); (case k7 => k_is); (case k8 => ktr_room); (case k9 => exact BindsTo.of_eq rfl); (case c5 => decide); (case kB => exact locs rfl); (case c2 => exact rfl); (case c3 => exact rfl); (case c4 => exact rfl))
  intro g1 L1 h1 FG1 F1 N1 B1 X1 T1 D1
  try dsimp only
  try k_fold
  k_steps
  refine wpAny_call ?_
  k_dflt (refine' code_def ?k1 ?k2 ?k3 ?k4 ?k5 ?kA ?kF ?kK ?k6 ?k7 ?k8 ?k9 ?kB ?_ ?c2 ?c3 ?c4 ?c5; (case kA => exact rfl); (case kF => exact rfl); (case kK => exact rfl); (case k1 => k_asm); (case k2 => k_asm); (case k3 => k_asm); (case k4 => k_asm); (case k5 => k_asm); (case k6 => k_is); (case k7 => k_is); (case k8 => ktr_room); (case k9 => exact BindsTo.of_eq rfl); (case c5 => decide); (case kB => exact locs rfl); (case c2 => exact rfl); (case c3 => exact rfl); (case c4 => exact rfl))
  intro g' L' h' FG' F' N' B' X' T'
  try dsimp only
  try k_fold
  k_steps
  (with_reducible rename News _ _ _ _ => N2)
  (with_reducible rename Fr _ _ _ _ => F2)
  k_dflt (refine has_NoneType rfl ?_)
  intro h5 tk5 k5
  try dsimp only
  have F5 := Fr.keeps F2 k5
  have N5 := News.grown N2 k5
  clear N2 F2
  k_steps
  first
    | exact hret _ _ _ _ (by k_asm) (by k_asm) (fun p hp => hp) rfl
    | exact hret _ _ _ _ (by k_asm) (by k_asm) (fun p hp => .tail _ hp) rfl
end Mine
end
section
open PySem PySem.Spec PySem.Calls PySem.W PyProof.Rows
namespace Mine
set_option maxRecDepth 100000
set_option maxHeartbeats 8000000
theorem refused_list_i {w : World} {news : List (Addr × Obj)} {v : Value} {ns : List Int} {x : Int} {t : Tok} (i1 : SeqIn "list" news v ns) :
    DoesT w 94 4 news [v, .int x t] (fun r news' => r = .bool true) := by
  obtain ⟨l1, vs1, n1, rfl, m1, j1⟩ := i1
  have hfill : PySem.Challenge.rw_nb0374_01 = PySem.Challenge.rw_nb0374_01 ∧ Mine.hd.heap_39 = Mine.hd.heap_39 := by (k_fill; exact ⟨rfl, rfl⟩)
  clear hfill
  w_on
  unfold DoesT
  intro mean mg mb dp un gd cn cs a ccd cl A₀ base h₀ L m s Q E B F X N T XB TB hk hd hu hret
  refine wpAny_call ?_
  k_dflt (refine' code_tried ?k1 ?k2 ?k3 ?k4 ?k5 ?kA ?kF ?kK ?k6 ?k7 ?k8 ?k9 ?kB ?_ ?c2 ?c3 ?c4 ?c5; (case kA => exact rfl); (case kF => exact rfl); (case kK => assumption); (case k1 => k_asm); (case k2 => k_asm); (case k3 => k_asm); (case k4 => k_asm); (case k5 => k_asm); (case k6 => k_is); (case k7 => k_is); (case k8 => ktr_room); (case k9 => exact BindsTo.of_eq rfl); (case c5 => decide); (case kB => exact locs rfl); (case c2 => exact rfl); (case c3 => exact rfl); (case c4 => exact rfl))
  intro g1 L1 h1 FG1 F1 N1 B1 X1 T1 D1
  try dsimp only
  try k_fold
  k_steps
  refine wpAny_call ?_
  k_dflt (refine' code_def ?k1 ?k2 ?k3 ?k4 ?k5 ?kA ?kF ?kK ?k6 ?k7 ?k8 ?k9 ?kB ?_ ?c2 ?c3 ?c4 ?c5; (case kA => exact rfl); (case kF => exact rfl); (case kK => exact rfl); (case k1 => k_asm); (case k2 => k_asm); (case k3 => k_asm); (case k4 => k_asm); (case k5 => k_asm); (case k6 => k_is); (case k7 => k_is); (case k8 => ktr_room); (case k9 => exact BindsTo.of_eq rfl); (case c5 => decide); (case kB => exact locs rfl); (case c2 => exact rfl); (case c3 => exact rfl); (case c4 => exact rfl))
  intro g' L' h' FG' F' N' B' X' T'
  try dsimp only
  try k_fold
  k_steps
  (with_reducible rename News _ _ _ _ => N2)
  (with_reducible rename Fr _ _ _ _ => F2)
  k_dflt (refine has_list (N2 _ m1).1 ?_)
  intro h5 tk5 k5
  try dsimp only
  have F5 := Fr.keeps F2 k5
  have N5 := News.grown N2 k5
  clear N2 F2
  k_steps
  (with_reducible rename News _ _ _ _ => N6)
  k_dflt (refine add_list_int (N6 _ m1).1 rfl ?_)
  intro h7 tk7 e7 hx7
  try dsimp only
  k_steps
  first
    | exact hret _ _ _ _ (by k_asm) (by k_asm) (fun p hp => hp) rfl
    | exact hret _ _ _ _ (by k_asm) (by k_asm) (fun p hp => .tail _ hp) rfl
theorem refused_list_n {w : World} {news : List (Addr × Obj)} {v : Value} {ns : List Int} (i1 : SeqIn "list" news v ns) :
    DoesT w 94 4 news [v, .none] (fun r news' => r = .bool true) := by
  obtain ⟨l1, vs1, n1, rfl, m1, j1⟩ := i1
  have hfill : PySem.Challenge.rw_nb0374_01 = PySem.Challenge.rw_nb0374_01 ∧ Mine.hd.heap_39 = Mine.hd.heap_39 := by (k_fill; exact ⟨rfl, rfl⟩)
  clear hfill
  w_on
  unfold DoesT
  intro mean mg mb dp un gd cn cs a ccd cl A₀ base h₀ L m s Q E B F X N T XB TB hk hd hu hret
  refine wpAny_call ?_
  k_dflt (refine' code_tried ?k1 ?k2 ?k3 ?k4 ?k5 ?kA ?kF ?kK ?k6 ?k7 ?k8 ?k9 ?kB ?_ ?c2 ?c3 ?c4 ?c5; (case kA => exact rfl); (case kF => exact rfl); (case kK => assumption); (case k1 => k_asm); (case k2 => k_asm); (case k3 => k_asm); (case k4 => k_asm); (case k5 => k_asm); (case k6 => k_is); (case k7 => k_is); (case k8 => ktr_room); (case k9 => exact BindsTo.of_eq rfl); (case c5 => decide); (case kB => exact locs rfl); (case c2 => exact rfl); (case c3 => exact rfl); (case c4 => exact rfl))
  intro g1 L1 h1 FG1 F1 N1 B1 X1 T1 D1
  try dsimp only
  try k_fold
  k_steps
  refine wpAny_call ?_
  k_dflt (refine' code_def ?k1 ?k2 ?k3 ?k4 ?k5 ?kA ?kF ?kK ?k6 ?k7 ?k8 ?k9 ?kB ?_ ?c2 ?c3 ?c4 ?c5; (case kA => exact rfl); (case kF => exact rfl); (case kK => exact rfl); (case k1 => k_asm); (case k2 => k_asm); (case k3 => k_asm); (case k4 => k_asm); (case k5 => k_asm); (case k6 => k_is); (case k7 => k_is); (case k8 => ktr_room); (case k9 => exact BindsTo.of_eq rfl); (case c5 => decide); (case kB => exact locs rfl); (case c2 => exact rfl); (case c3 => exact rfl); (case c4 => exact rfl))
  intro g' L' h' FG' F' N' B' X' T'
  try dsimp only
  try k_fold
  k_steps
  (with_reducible rename News _ _ _ _ => N2)
  (with_reducible rename Fr _ _ _ _ => F2)
  k_dflt (refine has_list (N2 _ m1).1 ?_)
  intro h5 tk5 k5
  try dsimp only
  have F5 := Fr.keeps F2 k5
  have N5 := News.grown N2 k5
  clear N2 F2
  k_steps
  (with_reducible rename News _ _ _ _ => N6)
  k_dflt (refine add_list_none (N6 _ m1).1 rfl ?_)
  intro h7 tk7 e7 hx7
  try dsimp only
  k_steps
  first
    | exact hret _ _ _ _ (by k_asm) (by k_asm) (fun p hp => hp) rfl
    | exact hret _ _ _ _ (by k_asm) (by k_asm) (fun p hp => .tail _ hp) rfl
theorem refused_list_o {w : World} {news : List (Addr × Obj)} {v v2 : Value} {ns ms : List Int} (i1 : SeqIn "list" news v ns) (i2 : SeqIn "tuple" news v2 ms) :
    DoesT w 94 4 news [v, v2] (fun r news' => r = .bool true) := by
  obtain ⟨l1, vs1, n1, rfl, m1, j1⟩ := i1
  obtain ⟨l2, vs2, n2, rfl, m2, j2⟩ := i2
  have hfill : PySem.Challenge.rw_nb0374_01 = PySem.Challenge.rw_nb0374_01 ∧ Mine.hd.heap_39 = Mine.hd.heap_39 := by (k_fill; exact ⟨rfl, rfl⟩)
  clear hfill
  w_on
  unfold DoesT
  intro mean mg mb dp un gd cn cs a ccd cl A₀ base h₀ L m s Q E B F X N T XB TB hk hd hu hret
  refine wpAny_call ?_
  k_dflt (refine' code_tried ?k1 ?k2 ?k3 ?k4 ?k5 ?kA ?kF ?kK ?k6 ?k7 ?k8 ?k9 ?kB ?_ ?c2 ?c3 ?c4 ?c5; (case kA => exact rfl); (case kF => exact rfl); (case kK => assumption); (case k1 => k_asm); (case k2 => k_asm); (case k3 => k_asm); (case k4 => k_asm); (case k5 => k_asm); (case k6 => k_is); (case k7 => k_is); (case k8 => ktr_room); (case k9 => exact BindsTo.of_eq rfl); (case c5 => decide); (case kB => exact locs rfl); (case c2 => exact rfl); (case c3 => exact rfl); (case c4 => exact rfl))
  intro g1 L1 h1 FG1 F1 N1 B1 X1 T1 D1
  try dsimp only
  try k_fold
  k_steps
  refine wpAny_call ?_
  k_dflt (refine' code_def ?k1 ?k2 ?k3 ?k4 ?k5 ?kA ?kF ?kK ?k6 ?k7 ?k8 ?k9 ?kB ?_ ?c2 ?c3 ?c4 ?c5; (case kA => exact rfl); (case kF => exact rfl); (case kK => exact rfl); (case k1 => k_asm); (case k2 => k_asm); (case k3 => k_asm); (case k4 => k_asm); (case k5 => k_asm); (case k6 => k_is); (case k7 => k_is); (case k8 => ktr_room); (case k9 => exact BindsTo.of_eq rfl); (case c5 => decide); (case kB => exact locs rfl); (case c2 => exact rfl); (case c3 => exact rfl); (case c4 => exact rfl))
  intro g' L' h' FG' F' N' B' X' T'
  try dsimp only
  try k_fold
  k_steps
  (with_reducible rename News _ _ _ _ => N2)
  (with_reducible rename Fr _ _ _ _ => F2)
  k_dflt (refine has_list (N2 _ m1).1 ?_)
  intro h5 tk5 k5
  try dsimp only
  have F5 := Fr.keeps F2 k5
  have N5 := News.grown N2 k5
  clear N2 F2
  k_steps
  (with_reducible rename News _ _ _ _ => N6)
  k_dflt (refine add_list_other (N6 _ m1).1 (N6 _ m2).1 rfl ?_)
  intro h7 tk7 e7 hx7
  try dsimp only
  k_steps
  first
    | exact hret _ _ _ _ (by k_asm) (by k_asm) (fun p hp => hp) rfl
    | exact hret _ _ _ _ (by k_asm) (by k_asm) (fun p hp => .tail _ hp) rfl
theorem refused_tuple_i {w : World} {news : List (Addr × Obj)} {v : Value} {ns : List Int} {x : Int} {t : Tok} (i1 : SeqIn "tuple" news v ns) :
    DoesT w 94 4 news [v, .int x t] (fun r news' => r = .bool true) := by
  obtain ⟨l1, vs1, n1, rfl, m1, j1⟩ := i1
  have hfill : PySem.Challenge.rw_nb0374_01 = PySem.Challenge.rw_nb0374_01 ∧ Mine.hd.heap_39 = Mine.hd.heap_39 := by (k_fill; exact ⟨rfl, rfl⟩)
  clear hfill
  w_on
  unfold DoesT
  intro mean mg mb dp un gd cn cs a ccd cl A₀ base h₀ L m s Q E B F X N T XB TB hk hd hu hret
  refine wpAny_call ?_
  k_dflt (refine' code_tried ?k1 ?k2 ?k3 ?k4 ?k5 ?kA ?kF ?kK ?k6 ?k7 ?k8 ?k9 ?kB ?_ ?c2 ?c3 ?c4 ?c5; (case kA => exact rfl); (case kF => exact rfl); (case kK => assumption); (case k1 => k_asm); (case k2 => k_asm); (case k3 => k_asm); (case k4 => k_asm); (case k5 => k_asm); (case k6 => k_is); (case k7 => k_is); (case k8 => ktr_room); (case k9 => exact BindsTo.of_eq rfl); (case c5 => decide); (case kB => exact locs rfl); (case c2 => exact rfl); (case c3 => exact rfl); (case c4 => exact rfl))
  intro g1 L1 h1 FG1 F1 N1 B1 X1 T1 D1
  try dsimp only
  try k_fold
  k_steps
  refine wpAny_call ?_
  k_dflt (refine' code_def ?k1 ?k2 ?k3 ?k4 ?k5 ?kA ?kF ?kK ?k6 ?k7 ?k8 ?k9 ?kB ?_ ?c2 ?c3 ?c4 ?c5; (case kA => exact rfl); (case kF => exact rfl); (case kK => exact rfl); (case k1 => k_asm); (case k2 => k_asm); (case k3 => k_asm); (case k4 => k_asm); (case k5 => k_asm); (case k6 => k_is); (case k7 => k_is); (case k8 => ktr_room); (case k9 => exact BindsTo.of_eq rfl); (case c5 => decide); (case kB => exact locs rfl); (case c2 => exact rfl); (case c3 => exact rfl); (case c4 => exact rfl))
  intro g' L' h' FG' F' N' B' X' T'
  try dsimp only
  try k_fold
  k_steps
  (with_reducible rename News _ _ _ _ => N2)
  (with_reducible rename Fr _ _ _ _ => F2)
  k_dflt (refine has_tuple (N2 _ m1).1 ?_)
  intro h5 tk5 k5
  try dsimp only
  have F5 := Fr.keeps F2 k5
  have N5 := News.grown N2 k5
  clear N2 F2
  k_steps
  (with_reducible rename News _ _ _ _ => N6)
  k_dflt (refine add_tuple_int (N6 _ m1).1 rfl ?_)
  intro h7 tk7 e7 hx7
  try dsimp only
  k_steps
  first
    | exact hret _ _ _ _ (by k_asm) (by k_asm) (fun p hp => hp) rfl
    | exact hret _ _ _ _ (by k_asm) (by k_asm) (fun p hp => .tail _ hp) rfl
theorem refused_tuple_n {w : World} {news : List (Addr × Obj)} {v : Value} {ns : List Int} (i1 : SeqIn "tuple" news v ns) :
    DoesT w 94 4 news [v, .none] (fun r news' => r = .bool true) := by
  obtain ⟨l1, vs1, n1, rfl, m1, j1⟩ := i1
  have hfill : PySem.Challenge.rw_nb0374_01 = PySem.Challenge.rw_nb0374_01 ∧ Mine.hd.heap_39 = Mine.hd.heap_39 := by (k_fill; exact ⟨rfl, rfl⟩)
  clear hfill
  w_on
  unfold DoesT
  intro mean mg mb dp un gd cn cs a ccd cl A₀ base h₀ L m s Q E B F X N T XB TB hk hd hu hret
  refine wpAny_call ?_
  k_dflt (refine' code_tried ?k1 ?k2 ?k3 ?k4 ?k5 ?kA ?kF ?kK ?k6 ?k7 ?k8 ?k9 ?kB ?_ ?c2 ?c3 ?c4 ?c5; (case kA => exact rfl); (case kF => exact rfl); (case kK => assumption); (case k1 => k_asm); (case k2 => k_asm); (case k3 => k_asm); (case k4 => k_asm); (case k5 => k_asm); (case k6 => k_is); (case k7 => k_is); (case k8 => ktr_room); (case k9 => exact BindsTo.of_eq rfl); (case c5 => decide); (case kB => exact locs rfl); (case c2 => exact rfl); (case c3 => exact rfl); (case c4 => exact rfl))
  intro g1 L1 h1 FG1 F1 N1 B1 X1 T1 D1
  try dsimp only
  try k_fold
  k_steps
  refine wpAny_call ?_
  k_dflt (refine' code_def ?k1 ?k2 ?k3 ?k4 ?k5 ?kA ?kF ?kK ?k6 ?k7 ?k8 ?k9 ?kB ?_ ?c2 ?c3 ?c4 ?c5; (case kA => exact rfl); (case kF => exact rfl); (case kK => exact rfl); (case k1 => k_asm); (case k2 => k_asm); (case k3 => k_asm); (case k4 => k_asm); (case k5 => k_asm); (case k6 => k_is); (case k7 => k_is); (case k8 => ktr_room); (case k9 => exact BindsTo.of_eq rfl); (case c5 => decide); (case kB => exact locs rfl); (case c2 => exact rfl); (case c3 => exact rfl); (case c4 => exact rfl))
  intro g' L' h' FG' F' N' B' X' T'
  try dsimp only
  try k_fold
  k_steps
  (with_reducible rename News _ _ _ _ => N2)
  (with_reducible rename Fr _ _ _ _ => F2)
  k_dflt (refine has_tuple (N2 _ m1).1 ?_)
  intro h5 tk5 k5
  try dsimp only
  have F5 := Fr.keeps F2 k5
  have N5 := News.grown N2 k5
  clear N2 F2
  k_steps
  (with_reducible rename News _ _ _ _ => N6)
  k_dflt (refine add_tuple_none (N6 _ m1).1 rfl ?_)
  intro h7 tk7 e7 hx7
  try dsimp only
  k_steps
  first
    | exact hret _ _ _ _ (by k_asm) (by k_asm) (fun p hp => hp) rfl
    | exact hret _ _ _ _ (by k_asm) (by k_asm) (fun p hp => .tail _ hp) rfl
theorem refused_tuple_o {w : World} {news : List (Addr × Obj)} {v v2 : Value} {ns ms : List Int} (i1 : SeqIn "tuple" news v ns) (i2 : SeqIn "list" news v2 ms) :
    DoesT w 94 4 news [v, v2] (fun r news' => r = .bool true) := by
  obtain ⟨l1, vs1, n1, rfl, m1, j1⟩ := i1
  obtain ⟨l2, vs2, n2, rfl, m2, j2⟩ := i2
  have hfill : PySem.Challenge.rw_nb0374_01 = PySem.Challenge.rw_nb0374_01 ∧ Mine.hd.heap_39 = Mine.hd.heap_39 := by (k_fill; exact ⟨rfl, rfl⟩)
  clear hfill
  w_on
  unfold DoesT
  intro mean mg mb dp un gd cn cs a ccd cl A₀ base h₀ L m s Q E B F X N T XB TB hk hd hu hret
  refine wpAny_call ?_
  k_dflt (refine' code_tried ?k1 ?k2 ?k3 ?k4 ?k5 ?kA ?kF ?kK ?k6 ?k7 ?k8 ?k9 ?kB ?_ ?c2 ?c3 ?c4 ?c5; (case kA => exact rfl); (case kF => exact rfl); (case kK => assumption); (case k1 => k_asm); (case k2 => k_asm); (case k3 => k_asm); (case k4 => k_asm); (case k5 => k_asm); (case k6 => k_is); (case k7 => k_is); (case k8 => ktr_room); (case k9 => exact BindsTo.of_eq rfl); (case c5 => decide); (case kB => exact locs rfl); (case c2 => exact rfl); (case c3 => exact rfl); (case c4 => exact rfl))
  intro g1 L1 h1 FG1 F1 N1 B1 X1 T1 D1
  try dsimp only
  try k_fold
  k_steps
  refine wpAny_call ?_
  k_dflt (refine' code_def ?k1 ?k2 ?k3 ?k4 ?k5 ?kA ?kF ?kK ?k6 ?k7 ?k8 ?k9 ?kB ?_ ?c2 ?c3 ?c4 ?c5; (case kA => exact rfl); (case kF => exact rfl); (case kK => exact rfl); (case k1 => k_asm); (case k2 => k_asm); (case k3 => k_asm); (case k4 => k_asm); (case k5 => k_asm); (case k6 => k_is); (case k7 => k_is); (case k8 => ktr_room); (case k9 => exact BindsTo.of_eq rfl); (case c5 => decide); (case kB => exact locs rfl); (case c2 => exact rfl); (case c3 => exact rfl); (case c4 => exact rfl))
  intro g' L' h' FG' F' N' B' X' T'
  try dsimp only
  try k_fold
  k_steps
  (with_reducible rename News _ _ _ _ => N2)
  (with_reducible rename Fr _ _ _ _ => F2)
  k_dflt (refine has_tuple (N2 _ m1).1 ?_)
  intro h5 tk5 k5
  try dsimp only
  have F5 := Fr.keeps F2 k5
  have N5 := News.grown N2 k5
  clear N2 F2
  k_steps
  (with_reducible rename News _ _ _ _ => N6)
  k_dflt (refine add_tuple_other (N6 _ m1).1 (N6 _ m2).1 rfl ?_)
  intro h7 tk7 e7 hx7
  try dsimp only
  k_steps
  first
    | exact hret _ _ _ _ (by k_asm) (by k_asm) (fun p hp => hp) rfl
    | exact hret _ _ _ _ (by k_asm) (by k_asm) (fun p hp => .tail _ hp) rfl
end Mine
end
section
namespace Mine
theorem Sq.ext' {p q : Sq} (h1 : p.a = q.a) (h2 : p.b = q.b) (h3 : p.c = q.c) (h4 : p.d = q.d) : p = q := by
  cases p; cases q; simp_all
theorem Sq.mul_assoc (p q r : Sq) : (p.mul q).mul r = p.mul (q.mul r) := by
  apply Sq.ext' <;> simp only [Sq.mul] <;> grind
theorem Sq.one_mul (p : Sq) : Sq.one.mul p = p := by
  apply Sq.ext' <;> simp only [Sq.mul, Sq.one] <;> omega
theorem Sq.mul_one (p : Sq) : p.mul Sq.one = p := by
  apply Sq.ext' <;> simp only [Sq.mul, Sq.one] <;> omega
theorem prod_from (w : List Int) (q : Sq) : w.foldl (fun q x => q.mul (sqOf x)) q = q.mul (prod w) := by
  unfold prod
  induction w generalizing q with
  | nil => simp [Sq.mul_one]
  | cons x w ih =>
    rw [List.foldl_cons, List.foldl_cons, ih, ih (Sq.one.mul (sqOf x)), Sq.one_mul, Sq.mul_assoc]
theorem prod_nil : prod [] = Sq.one := rfl
theorem prod_cons (x : Int) (w : List Int) : prod (x :: w) = (sqOf x).mul (prod w) := by
  show (x :: w).foldl _ _ = _
  rw [List.foldl_cons, prod_from, Sq.one_mul]
theorem prod_append (v w : List Int) : prod (v ++ w) = (prod v).mul (prod w) := by
  show (v ++ w).foldl _ _ = _
  rw [List.foldl_append, prod_from]
  rfl
theorem prod_one (x : Int) : prod [x] = sqOf x := by rw [prod_cons, prod_nil, Sq.mul_one]
/-- the four signs -/
def Sgn (x : Int) : Prop := x = 1 ∨ x = -1 ∨ x = 2 ∨ x = -2
theorem Sgn.neg {x : Int} (h : Sgn x) : Sgn (-x) := by unfold Sgn at *; omega
theorem Sgn.le {x : Int} (h : Sgn x) : -2 ≤ x ∧ x ≤ 2 := by unfold Sgn at *; omega
theorem sq_back {x : Int} (h : Sgn x) (q : Sq) : (sqOf (-x)).mul ((sqOf x).mul q) = q := by
  rcases h with rfl | rfl | rfl | rfl <;> apply Sq.ext' <;> simp [Sq.mul, sqOf] <;> omega
theorem sq_back' {x : Int} (h : Sgn x) (q : Sq) : (sqOf x).mul ((sqOf (-x)).mul q) = q := by
  have := sq_back h.neg q
  rwa [Int.neg_neg] at this
/-- no neighbours that are opposites -/
def Red : List Int → Prop
  | [] => True
  | [_] => True
  | x :: y :: r => y ≠ -x ∧ Red (y :: r)
theorem Red.tail {x : Int} {w : List Int} (h : Red (x :: w)) : Red w := by
  cases w with
  | nil => trivial
  | cons y r => exact h.2
theorem Red.append {v w : List Int} (hv : Red v) (hw : Red w) (hj : ∀ x y, v.getLast? = some x → w.head? = some y → y ≠ -x) : Red (v ++ w) := by
  induction v with
  | nil => exact hw
  | cons a v ih =>
    cases v with
    | nil =>
      cases w with
      | nil => trivial
      | cons y r => exact ⟨hj a y rfl rfl, hw⟩
    | cons b v =>
      refine ⟨hv.1, ih hv.2 fun x y hx hy => hj x y ?_ hy⟩
      rw [List.getLast?_cons_cons]; exact hx
theorem Red.left {v w : List Int} (h : Red (v ++ w)) : Red v := by
  induction v with
  | nil => trivial
  | cons a v ih =>
    cases v with
    | nil => trivial
    | cons b v => exact ⟨h.1, ih h.2⟩
theorem Red.right {v w : List Int} (h : Red (v ++ w)) : Red w := by
  induction v with
  | nil => exact h
  | cons a v ih => exact ih (Red.tail h)
theorem Red.take {v : List Int} (h : Red v) (n : Nat) : Red (v.take n) := by
  rw [← List.take_append_drop n v] at h; exact h.left
theorem Red.drop {v : List Int} (h : Red v) (n : Nat) : Red (v.drop n) := by
  rw [← List.take_append_drop n v] at h; exact h.right
/-- the column's first beats its second, same sign -/
def P1 (u v : Int) : Prop := (0 < v ∧ v < u) ∨ (v < 0 ∧ u < v)
def P0 (u v : Int) : Prop := (0 ≤ v ∧ v < u) ∨ (v ≤ 0 ∧ u < v)
theorem P1.sq {u v : Int} (h : P1 u v) : v * v < u * u ∧ 0 < u * v := by
  rcases h with ⟨h1, h2⟩ | ⟨h1, h2⟩
  · exact ⟨Int.mul_lt_mul h2 (Int.le_of_lt h2) h1 (by omega), Int.mul_pos (by omega) h1⟩
  · have e := Int.mul_lt_mul (a := -v) (c := -u) (b := -v) (d := -u) (by omega) (by omega) (by omega) (by omega)
    have f := Int.mul_pos (a := -u) (b := -v) (by omega) (by omega)
    rw [Int.neg_mul_neg] at f
    rw [Int.neg_mul_neg, Int.neg_mul_neg] at e
    exact ⟨e, f⟩
theorem P0.sq {u v : Int} (h : P0 u v) : v * v < u * u := by
  by_cases hv : v = 0
  · subst hv
    rcases h with ⟨h1, h2⟩ | ⟨h1, h2⟩
    · have := Int.mul_pos h2 h2; omega
    · have := Int.mul_pos (a := -u) (b := -u) (by omega) (by omega); rw [Int.neg_mul_neg] at this; omega
  · exact (P1.sq (by unfold P0 at h; unfold P1; omega)).1
def Inv (x : Int) (q : Sq) : Prop :=
  (x = 1 ∧ P0 q.a q.c ∧ P1 q.b q.d) ∨ (x = -1 ∧ P0 (-q.a) q.c ∧ P1 (-q.b) q.d) ∨ (x = 2 ∧ P1 q.c q.a ∧ P0 q.d q.b) ∨ (x = -2 ∧ P1 (-q.c) q.a ∧ P0 (-q.d) q.b)
theorem inv_red (w : List Int) : ∀ x, Red (x :: w) → (∀ y ∈ x :: w, Sgn y) → Inv x (prod (x :: w)) := by
  induction w with
  | nil =>
    intro x _ hs
    rw [prod_one]
    rcases hs x (.head _) with rfl | rfl | rfl | rfl <;> simp [Inv, P0, P1, sqOf]
  | cons y w ih =>
    intro x hr hs
    have hi := ih y hr.2 fun z hz => hs z (.tail _ hz)
    have hne := hr.1
    rw [prod_cons]
    generalize prod (y :: w) = q at hi
    rcases hs x (.head _) with rfl | rfl | rfl | rfl <;> rcases hi with ⟨rfl, h1, h2⟩ | ⟨rfl, h1, h2⟩ | ⟨rfl, h1, h2⟩ | ⟨rfl, h1, h2⟩ <;>
      first
      | exact absurd rfl hne
      | (simp [Inv, P0, P1, sqOf, Sq.mul] at h1 h2 ⊢; omega)
theorem Inv.pick {x : Int} {q : Sq} (h : Inv x q) : pick q = x ∧ q ≠ Sq.one := by
  unfold Mine.pick
  rcases h with ⟨rfl, h1, h2⟩ | ⟨rfl, h1, h2⟩ | ⟨rfl, h1, h2⟩ | ⟨rfl, h1, h2⟩
  · have e := h2.sq
    rw [if_pos e.1, if_pos e.2]
    exact ⟨rfl, by rintro rfl; simp [P1, Sq.one] at h2⟩
  · have e := h2.sq
    rw [Int.neg_mul_neg, Int.neg_mul] at e
    rw [if_pos e.1, if_neg (by omega)]
    exact ⟨rfl, by rintro rfl; simp [P1, Sq.one] at h2⟩
  · have e := h1.sq
    have f := h2.sq
    rw [Int.mul_comm q.a q.c, if_neg (by omega), if_pos e.2]
    exact ⟨rfl, by rintro rfl; simp [P1, Sq.one] at h1⟩
  · have e := h1.sq
    have f := h2.sq
    rw [Int.neg_mul_neg, Int.neg_mul] at e
    rw [Int.neg_mul_neg] at f
    rw [Int.mul_comm q.a q.c, if_neg (by omega), if_neg (by omega)]
    exact ⟨rfl, by rintro rfl; simp [P1, Sq.one] at h1⟩
/-- the entries of a product of n squares are at most 3 to the n -/
def Small (n : Nat) (q : Sq) : Prop := (q.a.natAbs + q.b.natAbs ≤ 3 ^ n) ∧ (q.c.natAbs + q.d.natAbs ≤ 3 ^ n)
theorem small_prod (w : List Int) (hs : ∀ y ∈ w, Sgn y) : Small w.length (prod w) := by
  have key : ∀ (w : List Int) (n : Nat) (q : Sq), (∀ y ∈ w, Sgn y) → Small n q → Small (n + w.length) (w.foldl (fun q x => q.mul (sqOf x)) q) := by
    intro w
    induction w with
    | nil => intro n q _ h; exact h
    | cons x w ih =>
      intro n q hs h
      have h' : Small (n + 1) (q.mul (sqOf x)) := by
        unfold Small at *
        rw [Nat.pow_succ]
        rcases hs x (.head _) with rfl | rfl | rfl | rfl <;> simp [Sq.mul, sqOf] <;> omega
      have := ih (n + 1) _ (fun y hy => hs y (.tail _ hy)) h'
      rw [List.length_cons, List.foldl_cons, ← Nat.add_assoc, Nat.add_right_comm]
      exact this
  have := key w 0 Sq.one hs (by simp [Small, Sq.one])
  rwa [Nat.zero_add] at this
theorem Small.fits {n : Nat} {q : Sq} (h : Small n q) (hn : n ≤ 37) : q.Fits := by
  have e : 3 ^ n ≤ 3 ^ 37 := Nat.pow_le_pow_right (by decide) hn
  have e' : (3 : Nat) ^ 37 ≤ 2 ^ 60 := by decide
  unfold Small at h
  unfold Sq.Fits
  omega
theorem prod_fits {w : List Int} (hs : ∀ y ∈ w, Sgn y) (hn : w.length ≤ 37) : (prod w).Fits := (small_prod w hs).fits hn
theorem rd_back {w : List Int} (hr : Red w) (hs : ∀ y ∈ w, Sgn y) (hn : w.length ≤ 37) : RdBack (prod w) w := by
  induction w with
  | nil => exact .done
  | cons x w ih =>
    obtain ⟨h1, h2⟩ := (inv_red w x hr hs).pick
    have hi := ih hr.tail (fun y hy => hs y (.tail _ hy)) (by simp at hn; omega)
    have hb : (sqOf (-(pick (prod (x :: w))))).mul (prod (x :: w)) = prod w := by
      rw [h1, prod_cons, sq_back (hs x (.head _))]
    have := RdBack.step (q := prod (x :: w)) (r := w) h2 (prod_fits hs hn) (by rw [hb]; exact hi)
    rwa [h1] at this
theorem RdBack.eq {q : Sq} {v w : List Int} (h : RdBack q v) (k : RdBack q w) : v = w := by
  induction h generalizing w with
  | done =>
    cases k with
    | done => rfl
    | step h => exact absurd rfl h
  | step h1 h2 h3 ih =>
    cases k with
    | done => exact absurd rfl h1
    | step k1 k2 k3 => rw [ih k3]
theorem red_eq {v w : List Int} (hv : Red v) (hw : Red w) (sv : ∀ y ∈ v, Sgn y) (sw : ∀ y ∈ w, Sgn y) (nv : v.length ≤ 37) (nw : w.length ≤ 37) (h : prod v = prod w) : v = w :=
  (rd_back hv sv nv).eq (h ▸ rd_back hw sw nw)
/-- what the law's count is -/
structure IsCanc (ns ms : List Int) (k : Nat) : Prop where
  opp : ∀ i, i < k → i < ns.length ∧ i < ms.length ∧ ns.getD (ns.length - 1 - i) 0 = -(ms.getD i 0)
  stop : ¬(k < ns.length ∧ k < ms.length ∧ ns.getD (ns.length - 1 - k) 0 = -(ms.getD k 0))
theorem canc_is (ns ms : List Int) : IsCanc ns ms (canc ns ms) := by
  have key : ∀ f i, f = ns.length - i → i ≤ ns.length → (∀ j, j < i → j < ns.length ∧ j < ms.length ∧ ns.getD (ns.length - 1 - j) 0 = -(ms.getD j 0)) → IsCanc ns ms (cancFrom ns ms f i) := by
    intro f
    induction f with
    | zero =>
      intro i hf hle h
      exact ⟨h, by rw [cancFrom]; omega⟩
    | succ f ih =>
      intro i hf hle h
      rw [cancFrom]
      split
      · rename_i hc
        refine ih (i + 1) (by omega) (by omega) fun j hj => ?_
        by_cases e : j = i
        · subst e; exact hc
        · exact h j (by omega)
      · rename_i hc
        exact ⟨h, hc⟩
  exact key _ 0 rfl (Nat.zero_le _) fun j hj => absurd hj (Nat.not_lt_zero _)
theorem prod_cut {ns ms : List Int} (sn : ∀ y ∈ ns, Sgn y) : ∀ k, (∀ i, i < k → i < ns.length ∧ i < ms.length ∧ ns.getD (ns.length - 1 - i) 0 = -(ms.getD i 0)) →
    (prod (ns.take (ns.length - k))).mul (prod (ms.drop k)) = (prod ns).mul (prod ms) := by
  intro k
  induction k with
  | zero => intro _; simp
  | succ k ih =>
    intro h
    rw [← ih fun i hi => h i (by omega)]
    obtain ⟨h1, h2, h3⟩ := h k (by omega)
    have e1 : ns.length - k = (ns.length - (k + 1)) + 1 := by omega
    have hx : ns[ns.length - (k + 1)]? = some ns[ns.length - (k + 1)] := by simp
    have e2 : ms.drop k = ms[k] :: ms.drop (k + 1) := List.drop_eq_getElem_cons h2
    have e3 : ns[ns.length - (k + 1)] = -ms[k] := by
      have e4 : ns.length - 1 - k = ns.length - (k + 1) := by omega
      rw [e4, List.getD_eq_getElem?_getD, List.getD_eq_getElem?_getD, hx, List.getElem?_eq_getElem h2] at h3
      simpa using h3
    rw [e1, prod_take hx, e2, prod_cons, Sq.mul_assoc, e3]
    have hs : Sgn (-ms[k]) := e3 ▸ sn _ (List.getElem_mem _)
    have := sq_back' hs (prod (ms.drop (k + 1)))
    rw [Int.neg_neg] at this
    rw [this]
theorem prod_join {ns ms : List Int} (sn : ∀ y ∈ ns, Sgn y) : prod (join ns ms) = (prod ns).mul (prod ms) := by
  unfold join
  rw [prod_append, prod_cut sn _ (canc_is ns ms).opp]
theorem red_join {ns ms : List Int} (rn : Red ns) (rm : Red ms) : Red (join ns ms) := by
  unfold join
  have hc := canc_is ns ms
  generalize canc ns ms = k at hc
  refine (rn.take _).append (rm.drop _) fun x y hx hy e => hc.stop ?_
  rw [List.head?_drop] at hy
  have h2 : k < ms.length := by
    rcases Nat.lt_or_ge k ms.length with h | h
    · exact h
    · rw [List.getElem?_eq_none h] at hy; cases hy
  have h1 : k < ns.length := by
    rcases Nat.lt_or_ge k ns.length with h | h
    · exact h
    · rw [show ns.length - k = 0 by omega] at hx; simp at hx
  refine ⟨h1, h2, ?_⟩
  have e1 : ns.length - k = (ns.length - 1 - k) + 1 := by omega
  have hx' : ns[ns.length - 1 - k]? = some ns[ns.length - 1 - k] := by simp
  rw [e1, List.take_add_one, hx', Option.toList_some, List.getLast?_concat] at hx
  have hx := Option.some.inj hx
  rw [List.getD_eq_getElem?_getD, List.getD_eq_getElem?_getD, hx', hy, e]
  simpa using hx
theorem sgn_join {ns ms : List Int} (sn : ∀ y ∈ ns, Sgn y) (sm : ∀ y ∈ ms, Sgn y) : ∀ y ∈ join ns ms, Sgn y := by
  intro y hy
  unfold join at hy
  rcases List.mem_append.mp hy with h | h
  · exact sn y (List.mem_of_mem_take h)
  · exact sm y (List.mem_of_mem_drop h)
theorem word_facts (ns : List Int) (sn : ∀ y ∈ ns, Sgn y) : Red (wordOf ns) ∧ (∀ y ∈ wordOf ns, Sgn y) ∧ prod (wordOf ns) = prod ns := by
  have key : ∀ (l w : List Int), (∀ y ∈ l, Sgn y) → Red w → (∀ y ∈ w, Sgn y) → Red (l.foldl (fun w x => join w [x]) w) ∧ (∀ y ∈ l.foldl (fun w x => join w [x]) w, Sgn y) ∧ prod (l.foldl (fun w x => join w [x]) w) = (prod w).mul (prod l) := by
    intro l
    induction l with
    | nil => intro w _ h1 h2; exact ⟨h1, h2, by simp [prod_nil, Sq.mul_one]⟩
    | cons x l ih =>
      intro w hl h1 h2
      have hx : ∀ y ∈ [x], Sgn y := fun y hy => by rw [List.mem_singleton.mp hy]; exact hl x (.head _)
      obtain ⟨a, b, c⟩ := ih (join w [x]) (fun y hy => hl y (.tail _ hy)) (red_join h1 trivial) (sgn_join h2 hx)
      refine ⟨a, b, ?_⟩
      rw [List.foldl_cons, c, prod_join h2, prod_one, prod_cons, Sq.mul_assoc]
  have := key ns [] sn trivial fun y hy => nomatch hy
  rw [prod_nil, Sq.one_mul] at this
  exact this
end Mine
end
section
open PySem PySem.Spec PySem.Calls PySem.W PyProof.Rows
namespace Mine
open PyProof.Rows.LCg (lst lst_snoc)
section
variable {prog : Program} {w : World} {A : Around} {E : Value → Shared → Prop} {s : Shared} {h₀ : Heap} {L : Addr} {m : PySem.Str → Option Value} {env : Env}
/-- a comprehension's own frame with one cell -/
theorem newEnv_one {M : Model} {scope : Scope} {cl : List (PySem.Str × Addr)} {x : PySem.Str} {Q : Env → Shared → Prop}
    (hcf : ∀ n, cellsFrom n scope.names cl = (x, n) :: cl) (hpc : ∀ h : Heap, pushCells h scope.names = h.push { cls := .type "cell", data := .cell none })
    (hQ : ∀ h', h'.Ns s.heap.objs.size (fun _ => none) → h'.IsCell (s.heap.objs.size + 1) none → (∀ b o, s.heap.get? b = some o → h'.get? b = some o) →
      Q { scope, locals := s.heap.objs.size, globals := env.globals, cells := (x, s.heap.objs.size + 1) :: cl, qual := env.qual, func := none, code := env.code, frame := env.frame, builtins := env.builtins } { s with heap := h' }) :
    wpAny M A (newFunctionEnv scope env.globals cl [] env.qual none .none (some env)) Q E s := by
  simp only [newFunctionEnv, Option.isSome_some, if_true]
  refine wpAny_bind (wpAny_alloc ?_)
  refine wpAny_bind (wpAny_layCells _ (fun name kind cells => by cases kind == NameKind.cell <;> simp) _ _ _ _ ?_)
  rw [hcf, hpc, List.forIn_nil]
  refine wpAny_bind (wpAny_pure (wpAny_pure ?_))
  dsimp only
  rw [Heap.size_push]
  refine hQ _ ((Heap.Ns.new s.heap (.type "dict")).keeps fun _ _ e => Heap.get?_push_of_some _ e) ⟨{ cls := .type "cell", data := .cell none }, ?_, rfl⟩ fun b o e => Heap.get?_push_of_some _ (Heap.get?_push_of_some _ e)
  have := Heap.get?_push_size (s.heap.push { cls := .type "dict", data := .dict #[] }) (o := { cls := .type "cell", data := .cell none }) rfl
  rwa [Heap.size_push] at this
/-- what the source of such a comprehension has to be -/
def CellSrc (prog : Program) (w : World) (A : Around) (h₀ : Heap) (m : PySem.Str → Option Value) (env : Env) (elt : Expr) (x y : PySem.Str) (scope : Scope) (cl : List (PySem.Str × Addr)) (P : Nat → Obj → Prop) (Q : Flow → Shared → Prop) (xv : Value) (s₁ : Shared) : Prop :=
  ∃ r a b t u v n news, xv = .ref r ∧ A.handled = none ∧ Fr h₀ env.locals s₁.heap m ∧ News h₀ env.locals s₁.heap news ∧ IsRange s₁.heap r a b 1 t u v ∧ Builtin.Range.small a b 1 = true ∧
      Builtin.Range.rangeSize a b 1 = ((n : Nat) : Int) ∧ n ≤ sizeLine ∧
      (∀ i C K h tk t E', i < n → (∀ b o, s₁.heap.get? b = some o → h.get? b = some o) → s₁.heap.get? K = none → h.IsCell K (some (.int (a + (i : Int)) t)) →
        wpAny (model prog w) A (eval elt (compEnvC scope ((x, K) :: cl) C env)) (fun y s₄ => Keeps { s₁ with heap := h, toks := tk } s₄ ∧ ∃ e o, y = .ref e ∧ h.get? e = none ∧ s₄.heap.get? e = some o ∧ P i o) E' { s₁ with heap := h, toks := tk }) ∧
      (∀ D h tk rs, Fr h₀ env.locals h (fun z => if z = y then some (.ref D) else m z) → News h₀ env.locals h ((D, lst (rs.map fun p => .ref p.1)) :: (rs ++ news)) → rs.length = n → (∀ (i : Nat) (p : Addr × Obj), rs[i]? = some p → P i p.2) →
        (∀ p ∈ rs ++ news, p.1 ≠ D) → Q .next { s₁ with heap := h, toks := tk })
/-- a comprehension over a range whose target is a cell, with quiet elements that are new objects -/
theorem Assign_ListComp_cell {elt iter : Expr} {x y : PySem.Str} {px py : Pos} {scope : Scope} {cl : List (PySem.Str × Addr)} {pos spos : Pos} {Q : Flow → Shared → Prop} (P : Nat → Obj → Prop)
    (hsw : swapsWith (.ListComp elt [⟨.Name x px, iter, [], 0⟩] scope pos) (some (.Name y py)) spos.line env = pure true)
    (hclos : closureFor scope env = pure cl) (hcf : ∀ n, cellsFrom n scope.names cl = (x, n) :: cl) (hpc : ∀ h : Heap, pushCells h scope.names = h.push { cls := .type "cell", data := .cell none }) (hkind : scope.kind = .function)
    (hnames : ∀ z ∈ scope.names, z.2 = .local → scope.names.lookup z.1 = some .local) (hx : (relabel scope env).names.lookup x = some .cell)
    (hy : env.kindOf y = some .local) (hp : (env.scope.kind == .class || (env.scope.kind == .module && env.locals != env.globals)) = false)
    (h : wpAny (model prog w) A (eval iter env) (fun xv s₁ => CellSrc prog w A h₀ m env elt x y scope cl P Q xv s₁) E s)
    (hs : ∀ x, foldedSetIterable iter env x = pure x := by intro _; rfl) :
    wpAny (model prog w) A (exec (.Assign [.Name y py] (.ListComp elt [⟨.Name x px, iter, [], 0⟩] scope pos) spos) env) Q E s := by
  rw [exec_Assign_Name_used _ _ _ _ hsw]
  refine wpAny_bind (wpAny_standAt (wpAny_bind ?_))
  show wpAny _ A (do let _ ← comprehension (.ListComp elt [⟨.Name x px, iter, [], 0⟩] scope pos) scope env _ (newList []) false (eval iter env) (some (assign (.Name y py) env))) _ _ s
  refine wpAny_bind (wpAny_mono (wpAny_comprehension_free (use := some (assign (.Name y py) env)) (Q := fun _ s' => Q .next s') rfl hs hclos hkind hnames
    (wpAny_mono h (fun xv s₁ h₁ => ?_) fun _ _ e => e)) (fun _ s' hq => wpAny_pure (wpAny_pure hq)) fun _ _ e => e)
  obtain ⟨r, a, b, t, u, v, n, news, rfl, hh, F, N, hr, hsm, hn, hsz, turn, fin⟩ := h₁
  refine wpAny_pyIter_range hr hsm ?_
  have W := LCg.range_walks (prog := prog) (w := w) (I := s₁.heap.objs.size) hh a n
  have hst : ∀ (g : Heap), g = s₁.heap.push { cls := .type "range_iterator", data := .fields #[.int a 0, .int ((n : Nat) : Int) 0, .int 1 0] } → True := fun _ _ => trivial
  clear hst
  rw [hn]
  generalize hH1 : s₁.heap.push _ = H1
  have hst : IsRangeIter H1 s₁.heap.objs.size (a + ((0 : Nat) : Int) * 1) ((n : Int) - ((0 : Nat) : Int)) 1 := by
    rw [← hH1]
    show IsRangeIter _ _ _ _ _
    simpa using Heap.get?_push_size _ rfl
  have hs1 : H1.objs.size = s₁.heap.objs.size + 1 := by rw [← hH1, Heap.size_push]
  have up1 : ∀ b o, s₁.heap.get? b = some o → H1.get? b = some o := fun b o e => hH1 ▸ Heap.get?_push_of_some _ e
  clear hH1
  refine wpAny_newObj_type (newEnv_one (env := env) hcf hpc fun h₁ hns₁ hc₁ old₁ => ?_)
  dsimp only at hns₁ hc₁ old₁ ⊢
  generalize hH2 : H1.push { cls := .type "list", dict := none, data := .seq ([] : List Value).toArray } = H2 at hns₁ hc₁ old₁ ⊢
  have hs2 : H2.objs.size = s₁.heap.objs.size + 2 := by rw [← hH2, Heap.size_push, hs1]
  have hacc : h₁.get? H1.objs.size = some (lst []) := old₁ _ _ (hH2 ▸ Heap.get?_push_size _ rfl)
  rw [hs1] at hacc ⊢
  rw [hs2] at hns₁ hc₁ ⊢
  have old : ∀ b o, H1.get? b = some o → h₁.get? b = some o := fun b o e => old₁ b o (hH2 ▸ Heap.get?_push_of_some _ e)
  clear old₁ hH2 hs2
  generalize hz : s₁.heap.objs.size = z at *
  have lt : ∀ (b : Addr) (o : Obj), s₁.heap.get? b = some o → @LT.lt Nat _ b z := fun b o e => hz ▸ Heap.lt_size e
  have fresh₀ : ∀ b, z ≤ b → h₀.get? b = none := fun b hb => by
    cases e : h₀.get? b with
    | none => rfl
    | some o' => exact absurd (lt b o' (F.keep b o' e)) (Nat.not_lt.mpr hb)
  have hLz : @LT.lt Nat _ env.locals z := hz ▸ F.ns.lt
  have hst₁ := W.frame _ _ _ hst fun b _ o e => old b o e
  have loop : ∀ s₃ : Shared, s₃ = { s₁ with heap := h₁ } →
      codeAny (model prog w) A (.compLoop (.ListComp elt [⟨.Name x px, iter, [], 0⟩] scope pos) 0 (.ref z) (.ref (z + 1)) (compEnvC scope ((x, z + 2 + 1) :: cl) (z + 2) env))
        (compPost (model prog w) A E (some (assign (.Name y py) env)) (fun _ s' => Q .next s') (.ref (z + 1)) (z + 2)) s₃ := by
    rintro s₃ rfl
    refine codeAny_compLoop_tests
      (fun k s' => ∃ (h' : Heap) (tk : Nat) (i : Nat) (rs : List (Addr × Obj)) (m' : PySem.Str → Option Value) (v : Option Value), s' = { s₁ with heap := h', toks := tk } ∧ i ≤ n ∧ k = n + 1 - i ∧ rs.length = i ∧ IsRangeIter h' z (a + (i : Nat) * 1) ((n : Int) - (i : Nat)) 1 ∧ (∀ b o, s₁.heap.get? b = some o → h'.get? b = some o) ∧
        h'.Ns (z + 2) m' ∧ h'.IsCell (z + 2 + 1) v ∧ h'.get? (z + 1) = some (lst (rs.map fun p : Addr × Obj => .ref p.1)) ∧ (∀ p ∈ rs, h'.get? p.1 = some p.2 ∧ p.1 ≠ z ∧ p.1 ≠ z + 1 ∧ p.1 ≠ z + 2 ∧ p.1 ≠ z + 2 + 1 ∧ s₁.heap.get? p.1 = none) ∧ (∀ (j : Nat) (p : Addr × Obj), rs[j]? = some p → P j p.2)) ?_ (n + 1)
      ⟨h₁, _, 0, [], _, none, rfl, Nat.zero_le _, rfl, rfl, hst₁, fun b o e => old b o (up1 b o e), hns₁, hc₁, hacc, fun p hp => (nomatch hp), fun j p hp => by simp at hp⟩
    rintro k s' ⟨h', tk, i, rs, m', v, rfl, hi, rfl, hrl, hst', up', hn', hc', hD', hR', hP'⟩
    by_cases hlt : i < n
    · refine W.item i _ _ _ hlt hst' fun vv h₂ tk₂ hPv hst₂ hk₂ => ?_
      obtain ⟨t₂, rfl⟩ := hPv
      have k₂ : ∀ b o, b ≠ z → h'.get? b = some o → h₂.get? b = some o := fun b o hb e => hk₂ b o (fun q => hb (List.mem_singleton.mp q)) e
      clear hk₂
      refine wpAny_assign_Name (wpAny_storeName_cell (env := compEnvC scope ((x, z + 2 + 1) :: cl) (z + 2) env) (c := z + 2 + 1) (v₀ := v) (by simp [compEnvC, relabel, hkind]) hx (by simp [compEnvC])
        (let ⟨o, e, d⟩ := hc'; ⟨o, k₂ _ o (by omega) e, d⟩) fun h₃ hc₃ hs₃ => ?_)
      refine wpAny_tests_nil ?_
      simp only [if_true]
      have up₃ : ∀ b o, s₁.heap.get? b = some o → h₃.get? b = some o := fun b o e => hs₃.extBut b o (by have := lt b o e; exact Nat.ne_of_lt (by omega)) (k₂ b o (Nat.ne_of_lt (lt b o e)) (up' b o e))
      refine wpAny_mono (turn i (z + 2) (z + 2 + 1) h₃ tk₂ t₂ _ hlt up₃ (Heap.get?_none_of_le (by rw [hz]; omega)) hc₃) (fun y' s₄ h₄ => ?_) fun _ _ e => e
      obtain ⟨⟨h₄, tk₄, rfl, hk₄⟩, e, o, rfl, hfe, hoe, hPo⟩ := h₄
      dsimp only at hk₄ hoe
      have k₃ : ∀ b o, b ≠ z → b ≠ z + 2 + 1 → h'.get? b = some o → h₄.get? b = some o := fun b o h1 h2 q => hk₄ b o (hs₃.extBut b o h2 (k₂ b o h1 q))
      have zD : h₄.get? (z + 1) = some (lst (rs.map fun p : Addr × Obj => .ref p.1)) := k₃ _ _ (by omega) (by omega) hD'
      have he : ∀ b o, h₃.get? b = some o → e ≠ b := fun b o q q' => by rw [← q', hfe] at q; cases q
      have e0 : e ≠ z := by
        have h1 := W.frame _ _ _ hst₂ fun b hb o e => hs₃.extBut b o (by rw [List.mem_singleton.mp hb]; exact (Nat.ne_of_lt (by omega))) e
        exact he _ _ h1
      have e1 : e ≠ z + 1 := he _ _ (hs₃.extBut _ _ (Nat.ne_of_lt (by omega)) (k₂ _ _ (Nat.ne_of_gt (by omega)) hD'))
      have e2 : e ≠ z + 2 := by
        obtain ⟨o', _, _, q, _⟩ := hn'
        exact he _ _ (hs₃.extBut _ _ (Nat.ne_of_lt (by omega)) (k₂ _ _ (Nat.ne_of_gt (by omega)) q))
      have e3 : e ≠ z + 2 + 1 := let ⟨o', q, _⟩ := hc₃; he _ _ q
      have e4 : s₁.heap.get? e = none := by
        cases q : s₁.heap.get? e with
        | none => rfl
        | some o' => exact absurd rfl (he _ _ (up₃ _ _ q))
      refine append_at (hsz := by show (rs.map _).toArray.size ≤ sizeLine; simp [hrl]; omega) zD fun h₅ hs₅ hD₅ => ?_
      refine ⟨n + 1 - (i + 1), by omega, h₅, tk₄, i + 1, rs ++ [(e, o)], m', some (.int (a + (i : Int)) t₂), rfl, hlt, rfl, by simp [hrl], ?_, ?_, ?_, ?_, ?_, ?_, ?_⟩
      · have h1 := W.frame _ _ _ hst₂ fun b hb o e => hs₃.extBut b o (by rw [List.mem_singleton.mp hb]; exact (Nat.ne_of_lt (by omega))) e
        have h2 := W.frame _ _ _ h1 fun b hb o e => hk₄ b o e
        exact W.frame _ _ _ h2 fun b hb o e => hs₅.extBut b o (by rw [List.mem_singleton.mp hb]; exact (Nat.ne_of_lt (by omega))) e
      · exact fun b o q => hs₅.extBut b o (by have := lt b o q; exact Nat.ne_of_lt (by omega)) (hk₄ b o (up₃ b o q))
      · exact (hn'.at' fun o q => k₃ _ o (by omega) (by omega) q).sameBut hs₅ (Nat.ne_of_gt (by omega))
      · exact (hc₃.keeps hk₄).sameBut hs₅ (Nat.ne_of_gt (by omega))
      · rw [hD₅]
        have := lst_snoc (rs.map fun p : Addr × Obj => .ref p.1) (.ref e)
        rw [List.map_append]
        exact congrArg some this
      · intro p hp
        rcases List.mem_append.mp hp with hp | hp
        · obtain ⟨q1, q2⟩ := hR' p hp
          exact ⟨hs₅.extBut _ _ q2.2.1 (k₃ _ _ q2.1 q2.2.2.2.1 q1), q2⟩
        · rw [List.mem_singleton.mp hp]
          exact ⟨hs₅.extBut _ _ e1 hoe, e0, e1, e2, e3, e4⟩
      · intro j p hp
        by_cases hj : j < i
        · rw [List.getElem?_append_left (by omega)] at hp
          exact hP' j p hp
        · rw [List.getElem?_append_right (by omega)] at hp
          have : j - rs.length = 0 := by
            rcases Nat.eq_zero_or_pos (j - rs.length) with q | q
            · exact q
            · rw [List.getElem?_eq_none (by simp; omega)] at hp; cases hp
          rw [this] at hp
          simp at hp
          subst hp
          rw [show j = i by omega]
          exact hPo
    · obtain rfl : i = n := Nat.le_antisymm hi (Nat.not_lt.mp hlt)
      refine W.done _ _ _ hst' fun h₂ tk₂ hk₂ => ?_
      have k₂ : ∀ b o, b ≠ z → h'.get? b = some o → h₂.get? b = some o := fun b o hb e => hk₂ b o (fun q => hb (List.mem_singleton.mp q)) e
      clear hk₂
      have F₂ : Fr h₀ env.locals h₂ m := F.keeps fun b o e => k₂ b o (Nat.ne_of_lt (lt b o e)) (up' b o e)
      have N₂ : News h₀ env.locals h₂ ((z + 1, lst (rs.map fun p : Addr × Obj => .ref p.1)) :: (rs ++ news)) := by
        intro p hp
        rcases List.mem_cons.mp hp with rfl | hp
        · exact ⟨k₂ _ _ (by omega) hD', Nat.ne_of_gt (by omega), fresh₀ _ (by omega)⟩
        · rcases List.mem_append.mp hp with hp | hp
          · obtain ⟨q1, q2⟩ := hR' p hp
            refine ⟨k₂ _ _ q2.1 q1, fun q => ?_, ?_⟩
            · obtain ⟨oL, _, _, q', _⟩ := F.ns
              rw [← q, q2.2.2.2.2] at q'; cases q'
            · cases q : h₀.get? p.1 with
              | none => rfl
              | some o' => have := F.keep _ _ q; rw [q2.2.2.2.2] at this; cases this
          · have q := N p hp
            exact ⟨k₂ _ _ (Nat.ne_of_lt (lt _ _ q.1)) (up' _ _ q.1), q.2⟩
      show wpAny _ A (assign (.Name y py) env (.ref (z + 1))) _ _ _
      refine wpAny_assign_Name (wpAny_storeName_local hy F₂.ns (fun h₃ hn₃ hs₃ => ?_) hp)
      have hL₀ : h₀.get? env.locals = none := Heap.get?_none_of_le F.above
      have F₃ : Fr h₀ env.locals h₃ (fun z' => if z' = y then some (.ref (z + 1)) else m z') := ⟨hn₃, fun b o e => hs₃.extBut b o (fun q => by rw [q, hL₀] at e; cases e) (F₂.keep b o e), F₂.above⟩
      refine ⟨m', (hn'.at' fun o q => k₂ _ o (by omega) q).sameBut hs₃ (Nat.ne_of_gt (by omega)), fun h₄ hs₄ => fin (z + 1) h₄ _ rs (F₃.change hs₄ (Nat.ne_of_gt (by omega)) (fresh₀ _ (by omega))) (fun p hp => ?_) hrl hP' ?_⟩
      · have q := N₂ p hp
        refine ⟨hs₄.extBut _ _ ?_ (hs₃.extBut _ _ q.2.1 q.1), q.2⟩
        rcases List.mem_cons.mp hp with rfl | hp
        · exact Nat.ne_of_lt (by omega)
        · rcases List.mem_append.mp hp with hp | hp
          · exact (hR' p hp).2.2.2.1
          · have := lt _ _ (N p hp).1
            exact Nat.ne_of_lt (by omega)
      · intro p hp
        rcases List.mem_append.mp hp with hp | hp
        · exact (hR' p hp).2.2.1
        · have := lt _ _ (N p hp).1
          exact Nat.ne_of_lt (by omega)
  exact codeAny_compStart_list (loop _ rfl) (W.self 0 _ _ _ hst₁ (loop _ rfl))
/-- what a turn of a quiet comprehension gives -/
def TurnT (p : Bool) (s₃ : Shared) (ok : Bool) (s₄ : Shared) : Prop := ok = p ∧ Keeps s₃ s₄
def TurnE (n : Int) (s₃ : Shared) (y : Value) (s₄ : Shared) : Prop := (∃ t, y = .int n t) ∧ Keeps s₃ s₄
/-- the source of a quiet comprehension of numbers over a range, with one test -/
def RowSrc (prog : Program) (w : World) (A : Around) (env : Env) (ct elt : Expr) (x : PySem.Str) (scope : Scope) (cl : List (PySem.Str × Addr)) (p : Nat → Bool) (f : Nat → Int) (Q : Value → Shared → Prop) (xv : Value) (s₁ : Shared) : Prop :=
  ∃ r b t u v n, xv = .ref r ∧ A.handled = none ∧ IsRange s₁.heap r 0 b 1 t u v ∧ Builtin.Range.small 0 b 1 = true ∧ Builtin.Range.rangeSize 0 b 1 = ((n : Nat) : Int) ∧ n ≤ sizeLine ∧
    (∀ (k : Nat) C oC (s₃ : Shared) t m₃ E', k < n → (∀ b o, s₁.heap.get? b = some o → s₃.heap.get? b = some o) → s₁.heap.get? C = none → s₃.heap.get? C = some oC → LCg.NsObj oC m₃ → m₃ x = some (.int ((k : Nat) : Int) t) →
      wpAny (model prog w) A (isTrue ct (compEnvC scope cl C env) (eval ct (compEnvC scope cl C env))) (TurnT (p k) s₃) E' s₃) ∧
    (∀ (k : Nat) C oC (s₃ : Shared) t m₃ E', k < n → (∀ b o, s₁.heap.get? b = some o → s₃.heap.get? b = some o) → s₁.heap.get? C = none → s₃.heap.get? C = some oC → LCg.NsObj oC m₃ → m₃ x = some (.int ((k : Nat) : Int) t) →
      wpAny (model prog w) A (eval elt (compEnvC scope cl C env)) (TurnE (f k) s₃) E' s₃) ∧
    (∀ D h' tk vs nn, s₁.heap.get? D = none → h'.get? D = some (seqOf "list" vs.toArray nn) → IntsAre vs (((List.range n).filter p).map f) → (∀ b o, s₁.heap.get? b = some o → h'.get? b = some o) → Q (.ref D) { s₁ with heap := h', toks := tk })
theorem ints_pair {p : Nat → Bool} {f : Nat → Int} : ∀ {vs ys : List Value} {a : Nat}, (∀ (j : Nat) (v : Value), vs[j]? = some v → ∃ t, v = .int (((a + j : Nat)) : Int) t) →
    Paired (fun v y => ∃ k t u, v = .int ((k : Nat) : Int) t ∧ y = .int (f k) u) (vs.filter fun v => match v with | .int k _ => p k.toNat | _ => false) ys →
    IntsAre ys (((List.range' a vs.length).filter p).map f)
  | [], ys, a, _, h => by cases h; exact .nil
  | v :: vs, ys, a, hv, h => by
    obtain ⟨t, rfl⟩ := hv 0 v rfl
    have hv' : ∀ (j : Nat) (v : Value), vs[j]? = some v → ∃ t, v = .int (((a + 1 + j : Nat)) : Int) t := fun j v e => by
      obtain ⟨t, e⟩ := hv (j + 1) v e
      exact ⟨t, by rw [e]; congr 1; omega⟩
    rw [List.length_cons, List.range'_succ, List.filter_cons]
    rw [List.filter_cons] at h
    simp only [Nat.add_zero, Int.toNat_natCast] at h
    by_cases hp : p a = true
    · rw [if_pos hp] at h ⊢
      cases h with
      | cons h1 h2 =>
        obtain ⟨k, t, u, e1, rfl⟩ := h1
        have e2 : ((a : Nat) : Int) = (k : Int) := by injection e1
        obtain rfl : a = k := by omega
        exact .cons _ _ (ints_pair hv' h2)
    · rw [if_neg hp] at h ⊢
      exact ints_pair hv' h
theorem row_comp {elt iter ct : Expr} {x : PySem.Str} {px : Pos} {scope : Scope} {cl : List (PySem.Str × Addr)} {pos : Pos} {Q : Value → Shared → Prop} (p : Nat → Bool) (f : Nat → Int)
    (hclos : closureFor scope env = pure cl) (hcell : ∀ y ∈ scope.names, y.2 ≠ .cell) (hkind : scope.kind = .function)
    (hnames : ∀ y ∈ scope.names, y.2 = .local → scope.names.lookup y.1 = some .local) (hx : scope.names.lookup x = some .local)
    (h : wpAny (model prog w) A (eval iter env) (RowSrc prog w A env ct elt x scope cl p f Q) E s)
    (hs : ∀ x, foldedSetIterable iter env x = pure x := by intro _; rfl) :
    wpAny (model prog w) A (eval (.ListComp elt [⟨.Name x px, iter, [ct], 0⟩] scope pos) env) Q E s := by
  refine wpAny_ListComp_free (fun v => match v with | .int k _ => p k.toNat | _ => false) (fun v y => ∃ k t u, v = .int ((k : Nat) : Int) t ∧ y = .int (f k) u) hclos hcell hkind hnames hx (wpAny_mono h (fun xv s₁ h₁ => ?_) fun _ _ e => e) hs
  obtain ⟨r, b, t, u, v, n, rfl, hh, hr, hsm, hn, hsz, ht, he, fin⟩ := h₁
  refine wpAny_pyIter_range hr hsm ?_
  have up : ∀ (o' : Obj) (b : Addr) (o : Obj), s₁.heap.get? b = some o → (s₁.heap.push o').get? b = some o := fun o' b o e => Heap.get?_push_of_some _ e
  have hnew : s₁.heap.get? s₁.heap.objs.size = none := Heap.get?_none_of_le (Nat.le_refl _)
  have hbut : ∀ (b : Addr) (o : Obj), s₁.heap.get? b = some o → b ∉ [s₁.heap.objs.size] := fun b o e hb => by rw [List.mem_singleton.mp hb, hnew] at e; cases e
  refine ⟨_, _, _, n, _, _, rfl, (Walks.range (prog := prog) (w := w) hh s₁.heap.objs.size 0 1 n).bound, hsz, by show IsRangeIter _ _ _ _ _; rw [hn]; simpa using Heap.get?_push_size _ rfl, fun b hb => ?_, ⟨?_, ?_⟩, ?_⟩
  · rw [List.mem_singleton.mp hb]
    show s₁.heap.objs.size < (s₁.heap.push _).objs.size
    rw [Heap.size_push]; exact Nat.lt_succ_self _
  · rintro C i v s₃ m₃ E' hC ⟨hi, t, rfl⟩ hns hm hk htk
    obtain ⟨oC, heC, hoC⟩ := LCg.ns_obj hns
    have e0 : (0 : Int) + (i : Int) * 1 = ((i : Nat) : Int) := by omega
    rw [e0] at hm ⊢
    exact wpAny_tests_one (ht i C oC s₃ t m₃ _ hi (fun b o e => hk b o (hbut b o e) (up _ b o e)) (Heap.get?_none_of_le (Nat.le_of_succ_le (Nat.le_trans (Nat.le_of_eq (Heap.size_push ..).symm) hC))) heC hoC hm)
  · rintro C i v s₃ m₃ E' hC ⟨hi, t, rfl⟩ hpv hns hm hk htk
    obtain ⟨oC, heC, hoC⟩ := LCg.ns_obj hns
    have e0 : (0 : Int) + (i : Int) * 1 = ((i : Nat) : Int) := by omega
    rw [e0] at hm ⊢
    refine wpAny_mono (he i C oC s₃ t m₃ E' hi (fun b o e => hk b o (hbut b o e) (up _ b o e)) (Heap.get?_none_of_le (Nat.le_of_succ_le (Nat.le_trans (Nat.le_of_eq (Heap.size_push ..).symm) hC))) heC hoC hm) (fun y s₄ q => ?_) fun _ _ e => e
    obtain ⟨⟨u, rfl⟩, q⟩ := q
    exact ⟨⟨i, t, u, rfl, rfl⟩, q⟩
  · intro D h' tk ys vs hD hl hpl hlen hP hF hk
    obtain ⟨nn, hpl⟩ := hpl
    refine fin D h' tk ys.toList nn ?_ (by simpa using hpl) ?_ fun b o e => hk b o (hbut b o e) (up _ b o e)
    · cases e : s₁.heap.get? D with
      | none => rfl
      | some o => have := up { cls := Value.type "range_iterator", data := Data.fields #[rawInt 0, rawInt (Builtin.Range.rangeSize 0 b 1), rawInt 1] } _ _ e; exact absurd (this.symm.trans hD) (by simp)
    · have := ints_pair (p := p) (f := f) (a := 0) (vs := vs) (fun j v e => by obtain ⟨_, t, e⟩ := hP j v e; exact ⟨t, by rw [e]; congr 1; omega⟩) hF
      rwa [hlen, ← List.range_eq_range'] at this
end
end Mine
end
section
open PySem PySem.Spec PySem.Calls PySem.W PyProof.Rows
set_option maxRecDepth 100000
set_option maxHeartbeats 8000000
namespace Mine
noncomputable def lawFd (P : Params) : Option FuncData := match (Mine.hd.heap_39 P).lookup 99 with
  | some o => match o.data with
    | .func fd => some fd
    | _ => none
  | none => none
noncomputable def lawBody (P : Params) : List Stmt := match lawFd P with
  | some fd => match fd.body with
    | .stmts b => b
    | _ => []
  | none => []
noncomputable def lawScope (P : Params) : Scope := match lawFd P with
  | some fd => fd.scope
  | none => { kind := .function, names := [], isGenerator := false, isCoroutine := false }
/-- the row of the signs that the law deals to i -/
def rowFrom (i : Int) (f : Nat → Int) (n : Nat) : List Int := ((List.range n).filter fun k => decide (((k : Nat) : Int).fmod 3 = i)).map f
def rowOf (xs : List Int) (i : Nat) : List Int := rowFrom i (fun k => xs.getD k 0) xs.length
theorem three {α : Type} {l : List α} (h : l.length = 3) : ∃ a b c, l = [a, b, c] := by
  match l, h with
  | [a, b, c], _ => exact ⟨a, b, c, rfl⟩
theorem law_rows {w : World} {base : Heap} {mean : ExcName → Option Value} {mg mb : PySem.Str → Option Value} {L fa D : Addr} {cd : Value} {s : Shared} {m : PySem.Str → Option Value} {oE oS : Obj} {ys : List Value} {xs : List Int} {Q : Flow → Shared → Prop} {E : Value → Shared → Prop}
    {sc : Scope} (hsc : sc = lawScope w.params) {st : Stmt} (hst : some st = (lawBody w.params)[1]?) {rest : List Stmt}
    (K0 : Below callerA base [] base) (F : Fr base L s.heap m) (X : (Mine.hd.heap_39 w.params).In base) (T : Top Mine.hd.view_39 (looseW Mine.hd.view_39 []) mean mg mb base)
    (N : News base L s.heap [(L + 1 + 1, oE), (L + 1, oS), (D, LCg.lst ys)]) (dS : oS.data = .cell (some (.ref D))) (hI : IntsAre ys xs) (hl : xs.length ≤ 100)
    (cont : ∀ R e0 e1 e2 vs0 vs1 vs2 n0 n1 n2 h tk, Fr base L h (fun z => if z = Str.ofString "rows" then some (.ref R) else m z) →
      News base L h [(R, LCg.lst [.ref e0, .ref e1, .ref e2]), (e0, seqOf "list" vs0.toArray n0), (e1, seqOf "list" vs1.toArray n1), (e2, seqOf "list" vs2.toArray n2), (L + 1 + 1, oE), (L + 1, oS), (D, LCg.lst ys)] →
      IntsAre vs0 (rowOf xs 0) → IntsAre vs1 (rowOf xs 1) → IntsAre vs2 (rowOf xs 2) →
      wpAny (model PySem.Challenge.rw_nb0374_01.row.prog w) (callerA.deeper (envOfC (Str.ofString "law") sc L fa cd)) (execs rest (envOfC (Str.ofString "law") sc L fa cd)) Q E { s with heap := h, toks := tk }) :
    wpAny (model PySem.Challenge.rw_nb0374_01.row.prog w) (callerA.deeper (envOfC (Str.ofString "law") sc L fa cd)) (execs (st :: rest) (envOfC (Str.ofString "law") sc L fa cd)) Q E s := by
  have hfill : PySem.Challenge.rw_nb0374_01 = PySem.Challenge.rw_nb0374_01 ∧ Mine.hd.heap_39 = Mine.hd.heap_39 := by (k_fill; exact ⟨rfl, rfl⟩)
  clear hfill
  w_on
  conv at hsc => rhs; whnf
  conv at hst => rhs; whnf
  have hst := Option.some.inj hst
  subst hsc hst
  k_steps
  k_dflt (refine Assign_ListComp_cell (h₀ := base) (m := m) (x := Str.ofString "i") (y := Str.ofString "rows") (P := fun i o => ∃ vs n, o = seqOf "list" vs.toArray n ∧ IntsAre vs (rowOf xs i)) (by with_unfolding_all rfl) (by with_unfolding_all rfl) (fun _ => by with_unfolding_all rfl) (fun _ => by with_unfolding_all rfl) rfl (by decide) (by with_unfolding_all rfl) (by with_unfolding_all rfl) (by with_unfolding_all rfl) ?_)
  k_steps
  rename_i h1 tk1 t1 u1 v1 hr F1 N1 up1
  refine ⟨_, 0, 3, t1, u1, v1, 3, _, rfl, rfl, F1, N1, hr, rfl, rfl, by decide, ?turn, ?fin⟩
  case turn =>
    intro i C K h tk t E' hi up hK hc
    have F2 := F1.keeps up
    have N2 := N1.grown up
    obtain ⟨oK, hoK, dK⟩ := hc
    have N3 : News base L h [(K, oK), (L + 1 + 1, oE), (L + 1, oS), (D, LCg.lst ys)] := by
      intro p hp
      rcases List.mem_cons.mp hp with rfl | hp
      · refine ⟨hoK, fun e => ?_, ?_⟩
        · obtain ⟨o, _, _, q, _⟩ := F1.ns
          have e' : K = L := e
          rw [← e'] at q
          exact absurd (q.symm.trans hK) (by simp)
        · cases q : base.get? K with
          | none => rfl
          | some o => exact absurd ((F1.keep _ _ q).symm.trans hK) (by simp)
      · exact N2 p hp
    clear N2 hoK
    k_dflt (refine row_comp (fun k => decide (((k : Nat) : Int).fmod 3 = (i : Int))) (fun k => xs.getD k 0) (by with_unfolding_all rfl) (by decide) (by rfl) (by decide) (by with_unfolding_all rfl) ?_)
    clear F1 N1 up hK hr up1
    k_steps
    rename_i h2 tk2 t2 u2 v2 hr2 F2 N2 up2
    dsimp only at hr2 up2
    refine ⟨_, _, t2, u2, v2, xs.length, rfl, rfl, hr2, ?sm, ?rs, ?sz, ?test, ?elt, ?done⟩
    case sm =>
      have e : Builtin.Range.rangeSize 0 ((xs.length : Nat) : Int) 1 = ((xs.length : Nat) : Int) := by rw [rangeSize_one]; split <;> omega
      unfold Builtin.Range.small Builtin.Range.rangeFitsLong
      rw [e]
      simp
      omega
    case rs => rw [rangeSize_one]; split <;> omega
    case sz => exact Nat.le_trans hl (by decide)
    case test =>
      intro k C3 oC s₃ t3 m3 E3 hk up3 hC hoC nC mC
      have F3 := F2.keeps up3
      have N3 := N2.grown up3
      have N4 : News base L s₃.heap [(C3, oC), (K, oK), (L + 1 + 1, oE), (L + 1, oS), (D, LCg.lst ys)] := by
        intro p hp
        rcases List.mem_cons.mp hp with rfl | hp
        · refine ⟨hoC, fun e => ?_, ?_⟩
          · obtain ⟨o, _, _, q, _⟩ := F2.ns
            have e' : C3 = L := e
            rw [← e'] at q
            exact absurd (q.symm.trans hC) (by simp)
          · cases q : base.get? C3 with
            | none => rfl
            | some o => exact absurd ((F2.keep _ _ q).symm.trans hC) (by simp)
        · exact N3 p hp
      clear N2 N3 F2 hC hoC up3 up2 hr2
      k_steps
      refine ⟨?_, ⟨s₃.heap, _, rfl, fun _ _ e => e⟩⟩
      rw [Int.zero_add]
      rfl
    case elt =>
      intro k C3 oC s₃ t3 m3 E3 hk up3 hC hoC nC mC
      have F3 := F2.keeps up3
      have N3 := N2.grown up3
      have N4 : News base L s₃.heap [(C3, oC), (K, oK), (L + 1 + 1, oE), (L + 1, oS), (D, LCg.lst ys)] := by
        intro p hp
        rcases List.mem_cons.mp hp with rfl | hp
        · refine ⟨hoC, fun e => ?_, ?_⟩
          · obtain ⟨o, _, _, q, _⟩ := F2.ns
            have e' : C3 = L := e
            rw [← e'] at q
            exact absurd (q.symm.trans hC) (by simp)
          · cases q : base.get? C3 with
            | none => rfl
            | some o => exact absurd ((F2.keep _ _ q).symm.trans hC) (by simp)
        · exact N3 p hp
      clear N2 N3 F2 hC hoC up3 up2 hr2
      k_steps
      exact ⟨⟨_, by rw [Int.toNat_natCast]⟩, ⟨s₃.heap, _, rfl, fun _ _ e => e⟩⟩
    case done =>
      intro D' h' tk' vs nn hD ho hv up3
      refine ⟨⟨h', tk', rfl, fun b o e => up3 b o (up2 b o e)⟩, D', _, rfl, ?_, ho, vs, nn, rfl, hv⟩
      cases q : h.get? D' with
      | none => rfl
      | some o => exact absurd ((up2 _ _ q).symm.trans hD) (by simp)
  case fin =>
    intro R h3 tk3 rs F3 N3 hrl hP off
    clear N1 F1 hr up1
    obtain ⟨r0, r1, r2, rfl⟩ := three hrl
    obtain ⟨e0, o0⟩ := r0
    obtain ⟨e1, o1⟩ := r1
    obtain ⟨e2, o2⟩ := r2
    obtain ⟨vs0, n0, q0, i0⟩ := hP 0 _ rfl
    obtain ⟨vs1, n1, q1, i1⟩ := hP 1 _ rfl
    obtain ⟨vs2, n2, q2, i2⟩ := hP 2 _ rfl
    dsimp only at q0 q1 q2
    subst q0 q1 q2
    clear hP hrl
    exact cont R e0 e1 e2 vs0 vs1 vs2 n0 n1 n2 h3 tk3 F3 N3 i0 i1 i2
end Mine
end
section
open PySem PySem.Spec PySem.Calls PySem.W PyProof.Rows
set_option maxRecDepth 100000
set_option maxHeartbeats 8000000
namespace Mine
theorem store_cell {prog : Program} {w : World} {A : Around} {E : Value → Shared → Prop} {s : Shared} {h₀ : Heap} {L c : Addr} {m : PySem.Str → Option Value} {news : List (Addr × Obj)} {env : Env} {x : PySem.Str} {o : Obj} {v : Value} {v₀ : Option Value} {Q : Unit → Shared → Prop}
    (F : Fr h₀ L s.heap m) (N : News h₀ L s.heap news) (hm : (c, o) ∈ news) (hd : o.data = .cell v₀) (hk : env.scope.kind = .function) (hl : env.kindOf x = some .cell) (hc : env.cells.lookup x = some c)
    (h : ∀ h' o', Fr h₀ L h' m → News h₀ L h' ((c, o') :: off c news) → o'.data = .cell (some v) → Q () { s with heap := h' }) : wpAny (model prog w) A (storeName env x v) Q E s := by
  have z := N _ hm
  refine wpAny_storeName_cell hk hl hc ⟨o, z.1, hd⟩ fun h' hc' hs => ?_
  obtain ⟨o', e', d'⟩ := hc'
  refine h h' o' (F.change hs z.2.1 z.2.2) (fun p hp => ?_) d'
  rcases List.mem_cons.mp hp with rfl | hp
  · exact ⟨e', z.2⟩
  · obtain ⟨h1, h2⟩ := mem_off.mp hp
    exact ⟨(hs.2 _ h2).trans (N p h1).1, (N p h1).2⟩
theorem fr_unknow {h₀ h : Heap} {L : Addr} {m : PySem.Str → Option Value} {x : PySem.Str} {v : Option Value} (F : Fr h₀ L h (fun y => if y = x then v else m y)) (e : m x = v) : Fr h₀ L h m := (upd_know e).symm ▸ F
theorem law_empty {w : World} {base : Heap} {mean : ExcName → Option Value} {mg mb : PySem.Str → Option Value} {L fa S : Addr} {its : List Value} {ns : List Int} {cd : Value} {s : Shared} {m : PySem.Str → Option Value} {oE : Obj} {Q : Flow → Shared → Prop} {E : Value → Shared → Prop}
    {sc : Scope} (hsc : sc = lawScope w.params) {st : Stmt} (hst : some st = (lawBody w.params)[2]?) {rest : List Stmt}
    (K0 : Below callerA base [] base) (F : Fr base L s.heap m) (X : (Mine.hd.heap_39 w.params).In base) (T : Top Mine.hd.view_39 (looseW Mine.hd.view_39 []) mean mg mb base)
    (hS : base.IsList S its.toArray) (hi : IntsAre its ns) (hn : ns.length ≤ 63) (hm : m (Str.ofString "script") = some (.ref S))
    {news : List (Addr × Obj)} (N : News base L s.heap news) (hE : (L + 1 + 1, oE) ∈ news) (dE : oE.data = .cell none)
    (cont : ∀ c v news' o h tk, c = "list" ∨ c = "tuple" → Fr base L h m → News base L h news' → (∀ p ∈ news, p.1 ≠ L + 1 + 1 → p ∈ news') → SeqIn c news' (.ref v) [] → (L + 1 + 1, o) ∈ news' → o.data = .cell (some (.ref v)) →
      wpAny (model PySem.Challenge.rw_nb0374_01.row.prog w) (callerA.deeper (envOfC (Str.ofString "law") sc L fa cd)) (execs rest (envOfC (Str.ofString "law") sc L fa cd)) Q E { s with heap := h, toks := tk }) :
    wpAny (model PySem.Challenge.rw_nb0374_01.row.prog w) (callerA.deeper (envOfC (Str.ofString "law") sc L fa cd)) (execs (st :: rest) (envOfC (Str.ofString "law") sc L fa cd)) Q E s := by
  have hfill : PySem.Challenge.rw_nb0374_01 = PySem.Challenge.rw_nb0374_01 ∧ Mine.hd.heap_39 = Mine.hd.heap_39 := by (k_fill; exact ⟨rfl, rfl⟩)
  clear hfill
  w_on
  conv at hsc => rhs; whnf
  conv at hst => rhs; whnf
  have hst := Option.some.inj hst
  subst hsc hst
  have F1 := fr_know F hm
  clear F
  k_steps
  · rename_i v h' F2 N2 l1
    dsimp only
    k_dflt (refine store_cell F2 N2 (.tail _ hE) dE (by rfl) (by with_unfolding_all rfl) (by with_unfolding_all rfl) fun h2 o' F3 N3 d' => ?_)
    have lt := l1 _ hE
    refine cont "tuple" v _ o' h2 _ (by simp) (fr_unknow F3 hm) N3 (fun p hp hne => .tail _ (mem_off.mpr ⟨.tail _ hp, hne⟩)) ⟨v, [], _, rfl, .tail _ (mem_off.mpr ⟨.head _, Nat.ne_of_gt lt⟩), .nil⟩ (.head _) d'
  · rename_i v h' F2 N2 l1
    dsimp only
    k_dflt (refine store_cell F2 N2 (.tail _ hE) dE (by rfl) (by with_unfolding_all rfl) (by with_unfolding_all rfl) fun h2 o' F3 N3 d' => ?_)
    have lt := l1 _ hE
    refine cont "list" v _ o' h2 _ (by simp) (fr_unknow F3 hm) N3 (fun p hp hne => .tail _ (mem_off.mpr ⟨.tail _ hp, hne⟩)) ⟨v, [], _, rfl, .tail _ (mem_off.mpr ⟨.head _, Nat.ne_of_gt lt⟩), .nil⟩ (.head _) d'
end Mine
end
section
open PySem PySem.Spec PySem.Calls PySem.W PyProof.Rows
namespace Mine
open PyProof.Rows.LCg (lst lst_snoc)
/-- the ledger without the three objects of a comprehension -/
def off3 (z : Nat) (a : List (Addr × Obj)) : List (Addr × Obj) := a.filter fun p => !(p.1 == z) && (!(p.1 == z + 1) && !(p.1 == z + 2))
theorem mem_off3 {z : Nat} {a : List (Addr × Obj)} {p : Addr × Obj} : p ∈ off3 z a ↔ p ∈ a ∧ p.1 ≠ z ∧ p.1 ≠ z + 1 ∧ p.1 ≠ z + 2 := by simp [off3]
section
variable {prog : Program} {w : World} {A : Around} {E : Value → Shared → Prop} {s : Shared} {h₀ : Heap} {L : Addr} {m : PySem.Str → Option Value} {env : Env}
/-- what a turn leaves -/
def SeqEnd (h₀ : Heap) (L : Addr) (m : PySem.Str → Option Value) (a0 : List (Addr × Obj)) (R : List (Addr × Obj) → Prop) (s s₂ : Shared) : Prop :=
  ∃ h' tk' all, s₂ = { s with heap := h', toks := tk' } ∧ Fr h₀ L h' m ∧ News h₀ L h' all ∧ (∀ p ∈ a0, p ∈ all) ∧ R all
def SeqElt (h₀ : Heap) (L : Addr) (m : PySem.Str → Option Value) (a0 : List (Addr × Obj)) (R : Value → List (Addr × Obj) → Prop) (s : Shared) (y : Value) (s₂ : Shared) : Prop := SeqEnd h₀ L m a0 (R y) s s₂
def SeqTurn (prog : Program) (w : World) (A : Around) (h₀ : Heap) (L : Addr) (m : PySem.Str → Option Value) (cenv : Env) (elt : Expr) (a0 : List (Addr × Obj)) (Ry : Value → List (Addr × Obj) → Prop) (Rn : List (Addr × Obj) → Prop) (E' : Value → Shared → Prop) (s : Shared) (ok : Bool) (s₃ : Shared) : Prop :=
  if ok = true then wpAny (model prog w) A (eval elt cenv) (SeqElt h₀ L m a0 Ry s) E' s₃ else SeqEnd h₀ L m a0 Rn s s₃
def SeqSrc (prog : Program) (w : World) (A : Around) (h₀ : Heap) (L : Addr) (m : PySem.Str → Option Value) (env : Env) (elt : Expr) (ifs : List Expr) (x : PySem.Str) (scope : Scope) (cl : List (PySem.Str × Addr)) (J : Nat → List Value → List (Addr × Obj) → Prop)
    (Fin : Shared → Addr → List Value → List (Addr × Obj) → Prop) (xv : Value) (s₁ : Shared) : Prop :=
  ∃ ax its k news, xv = .ref ax ∧ A.handled = none ∧ Fr h₀ L s₁.heap m ∧ News h₀ L s₁.heap news ∧ (ax, seqOf "list" its k) ∈ news ∧ its.size ≤ sizeLine ∧ J 0 [] news ∧
   (∀ i v (z : Nat) oI oC m₂ ys newsA h tk E', its[i]? = some v → LCg.NsObj oC m₂ → m₂ x = some v → isSeq oI = false → Fr h₀ L h m → News h₀ L h ((z, oI) :: (z + 2, oC) :: (z + 1, lst ys) :: newsA) → (∀ p ∈ newsA, p.1 ≠ z ∧ p.1 ≠ z + 1 ∧ p.1 ≠ z + 2) → (∀ p ∈ news, p ∈ newsA) → J i ys newsA →
      wpAny (model prog w) A (forIn ifs true fun c r => if r = true then do let ok ← isTrue c (compEnvC scope cl (z + 2) env) (eval c (compEnvC scope cl (z + 2) env)); pure (ForInStep.yield ok) else pure (ForInStep.yield r))
        (SeqTurn prog w A h₀ L m (compEnvC scope cl (z + 2) env) elt ((z, oI) :: (z + 2, oC) :: (z + 1, lst ys) :: newsA) (fun y all => J (i + 1) (ys ++ [y]) (off3 z all)) (fun all => J (i + 1) ys (off3 z all)) E' { s₁ with heap := h, toks := tk }) E' { s₁ with heap := h, toks := tk }) ∧
   (∀ D ys news', (∀ p ∈ news, p ∈ news') → (∀ p ∈ news', p.1 ≠ D) → J its.size ys news' → Fin s₁ D ys news')
theorem seq_block {elt iter : Expr} {ifs : List Expr} {x : PySem.Str} {px : Pos} {scope : Scope} {cl : List (PySem.Str × Addr)} {pos : Pos} {J : Nat → List Value → List (Addr × Obj) → Prop} {Fin : Shared → Addr → List Value → List (Addr × Obj) → Prop} {xv : Value} {s₁ : Shared}
    {RR : Value → Addr → Result → Shared → Prop}
    (hcell : ∀ y ∈ scope.names, y.2 ≠ .cell) (hkind : scope.kind = .function) (hx : scope.names.lookup x = some .local)
    (h₁ : SeqSrc prog w A h₀ L m env elt ifs x scope cl J Fin xv s₁)
    (hRR : ∀ (D C : Nat) h tk m' ys news', Fr h₀ L h m → News h₀ L h ((D, lst ys) :: news') → h.Ns C m' → h₀.get? C = none → C ≠ L → D ≠ L → C ≠ D → (∀ p ∈ news', p.1 ≠ C) → Fin s₁ D ys news' → RR (.ref D) C (.ok .next) { s₁ with heap := h, toks := tk }) :
    wpAny (model prog w) A (pyIter xv) (fun it s₂ => wpAny (model prog w) A (newList []) (fun acc s₃ => wpAny (model prog w) A (newFunctionEnv scope env.globals cl [] env.qual none .none (some env)) (fun cenv s₄ =>
      codeAny (model prog w) A (.compStart (.ListComp elt [⟨.Name x px, iter, ifs, 0⟩] scope pos) 0 it acc { cenv with scope := relabel scope env }) (RR acc cenv.locals) s₄) E s₃) E s₂) E s₁ := by
  obtain ⟨ax, its, k, news, rfl, hh, F, N, hm, hsz, hJ, turn, fin⟩ := h₁
  have hl : s₁.heap.IsList ax its := ⟨_, (N _ hm).1, rfl, _, rfl⟩
  have hlt : ax < s₁.heap.objs.size := Heap.lt_size (N _ hm).1
  refine wpAny_pyIter_list hl ?_
  have W := Walks.list (prog := prog) (w := w) hh s₁.heap.objs.size ax (Nat.ne_of_lt hlt) its
  generalize hH1 : s₁.heap.push _ = H1
  have hst : H1.IsListIter s₁.heap.objs.size ax 0 ∧ H1.IsList ax its := by
    rw [← hH1]
    exact ⟨⟨_, Heap.get?_push_size _ rfl, rfl, rfl⟩, hl.push _⟩
  have hs1 : H1.objs.size = s₁.heap.objs.size + 1 := by rw [← hH1, Heap.size_push]
  have up1 : ∀ b o, s₁.heap.get? b = some o → H1.get? b = some o := fun b o e => hH1 ▸ Heap.get?_push_of_some _ e
  clear hH1
  refine wpAny_newObj_type (wpAny_newFunctionEnv hcell (by intro y hy; simp at hy) (fun h₁ hns₁ hsb₁ => ?_) hkind)
  dsimp only at hns₁ hsb₁ ⊢
  generalize hH2 : H1.push { cls := .type "list", dict := none, data := .seq ([] : List Value).toArray } = H2 at hns₁ hsb₁ ⊢
  have hs2 : H2.objs.size = s₁.heap.objs.size + 2 := by rw [← hH2, Heap.size_push, hs1]
  have hacc : h₁.get? H1.objs.size = some (lst []) := hsb₁.extBut _ _ (by rw [hs1, hs2]; exact Nat.ne_of_lt (Nat.lt_succ_self _)) (Heap.get?_push_of_some _ (hH2 ▸ Heap.get?_push_size _ rfl))
  have old : ∀ b o, H1.get? b = some o → h₁.get? b = some o := fun b o e => hsb₁.extBut b o (by have := Heap.lt_size e; rw [hs1] at this; rw [hs2]; exact Nat.ne_of_lt (Nat.lt_succ_of_lt this)) (Heap.get?_push_of_some _ (hH2 ▸ Heap.get?_push_of_some _ e))
  rw [hs1] at hacc ⊢
  rw [hs2] at hns₁ ⊢
  clear hsb₁ hH2 hs2
  generalize hz : s₁.heap.objs.size = z at *
  have lt : ∀ (b : Addr) (o : Obj), s₁.heap.get? b = some o → @LT.lt Nat _ b z := fun b o e => hz ▸ Heap.lt_size e
  have fresh₀ : ∀ b : Nat, z ≤ b → h₀.get? b = none := fun b hb => by
    cases e : h₀.get? b with
    | none => rfl
    | some o' => exact absurd (lt b o' (F.keep b o' e)) (Nat.not_lt.mpr hb)
  have hLz : @LT.lt Nat _ L z := hz ▸ F.ns.lt
  have hst₁ := W.frame _ _ _ hst fun b _ o e => old b o e
  have hax : @LT.lt Nat _ ax z := hlt
  have loop : ∀ s₃ : Shared, s₃ = { s₁ with heap := h₁, toks := s₁.toks + ([] : List (PySem.Str × Value)).length } →
      codeAny (model prog w) A (.compLoop (.ListComp elt [⟨.Name x px, iter, ifs, 0⟩] scope pos) 0 (.ref z) (.ref (z + 1)) (compEnvC scope cl (z + 2) env)) (RR (.ref (z + 1)) (z + 2)) s₃ := by
    rintro s₃ rfl
    refine codeAny_compLoop_tests
      (fun k s' => ∃ (h' : Heap) (tk : Nat) (i : Nat) (ys : List Value) (m' : PySem.Str → Option Value) (newsA : List (Addr × Obj)), s' = { s₁ with heap := h', toks := tk } ∧ i ≤ its.size ∧ k = its.size + 1 - i ∧ ys.length ≤ i ∧ (h'.IsListIter z ax i ∧ h'.IsList ax its) ∧ Fr h₀ L h' m ∧
        h'.Ns (z + 2) m' ∧ News h₀ L h' ((z + 1, lst ys) :: newsA) ∧ (∀ p ∈ newsA, p.1 ≠ z ∧ p.1 ≠ z + 1 ∧ p.1 ≠ z + 2) ∧ (∀ p ∈ news, p ∈ newsA) ∧ J i ys newsA) ?_ (its.size + 1)
      ⟨h₁, _, 0, [], _, news, rfl, Nat.zero_le _, rfl, Nat.le_refl _, hst₁, F.keeps fun b o e => old b o (up1 b o e), hns₁, fun p hp => ?_, fun p hp => ?_, fun _ hp => hp, hJ⟩
    · rintro k s' ⟨h', tk, i, ys, m', newsA, rfl, hi, rfl, hyl, hst', F', hn', N', off', sub', hJ'⟩
      by_cases hlt' : i < its.size
      · refine W.item i _ _ _ hlt' hst' fun v h₂ tk₂ hPv hst₂ hk₂ => ?_
        have k₂ : ∀ b o, b ≠ z → h'.get? b = some o → h₂.get? b = some o := fun b o hb e => hk₂ b o (fun q => hb (List.mem_singleton.mp q)) e
        clear hk₂
        refine wpAny_assign_Name (wpAny_storeName_local (lookup_relabel_local hx) (hn'.at' fun o e => k₂ _ o (Nat.ne_of_gt (by show @LT.lt Nat _ z (z + 2); omega)) e) (fun h₃ hn₃ hs₃ => ?_) (by simp [compEnvC, relabel, hkind]))
        have F₂ : Fr h₀ L h₂ m := ⟨F'.ns.at' fun o e => k₂ L o (Nat.ne_of_lt hLz) e, fun b o e => k₂ b o (fun q => by rw [q, fresh₀ z (Nat.le_refl _)] at e; cases e) (F'.keep b o e), F'.above⟩
        have F₃ : Fr h₀ L h₃ m := F₂.change hs₃ (Nat.ne_of_gt (by show @LT.lt Nat _ L (z + 2); omega)) (fresh₀ (z + 2) (by omega))
        have hst₃ := W.frame _ _ _ hst₂ fun b hb o e => hs₃.extBut b o (by
          rcases List.mem_cons.mp hb with q | q
          · rw [q]; exact Nat.ne_of_lt (by show @LT.lt Nat _ z (z + 2); omega)
          · rw [List.mem_singleton.mp q]; exact Nat.ne_of_lt (by show @LT.lt Nat _ ax (z + 2); omega)) e
        obtain ⟨⟨oI, heI, hcI, hdI⟩, hl₃⟩ := id hst₃
        obtain ⟨oC, heC, hoC⟩ := LCg.ns_obj hn₃
        have N₃ : News h₀ L h₃ ((z, oI) :: (z + 2, oC) :: (z + 1, lst ys) :: newsA) := fun p hp => by
          rcases List.mem_cons.mp hp with rfl | hp
          · exact ⟨heI, Nat.ne_of_gt hLz, fresh₀ _ (Nat.le_refl _)⟩
          · rcases List.mem_cons.mp hp with rfl | hp
            · exact ⟨heC, Nat.ne_of_gt (by show @LT.lt Nat _ L (z + 2); omega), fresh₀ _ (by omega)⟩
            · have q := N' p hp
              have ne : p.1 ≠ z ∧ p.1 ≠ z + 2 := by
                rcases List.mem_cons.mp hp with rfl | hp
                · exact ⟨Nat.ne_of_gt (by show @LT.lt Nat _ z (z + 1); omega), Nat.ne_of_lt (by show @LT.lt Nat _ (z + 1) (z + 2); omega)⟩
                · exact ⟨(off' p hp).1, (off' p hp).2.2⟩
              exact ⟨hs₃.extBut _ _ ne.2 (k₂ _ _ ne.1 q.1), q.2⟩
        refine wpAny_mono (turn i v z oI oC _ ys newsA h₃ _ _ hPv hoC (by simp) (by simp [isSeq, hdI]) F₃ N₃ off' sub' hJ') (fun ok s₄ h₄ => ?_) fun _ _ e => e
        unfold SeqTurn at h₄
        have after : ∀ (h₄ : Heap) (all : List (Addr × Obj)), Fr h₀ L h₄ m → News h₀ L h₄ all → (∀ p ∈ (z, oI) :: (z + 2, oC) :: (z + 1, lst ys) :: newsA, p ∈ all) → (h₄.IsListIter z ax (i + 1) ∧ h₄.IsList ax its) ∧ h₄.Ns (z + 2) (fun y => if y = x then some v else m' y) ∧ h₄.get? (z + 1) = some (lst ys) := fun h₄ all F₄ N₄ sub₄ => by
          have e1 := (N₄ _ (sub₄ _ (.head _))).1
          have e2 := (N₄ _ (sub₄ _ (.tail _ (.head _)))).1
          have e3 := (N₄ _ (sub₄ _ (.tail _ (.tail _ (.head _))))).1
          have e4 := (N₄ _ (sub₄ _ (.tail _ (.tail _ (.tail _ (sub' _ hm)))))).1
          exact ⟨⟨⟨oI, e1, hcI, hdI⟩, ⟨_, e4, rfl, _, rfl⟩⟩, hoC.ns e2, e3⟩
        by_cases hok : ok = true
        · rw [if_pos hok] at h₄ ⊢
          refine wpAny_mono h₄ (fun y' s₅ h₅ => ?_) fun _ _ e => e
          obtain ⟨h₄, tk₄, all, rfl, F₄, N₄, sub₄, J₄⟩ := h₅
          obtain ⟨st₄, ns₄, zD⟩ := after h₄ all F₄ N₄ sub₄
          refine append_at (hsz := by show ys.toArray.size ≤ sizeLine; rw [List.size_toArray]; omega) zD fun h₅ hs₅ hD₅ => ?_
          refine ⟨its.size + 1 - (i + 1), by omega, h₅, tk₄, i + 1, ys ++ [y'], _, off3 z all, rfl, hlt', rfl, by rw [List.length_append, List.length_singleton]; omega, ?_, ?_, ns₄.sameBut hs₅ (Nat.ne_of_gt (by show @LT.lt Nat _ (z + 1) (z + 2); omega)), ?_, fun p hp => (mem_off3.mp hp).2, ?_, J₄⟩
          · exact W.frame _ _ _ st₄ fun b hb o e => hs₅.extBut b o (by
              rcases List.mem_cons.mp hb with q | q
              · rw [q]; exact Nat.ne_of_lt (by show @LT.lt Nat _ z (z + 1); omega)
              · rw [List.mem_singleton.mp q]; exact Nat.ne_of_lt (by show @LT.lt Nat _ ax (z + 1); omega)) e
          · exact F₄.change hs₅ (Nat.ne_of_gt (by show @LT.lt Nat _ L (z + 1); omega)) (fresh₀ _ (by omega))
          · intro p hp
            rcases List.mem_cons.mp hp with rfl | hp
            · exact ⟨hD₅.trans (congrArg some (lst_snoc ys y')), Nat.ne_of_gt (by show @LT.lt Nat _ L (z + 1); omega), fresh₀ _ (by omega)⟩
            · obtain ⟨q1, q2⟩ := mem_off3.mp hp
              exact ⟨hs₅.extBut _ _ q2.2.1 (N₄ p q1).1, (N₄ p q1).2⟩
          · intro p hp
            have := sub' p hp
            exact mem_off3.mpr ⟨sub₄ p (.tail _ (.tail _ (.tail _ this))), off' p this⟩
        · rw [if_neg hok] at h₄ ⊢
          obtain ⟨h₄, tk₄, all, rfl, F₄, N₄, sub₄, J₄⟩ := h₄
          obtain ⟨st₄, ns₄, zD⟩ := after h₄ all F₄ N₄ sub₄
          refine ⟨its.size + 1 - (i + 1), by omega, h₄, tk₄, i + 1, ys, _, off3 z all, rfl, hlt', rfl, by omega, st₄, F₄, ns₄, ?_, fun p hp => (mem_off3.mp hp).2, ?_, J₄⟩
          · intro p hp
            rcases List.mem_cons.mp hp with rfl | hp
            · exact ⟨zD, Nat.ne_of_gt (by show @LT.lt Nat _ L (z + 1); omega), fresh₀ _ (by omega)⟩
            · exact N₄ p (mem_off3.mp hp).1
          · intro p hp
            have := sub' p hp
            exact mem_off3.mpr ⟨sub₄ p (.tail _ (.tail _ (.tail _ this))), off' p this⟩
      · obtain rfl : i = its.size := Nat.le_antisymm hi (Nat.not_lt.mp hlt')
        refine W.done _ _ _ hst' fun h₂ tk₂ hk₂ => ?_
        have k₂ : ∀ b o, b ≠ z → h'.get? b = some o → h₂.get? b = some o := fun b o hb e => hk₂ b o (fun q => hb (List.mem_singleton.mp q)) e
        clear hk₂
        have F₂ : Fr h₀ L h₂ m := ⟨F'.ns.at' fun o e => k₂ L o (Nat.ne_of_lt hLz) e, fun b o e => k₂ b o (fun q => by rw [q, fresh₀ z (Nat.le_refl _)] at e; cases e) (F'.keep b o e), F'.above⟩
        refine hRR (z + 1) (z + 2) h₂ tk₂ _ ys newsA F₂ (fun p hp => ?_) (hn'.at' fun o e => k₂ _ o (Nat.ne_of_gt (by show @LT.lt Nat _ z (z + 2); omega)) e) (fresh₀ _ (by omega)) (Nat.ne_of_gt (by show @LT.lt Nat _ L (z + 2); omega)) (Nat.ne_of_gt (by show @LT.lt Nat _ L (z + 1); omega)) (Nat.ne_of_gt (by omega)) (fun p hp => (off' p hp).2.2)
          (fin (z + 1) ys newsA sub' (fun p hp => (off' p hp).2.1) hJ')
        have q := N' p hp
        refine ⟨k₂ _ _ ?_ q.1, q.2⟩
        rcases List.mem_cons.mp hp with rfl | hp
        · exact Nat.ne_of_gt (by show @LT.lt Nat _ z (z + 1); omega)
        · exact (off' p hp).1
    · rcases List.mem_cons.mp hp with rfl | hp
      · exact ⟨hacc, Nat.ne_of_gt (by show @LT.lt Nat _ L (z + 1); omega), fresh₀ _ (by omega)⟩
      · exact ⟨old _ _ (up1 _ _ (N p hp).1), (N p hp).2⟩
    · have := lt _ _ (N p hp).1
      exact ⟨Nat.ne_of_lt this, Nat.ne_of_lt (by omega), Nat.ne_of_lt (by omega)⟩
  exact codeAny_compStart_list (loop _ rfl) (W.self 0 _ _ _ hst₁ (loop _ rfl))
def SeqFinA (h₀ : Heap) (L : Addr) (m : PySem.Str → Option Value) (y : PySem.Str) (Q : Flow → Shared → Prop) (s : Shared) (D : Addr) (ys : List Value) (news : List (Addr × Obj)) : Prop :=
  ∀ h tk, Fr h₀ L h (fun z => if z = y then some (.ref D) else m z) → News h₀ L h ((D, lst ys) :: news) → Q .next { s with heap := h, toks := tk }
def SeqFinE (h₀ : Heap) (L : Addr) (m : PySem.Str → Option Value) (Q : Value → Shared → Prop) (s : Shared) (D : Addr) (ys : List Value) (news : List (Addr × Obj)) : Prop :=
  ∀ h tk, Fr h₀ L h m → News h₀ L h ((D, lst ys) :: news) → Q (.ref D) { s with heap := h, toks := tk }
theorem ListComp_seq {elt iter : Expr} {ifs : List Expr} {x : PySem.Str} {px : Pos} {scope : Scope} {cl : List (PySem.Str × Addr)} {pos : Pos} {Q : Value → Shared → Prop} (J : Nat → List Value → List (Addr × Obj) → Prop)
    (hclos : closureFor scope env = pure cl) (hcell : ∀ y ∈ scope.names, y.2 ≠ .cell) (hkind : scope.kind = .function)
    (hnames : ∀ y ∈ scope.names, y.2 = .local → scope.names.lookup y.1 = some .local) (hx : scope.names.lookup x = some .local)
    (h : wpAny (model prog w) A (eval iter env) (SeqSrc prog w A h₀ L m env elt ifs x scope cl J (SeqFinE h₀ L m Q)) E s)
    (hs : ∀ x, foldedSetIterable iter env x = pure x := by intro _; rfl) :
    wpAny (model prog w) A (eval (.ListComp elt [⟨.Name x px, iter, ifs, 0⟩] scope pos) env) Q E s := by
  rw [eval_ListComp]
  refine wpAny_comprehension_free (use := none) rfl hs hclos hkind hnames (wpAny_mono h (fun xv s₁ h₁ => ?_) fun _ _ e => e)
  refine seq_block hcell hkind hx h₁ ?_
  intro D C h tk m' ys news' F' N' hn hC₀ hCL hDL hCD offC fin
  refine ⟨m', hn, fun h'' hs'' => fin h'' tk (F'.change hs'' hCL hC₀) (fun p hp => ?_)⟩
  refine ⟨hs''.extBut _ _ ?_ (N' p hp).1, (N' p hp).2⟩
  rcases List.mem_cons.mp hp with rfl | hp
  · exact Ne.symm hCD
  · exact offC p hp
theorem Assign_ListComp_seq {elt iter : Expr} {ifs : List Expr} {x y : PySem.Str} {px py : Pos} {scope : Scope} {cl : List (PySem.Str × Addr)} {pos spos : Pos} {Q : Flow → Shared → Prop} (J : Nat → List Value → List (Addr × Obj) → Prop) (hLe : env.locals = L)
    (hsw : swapsWith (.ListComp elt [⟨.Name x px, iter, ifs, 0⟩] scope pos) (some (.Name y py)) spos.line env = pure true)
    (hclos : closureFor scope env = pure cl) (hcell : ∀ z ∈ scope.names, z.2 ≠ .cell) (hkind : scope.kind = .function)
    (hnames : ∀ z ∈ scope.names, z.2 = .local → scope.names.lookup z.1 = some .local) (hx : scope.names.lookup x = some .local)
    (hy : env.kindOf y = some .local) (hp : (env.scope.kind == .class || (env.scope.kind == .module && env.locals != env.globals)) = false)
    (h : wpAny (model prog w) A (eval iter env) (SeqSrc prog w A h₀ L m env elt ifs x scope cl J (SeqFinA h₀ L m y Q)) E s)
    (hs : ∀ x, foldedSetIterable iter env x = pure x := by intro _; rfl) :
    wpAny (model prog w) A (exec (.Assign [.Name y py] (.ListComp elt [⟨.Name x px, iter, ifs, 0⟩] scope pos) spos) env) Q E s := by
  subst hLe
  rw [exec_Assign_Name_used _ _ _ _ hsw]
  refine wpAny_bind (wpAny_standAt (wpAny_bind ?_))
  show wpAny _ A (do let _ ← comprehension (.ListComp elt [⟨.Name x px, iter, ifs, 0⟩] scope pos) scope env _ (newList []) false (eval iter env) (some (assign (.Name y py) env))) _ _ s
  refine wpAny_bind (wpAny_mono (wpAny_comprehension_free (use := some (assign (.Name y py) env)) (Q := fun _ s' => Q .next s') rfl hs hclos hkind hnames
    (wpAny_mono h (fun xv s₁ h₁ => ?_) fun _ _ e => e)) (fun _ s' hq => wpAny_pure (wpAny_pure hq)) fun _ _ e => e)
  refine seq_block hcell hkind hx h₁ ?_
  intro D C h' tk m' ys news' F' N' hn hC₀ hCL hDL hCD offC fin
  show wpAny _ A (assign (.Name y py) env (.ref D)) _ _ _
  refine wpAny_assign_Name (wpAny_storeName_local hy F'.ns (fun h₂ hn₂ hs₂ => ?_) hp)
  have hL₀ : h₀.get? env.locals = none := Heap.get?_none_of_le F'.above
  have F₂ : Fr h₀ env.locals h₂ (fun z => if z = y then some (.ref D) else m z) := ⟨hn₂, fun b o e => hs₂.extBut b o (fun q => by rw [q, hL₀] at e; cases e) (F'.keep b o e), F'.above⟩
  refine ⟨m', hn.sameBut hs₂ hCL, fun h'' hs'' => fin h'' _ (F₂.change hs'' hCL hC₀) (fun p hp => ?_)⟩
  have q : h₂.get? p.1 = some p.2 := hs₂.extBut _ _ (N' p hp).2.1 (N' p hp).1
  refine ⟨hs''.extBut _ _ ?_ q, (N' p hp).2⟩
  rcases List.mem_cons.mp hp with rfl | hp
  · exact Ne.symm hCD
  · exact offC p hp
end
end Mine
end
section
open PySem PySem.Spec PySem.Calls PySem.W PyProof.Rows
set_option maxRecDepth 100000
set_option maxHeartbeats 8000000
namespace Mine
theorem SeqIn.off3 {c : String} {z : Nat} {a : List (Addr × Obj)} {v : Value} {ns : List Int} (h : SeqIn c a v ns) (h0 : v ≠ .ref z) (h1 : v ≠ .ref (z + 1)) (h2 : v ≠ .ref (z + 2)) : SeqIn c (off3 z a) v ns := by
  obtain ⟨x, vs, n, rfl, hm, hi⟩ := h
  exact ⟨x, vs, n, rfl, mem_off3.mpr ⟨hm, fun e => h0 (by rw [← e]), fun e => h1 (by rw [← e]), fun e => h2 (by rw [← e])⟩, hi⟩
theorem SeqIn.old3 {c : String} {z : Nat} {a b : List (Addr × Obj)} {v : Value} {ns : List Int} (h : SeqIn c a v ns) (ha : ∀ p ∈ a, p.1 ≠ z ∧ p.1 ≠ z + 1 ∧ p.1 ≠ z + 2) (hb : ∀ p ∈ a, p ∈ b) : SeqIn c (Mine.off3 z b) v ns :=
  h.mono fun p hp => mem_off3.mpr ⟨hb p hp, ha p hp⟩
/-- an object on the ledger that is no such sequence -/
theorem SeqIn.other {c : String} {h₀ h : Heap} {L : Addr} {a : List (Addr × Obj)} {v : Value} {ns : List Int} {x : Addr} {o : Obj} (N : News h₀ L h a) (i : SeqIn c a v ns) (hm : (x, o) ∈ a) (ho : isSeq o = false ∨ o.cls ≠ .type c) : v ≠ .ref x := by
  obtain ⟨y, vs, n, rfl, hy, _⟩ := i
  intro e
  injection e with e
  subst e
  have e1 := (N _ hm).1
  have e2 := (N _ hy).1
  have e3 := Option.some.inj (e1.symm.trans e2)
  dsimp only at e3
  rcases ho with q | q
  · rw [e3] at q; simp [isSeq] at q
  · rw [e3] at q; exact q rfl
theorem SeqTurn.yes {prog : Program} {w : World} {A : Around} {h₀ : Heap} {L : Addr} {m : PySem.Str → Option Value} {cenv : Env} {elt : Expr} {a0 : List (Addr × Obj)} {Ry : Value → List (Addr × Obj) → Prop} {Rn : List (Addr × Obj) → Prop} {E' : Value → Shared → Prop} {s s₃ : Shared}
    (h : wpAny (model prog w) A (eval elt cenv) (SeqElt h₀ L m a0 Ry s) E' s₃) : SeqTurn prog w A h₀ L m cenv elt a0 Ry Rn E' s true s₃ := by
  unfold SeqTurn
  rw [if_pos rfl]
  exact h
theorem nsobj_notseq {o : Obj} {m : PySem.Str → Option Value} (h : LCg.NsObj o m) : isSeq o = false := by
  obtain ⟨es, ep, hd, _⟩ := h
  simp [isSeq, hd]
local macro_rules | `(tactic| walk_at "mine.toComp") => `(tactic| repeat' ((fail_if_success (with_reducible show wpAny _ _ (exec (Stmt.Assign _ (Expr.ListComp _ _ _ _) _) _) _ _ _)); (first | (k_unfold; (try dsimp only)) | walk1 | (dsimp only; walk1) | (leave1; walk_say "STEP leave1"; (try dsimp only)) | fail "no step")))
local macro_rules | `(tactic| walk_at "mine.toCall") => `(tactic| repeat' ((fail_if_success (with_reducible show wpAny _ _ (call (Value.ref _) _) _ _ _)); (first | (k_unfold; (try dsimp only)) | walk1 | (dsimp only; walk1) | (leave1; walk_say "STEP leave1"; (try dsimp only)) | fail "no step")))
local macro_rules | `(tactic| walk_at "eval Name") => `(tactic| ((with_reducible show wpAny _ _ (eval (Expr.Name _ _) (compEnvC _ _ _ _)) _ _ _); k_dflt (refine' lcf_cell ?N ?c ?m ?d ?_ ?a ?b; (case a => rfl); (case b => rfl); (case N => k_asm); (case c => rfl); (case m => exact List.Mem.tail _ (List.Mem.tail _ (List.Mem.tail _ (by assumption)))); (case d => assumption))))
theorem law_words {w : World} {base : Heap} {mean : ExcName → Option Value} {mg mb : PySem.Str → Option Value} {L fa R ve : Addr} {cd : Value} {s : Shared} {m : PySem.Str → Option Value} {oE : Obj} {c : String} {rs : List Value} {k : Nat} {rw' : Nat → List Int} {Q : Flow → Shared → Prop} {E : Value → Shared → Prop}
    {sc : Scope} (hsc : sc = lawScope w.params) {st : Stmt} (hst : some st = (lawBody w.params)[3]?) {rest : List Stmt}
    (K0 : Below callerA base [] base) (F : Fr base L s.heap m) (X : (Mine.hd.heap_39 w.params).In base) (T : Top Mine.hd.view_39 (looseW Mine.hd.view_39 []) mean mg mb base)
    (hm : m (Str.ofString "rows") = some (.ref R)) (hc : c = "list" ∨ c = "tuple")
    {news : List (Addr × Obj)} (N : News base L s.heap news) (hE : (L + 1 + 1, oE) ∈ news) (dE : oE.data = .cell (some (.ref ve))) (ie : SeqIn c news (.ref ve) [])
    (hR : (R, seqOf "list" rs.toArray k) ∈ news) (hr3 : rs.length = 3) (hr : ∀ (i : Nat) v, rs[i]? = some v → SeqIn "list" news v (rw' i)) (hrl : ∀ i, (rw' i).length ≤ 500)
    (cont : ∀ W ws news' h tk, Fr base L h (fun z => if z = Str.ofString "words" then some (.ref W) else m z) → News base L h news' → (∀ p ∈ news, p ∈ news') → (W, LCg.lst ws) ∈ news' → ws.length = 3 → (∀ (i : Nat) v, ws[i]? = some v → SeqIn c news' v (wordOf (rw' i))) →
      wpAny (model PySem.Challenge.rw_nb0374_01.row.prog w) (callerA.deeper (envOfC (Str.ofString "law") sc L fa cd)) (execs rest (envOfC (Str.ofString "law") sc L fa cd)) Q E { s with heap := h, toks := tk }) :
    wpAny (model PySem.Challenge.rw_nb0374_01.row.prog w) (callerA.deeper (envOfC (Str.ofString "law") sc L fa cd)) (execs (st :: rest) (envOfC (Str.ofString "law") sc L fa cd)) Q E s := by
  have hfill : PySem.Challenge.rw_nb0374_01 = PySem.Challenge.rw_nb0374_01 ∧ Mine.hd.heap_39 = Mine.hd.heap_39 := by (k_fill; exact ⟨rfl, rfl⟩)
  clear hfill
  w_on
  conv at hsc => rhs; whnf
  conv at hst => rhs; whnf
  have hst := Option.some.inj hst
  subst hsc hst
  walk_at "mine.toComp"
  k_dflt (refine Assign_ListComp_seq (h₀ := base) (L := L) (m := m) (x := Str.ofString "row") (y := Str.ofString "words") (cl := [(Str.ofString "empty", L + 1 + 1)]) (J := fun i ys a => ys.length = i ∧ ∀ (j : Nat) v, ys[j]? = some v → SeqIn c a v (wordOf (rw' j))) rfl (by with_unfolding_all rfl) (by with_unfolding_all rfl) (by decide) rfl (by decide) (by with_unfolding_all rfl) (by with_unfolding_all rfl) (by with_unfolding_all rfl) ?_)
  have F1 := fr_know F hm
  clear F
  k_steps
  refine ⟨R, rs.toArray, k, news, rfl, rfl, fr_unknow F1 hm, N, hR, by rw [List.size_toArray, hr3]; decide, ⟨rfl, fun j v e => by simp at e⟩, ?turn, ?fin⟩
  case turn =>
    intro i v z oI oC m₂ ys newsA h tk E' hv nC mC qI F2 N2 offA subA hJ
    refine wpAny_tests_nil (SeqTurn.yes ?_)
    have iv := (hr i v (by simpa using hv)).mono subA
    have hE2 := subA _ hE
    have ie2 := ie.mono subA
    obtain ⟨l1, vs1, n1, rfl, m1, j1⟩ := iv
    clear F1 N
    walk_at "mine.toCall"
    k_dflt (refine' Does.use (word_ok hc (⟨l1, vs1, n1, rfl, .tail _ (.tail _ (.tail _ m1)), j1⟩ : SeqIn "list" _ _ (rw' i)) ie2.cons.cons.cons (hrl i)) ?k1 ?k2 ?k3 ?k4 ?k5 ?k6 ?k7 ?k8 ?_)
    case k1 => k_asm
    case k2 => k_asm
    case k3 => k_asm
    case k4 => k_asm
    case k5 => k_asm
    case k6 => rfl
    case k7 => ktr_room
    case k8 => ktr_units
    intro r1 news1 h1 tk1 Fx1 Nx1 sub1 o1
    try dsimp only
    k_steps
    refine ⟨h1, tk1, news1, rfl, Fx1, Nx1, sub1, ?_, ?_⟩
    · rw [List.length_append, hJ.1]; rfl
    · intro j v e
      by_cases hj : j < ys.length
      · rw [List.getElem?_append_left hj] at e
        exact (hJ.2 j v e).old3 offA fun p hp => sub1 _ (.tail _ (.tail _ (.tail _ hp)))
      · rw [List.getElem?_append_right (by omega)] at e
        have ej : j = i := by
          have h9 : j - ys.length < [r1].length := (List.getElem?_eq_some_iff.mp e).1
          have := hJ.1
          simp at h9
          omega
        subst ej
        rw [hJ.1, Nat.sub_self] at e
        have e := Option.some.inj e
        subst e
        refine o1.1.off3 (o1.1.other Nx1 (sub1 _ (.head _)) (.inl qI)) ?_ (o1.1.other Nx1 (sub1 _ (.tail _ (.head _))) (.inl (nsobj_notseq nC)))
        rcases hc with rfl | rfl
        · rcases o1.2 rfl with q | q
          · obtain ⟨x, _, _, e, hm', _⟩ := ie2
            rw [q, e]
            intro e'
            injection e' with e'
            exact (offA _ hm').2.1 e'
          · exact q _ (.tail _ (.tail _ (.head _)))
        · exact o1.1.other Nx1 (sub1 _ (.tail _ (.tail _ (.head _)))) (.inr (by show Value.type "list" ≠ Value.type "tuple"; decide))
  case fin =>
    intro D ys news' sub' off' hJ h tk F2 N2
    dsimp only
    exact cont D ys _ h tk F2 N2 (fun p hp => .tail _ (sub' p hp)) (.head _) (by rw [hJ.1, List.size_toArray, hr3]) (fun i v e => (hJ.2 i v e).cons)
end Mine
end
section
open PySem PySem.Spec PySem.Calls PySem.W PyProof.Rows
set_option maxRecDepth 100000
set_option maxHeartbeats 8000000
namespace Mine
local macro_rules | `(tactic| walk_at "mine.toComp") => `(tactic| repeat' ((fail_if_success (with_reducible show wpAny _ _ (exec (Stmt.Assign _ (Expr.ListComp _ _ _ _) _) _) _ _ _)); (first | (k_unfold; (try dsimp only)) | walk1 | (dsimp only; walk1) | (leave1; walk_say "STEP leave1"; (try dsimp only)) | fail "no step")))
local macro_rules | `(tactic| walk_at "mine.toCall") => `(tactic| repeat' ((fail_if_success (with_reducible show wpAny _ _ (call (Value.ref _) _) _ _ _)); (first | (k_unfold; (try dsimp only)) | walk1 | (dsimp only; walk1) | (leave1; walk_say "STEP leave1"; (try dsimp only)) | fail "no step")))
local macro_rules | `(tactic| walk_at "eval Name") => `(tactic| ((with_reducible show wpAny _ _ (eval (Expr.Name _ _) (compEnvC _ _ _ _)) _ _ _); k_dflt (refine' lcf_cell ?N ?c ?m ?d ?_ ?a ?b; (case a => rfl); (case b => rfl); (case N => k_asm); (case c => rfl); (case m => exact List.Mem.tail _ (List.Mem.tail _ (List.Mem.tail _ (by assumption)))); (case d => assumption))))
theorem law_squares {w : World} {base : Heap} {mean : ExcName → Option Value} {mg mb : PySem.Str → Option Value} {L fa R : Addr} {cd : Value} {s : Shared} {m : PySem.Str → Option Value} {rs : List Value} {k : Nat} {rw' : Nat → List Int} {Q : Flow → Shared → Prop} {E : Value → Shared → Prop}
    {sc : Scope} (hsc : sc = lawScope w.params) {st : Stmt} (hst : some st = (lawBody w.params)[4]?) {rest : List Stmt}
    (K0 : Below callerA base [] base) (F : Fr base L s.heap m) (X : (Mine.hd.heap_39 w.params).In base) (T : Top Mine.hd.view_39 (looseW Mine.hd.view_39 []) mean mg mb base)
    (hm : m (Str.ofString "rows") = some (.ref R))
    {news : List (Addr × Obj)} (N : News base L s.heap news)
    (hR : (R, seqOf "list" rs.toArray k) ∈ news) (hr3 : rs.length = 3) (hr : ∀ (i : Nat) v, rs[i]? = some v → SeqIn "list" news v (rw' i)) (hrs : ∀ i, ∀ x ∈ rw' i, -2 ≤ x ∧ x ≤ 2) (hrf : ∀ i j, (prod ((rw' i).take j)).Fits)
    (cont : ∀ W ws news' h tk, Fr base L h (fun z => if z = Str.ofString "squares" then some (.ref W) else m z) → News base L h news' → (∀ p ∈ news, p ∈ news') → (W, LCg.lst ws) ∈ news' → ws.length = 3 → (∀ (i : Nat) v, ws[i]? = some v → SeqIn "list" news' v (prod (rw' i)).l) →
      wpAny (model PySem.Challenge.rw_nb0374_01.row.prog w) (callerA.deeper (envOfC (Str.ofString "law") sc L fa cd)) (execs rest (envOfC (Str.ofString "law") sc L fa cd)) Q E { s with heap := h, toks := tk }) :
    wpAny (model PySem.Challenge.rw_nb0374_01.row.prog w) (callerA.deeper (envOfC (Str.ofString "law") sc L fa cd)) (execs (st :: rest) (envOfC (Str.ofString "law") sc L fa cd)) Q E s := by
  have hfill : PySem.Challenge.rw_nb0374_01 = PySem.Challenge.rw_nb0374_01 ∧ Mine.hd.heap_39 = Mine.hd.heap_39 := by (k_fill; exact ⟨rfl, rfl⟩)
  clear hfill
  w_on
  conv at hsc => rhs; whnf
  conv at hst => rhs; whnf
  have hst := Option.some.inj hst
  subst hsc hst
  walk_at "mine.toComp"
  k_dflt (refine Assign_ListComp_seq (h₀ := base) (L := L) (m := m) (x := Str.ofString "row") (y := Str.ofString "squares") (cl := []) (J := fun i ys a => ys.length = i ∧ ∀ (j : Nat) v, ys[j]? = some v → SeqIn "list" a v (prod (rw' j)).l) rfl (by with_unfolding_all rfl) (by with_unfolding_all rfl) (by decide) rfl (by decide) (by with_unfolding_all rfl) (by with_unfolding_all rfl) (by with_unfolding_all rfl) ?_)
  have F1 := fr_know F hm
  clear F
  k_steps
  refine ⟨R, rs.toArray, k, news, rfl, rfl, fr_unknow F1 hm, N, hR, by rw [List.size_toArray, hr3]; decide, ⟨rfl, fun j v e => by simp at e⟩, ?turn, ?fin⟩
  case turn =>
    intro i v z oI oC m₂ ys newsA h tk E' hv nC mC qI F2 N2 offA subA hJ
    refine wpAny_tests_nil (SeqTurn.yes ?_)
    have iv := (hr i v (by simpa using hv)).mono subA
    obtain ⟨l1, vs1, n1, rfl, m1, j1⟩ := iv
    clear F1 N
    walk_at "mine.toCall"
    k_dflt (refine' Does.use (product_ok (⟨l1, vs1, n1, rfl, .tail _ (.tail _ (.tail _ m1)), j1⟩ : SeqIn "list" _ _ (rw' i)) (hrs i) (hrf i)) ?k1 ?k2 ?k3 ?k4 ?k5 ?k6 ?k7 ?k8 ?_)
    case k1 => k_asm
    case k2 => k_asm
    case k3 => k_asm
    case k4 => k_asm
    case k5 => k_asm
    case k6 => rfl
    case k7 => ktr_room
    case k8 => ktr_units
    intro r1 news1 h1 tk1 Fx1 Nx1 sub1 o1
    try dsimp only
    k_steps
    refine ⟨h1, tk1, news1, rfl, Fx1, Nx1, sub1, ?_, ?_⟩
    · rw [List.length_append, hJ.1]; rfl
    · intro j v e
      by_cases hj : j < ys.length
      · rw [List.getElem?_append_left hj] at e
        exact (hJ.2 j v e).old3 offA fun p hp => sub1 _ (.tail _ (.tail _ (.tail _ hp)))
      · rw [List.getElem?_append_right (by omega)] at e
        have ej : j = i := by
          have h9 : j - ys.length < [r1].length := (List.getElem?_eq_some_iff.mp e).1
          have := hJ.1
          simp at h9
          omega
        subst ej
        rw [hJ.1, Nat.sub_self] at e
        have e := Option.some.inj e
        subst e
        refine o1.1.off3 (o1.1.other Nx1 (sub1 _ (.head _)) (.inl qI)) ?_ (o1.1.other Nx1 (sub1 _ (.tail _ (.head _))) (.inl (nsobj_notseq nC)))
        exact o1.2 _ (.tail _ (.tail _ (.head _)))
  case fin =>
    intro D ys news' sub' off' hJ h tk F2 N2
    dsimp only
    exact cont D ys _ h tk F2 N2 (fun p hp => .tail _ (sub' p hp)) (.head _) (by rw [hJ.1, List.size_toArray, hr3]) (fun i v e => (hJ.2 i v e).cons)
end Mine
end
section
open PySem PySem.Spec PySem.Calls PySem.W PyProof.Rows
namespace Mine
section
variable {prog : Program} {w : World} {A : Around} {E : Value → Shared → Prop} {s : Shared} {env : Env} {h₀ : Heap} {x : PySem.Str} {body : List Stmt} {Q : Flow → Shared → Prop}
theorem ne_same {L : Addr} {news : List (Addr × Obj)} {v1 v2 : Value} {ns : List Int} {Q : Value → Shared → Prop} (N : News h₀ L s.heap news) (h1 : SeqIn "list" news v1 ns) (h2 : SeqIn "list" news v2 ns) (hu : A.units + 64 < cLine) (h : Q (.bool false) s) :
    wpAny (model prog w) A (compareOp .NotEq v1 v2) Q E s := by
  obtain ⟨a, vs, n, rfl, hm, hi⟩ := h1
  obtain ⟨b, us, k, rfl, hn, hj⟩ := h2
  refine ke_ne_ints (News.isList N hm) (News.isList N hn) hi hj hu ?_
  rw [decide_eq_true rfl]
  exact h
theorem loop_range {r : Addr} {b : Int} {t u v : Tok} {n : Nat} {m₀ : PySem.Str → Option Value} {news : List (Addr × Obj)} (J : Nat → (PySem.Str → Option Value) → List (Addr × Obj) → Prop)
    (mono : ∀ i m a b, SubS a b → J i m a → J i m b)
    (hh : A.handled = none) (hr : IsRange s.heap r 0 b 1 t u v) (hsm : Builtin.Range.small 0 b 1 = true) (hn : Builtin.Range.rangeSize 0 b 1 = ((n : Nat) : Int)) (F : Fr h₀ env.locals s.heap m₀) (N : News h₀ env.locals s.heap news) (hj : J 0 m₀ news)
    (turn : ∀ i t m₁ newsA h tk, i < n → (∀ p ∈ news, p ∈ newsA) → J i m₁ newsA → Fr h₀ env.locals h (fun y => if y = x then some (.int ((i : Nat) : Int) t) else m₁ y) → News h₀ env.locals h newsA →
      wpAny (model prog w) A (execs body env) (TurnEnd h₀ env.locals (J (i + 1)) newsA { s with heap := h, toks := tk }) E { s with heap := h, toks := tk })
    (done : ∀ m₁ news₁ h tk, J n m₁ news₁ → (∀ p ∈ news, p ∈ news₁) → Fr h₀ env.locals h m₁ → News h₀ env.locals h news₁ → Q .next { s with heap := h, toks := tk }) :
    wpAny (model prog w) A (pyIter (.ref r)) (fun it s₂ => LoopAtV prog w A h₀ env x body Q E it s₂) E s := by
  refine wpAny_pyIter_range hr hsm ?_
  have W := LCg.range_walks (prog := prog) (w := w) (I := s.heap.objs.size) hh 0 n
  let J' : Nat → (PySem.Str → Option Value) → List (Addr × Obj) → Prop := fun i m₁ news₁ => J i m₁ news₁ ∧ ∀ p ∈ news, p ∈ news₁
  refine ⟨_, _, _, n, _, _, m₀, news, J', rfl, W, ?_, ?_, ?_, by show IsRangeIter _ _ _ _ _; rw [hn]; simpa using Heap.get?_push_size _ rfl, F.push _, (fun p hp => ⟨Heap.get?_push_of_some _ (N p hp).1, (N p hp).2⟩), ⟨hj, fun _ h => h⟩, ?_, ?_⟩
  · intro hm
    exact absurd F.ns.lt ((List.mem_singleton.mp hm) ▸ Nat.lt_irrefl _)
  · intro b hb
    rw [List.mem_singleton.mp hb]
    exact next_is_new F
  · intro p hp hI
    exact absurd (Heap.lt_size (N p hp).1) ((List.mem_singleton.mp hI) ▸ Nat.lt_irrefl _)
  · rintro i v m₁ news₁ s₁ own ⟨hh', tk', rfl⟩ hin ⟨t₁, rfl⟩ ⟨hJ, hsub⟩ hoff hof hown hmem hst F₁ N₁
    have hlt' : i < n := hin
    rw [Int.zero_add] at F₁
    have hsA : SubS news₁ (own ++ news₁) := .of fun p hp => List.mem_append_right _ hp
    refine wpAny_mono (turn i t₁ m₁ (own ++ news₁) hh' tk' hlt' (fun p hp => List.mem_append_right _ (hsub p hp)) (mono _ _ _ _ hsA hJ) F₁ N₁) (fun f s₂ p => ?_) fun _ _ e => e
    obtain ⟨rfl, h', tk, m', news', rfl, F', N', hn, hm⟩ := p
    have hst' : hh'.get? s.heap.objs.size = some _ := hst
    have hI := hmem _ (.head _) (next_is_new F) _ hst'
    have keep : SubS news' (news'.filter fun p => !(p.1 == s.heap.objs.size)) := fun p hp hs => by
      refine List.mem_filter.mpr ⟨hp, ?_⟩
      by_cases e : p.1 = s.heap.objs.size
      · have h1 := (N' p hp).1
        have h2 := (N' _ (hn _ (List.mem_append_left _ hI))).1
        rw [e] at h1
        rw [h1] at h2
        have e2 := Option.some.inj h2
        rw [e2] at hs
        simp [isSeq] at hs
      · simp [e]
    refine .next ⟨rfl, h', tk, m', news'.filter fun p => !(p.1 == s.heap.objs.size), rfl, F', ?_, ?_, mono _ _ _ _ keep hm, ?_⟩
    · intro p hp
      rcases List.mem_append.mp hp with q | q
      · exact N' p (hn p (List.mem_append_left _ q))
      · exact N' p (List.mem_filter.mp q).1
    · intro p hp q
      have := (List.mem_filter.mp hp).2
      rw [List.mem_singleton.mp q] at this
      simp at this
    · intro p hp
      refine List.mem_filter.mpr ⟨hn p (List.mem_append_right _ (hsub p hp)), ?_⟩
      have := Heap.lt_size (N p hp).1
      have hne' : p.1 ≠ s.heap.objs.size := Nat.ne_of_lt this
      simp [hne']
  · rintro h' tk m' news' F' N' _ ⟨hJ, hsub⟩
    exact done m' news' h' tk hJ hsub F' N'
end
end Mine
end
section
open PySem PySem.Spec PySem.Calls PySem.W PyProof.Rows
set_option maxRecDepth 100000
set_option maxHeartbeats 8000000
namespace Mine
local macro_rules | `(tactic| walk_at "mine.toStop") => `(tactic| repeat' ((fail_if_success (first | (with_reducible show wpAny _ _ (call (Value.ref _) _) _ _ _) | (with_reducible show wpAny _ _ (compareOp _ _ _) _ _ _) | (with_reducible show wpAny _ _ (exec (Stmt.For _ _ _ _ _) _) _ _ _) | (with_reducible show wpAny _ _ (pyIter (Value.ref _)) _ _ _))); (first | (k_unfold; (try dsimp only)) | walk1 | (dsimp only; walk1) | (leave1; walk_say "STEP leave1"; (try dsimp only)) | fail "no step")))
local macro_rules | `(tactic| walk_at "subscriptTail") => `(tactic| ((with_reducible show wpAny _ _ (subscriptTail _ _ (Value.ref _) (Value.int _ _)) _ _ _); k_dflt (refine' item_at ?a ?b ?c ?d ?e ?_; (case a => k_asm); (case b => assumption); (case c => omega); (case d => omega); (case e => assumption)); (try dsimp only)))
theorem behind_ok {w : World} {news : List (Addr × Obj)} {c : String} {v1 v2 : Value} {ns ms : List Int} (hc : c = "list" ∨ c = "tuple") (i1 : SeqIn c news v1 ns) (i2 : SeqIn c news v2 ms) (hl : ns.length ≤ 400) (hl2 : ms.length ≤ 400) :
    Does w 87 3 news [v1, v2] (fun r news' => r = .bool true) := by
  rcases hc with rfl | rfl
  · exact behind_list i1 i2 hl hl2
  · exact behind_tuple i1 i2 hl hl2
theorem get3 {ws : List Value} {c : String} {news : List (Addr × Obj)} {wd : Nat → List Int} {i : Nat} (h : ws.length = 3) (hi : i < 3) (iw : ∀ (i : Nat) v, ws[i]? = some v → SeqIn c news v (wd i)) : ∃ a, ws.toArray[((i : Nat) : Int).toNat]? = some (.ref a) ∧ SeqIn c news (.ref a) (wd i) := by
  have h1 : ws[i]? = some ws[i] := List.getElem?_eq_getElem (by omega)
  have h2 := iw i _ h1
  obtain ⟨a, vs, n, e, hm, hi'⟩ := h2
  rw [e] at h1
  exact ⟨a, by rw [Int.toNat_natCast]; simpa using h1, a, vs, n, rfl, hm, hi'⟩
theorem law_loops {w : World} {base : Heap} {mean : ExcName → Option Value} {mg mb : PySem.Str → Option Value} {L fa W S : Addr} {cd : Value} {s : Shared} {m : PySem.Str → Option Value} {c : String} {ws ss : List Value} {wd : Nat → List Int} {sq : Nat → Sq} {Q : Flow → Shared → Prop} {E : Value → Shared → Prop}
    {sc : Scope} (hsc : sc = lawScope w.params) {st : Stmt} (hst : some st = (lawBody w.params)[5]?) {rest : List Stmt}
    (K0 : Below callerA base [] base) (F : Fr base L s.heap m) (X : (Mine.hd.heap_39 w.params).In base) (T : Top Mine.hd.view_39 (looseW Mine.hd.view_39 []) mean mg mb base)
    (hmw : m (Str.ofString "words") = some (.ref W)) (hms : m (Str.ofString "squares") = some (.ref S)) (hc : c = "list" ∨ c = "tuple")
    {news : List (Addr × Obj)} (N : News base L s.heap news) (hW : (W, LCg.lst ws) ∈ news) (hS : (S, LCg.lst ss) ∈ news) (w3 : ws.length = 3) (s3 : ss.length = 3)
    (iw : ∀ (i : Nat) v, ws[i]? = some v → SeqIn c news v (wd i)) (is : ∀ (i : Nat) v, ss[i]? = some v → SeqIn "list" news v (sq i).l)
    (hlen : ∀ i, (wd i).length ≤ 40) (hrd : ∀ i, RdBack (sq i) (wd i)) (hrd2 : ∀ i j, RdBack ((sq i).mul (sq j)) (join (wd i) (wd j))) (hfit : ∀ i, (sq i).Fits) (hE : PassesOwn (model PySem.Challenge.rw_nb0374_01.row.prog w) (callerA.deeper (envOfC (Str.ofString "law") sc L fa cd)) (envOfC (Str.ofString "law") sc L fa cd) E)
    (cont : ∀ news' h tk m', (∀ x, x ≠ Str.ofString "i" → x ≠ Str.ofString "j" → m' x = m x) → Fr base L h m' → News base L h news' → (∀ p ∈ news, p ∈ news') →
      wpAny (model PySem.Challenge.rw_nb0374_01.row.prog w) (callerA.deeper (envOfC (Str.ofString "law") sc L fa cd)) (execs rest (envOfC (Str.ofString "law") sc L fa cd)) Q E { s with heap := h, toks := tk }) :
    wpAny (model PySem.Challenge.rw_nb0374_01.row.prog w) (callerA.deeper (envOfC (Str.ofString "law") sc L fa cd)) (execs (st :: rest) (envOfC (Str.ofString "law") sc L fa cd)) Q E s := by
  have hfill : PySem.Challenge.rw_nb0374_01 = PySem.Challenge.rw_nb0374_01 ∧ Mine.hd.heap_39 = Mine.hd.heap_39 := by (k_fill; exact ⟨rfl, rfl⟩)
  clear hfill
  w_on
  conv at hsc => rhs; whnf
  conv at hst => rhs; whnf
  have hst := Option.some.inj hst
  subst hsc hst
  walk_at "mine.toStop"
  k_dflt (refine For_invV base (by with_unfolding_all rfl) (by with_unfolding_all rfl) ?_ (by intro _; rfl) hE)
  walk_at "mine.toStop"
  rename_i h1 tk1 t1 u1 v1 hr F1 N1 up1
  k_dflt (refine' loop_range (J := fun i m₁ a => ∀ x, x ≠ Str.ofString "i" → x ≠ Str.ofString "j" → m₁ x = m x) (fun _ _ _ _ _ h => h) rfl hr rfl (n := 3) rfl F1 N1 (fun _ _ _ => rfl) ?turn ?done)
  case done =>
    intro m₁ news₁ h tk hJ hsub F2 N2
    exact cont news₁ h tk m₁ hJ F2 N2 hsub
  case turn =>
    intro i t m₁ newsA h tk hi subA hJ F2 N2
    replace F2 := fr_know1 (fr_know1 F2 ((hJ _ (by decide) (by decide)).trans hmw)) ((if_neg (by decide)).trans ((hJ _ (by decide) (by decide)).trans hms))
    obtain ⟨wi, gwi, iwi⟩ := get3 w3 hi iw
    obtain ⟨si, gsi, isi⟩ := get3 s3 hi is
    have iwi2 := iwi.mono subA
    have isi2 := isi.mono subA
    have hW2 := subA _ hW
    have hS2 := subA _ hS
    clear F1 N1 hr up1
    replace N2 : News base L h newsA := N2
    walk_at "mine.toStop"
    k_dflt (refine' Does.use (signs_ok hc iwi2 (by have := hlen i; omega)) ?k1 ?k2 ?k3 ?k4 ?k5 ?k6 ?k7 ?k8 ?_)
    case k1 => k_asm
    case k2 => k_asm
    case k3 => k_asm
    case k4 => k_asm
    case k5 => k_asm
    case k6 => rfl
    case k7 => ktr_room
    case k8 => ktr_units
    intro r1 news1 h1 tk1 Fx1 Nx1 sub1 o1
    try dsimp only
    have hW3 := sub1 _ hW2
    have hS3 := sub1 _ hS2
    walk_at "mine.toStop"
    k_dflt (refine' Does.use (read_ok (isi2.mono sub1) (hrd i) (by have := hlen i; omega)) ?k1 ?k2 ?k3 ?k4 ?k5 ?k6 ?k7 ?k8 ?_)
    case k1 => k_asm
    case k2 => k_asm
    case k3 => k_asm
    case k4 => k_asm
    case k5 => k_asm
    case k6 => rfl
    case k7 => ktr_room
    case k8 => ktr_units
    intro r2 news2 h2 tk2 Fx2 Nx2 sub2 o2
    try dsimp only
    walk_at "mine.toStop"
    k_dflt (refine' ne_same Nx2 (o1.mono sub2) o2 ?hu ?_)
    case hu => ktr_units
    walk_at "mine.toStop"
    k_dflt (refine For_invV base (by with_unfolding_all rfl) (by with_unfolding_all rfl) ?_ (by intro _; rfl) hE)
    walk_at "mine.toStop"
    rename_i h3 tk3 t3 u3 v3 hr3 F3 N3 up3
    k_dflt (refine' loop_range (J := fun j m₂ a => m₂ (Str.ofString "i") = some (.int ((i : Nat) : Int) t) ∧ ∀ x, x ≠ Str.ofString "i" → x ≠ Str.ofString "j" → m₂ x = m x) (fun _ _ _ _ _ h => h) rfl hr3 rfl (n := 3) rfl F3 N3 ⟨rfl, ?hj⟩ ?turn ?done)
    case hj =>
      intro x hx hx'
      try dsimp only
      show (if x = Str.ofString "i" then _ else if x = Str.ofString "squares" then _ else if x = Str.ofString "words" then _ else m₁ x) = m x
      rw [if_neg hx]
      by_cases e1 : x = Str.ofString "squares"
      · rw [if_pos e1, e1]; exact hms.symm
      · rw [if_neg e1]
        by_cases e2 : x = Str.ofString "words"
        · rw [if_pos e2, e2]; exact hmw.symm
        · rw [if_neg e2]; exact hJ x hx hx'
    case done =>
      intro m₂ news₂ h4 tk4 hJ4 hsub4 F4 N4
      walk_at "mine.toStop"
      exact ⟨rfl, h4, _, m₂, news₂, rfl, F4, N4, fun p hp => hsub4 p (sub2 p (sub1 p hp)), hJ4.2⟩
    case turn =>
      intro j t' m₂ newsB h4 tk4 hj subB hJ2 F4 N4
      replace F4 := fr_know1 (fr_know1 (fr_know1 F4 ((hJ2.2 _ (by decide) (by decide)).trans hmw)) ((if_neg (by decide)).trans ((hJ2.2 _ (by decide) (by decide)).trans hms))) ((if_neg (by decide)).trans ((if_neg (by decide)).trans hJ2.1))
      have subC : ∀ p ∈ newsA, p ∈ newsB := fun p hp => subB p (sub2 p (sub1 p hp))
      have subD : ∀ p ∈ news, p ∈ newsB := fun p hp => subC p (subA p hp)
      obtain ⟨wj, gwj, iwj⟩ := get3 w3 hj iw
      obtain ⟨sj, gsj, isj⟩ := get3 s3 hj is
      have iwi3 := iwi.mono subD
      have isi3 := isi.mono subD
      have iwj3 := iwj.mono subD
      have isj3 := isj.mono subD
      have hW4 := subD _ hW
      have hS4 := subD _ hS
      replace N4 : News base L h4 newsB := N4
      clear F3 N3 hr3 up3
      walk_at "mine.toStop"
      k_dflt (refine' Does.use (behind_ok hc iwi3 iwj3 (by have := hlen i; omega) (by have := hlen j; omega)) ?k1 ?k2 ?k3 ?k4 ?k5 ?k6 ?k7 ?k8 ?_)
      case k1 => k_asm
      case k2 => k_asm
      case k3 => k_asm
      case k4 => k_asm
      case k5 => k_asm
      case k6 => rfl
      case k7 => ktr_room
      case k8 => ktr_units
      intro r5 news5 h5 tk5 Fx5 Nx5 sub5 o5
      try dsimp only
      subst o5
      have hW5 := sub5 _ hW4
      have hS5 := sub5 _ hS4
      walk_at "mine.toStop"
      k_dflt (refine' Does.use (join_ok hc (iwi3.mono sub5) (iwj3.mono sub5) (by have := hlen i; omega) (by have := hlen j; omega)) ?k1 ?k2 ?k3 ?k4 ?k5 ?k6 ?k7 ?k8 ?_)
      case k1 => k_asm
      case k2 => k_asm
      case k3 => k_asm
      case k4 => k_asm
      case k5 => k_asm
      case k6 => rfl
      case k7 => ktr_room
      case k8 => ktr_units
      intro r6 news6 h6 tk6 Fx6 Nx6 sub6 o6
      try dsimp only
      obtain ⟨o6, _⟩ := o6
      have hW6 := sub6 _ hW5
      have hS6 := sub6 _ hS5
      have hjl : (join (wd i) (wd j)).length ≤ 80 := by have := join_length (wd i) (wd j); have := hlen i; have := hlen j; omega
      walk_at "mine.toStop"
      k_dflt (refine' Does.use (signs_ok hc o6 (by omega)) ?k1 ?k2 ?k3 ?k4 ?k5 ?k6 ?k7 ?k8 ?_)
      case k1 => k_asm
      case k2 => k_asm
      case k3 => k_asm
      case k4 => k_asm
      case k5 => k_asm
      case k6 => rfl
      case k7 => ktr_room
      case k8 => ktr_units
      intro r7 news7 h7 tk7 Fx7 Nx7 sub7 o7
      try dsimp only
      have hW7 := sub7 _ hW6
      have hS7 := sub7 _ hS6
      walk_at "mine.toStop"
      k_dflt (refine' Does.use (times_ok (((isi3.mono sub5).mono sub6).mono sub7) (((isj3.mono sub5).mono sub6).mono sub7) (hfit i)) ?k1 ?k2 ?k3 ?k4 ?k5 ?k6 ?k7 ?k8 ?_)
      case k1 => k_asm
      case k2 => k_asm
      case k3 => k_asm
      case k4 => k_asm
      case k5 => k_asm
      case k6 => rfl
      case k7 => ktr_room
      case k8 => ktr_units
      intro r8 news8 h8 tk8 Fx8 Nx8 sub8 o8
      try dsimp only
      obtain ⟨o8, _⟩ := o8
      walk_at "mine.toStop"
      k_dflt (refine' Does.use (read_ok o8 (hrd2 i j) (by omega)) ?k1 ?k2 ?k3 ?k4 ?k5 ?k6 ?k7 ?k8 ?_)
      case k1 => k_asm
      case k2 => k_asm
      case k3 => k_asm
      case k4 => k_asm
      case k5 => k_asm
      case k6 => rfl
      case k7 => ktr_room
      case k8 => ktr_units
      intro r9 news9 h9 tk9 Fx9 Nx9 sub9 o9
      try dsimp only
      walk_at "mine.toStop"
      k_dflt (refine' ne_same Nx9 ((o7.mono sub8).mono sub9) o9 ?hu ?_)
      case hu => ktr_units
      walk_at "mine.toStop"
      refine ⟨rfl, h9, _, _, news9, rfl, by k_asm, Nx9, fun p hp => sub9 p (sub8 p (sub7 p (sub6 p (sub5 p hp)))), rfl, ?_⟩
      intro x hx hx'
      show (if x = Str.ofString "j" then _ else if x = Str.ofString "i" then _ else if x = Str.ofString "squares" then _ else if x = Str.ofString "words" then _ else m₂ x) = m x
      rw [if_neg hx', if_neg hx]
      by_cases e1 : x = Str.ofString "squares"
      · rw [if_pos e1, e1]; exact hms.symm
      · rw [if_neg e1]
        by_cases e2 : x = Str.ofString "words"
        · rw [if_pos e2, e2]; exact hmw.symm
        · rw [if_neg e2]; exact hJ2.2 x hx hx'
end Mine
end
section
open PySem PySem.Spec PySem.Calls PySem.W PyProof.Rows
set_option maxRecDepth 100000
set_option maxHeartbeats 8000000
namespace Mine
local macro_rules | `(tactic| walk_at "mine.toStop") => `(tactic| repeat' ((fail_if_success (first | (with_reducible show wpAny _ _ (call (Value.ref _) _) _ _ _) | (with_reducible show wpAny _ _ (compareOp _ _ _) _ _ _) | (with_reducible show wpAny _ _ (exec (Stmt.For _ _ _ _ _) _) _ _ _) | (with_reducible show wpAny _ _ (pyIter (Value.ref _)) _ _ _))); (first | (k_unfold; (try dsimp only)) | walk1 | (dsimp only; walk1) | (leave1; walk_say "STEP leave1"; (try dsimp only)) | fail "no step")))
local macro_rules | `(tactic| walk_at "subscriptTail") => `(tactic| ((with_reducible show wpAny _ _ (subscriptTail _ _ (Value.ref _) (Value.int _ _)) _ _ _); k_dflt (refine' item_at ?a ?b ?c ?d ?e ?_; (case a => k_asm); (case b => assumption); (case c => omega); (case d => omega); (case e => assumption)); (try dsimp only)))
theorem textOf_length (ns : List Int) : (textOf ns).length = ns.length := by
  induction ns with
  | nil => rfl
  | cons x r ih =>
    have e : textOf (x :: r) = textOf [x] ++ textOf r := textOf_append [x] r
    have e1 : (textOf [x]).length = 1 := rfl
    rw [e, PySem.Str.length_append, ih, e1, List.length_cons]
    omega
theorem get3' {ws : List Value} {c : String} {news : List (Addr × Obj)} {wd : Nat → List Int} (h : ws.length = 3) (iw : ∀ (i : Nat) v, ws[i]? = some v → SeqIn c news v (wd i)) :
    ∃ a0 a1 a2, ws.toArray[(0 : Int).toNat]? = some (.ref a0) ∧ ws.toArray[(1 : Int).toNat]? = some (.ref a1) ∧ ws.toArray[(2 : Int).toNat]? = some (.ref a2) ∧ SeqIn c news (.ref a0) (wd 0) ∧ SeqIn c news (.ref a1) (wd 1) ∧ SeqIn c news (.ref a2) (wd 2) := by
  obtain ⟨a0, g0, i0⟩ := get3 (i := 0) h (by omega) iw
  obtain ⟨a1, g1, i1⟩ := get3 (i := 1) h (by omega) iw
  obtain ⟨a2, g2, i2⟩ := get3 (i := 2) h (by omega) iw
  exact ⟨a0, a1, a2, g0, g1, g2, i0, i1, i2⟩
theorem law_due {w : World} {base : Heap} {mean : ExcName → Option Value} {mg mb : PySem.Str → Option Value} {L fa W S : Addr} {cd : Value} {s : Shared} {m : PySem.Str → Option Value} {c : String} {ws ss : List Value} {wd : Nat → List Int} {sq : Nat → Sq} {Q : Flow → Shared → Prop} {E : Value → Shared → Prop}
    {sc : Scope} (hsc : sc = lawScope w.params) {st st7 st8 st9 : Stmt} (hst : some st = (lawBody w.params)[6]?) (hst7 : some st7 = (lawBody w.params)[7]?) (hst8 : some st8 = (lawBody w.params)[8]?) (hst9 : some st9 = (lawBody w.params)[9]?) {rest : List Stmt}
    (K0 : Below callerA base [] base) (F : Fr base L s.heap m) (X : (Mine.hd.heap_39 w.params).In base) (T : Top Mine.hd.view_39 (looseW Mine.hd.view_39 []) mean mg mb base)
    (hmw : m (Str.ofString "words") = some (.ref W)) (hms : m (Str.ofString "squares") = some (.ref S)) (hc : c = "list" ∨ c = "tuple")
    {news : List (Addr × Obj)} (N : News base L s.heap news) (hW : (W, LCg.lst ws) ∈ news) (hS : (S, LCg.lst ss) ∈ news) (w3 : ws.length = 3) (s3 : ss.length = 3)
    (iw : ∀ (i : Nat) v, ws[i]? = some v → SeqIn c news v (wd i)) (is : ∀ (i : Nat) v, ss[i]? = some v → SeqIn "list" news v (sq i).l)
    (hlen : ∀ i, (wd i).length ≤ 30) (hrd : RdBack (((sq 0).mul (sq 1)).mul (sq 2)) (join (join (wd 0) (wd 1)) (wd 2))) (hf0 : (sq 0).Fits) (hf1 : ((sq 0).mul (sq 1)).Fits)
    (hsg : ∀ i, ∀ x ∈ wd i, Sgn x) (hass : join (wd 0) (join (wd 1) (wd 2)) = join (join (wd 0) (wd 1)) (wd 2))
    (cont : ∀ news' h tk m', (∀ x, x ≠ Str.ofString "due" → x ≠ Str.ofString "pieces" → m' x = m x) → Fr base L h m' → News base L h news' → (∀ p ∈ news, p ∈ news') →
      wpAny (model PySem.Challenge.rw_nb0374_01.row.prog w) (callerA.deeper (envOfC (Str.ofString "law") sc L fa cd)) (execs rest (envOfC (Str.ofString "law") sc L fa cd)) Q E { s with heap := h, toks := tk }) :
    wpAny (model PySem.Challenge.rw_nb0374_01.row.prog w) (callerA.deeper (envOfC (Str.ofString "law") sc L fa cd)) (execs (st :: st7 :: st8 :: st9 :: rest) (envOfC (Str.ofString "law") sc L fa cd)) Q E s := by
  have hfill : PySem.Challenge.rw_nb0374_01 = PySem.Challenge.rw_nb0374_01 ∧ Mine.hd.heap_39 = Mine.hd.heap_39 := by (k_fill; exact ⟨rfl, rfl⟩)
  clear hfill
  w_on
  conv at hsc => rhs; whnf
  conv at hst => rhs; whnf
  conv at hst7 => rhs; whnf
  conv at hst8 => rhs; whnf
  conv at hst9 => rhs; whnf
  have hst := Option.some.inj hst
  have hst7 := Option.some.inj hst7
  have hst8 := Option.some.inj hst8
  have hst9 := Option.some.inj hst9
  subst hsc hst hst7 hst8 hst9
  obtain ⟨w0, w1, w2, gw0, gw1, gw2, iw0, iw1, iw2⟩ := get3' w3 iw
  obtain ⟨s0, s1, s2, gs0, gs1, gs2, is0, is1, is2⟩ := get3' s3 is
  have l0 := hlen 0
  have l1 := hlen 1
  have l2 := hlen 2
  have l01 := join_length (wd 0) (wd 1)
  have l12 := join_length (wd 1) (wd 2)
  have l012 := join_length (join (wd 0) (wd 1)) (wd 2)
  have F1 := fr_know (fr_know F hmw) ((if_neg (by decide)).trans hms)
  clear F
  walk_at "mine.toStop"
  k_dflt (refine' Does.use (times_ok is0 is1 hf0) ?k1 ?k2 ?k3 ?k4 ?k5 ?k6 ?k7 ?k8 ?_)
  case k1 => k_asm
  case k2 => k_asm
  case k3 => k_asm
  case k4 => k_asm
  case k5 => k_asm
  case k6 => rfl
  case k7 => ktr_room
  case k8 => ktr_units
  intro r1 news1 h1 tk1 Fx1 Nx1 sub1 o1
  try dsimp only
  have hW1 := sub1 _ hW
  have hS1 := sub1 _ hS
  walk_at "mine.toStop"
  k_dflt (refine' Does.use (times_ok o1.1 (is2.mono sub1) hf1) ?k1 ?k2 ?k3 ?k4 ?k5 ?k6 ?k7 ?k8 ?_)
  case k1 => k_asm
  case k2 => k_asm
  case k3 => k_asm
  case k4 => k_asm
  case k5 => k_asm
  case k6 => rfl
  case k7 => ktr_room
  case k8 => ktr_units
  intro r2 news2 h2 tk2 Fx2 Nx2 sub2 o2
  try dsimp only
  have hW2 := sub2 _ hW1
  have hS2 := sub2 _ hS1
  walk_at "mine.toStop"
  k_dflt (refine' Does.use (read_ok o2.1 hrd (by omega)) ?k1 ?k2 ?k3 ?k4 ?k5 ?k6 ?k7 ?k8 ?_)
  case k1 => k_asm
  case k2 => k_asm
  case k3 => k_asm
  case k4 => k_asm
  case k5 => k_asm
  case k6 => rfl
  case k7 => ktr_room
  case k8 => ktr_units
  intro r3 news3 h3 tk3 Fx3 Nx3 sub3 o3
  try dsimp only
  have hW3 := sub3 _ hW2
  have o3s := o3
  obtain ⟨du, _, _, rfl, _, _⟩ := o3
  have sub123 : ∀ p ∈ news, p ∈ news3 := fun p hp => sub3 p (sub2 p (sub1 p hp))
  walk_at "mine.toStop"
  k_dflt (refine' Does.use (join_ok hc (iw0.mono sub123) (iw1.mono sub123) (by omega) (by omega)) ?k1 ?k2 ?k3 ?k4 ?k5 ?k6 ?k7 ?k8 ?_)
  case k1 => k_asm
  case k2 => k_asm
  case k3 => k_asm
  case k4 => k_asm
  case k5 => k_asm
  case k6 => rfl
  case k7 => ktr_room
  case k8 => ktr_units
  intro r4 news4 h4 tk4 Fx4 Nx4 sub4 o4
  try dsimp only
  have hW4 := sub4 _ hW3
  walk_at "mine.toStop"
  k_dflt (refine' Does.use (join_ok hc o4.1 ((iw2.mono sub123).mono sub4) (by omega) (by omega)) ?k1 ?k2 ?k3 ?k4 ?k5 ?k6 ?k7 ?k8 ?_)
  case k1 => k_asm
  case k2 => k_asm
  case k3 => k_asm
  case k4 => k_asm
  case k5 => k_asm
  case k6 => rfl
  case k7 => ktr_room
  case k8 => ktr_units
  intro r5 news5 h5 tk5 Fx5 Nx5 sub5 o5
  try dsimp only
  have hW5 := sub5 _ hW4
  walk_at "mine.toStop"
  k_dflt (refine' Does.use (signs_ok hc o5.1 (by omega)) ?k1 ?k2 ?k3 ?k4 ?k5 ?k6 ?k7 ?k8 ?_)
  case k1 => k_asm
  case k2 => k_asm
  case k3 => k_asm
  case k4 => k_asm
  case k5 => k_asm
  case k6 => rfl
  case k7 => ktr_room
  case k8 => ktr_units
  intro r6 news6 h6 tk6 Fx6 Nx6 sub6 o6
  try dsimp only
  have hW6 := sub6 _ hW5
  walk_at "mine.toStop"
  have du6 := ((o3s.mono sub4).mono sub5).mono sub6
  k_dflt (refine' ne_same Nx6 o6 du6 ?hu ?_)
  case hu => ktr_units
  have sub1_6 : ∀ p ∈ news, p ∈ news6 := fun p hp => sub6 p (sub5 p (sub4 p (sub123 p hp)))
  walk_at "mine.toStop"
  k_dflt (refine' Does.use (join_ok hc (iw1.mono sub1_6) (iw2.mono sub1_6) (by omega) (by omega)) ?k1 ?k2 ?k3 ?k4 ?k5 ?k6 ?k7 ?k8 ?_)
  case k1 => k_asm
  case k2 => k_asm
  case k3 => k_asm
  case k4 => k_asm
  case k5 => k_asm
  case k6 => rfl
  case k7 => ktr_room
  case k8 => ktr_units
  intro r7 news7 h7 tk7 Fx7 Nx7 sub7 o7
  try dsimp only
  have hW7 := sub7 _ hW6
  walk_at "mine.toStop"
  k_dflt (refine' Does.use (pieces_ok hc ((iw0.mono sub1_6).mono sub7) o7.1 (by omega) (by omega)) ?k1 ?k2 ?k3 ?k4 ?k5 ?k6 ?k7 ?k8 ?_)
  case k1 => k_asm
  case k2 => k_asm
  case k3 => k_asm
  case k4 => k_asm
  case k5 => k_asm
  case k6 => rfl
  case k7 => ktr_room
  case k8 => ktr_units
  intro r8 news8 h8 tk8 Fx8 Nx8 sub8 o8
  try dsimp only
  have hW8 := sub8 _ hW7
  obtain ⟨ap, u1, u2, np, rfl, mp, q1, q2⟩ := o8
  have q1s := q1
  have q2s := q2
  obtain ⟨b1, _, _, rfl, _, _⟩ := q1
  obtain ⟨b2, _, _, rfl, _, _⟩ := q2
  have gp0 : #[Value.ref b1, Value.ref b2][(0 : Int).toNat]? = some (Value.ref b1) := rfl
  have gp1 : #[Value.ref b1, Value.ref b2][(1 : Int).toNat]? = some (Value.ref b2) := rfl
  walk_at "mine.toStop"
  k_dflt (refine' Does.use (text_ok hc q1s (by rw [List.length_take]; omega) (fun x hx => (hsg 0 x (List.mem_of_mem_take hx)).le)) ?k1 ?k2 ?k3 ?k4 ?k5 ?k6 ?k7 ?k8 ?_)
  case k1 => k_asm
  case k2 => k_asm
  case k3 => k_asm
  case k4 => k_asm
  case k5 => k_asm
  case k6 => rfl
  case k7 => ktr_room
  case k8 => ktr_units
  intro r9 news9 h9 tk9 Fx9 Nx9 sub9 o9
  try dsimp only
  obtain ⟨t9, rfl⟩ := o9
  have mp9 := sub9 _ mp
  walk_at "mine.toStop"
  k_dflt (refine' Does.use (text_ok hc (q2s.mono sub9) (by rw [List.length_drop]; omega) (fun x hx => (sgn_join (hsg 1) (hsg 2) x (List.mem_of_mem_drop hx)).le)) ?k1 ?k2 ?k3 ?k4 ?k5 ?k6 ?k7 ?k8 ?_)
  case k1 => k_asm
  case k2 => k_asm
  case k3 => k_asm
  case k4 => k_asm
  case k5 => k_asm
  case k6 => rfl
  case k7 => ktr_room
  case k8 => ktr_units
  intro r10 news10 h10 tk10 Fx10 Nx10 sub10 o10
  try dsimp only
  obtain ⟨t10, rfl⟩ := o10
  walk_at "mine.toStop"
  k_dflt (refine' Does.use (concat_str (by rw [textOf_length, List.length_take]; omega) (by rw [textOf_length, List.length_drop]; omega)) ?k1 ?k2 ?k3 ?k4 ?k5 ?k6 ?k7 ?k8 ?_)
  case k1 => k_asm
  case k2 => k_asm
  case k3 => k_asm
  case k4 => k_asm
  case k5 => k_asm
  case k6 => rfl
  case k7 => ktr_room
  case k8 => ktr_units
  intro r11 news11 h11 tk11 Fx11 Nx11 sub11 o11
  try dsimp only
  obtain ⟨t11, rfl⟩ := o11
  have du11 := ((((du6.mono sub7).mono sub8).mono sub9).mono sub10).mono sub11
  walk_at "mine.toStop"
  k_dflt (refine' Does.use (text_ok (.inl rfl) du11 (by omega) (fun x hx => (sgn_join (sgn_join (hsg 0) (hsg 1)) (hsg 2) x hx).le)) ?k1 ?k2 ?k3 ?k4 ?k5 ?k6 ?k7 ?k8 ?_)
  case k1 => k_asm
  case k2 => k_asm
  case k3 => k_asm
  case k4 => k_asm
  case k5 => k_asm
  case k6 => rfl
  case k7 => ktr_room
  case k8 => ktr_units
  intro r12 news12 h12 tk12 Fx12 Nx12 sub12 o12
  try dsimp only
  obtain ⟨t12, rfl⟩ := o12
  have etx : textOf ((wd 0).take ((wd 0).length - canc (wd 0) (join (wd 1) (wd 2)))) ++ textOf ((join (wd 1) (wd 2)).drop (canc (wd 0) (join (wd 1) (wd 2)))) = textOf (join (join (wd 0) (wd 1)) (wd 2)) := by
    rw [← textOf_append, ← hass]
    rfl
  rw [etx]
  generalize textOf (join (join (wd 0) (wd 1)) (wd 2)) = tx
  k_steps
  · rename_i hne
    exact absurd hne (by simp)
  · refine cont news12 h12 _ _ ?_ Fx12 Nx12 (fun p hp => sub12 p (sub11 p (sub10 p (sub9 p (sub8 p (sub7 p (sub1_6 p hp)))))))
    intro x hx hx'
    try dsimp only
    rw [if_neg hx', if_neg hx]
    by_cases e1 : x = Str.ofString "squares"
    · rw [if_pos e1, e1]; exact hms.symm
    · rw [if_neg e1]
      by_cases e2 : x = Str.ofString "words"
      · rw [if_pos e2, e2]; exact hmw.symm
      · rw [if_neg e2]
end Mine
end
section
open PySem PySem.Spec PySem.Calls PySem.W PyProof.Rows
set_option maxRecDepth 100000
set_option maxHeartbeats 8000000
namespace Mine
local macro_rules | `(tactic| walk_at "mine.toStop") => `(tactic| repeat' ((fail_if_success (first | (with_reducible show wpAny _ _ (call (Value.ref _) _) _ _ _) | (with_reducible show wpAny _ _ (compareOp _ _ _) _ _ _) | (with_reducible show wpAny _ _ (exec (Stmt.For _ _ _ _ _) _) _ _ _) | (with_reducible show wpAny _ _ (pyIter (Value.ref _)) _ _ _))); (first | (k_unfold; (try dsimp only)) | walk1 | (dsimp only; walk1) | (leave1; walk_say "STEP leave1"; (try dsimp only)) | fail "no step")))
local macro_rules | `(tactic| walk_at "subscriptTail") => `(tactic| ((with_reducible show wpAny _ _ (subscriptTail _ _ (Value.ref _) (Value.int _ _)) _ _ _); k_dflt (refine' item_at ?a ?b ?c ?d ?e ?_; (case a => k_asm); (case b => (repeat (first | assumption | apply List.Mem.tail))); (case c => omega); (case d => omega); (case e => assumption)); (try dsimp only)))
theorem name_cell {M : Model} {A : Around} {E : Value → Shared → Prop} {s : Shared} {h₀ : Heap} {L c : Addr} {news : List (Addr × Obj)} {env : Env} {x : PySem.Str} {pos : Pos} {v : Value} {o : Obj} {Q : Value → Shared → Prop}
    (N : News h₀ L s.heap news) (hm : (c, o) ∈ news) (hd : o.data = .cell (some v)) (hk : env.scope.kind = .function) (hl : env.kindOf x = some .cell) (hc : env.cells.lookup x = some c) (h : Q v s) (hb : (x == ("__debug__" : PySem.Str)) = false := by decide) :
    wpAny M A (eval (.Name x pos) env) Q E s := wpAny_Name (wpAny_loadName_cell hk hl hc ⟨o, N.get hm, hd⟩ h) hb
def BadPair (w : World) (news : List (Addr × Obj)) (v : Value) : Prop :=
  ∃ p a b n, v = .ref p ∧ (p, seqOf "list" #[a, b] n) ∈ news ∧ ∀ news'', (∀ q ∈ news, q ∈ news'') → DoesT w 94 4 news'' [a, b] (fun r _ => r = .bool true)
theorem all7 {α : Type} {P : α → Prop} {a b c d e f g : α} (h1 : P a) (h2 : P b) (h3 : P c) (h4 : P d) (h5 : P e) (h6 : P f) (h7 : P g) : ∀ v ∈ [a, b, c, d, e, f, g], P v := by
  intro v hv
  simp only [List.mem_cons, List.not_mem_nil, or_false] at hv
  rcases hv with rfl | rfl | rfl | rfl | rfl | rfl | rfl <;> assumption
local macro_rules | `(tactic| walk_at "eval Name") => `(tactic| ((with_reducible show wpAny _ _ (eval (Expr.Name _ _) (envOfC _ _ _ _ _)) _ _ _); k_dflt (refine' name_cell ?N ?m ?d ?k ?l ?c ?_; (case k => rfl); (case l => with_unfolding_all rfl); (case c => with_unfolding_all rfl); (case N => k_asm); (case m => (repeat (first | assumption | apply List.Mem.tail))); (case d => assumption))))
theorem law_wrong {w : World} {base : Heap} {mean : ExcName → Option Value} {mg mb : PySem.Str → Option Value} {L fa W D ve : Addr} {cd : Value} {s : Shared} {m : PySem.Str → Option Value} {c : String} {ws : List Value} {ys : List Value} {xs : List Int} {wd : Nat → List Int} {oS oE : Obj} {Q : Flow → Shared → Prop} {E : Value → Shared → Prop}
    {sc : Scope} (hsc : sc = lawScope w.params) {st : Stmt} (hst : some st = (lawBody w.params)[10]?) {rest : List Stmt}
    (K0 : Below callerA base [] base) (F : Fr base L s.heap m) (X : (Mine.hd.heap_39 w.params).In base) (T : Top Mine.hd.view_39 (looseW Mine.hd.view_39 []) mean mg mb base)
    (hmw : m (Str.ofString "words") = some (.ref W)) (hc : c = "list" ∨ c = "tuple")
    {news : List (Addr × Obj)} (N : News base L s.heap news) (hW : (W, LCg.lst ws) ∈ news) (w3 : ws.length = 3)
    (iw : ∀ (i : Nat) v, ws[i]? = some v → SeqIn c news v (wd i))
    (hD : (D, LCg.lst ys) ∈ news) (hI : IntsAre ys xs) (hx2 : 2 ≤ xs.length) (hSm : (L + 1, oS) ∈ news) (dS : oS.data = .cell (some (.ref D))) (hEm : (L + 1 + 1, oE) ∈ news) (dE : oE.data = .cell (some (.ref ve))) (ie : SeqIn c news (.ref ve) [])
    (cont : ∀ Wr (ps : List Value) news' h tk m', m' (Str.ofString "wrong") = some (.ref Wr) → Fr base L h m' → News base L h news' → (∃ k, (Wr, seqOf "list" ps.toArray k) ∈ news') → ps.length = 7 → (∀ v ∈ ps, BadPair w news' v) →
      wpAny (model PySem.Challenge.rw_nb0374_01.row.prog w) (callerA.deeper (envOfC (Str.ofString "law") sc L fa cd)) (execs rest (envOfC (Str.ofString "law") sc L fa cd)) Q E { s with heap := h, toks := tk }) :
    wpAny (model PySem.Challenge.rw_nb0374_01.row.prog w) (callerA.deeper (envOfC (Str.ofString "law") sc L fa cd)) (execs (st :: rest) (envOfC (Str.ofString "law") sc L fa cd)) Q E s := by
  have hfill : PySem.Challenge.rw_nb0374_01 = PySem.Challenge.rw_nb0374_01 ∧ Mine.hd.heap_39 = Mine.hd.heap_39 := by (k_fill; exact ⟨rfl, rfl⟩)
  clear hfill
  w_on
  conv at hsc => rhs; whnf
  conv at hst => rhs; whnf
  have hst := Option.some.inj hst
  subst hsc hst
  obtain ⟨w0, w1, w2, gw0, gw1, gw2, iw0, iw1, iw2⟩ := get3' w3 iw
  obtain ⟨x0, xs, rfl⟩ : ∃ x0 r, xs = x0 :: r := by cases xs with | nil => simp at hx2 | cons a r => exact ⟨_, _, rfl⟩
  obtain ⟨x1, xs, rfl⟩ : ∃ x0 r, xs = x0 :: r := by cases xs with | nil => simp at hx2 | cons a r => exact ⟨_, _, rfl⟩
  obtain _ | ⟨_, tx0, hI⟩ := hI
  obtain _ | ⟨_, tx1, hI⟩ := hI
  rename_i ys
  have gx0 : (Value.int x0 tx0 :: Value.int x1 tx1 :: ys).toArray[(0 : Int).toNat]? = some (Value.int x0 tx0) := by simp
  have gx1 : (Value.int x0 tx0 :: Value.int x1 tx1 :: ys).toArray[(1 : Int).toNat]? = some (Value.int x1 tx1) := by simp
  have F1 := fr_know F hmw
  clear F
  obtain ⟨e, ne, he, me⟩ := ie.empty
  injection he with he
  subst he
  walk_at "mine.toStop"
  (with_reducible rename News _ _ _ _ => N4)
  k_dflt (refine' eq_empty hc N4 (by repeat (first | assumption | apply List.Mem.tail)) (.head _) ?hu ?_)
  case hu => ktr_units
  rcases hc with rfl | rfl
  · rw [show decide ("list" = "tuple") = false from rfl]
    have N5 := News.tl N4
    clear N4
    walk_at "mine.toStop"
    (with_reducible rename News _ _ _ _ => N9)
    (with_reducible rename Fr _ _ _ _ => F9)
    have iw0s := iw0
    refine cont _ [_, _, _, _, _, _, _] _ _ _ _ rfl F9 N9 ⟨_, .head _⟩ rfl (all7 ?_ ?_ ?_ ?_ ?_ ?_ ?_)
    · exact ⟨_, _, _, _, rfl, by repeat (first | exact List.Mem.head _ | assumption | apply List.Mem.tail), fun _ _ => refused_i⟩
    · exact ⟨_, _, _, _, rfl, by repeat (first | exact List.Mem.head _ | assumption | apply List.Mem.tail), fun _ _ => refused_f⟩
    · exact ⟨_, _, _, _, rfl, by repeat (first | exact List.Mem.head _ | assumption | apply List.Mem.tail), fun _ _ => refused_i⟩
    · exact ⟨_, _, _, _, rfl, by repeat (first | exact List.Mem.head _ | assumption | apply List.Mem.tail), fun _ _ => refused_n⟩
    · exact ⟨_, _, _, _, rfl, by repeat (first | exact List.Mem.head _ | assumption | apply List.Mem.tail), fun _ hs => refused_list_i ((iw0.mono fun q hq => by repeat (first | assumption | apply List.Mem.tail)).mono hs)⟩
    · exact ⟨_, _, _, _, rfl, by repeat (first | exact List.Mem.head _ | assumption | apply List.Mem.tail), fun _ hs => refused_list_n ((iw0.mono fun q hq => by repeat (first | assumption | apply List.Mem.tail)).mono hs)⟩
    · exact ⟨_, _, _, _, rfl, by repeat (first | exact List.Mem.head _ | assumption | apply List.Mem.tail), fun _ hs => refused_list_o ((iw0.mono fun q hq => by repeat (first | assumption | apply List.Mem.tail)).mono hs) (ms := []) ⟨_, [], _, rfl, hs _ (by repeat (first | exact List.Mem.head _ | assumption | apply List.Mem.tail)), .nil⟩⟩
  · rw [show decide ("tuple" = "tuple") = true from rfl]
    have N5 := News.tl N4
    clear N4
    walk_at "mine.toStop"
    (with_reducible rename News _ _ _ _ => N9)
    (with_reducible rename Fr _ _ _ _ => F9)
    have iw0s := iw0
    refine cont _ [_, _, _, _, _, _, _] _ _ _ _ rfl F9 N9 ⟨_, .head _⟩ rfl (all7 ?_ ?_ ?_ ?_ ?_ ?_ ?_)
    · exact ⟨_, _, _, _, rfl, by repeat (first | exact List.Mem.head _ | assumption | apply List.Mem.tail), fun _ _ => refused_i⟩
    · exact ⟨_, _, _, _, rfl, by repeat (first | exact List.Mem.head _ | assumption | apply List.Mem.tail), fun _ _ => refused_f⟩
    · exact ⟨_, _, _, _, rfl, by repeat (first | exact List.Mem.head _ | assumption | apply List.Mem.tail), fun _ _ => refused_i⟩
    · exact ⟨_, _, _, _, rfl, by repeat (first | exact List.Mem.head _ | assumption | apply List.Mem.tail), fun _ _ => refused_n⟩
    · exact ⟨_, _, _, _, rfl, by repeat (first | exact List.Mem.head _ | assumption | apply List.Mem.tail), fun _ hs => refused_tuple_i ((iw0.mono fun q hq => by repeat (first | assumption | apply List.Mem.tail)).mono hs)⟩
    · exact ⟨_, _, _, _, rfl, by repeat (first | exact List.Mem.head _ | assumption | apply List.Mem.tail), fun _ hs => refused_tuple_n ((iw0.mono fun q hq => by repeat (first | assumption | apply List.Mem.tail)).mono hs)⟩
    · exact ⟨_, _, _, _, rfl, by repeat (first | exact List.Mem.head _ | assumption | apply List.Mem.tail), fun _ hs => refused_tuple_o ((iw0.mono fun q hq => by repeat (first | assumption | apply List.Mem.tail)).mono hs) (ms := []) ⟨_, [], _, rfl, hs _ (by repeat (first | exact List.Mem.head _ | assumption | apply List.Mem.tail)), .nil⟩⟩
end Mine
end
section
namespace Mine
theorem row_sgn {xs : List Int} (hs : ∀ x ∈ xs, Sgn x) (i : Nat) : ∀ x ∈ rowOf xs i, Sgn x := by
  intro x hx
  unfold rowOf rowFrom at hx
  obtain ⟨k, hk, rfl⟩ := List.mem_map.mp hx
  have hk' : k < xs.length := List.mem_range.mp (List.mem_filter.mp hk).1
  rw [List.getD_eq_getElem?_getD, List.getElem?_eq_getElem hk']
  exact hs _ (List.getElem_mem hk')
theorem row_few : ∀ n, n < 16 → ∀ i, i < 3 → ((List.range n).filter fun k => decide (((k : Nat) : Int).fmod 3 = ((i : Nat) : Int))).length ≤ 5 := by decide
theorem row_len {xs : List Int} (hl : xs.length ≤ 15) (i : Nat) : (rowOf xs i).length ≤ 5 := by
  unfold rowOf rowFrom
  rw [List.length_map]
  by_cases hi : i < 3
  · exact row_few _ (by omega) i hi
  · have e : (List.range xs.length).filter (fun k => decide (((k : Nat) : Int).fmod 3 = ((i : Nat) : Int))) = [] := by
      rw [List.filter_eq_nil_iff]
      intro k _
      have h1 : ((k : Nat) : Int).fmod 3 < 3 := Int.fmod_lt_of_pos _ (by decide)
      simp only [decide_eq_true_eq]
      omega
    rw [e]
    simp
section
variable {xs : List Int} (hs : ∀ x ∈ xs, Sgn x) (hl : xs.length ≤ 15)
include hs hl
theorem wd_len (i : Nat) : (wordOf (rowOf xs i)).length ≤ 5 := Nat.le_trans (wordOf_length _) (row_len hl i)
theorem row_take (i j : Nat) : (prod ((rowOf xs i).take j)).Fits := by
  refine prod_fits (fun y hy => row_sgn hs i y (List.mem_of_mem_take hy)) ?_
  have := row_len hl i
  rw [List.length_take]
  omega
theorem sq_fits (i : Nat) : (prod (rowOf xs i)).Fits := prod_fits (row_sgn hs i) (Nat.le_trans (row_len hl i) (by decide))
theorem wd_back (i : Nat) : RdBack (prod (rowOf xs i)) (wordOf (rowOf xs i)) := by
  obtain ⟨h1, h2, h3⟩ := word_facts _ (row_sgn hs i)
  rw [← h3]
  exact rd_back h1 h2 (Nat.le_trans (wd_len hs hl i) (by decide))
theorem wd_back2 (i j : Nat) : RdBack ((prod (rowOf xs i)).mul (prod (rowOf xs j))) (join (wordOf (rowOf xs i)) (wordOf (rowOf xs j))) := by
  obtain ⟨h1, h2, h3⟩ := word_facts _ (row_sgn hs i)
  obtain ⟨k1, k2, k3⟩ := word_facts _ (row_sgn hs j)
  rw [← h3, ← k3, ← prod_join h2]
  refine rd_back (red_join h1 k1) (sgn_join h2 k2) ?_
  have := join_length (wordOf (rowOf xs i)) (wordOf (rowOf xs j))
  have := wd_len hs hl i
  have := wd_len hs hl j
  omega
theorem mul_fits (i j : Nat) : ((prod (rowOf xs i)).mul (prod (rowOf xs j))).Fits := by
  rw [← prod_append]
  refine prod_fits (fun y hy => ?_) ?_
  · rcases List.mem_append.mp hy with h | h
    · exact row_sgn hs i y h
    · exact row_sgn hs j y h
  · have := row_len hl i
    have := row_len hl j
    rw [List.length_append]
    omega
theorem wd_back3 : RdBack (((prod (rowOf xs 0)).mul (prod (rowOf xs 1))).mul (prod (rowOf xs 2))) (join (join (wordOf (rowOf xs 0)) (wordOf (rowOf xs 1))) (wordOf (rowOf xs 2))) := by
  obtain ⟨h1, h2, h3⟩ := word_facts _ (row_sgn hs 0)
  obtain ⟨k1, k2, k3⟩ := word_facts _ (row_sgn hs 1)
  obtain ⟨m1, m2, m3⟩ := word_facts _ (row_sgn hs 2)
  rw [← h3, ← k3, ← m3, ← prod_join h2, ← prod_join (sgn_join h2 k2)]
  refine rd_back (red_join (red_join h1 k1) m1) (sgn_join (sgn_join h2 k2) m2) ?_
  have := join_length (wordOf (rowOf xs 0)) (wordOf (rowOf xs 1))
  have := join_length (join (wordOf (rowOf xs 0)) (wordOf (rowOf xs 1))) (wordOf (rowOf xs 2))
  have := wd_len hs hl 0
  have := wd_len hs hl 1
  have := wd_len hs hl 2
  omega
theorem wd_assoc : join (wordOf (rowOf xs 0)) (join (wordOf (rowOf xs 1)) (wordOf (rowOf xs 2))) = join (join (wordOf (rowOf xs 0)) (wordOf (rowOf xs 1))) (wordOf (rowOf xs 2)) := by
  obtain ⟨h1, h2, h3⟩ := word_facts _ (row_sgn hs 0)
  obtain ⟨k1, k2, k3⟩ := word_facts _ (row_sgn hs 1)
  obtain ⟨m1, m2, m3⟩ := word_facts _ (row_sgn hs 2)
  have l0 := wd_len hs hl 0
  have l1 := wd_len hs hl 1
  have l2 := wd_len hs hl 2
  have a1 := join_length (wordOf (rowOf xs 1)) (wordOf (rowOf xs 2))
  have a2 := join_length (wordOf (rowOf xs 0)) (join (wordOf (rowOf xs 1)) (wordOf (rowOf xs 2)))
  have a3 := join_length (wordOf (rowOf xs 0)) (wordOf (rowOf xs 1))
  have a4 := join_length (join (wordOf (rowOf xs 0)) (wordOf (rowOf xs 1))) (wordOf (rowOf xs 2))
  refine red_eq (red_join h1 (red_join k1 m1)) (red_join (red_join h1 k1) m1) (sgn_join h2 (sgn_join k2 m2)) (sgn_join (sgn_join h2 k2) m2) (by omega) (by omega) ?_
  rw [prod_join h2, prod_join k2, prod_join (sgn_join h2 k2), prod_join h2, Sq.mul_assoc]
end
/-- the signs that the law builds -/
def signOf (k : Int) : Int := if k.fmod 4 = 0 then 1 else if k.fmod 4 = 1 then -1 else if k.fmod 4 = 2 then 2 else if k.fmod 4 = 3 then -2 else k
def signsOf (ns : List Int) : List Int := (ns.take 9 ++ [0, 2, 1, 3, 0, 2]).map signOf
theorem signOf_sgn (k : Int) : Sgn (signOf k) := by
  have h1 : k.fmod 4 < 4 := Int.fmod_lt_of_pos _ (by decide)
  have h2 : 0 ≤ k.fmod 4 := Int.fmod_nonneg_of_pos _ (by decide)
  unfold signOf Sgn
  split
  · omega
  split
  · omega
  split
  · omega
  split <;> omega
theorem signsOf_sgn (ns : List Int) : ∀ x ∈ signsOf ns, Sgn x := by
  intro x hx
  obtain ⟨k, _, rfl⟩ := List.mem_map.mp hx
  exact signOf_sgn k
theorem signsOf_length (ns : List Int) : 6 ≤ (signsOf ns).length ∧ (signsOf ns).length ≤ 15 := by
  unfold signsOf
  rw [List.length_map, List.length_append, List.length_take]
  simp
  omega
end Mine
end
section
open PySem PySem.Spec PySem.Calls PySem.W PyProof.Rows
set_option maxRecDepth 100000
set_option maxHeartbeats 8000000
namespace Mine
local macro_rules | `(tactic| walk_at "mine.toStop") => `(tactic| repeat' ((fail_if_success (first | (with_reducible show wpAny _ _ (call (Value.ref _) _) _ _ _) | (with_reducible show wpAny _ _ (compareOp _ _ _) _ _ _) | (with_reducible show wpAny _ _ (exec (Stmt.For _ _ _ _ _) _) _ _ _) | (with_reducible show wpAny _ _ (pyIter (Value.ref _)) _ _ _) | (with_reducible show wpAny _ _ (eval (Expr.ListComp _ _ _ _) _) _ _ _))); (first | (k_unfold; (try dsimp only)) | walk1 | (dsimp only; walk1) | (leave1; walk_say "STEP leave1"; (try dsimp only)) | fail "no step")))
local macro_rules | `(tactic| walk_at "subscriptTail") => `(tactic| ((with_reducible show wpAny _ _ (subscriptTail _ _ (Value.ref _) (Value.int _ _)) _ _ _); k_dflt (refine' item_at ?a ?b ?c ?d ?e ?_; (case a => k_asm); (case b => (repeat (first | assumption | apply List.Mem.tail))); (case c => omega); (case d => omega); (case e => assumption)); (try dsimp only)))
theorem DoesT.use {w : World} {f : Addr} {k : Nat} {news : List (Addr × Obj)} {vs : List Value} {Out : Value → List (Addr × Obj) → Prop} (D : DoesT w f k news vs Out)
    {mean : ExcName → Option Value} {mg mb : PySem.Str → Option Value} {dp un : Nat} {gd : Option (List Code)} {cn : PySem.Str} {cs : Scope} {a : Addr} {ccd : Value} {cl : List (PySem.Str × Addr)} {A₀ : Around}
    {base h₀ : Heap} {L : Addr} {m : PySem.Str → Option Value} {s : Shared} {Q E : Value → Shared → Prop}
    (B : Below A₀ base [] h₀) (F : Fr h₀ L s.heap m) (X : (Mine.hd.heap_39 w.params).In h₀) (N : News h₀ L s.heap news) (T : Top Mine.hd.view_39 (looseW Mine.hd.view_39 []) mean mg mb h₀) (X' : (Mine.hd.heap_39 w.params).In base) (T' : Top Mine.hd.view_39 (looseW Mine.hd.view_39 []) mean mg mb base) (hk : cs.kind = .function)
    (hd : dp + k < recursionLimit) (hu : un + 8 * k + 200 < cLine)
    (ret : ∀ r news' h' tk', Fr h₀ L h' m → News h₀ L h' news' → (∀ p ∈ news, p ∈ news') → Out r news' → Q r { s with heap := h', toks := tk' }) :
    wpAny (model PySem.Challenge.rw_nb0374_01.row.prog w) (ktrTop dp un gd cn cs L a ccd cl []) (call (.ref f) vs) Q E s :=
  D mean mg mb dp un gd cn cs a ccd cl A₀ base h₀ L m s Q E B F X N T X' T' hk hd hu ret
theorem SeqTurn.no {prog : Program} {w : World} {A : Around} {h₀ : Heap} {L : Addr} {m : PySem.Str → Option Value} {cenv : Env} {elt : Expr} {a0 : List (Addr × Obj)} {Ry : Value → List (Addr × Obj) → Prop} {Rn : List (Addr × Obj) → Prop} {E' : Value → Shared → Prop} {s s₃ : Shared}
    (h : SeqEnd h₀ L m a0 Rn s s₃) : SeqTurn prog w A h₀ L m cenv elt a0 Ry Rn E' s false s₃ := by
  unfold SeqTurn
  rw [if_neg (by decide)]
  exact h
theorem law_last {w : World} {base : Heap} {mean : ExcName → Option Value} {mg mb : PySem.Str → Option Value} {L fa Wr : Addr} {cd : Value} {s : Shared} {m : PySem.Str → Option Value} {ps : List Value} {Q : Flow → Shared → Prop} {E : Value → Shared → Prop}
    {sc : Scope} (hsc : sc = lawScope w.params) {st : Stmt} (hst : some st = (lawBody w.params)[11]?) {rest : List Stmt}
    (K0 : Below callerA base [] base) (F : Fr base L s.heap m) (X : (Mine.hd.heap_39 w.params).In base) (T : Top Mine.hd.view_39 (looseW Mine.hd.view_39 []) mean mg mb base)
    (hmr : m (Str.ofString "wrong") = some (.ref Wr)) {news : List (Addr × Obj)} (N : News base L s.heap news) {k : Nat} (hW : (Wr, seqOf "list" ps.toArray k) ∈ news) (p7 : ps.length = 7) (bad : ∀ v ∈ ps, BadPair w news v)
    (fin : ∀ h tk m' news', Fr base L h m' → News base L h news' → Q (.ret (.bool true)) { s with heap := h, toks := tk }) :
    wpAny (model PySem.Challenge.rw_nb0374_01.row.prog w) (callerA.deeper (envOfC (Str.ofString "law") sc L fa cd)) (execs (st :: rest) (envOfC (Str.ofString "law") sc L fa cd)) Q E s := by
  have hfill : PySem.Challenge.rw_nb0374_01 = PySem.Challenge.rw_nb0374_01 ∧ Mine.hd.heap_39 = Mine.hd.heap_39 := by (k_fill; exact ⟨rfl, rfl⟩)
  clear hfill
  w_on
  conv at hsc => rhs; whnf
  conv at hst => rhs; whnf
  have hst := Option.some.inj hst
  subst hsc hst
  have F1 := fr_know F hmr
  walk_at "mine.toStop"
  k_dflt (refine ListComp_seq (h₀ := base) (L := L) (m := m) (x := Str.ofString "pair") (cl := []) (J := fun i ys a => ys = []) (by with_unfolding_all rfl) (by decide) rfl (by decide) (by with_unfolding_all rfl) ?_)
  walk_at "mine.toStop"
  refine ⟨Wr, ps.toArray, k, news, rfl, rfl, fr_unknow F1 hmr, N, hW, by rw [List.size_toArray, p7]; decide, rfl, ?turn, ?fin⟩
  case turn =>
    intro i v z oI oC m₂ ys newsA h tk E' hv nC mC qI F2 N2 offA subA hJ
    subst hJ
    refine wpAny_tests_one ?_
    have hv' : v ∈ ps := List.mem_of_getElem? (by simpa using hv)
    obtain ⟨p, a, b, n, rfl, mp, hb⟩ := bad v hv'
    have mp2 := subA _ mp
    have ga : #[a, b][(0 : Int).toNat]? = some a := rfl
    have gb : #[a, b][(1 : Int).toNat]? = some b := rfl
    clear F1 N
    walk_at "mine.toStop"
    k_dflt (refine' DoesT.use (hb _ (fun q hq => .tail _ (.tail _ (.tail _ (subA q hq))))) K0 F2 X N2 T X T ?k6 ?k7 ?k8 ?_)
    case k6 => rfl
    case k7 => ktr_room
    case k8 => ktr_units
    intro r1 news1 h1 tk1 Fx1 Nx1 sub1 o1
    subst o1
    try dsimp only
    walk_at "mine.toStop"
    exact SeqTurn.no ⟨h1, _, news1, rfl, Fx1, Nx1, sub1, rfl⟩
  case fin =>
    intro D ys news' sub' off' hJ h tk F2 N2
    subst hJ
    dsimp only
    walk_at "mine.toStop"
    (with_reducible rename News _ _ _ _ => N9)
    (with_reducible rename Fr _ _ _ _ => F9)
    k_dflt (refine ke_eq_ints (xs := []) (ys := []) (News.isList N9 (.tail _ (.head _))) (News.isList N9 (.head _)) .nil .nil (by ktr_units) ?_)
    exact fin _ _ _ _ F9 N9
end Mine
end
section
open PySem PySem.Spec PySem.Calls PySem.W PyProof.Rows
set_option maxRecDepth 100000
namespace Mine
theorem mem_ne {a b : List (Addr × Obj)} {x : Addr} (sub : ∀ p ∈ a, p.1 ≠ x → p ∈ b) {c : String} {v : Value} {ns : List Int} {o : Obj} {h₀ h : Heap} {L : Addr} (N : News h₀ L h a) (ho : isSeq o = false) (hx : (x, o) ∈ a) (i : SeqIn c a v ns) : SeqIn c b v ns := by
  have hne := i.other N hx (.inl ho)
  obtain ⟨y, vs, n, rfl, hm, hi⟩ := i
  exact ⟨y, vs, n, rfl, sub _ hm fun e => hne (by rw [← e]), hi⟩
theorem cell_notseq {o : Obj} {v : Option Value} (h : o.data = .cell v) : isSeq o = false := by simp [isSeq, h]
theorem news_ne {a : List (Addr × Obj)} {h₀ h : Heap} {L x : Addr} {o : Obj} {p : Addr × Obj} (N : News h₀ L h a) (ho : isSeq o = false) (hx : (x, o) ∈ a) (hp : p ∈ a) (hs : isSeq p.2 = true) : p.1 ≠ x := by
  intro e
  have e1 := (N _ hx).1
  have e2 := (N _ hp).1
  dsimp only at e1
  rw [e, e1] at e2
  have e3 := Option.some.inj e2
  rw [← e3, ho] at hs
  cases hs
theorem law_body {w : World} {base : Heap} {mean : ExcName → Option Value} {mg mb : PySem.Str → Option Value} {L fa S D : Addr} {its : List Value} {ns : List Int} {cd : Value} {s : Shared} {m : PySem.Str → Option Value} {oE oS : Obj} {ys : List Value} {Q : Flow → Shared → Prop} {E : Value → Shared → Prop}
    {sc : Scope} (hsc : sc = lawScope w.params) {t1 t2 t3 t4 t5 t6 t7 t8 t9 t10 t11 : Stmt} (h1 : some t1 = (lawBody w.params)[1]?) (h2 : some t2 = (lawBody w.params)[2]?) (h3 : some t3 = (lawBody w.params)[3]?) (h4 : some t4 = (lawBody w.params)[4]?) (h5 : some t5 = (lawBody w.params)[5]?)
    (h6 : some t6 = (lawBody w.params)[6]?) (h7 : some t7 = (lawBody w.params)[7]?) (h8 : some t8 = (lawBody w.params)[8]?) (h9 : some t9 = (lawBody w.params)[9]?) (h10 : some t10 = (lawBody w.params)[10]?) (h11 : some t11 = (lawBody w.params)[11]?)
    (K0 : Below callerA base [] base) (F : Fr base L s.heap m) (X : (Mine.hd.heap_39 w.params).In base) (T : Top Mine.hd.view_39 (looseW Mine.hd.view_39 []) mean mg mb base)
    (hS : base.IsList S its.toArray) (hi : IntsAre its ns) (hn : ns.length ≤ 63) (hm : m (Str.ofString "script") = some (.ref S))
    (N : News base L s.heap [(L + 1 + 1, oE), (L + 1, oS), (D, LCg.lst ys)]) (dE : oE.data = .cell none) (dS : oS.data = .cell (some (.ref D))) (hI : IntsAre ys (signsOf ns))
    (hE : PassesOwn (model PySem.Challenge.rw_nb0374_01.row.prog w) (callerA.deeper (envOfC (Str.ofString "law") sc L fa cd)) (envOfC (Str.ofString "law") sc L fa cd) E)
    (fin : ∀ h tk m' news', Fr base L h m' → News base L h news' → Q (.ret (.bool true)) { s with heap := h, toks := tk }) :
    wpAny (model PySem.Challenge.rw_nb0374_01.row.prog w) (callerA.deeper (envOfC (Str.ofString "law") sc L fa cd)) (execs [t1, t2, t3, t4, t5, t6, t7, t8, t9, t10, t11] (envOfC (Str.ofString "law") sc L fa cd)) Q E s := by
  have sg := signsOf_sgn ns
  obtain ⟨lx6, lx⟩ := signsOf_length ns
  refine law_rows hsc h1 K0 F X T N dS hI (by omega) ?_
  intro R e0 e1 e2 vs0 vs1 vs2 n0 n1 n2 h tk Fr1 N1 i0 i1 i2
  refine law_empty (s := { s with heap := h, toks := tk }) hsc h2 K0 Fr1 X T hS hi hn ((if_neg (by decide)).trans hm) N1 (.tail _ (.tail _ (.tail _ (.tail _ (.head _))))) dE ?_
  intro c v news2 oE2 hh2 tk2 hc F2 N2 sub2 ie hE2 dE2
  have qE := cell_notseq dE
  have up2 : ∀ p, p ∈ [(R, LCg.lst [.ref e0, .ref e1, .ref e2]), (e0, seqOf "list" vs0.toArray n0), (e1, seqOf "list" vs1.toArray n1), (e2, seqOf "list" vs2.toArray n2), (L + 1 + 1, oE), (L + 1, oS), (D, LCg.lst ys)] → isSeq p.2 = true → p ∈ news2 := fun p hp hs => sub2 p hp (news_ne N1 qE (.tail _ (.tail _ (.tail _ (.tail _ (.head _))))) hp hs)
  have hR2 := up2 _ (.head _) rfl
  have hx0 := up2 _ (.tail _ (.head _)) rfl
  have hx1 := up2 _ (.tail _ (.tail _ (.head _))) rfl
  have hx2 := up2 _ (.tail _ (.tail _ (.tail _ (.head _)))) rfl
  have hD2 := up2 _ (.tail _ (.tail _ (.tail _ (.tail _ (.tail _ (.tail _ (.head _))))))) rfl
  have hS2 : (L + 1, oS) ∈ news2 := sub2 _ (.tail _ (.tail _ (.tail _ (.tail _ (.tail _ (.head _)))))) (Nat.ne_of_lt (Nat.lt_succ_self _))
  have rows2 : ∀ (i : Nat) (v : Value), [Value.ref e0, Value.ref e1, Value.ref e2][i]? = some v → SeqIn "list" news2 v (rowOf (signsOf ns) i) := by
    intro i v hv
    match i, hv with
    | 0, hv => cases hv; exact ⟨_, _, _, rfl, hx0, i0⟩
    | 1, hv => cases hv; exact ⟨_, _, _, rfl, hx1, i1⟩
    | 2, hv => cases hv; exact ⟨_, _, _, rfl, hx2, i2⟩
    | i + 3, hv => simp at hv
  refine law_words (s := { s with heap := hh2, toks := tk2 }) (rs := [.ref e0, .ref e1, .ref e2]) (rw' := rowOf (signsOf ns)) hsc h3 K0 F2 X T (if_pos rfl) hc N2 hE2 dE2 ie hR2 rfl rows2 (fun i => Nat.le_trans (row_len lx i) (by decide)) ?_
  intro W ws news3 hh3 tk3 F3 N3 sub3 hW w3 iw
  refine law_squares (s := { s with heap := hh3, toks := tk3 }) (rs := [.ref e0, .ref e1, .ref e2]) (rw' := rowOf (signsOf ns)) hsc h4 K0 F3 X T ((if_neg (by decide)).trans (if_pos rfl)) N3 (sub3 _ hR2) rfl (fun i v hv => (rows2 i v hv).mono sub3) (fun i x hx => (row_sgn sg i x hx).le) (fun i j => row_take sg lx i j) ?_
  intro S' ss news4 hh4 tk4 F4 N4 sub4 hS4 s3 is
  refine law_loops (s := { s with heap := hh4, toks := tk4 }) (wd := fun i => wordOf (rowOf (signsOf ns) i)) (sq := fun i => prod (rowOf (signsOf ns) i)) hsc h5 K0 F4 X T ((if_neg (by decide)).trans (if_pos rfl)) (if_pos rfl) hc N4 (sub4 _ hW) hS4 w3 s3 (fun i v hv => (iw i v hv).mono sub4) is
    (fun i => Nat.le_trans (wd_len sg lx i) (by decide)) (wd_back sg lx) (wd_back2 sg lx) (sq_fits sg lx) hE ?_
  intro news5 hh5 tk5 m5 hm5 F5 N5 sub5
  have hmw5 : m5 (Str.ofString "words") = some (.ref W) := (hm5 _ (by decide) (by decide)).trans ((if_neg (by decide)).trans (if_pos rfl))
  have hms5 : m5 (Str.ofString "squares") = some (.ref S') := (hm5 _ (by decide) (by decide)).trans (if_pos rfl)
  refine law_due (s := { s with heap := hh5, toks := tk5 }) (wd := fun i => wordOf (rowOf (signsOf ns) i)) (sq := fun i => prod (rowOf (signsOf ns) i)) hsc h6 h7 h8 h9 K0 F5 X T hmw5 hms5 hc N5 (sub5 _ (sub4 _ hW)) (sub5 _ hS4) w3 s3 (fun i v hv => ((iw i v hv).mono sub4).mono sub5) (fun i v hv => (is i v hv).mono sub5)
    (fun i => Nat.le_trans (wd_len sg lx i) (by decide)) (wd_back3 sg lx) (sq_fits sg lx 0) (mul_fits sg lx 0 1) (fun i => (word_facts _ (row_sgn sg i)).2.1) (wd_assoc sg lx) ?_
  intro news6 hh6 tk6 m6 hm6 F6 N6 sub6
  have sub26 : ∀ p ∈ news2, p ∈ news6 := fun p hp => sub6 p (sub5 p (sub4 p (sub3 p hp)))
  refine law_wrong (s := { s with heap := hh6, toks := tk6 }) (wd := fun i => wordOf (rowOf (signsOf ns) i)) hsc h10 K0 F6 X T ((hm6 _ (by decide) (by decide)).trans hmw5) hc N6 (sub6 _ (sub5 _ (sub4 _ hW))) w3 (fun i v hv => (((iw i v hv).mono sub4).mono sub5).mono sub6)
    (sub26 _ hD2) hI (by omega) (sub26 _ hS2) dS (sub26 _ hE2) dE2 (ie.mono sub26) ?_
  intro Wr ps news7 hh7 tk7 m7 hm7 F7 N7 hW7 p7 bad
  obtain ⟨k7, hW7⟩ := hW7
  exact law_last (s := { s with heap := hh7, toks := tk7 }) hsc h11 K0 F7 X T hm7 N7 hW7 p7 bad fin
end Mine
end
section
open PySem PySem.Spec PySem.Calls PySem.W PyProof.Rows
set_option maxRecDepth 100000
namespace Mine
theorem news_pick {h₀ h : Heap} {L : Addr} {a x y q1 q2 q3 : Addr × Obj} (N : News h₀ L h [a, q1, q2, q3, x, y]) : News h₀ L h [x, y, a] := by
  intro p hp
  simp only [List.mem_cons, List.not_mem_nil, or_false] at hp
  rcases hp with rfl | rfl | rfl
  · exact N _ (.tail _ (.tail _ (.tail _ (.tail _ (.head _)))))
  · exact N _ (.tail _ (.tail _ (.tail _ (.tail _ (.tail _ (.head _))))))
  · exact N _ (.head _)
local macro_rules | `(tactic| walk_at "mine.toExecs") => `(tactic| repeat' ((fail_if_success (with_reducible show wpAny _ _ (execs _ _) _ _ _)); (first | (k_unfold; (try dsimp only)) | walk1 | (dsimp only; walk1) | (leave1; walk_say "STEP leave1"; (try dsimp only)) | fail "no step")))
set_option maxHeartbeats 8000000 in
theorem law_holds : PySem.Challenge.rw_nb0374_01.Holds := hd (by
  k_go0
  all_goals try k_fold
  walk1
  walk_at "mine.toExecs"
  (with_reducible rename News _ _ _ _ => N9)
  (with_reducible rename Fr _ _ _ _ => F9)
  (rename IntsAre _ (List.map _ _) => hI9)
  (rename Heap.IsList _ _ _ => hL9)
  have N9' := news_pick N9
  k_dflt (refine' law_body ?hsc ?h1 ?h2 ?h3 ?h4 ?h5 ?h6 ?h7 ?h8 ?h9 ?h10 ?h11 ?K0 F9 ?X ?T hL9 ?hi ?hn ?hm N9' ?dE ?dS ?hI ?hE ?fin)
  case hsc => rfl
  case h1 => with_unfolding_all rfl
  case h2 => with_unfolding_all rfl
  case h3 => with_unfolding_all rfl
  case h4 => with_unfolding_all rfl
  case h5 => with_unfolding_all rfl
  case h6 => with_unfolding_all rfl
  case h7 => with_unfolding_all rfl
  case h8 => with_unfolding_all rfl
  case h9 => with_unfolding_all rfl
  case h10 => with_unfolding_all rfl
  case h11 => with_unfolding_all rfl
  case K0 => assumption
  case X => assumption
  case T => assumption
  case hi => assumption
  case hn => omega
  case hm => with_unfolding_all rfl
  case dE => first | assumption | (refine Eq.trans (by assumption) ?_; with_unfolding_all rfl)
  case dS => assumption
  case hI => exact hI9
  case hE => passes_own
  case fin =>
    intro h tk m' news' F N
    k_steps)
end Mine
end
open PySem PySem.W PyProof.Rows in
theorem PySem.Challenge.cw_nb0374_01_holds : PySem.Challenge.rw_nb0374_01.Holds :=
  Mine.law_holds
