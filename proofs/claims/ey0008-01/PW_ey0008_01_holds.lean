import PyProof.Rows.All
import PyProof.SetRoads
import KE.LcTurns
import Wide.FinOn
import OpenK.AllK
import Wide.All
import Lean
import PySem.Challenge.RW_ey0008_01
set_option Elab.async false
set_option rowWalk.seconds 3000
section
open PySem PySem.W PyProof.Rows
namespace Mine
set_option maxRecDepth 100000 in
set_option maxHeartbeats 8000000 in
open_top hd for PySem.Challenge.rw_ey0008_01
end Mine
set_option pp.maxSteps 20000

end
section
open PySem PySem.W PyProof.Rows PySem.Calls
namespace Mine

/-- what stands in a heap, written as a list -/
def Has (h : Heap) (l : List (Addr × Obj)) : Prop := ∀ p ∈ l, h.get? p.1 = some p.2
/-- new objects, made between two heaps -/
def Fresh (h h' : Heap) (l : List (Addr × Obj)) : Prop := ∀ p ∈ l, h'.get? p.1 = some p.2 ∧ h.get? p.1 = none

section
variable {prog : Program} {w : World} {A : Around} {E : Value → Shared → Prop} {s : Shared} {K : Frag}
  {name qual : Str} {params : Arguments} {body : List Stmt} {scope : Scope} {dV kV doc pm cdv ct oc : Value} {an od : Option Addr} {osl : Array (Option Value)} {f : Addr} {args : List Value} {binds : List (Str × Value)} {Q : Value → Shared → Prop}

/-- a def of the written part is entered: all of the heap stays but the objects of `muts` -/
theorem enter (muts : List (Addr × Obj)) (hm : Has s.heap muts) (X : K.In s.heap) (hlim : s.heap.NoLimit)
    (ho : K.lookup f = some ⟨oc, od, .func (fnOf name qual params body scope dV kV doc pm an cdv ct), osl⟩) (hcd : codeIn K cdv qual = true)
    (hroom : A.depth < recursionLimit)
    (hbind : BindsTo s (fnOf name qual params body scope dV kV doc pm an cdv ct) ⟨args, []⟩ binds)
    (hloc : ∀ y ∈ binds, scope.names.lookup y.1 = some .local)
    (h : ∀ g L h₁, Fr g L h₁ (fun y => binds.reverse.lookup y) → News g L h₁ muts →
      (∀ b o, b ∉ muts.map (·.1) → s.heap.get? b = some o → g.get? b = some o) → (∀ b o, s.heap.get? b = some o → h₁.get? b = some o ∧ b < L) → (∀ b o, g.get? b = some o → s.heap.get? b = some o) →
      wpAny (model prog w) (A.deeper (envOf qual scope L f cdv)) (execs body (envOf qual scope L f cdv))
        (fun fl s' => Q (match fl with | .ret v => v | _ => .none) s') (fun _ _ => False)
        { s with heap := h₁, toks := s.toks + binds.length })
    (hco : scope.isCoroutine = false) (hgen : scope.isGenerator = false) (hk : scope.kind = .function)
    (hcell : ∀ x ∈ scope.names, x.2 ≠ .cell) : wpAny (model prog w) A (call (.ref f) args) Q E s := by
  refine wpAny_call (codeAny_call_def (fd := fnOf name qual params body scope dV kV doc pm an cdv ct) (body := body) (binds := binds) hroom (X _ _ ho) rfl hlim (codeRec_of X hcd) rfl hbind hcell hloc (fun h₁ hns hk₁ => ?_) hco hgen hk)
  have st : ∀ b o, b ∉ muts.map (·.1) → s.heap.get? b = some o → (hideAll s.heap (muts.map (·.1))).get? b = some o := fun b o nb e => hideAll_get _ e nb
  refine wpAny_mono (h (hideAll s.heap (muts.map (·.1))) s.heap.objs.size h₁ ⟨hns, fun b o e => hk₁ b o (of_hideAll _ e), Nat.le_of_eq (hideAll_size _ _)⟩
    (fun p hp => ⟨hk₁ _ _ (hm p hp), Nat.ne_of_lt (Heap.lt_size (hm p hp)), hideAll_none _ (List.mem_map_of_mem hp)⟩) st (fun b o e => ⟨hk₁ b o e, Heap.lt_size e⟩) (fun b o e => of_hideAll _ e)) (fun fl s' hl => hl) fun _ _ y => y.elim
end
end Mine

end
section
open PySem PySem.W PyProof.Rows PySem.Calls
namespace Mine
set_option maxRecDepth 100000

abbrev tupO (vs : List Value) (n : Nat) : Obj := { cls := .type "tuple", data := .seq vs.toArray n }
inductive Tk where
  | fld (c : Str) (n : Int)
  | chr (x : Str)
inductive TkIn (cst : List (Addr × Obj)) : Value → Tk → Prop
  | fld {a b : Addr} {t1 t2 t3 : Tok} {k1 k2 : Nat} {c : Str} {n : Int} : (a, tupO [.str (Str.ofString "field") t1, .ref b] k1) ∈ cst → (b, tupO [.str c t2, .int n t3] k2) ∈ cst → TkIn cst (.ref a) (.fld c n)
  | chr {a : Addr} {t1 t2 : Tok} {k : Nat} {x : Str} : (a, tupO [.str (Str.ofString "chars") t1, .str x t2] k) ∈ cst → TkIn cst (.ref a) (.chr x)
inductive TksIn (cst : List (Addr × Obj)) : List Value → List Tk → Prop
  | nil : TksIn cst [] []
  | cons {v : Value} {vs : List Value} {d : Tk} {ds : List Tk} : TkIn cst v d → TksIn cst vs ds → TksIn cst (v :: vs) (d :: ds)
theorem TkIn.mono {l l' : List (Addr × Obj)} (hs : ∀ p ∈ l, p ∈ l') {v : Value} {d : Tk} : TkIn l v d → TkIn l' v d
  | .fld a b => .fld (hs _ a) (hs _ b)
  | .chr a => .chr (hs _ a)
theorem TksIn.mono {l l' : List (Addr × Obj)} (hs : ∀ p ∈ l, p ∈ l') {vs : List Value} {ds : List Tk} : TksIn l vs ds → TksIn l' vs ds := by
  intro h
  induction h with
  | nil => exact .nil
  | cons a _ ih => exact .cons (a.mono hs) ih
theorem TksIn.length {l : List (Addr × Obj)} {vs : List Value} {ds : List Tk} (h : TksIn l vs ds) : vs.length = ds.length := by
  induction h with
  | nil => rfl
  | cons _ _ ih => simp [ih]
theorem TksIn.append {l : List (Addr × Obj)} {vs ws : List Value} {ds es : List Tk} (h : TksIn l vs ds) (k : TksIn l ws es) : TksIn l (vs ++ ws) (ds ++ es) := by
  induction h with
  | nil => exact k
  | cons a _ ih => exact .cons a ih
theorem TksIn.get {l : List (Addr × Obj)} {vs : List Value} {ds : List Tk} (h : TksIn l vs ds) {i : Nat} {v : Value} (hi : vs[i]? = some v) : ∃ d, ds[i]? = some d ∧ TkIn l v d := by
  induction h generalizing i with
  | nil => simp at hi
  | cons a _ ih =>
    cases i with
    | zero => simp at hi; subst hi; exact ⟨_, rfl, a⟩
    | succ i => exact ih (by simpa using hi)
theorem TkIn.ref {l : List (Addr × Obj)} {v : Value} {d : Tk} (h : TkIn l v d) : ∃ T, v = .ref T := by cases h <;> exact ⟨_, rfl⟩

section
variable {prog : Program} {w : World} {A : Around} {E : Value → Shared → Prop} {s : Shared} {env : Env} {g : Heap} {L : Addr} {target : Expr} {body : List Stmt} {Q : Flow → Shared → Prop} {m : Str → Option Value} {news : List (Addr × Obj)}

theorem turnsList {elts : List Expr} {k : Nat} {pos : Pos} (hh : A.handled = none) (I ax : Addr) (hne : ax ≠ I) (items : Array Value) (href : ∀ (i : Nat) (v : Value), items[i]? = some v → ∃ T, v = Value.ref T) :
    KTurns prog w A (.Tuple elts k pos) I [I, ax] [I] items.size (fun i v _ => items[i]? = some v) (fun i v h => items[i]? = some v ∧ h.IsListIter I ax (i + 1) ∧ h.IsList ax items) (fun i h => h.IsListIter I ax i ∧ h.IsList ax items) where
  sub := fun b hb => by simp at hb; simp [hb]
  frame := fun _ _ _ st hk => ⟨st.1.at fun o e => hk I (by simp) o e, st.2.at fun o e => hk ax (by simp) o e⟩
  item := fun i s Q E hi st hQ => by
    refine wpAny_pyNext_list_item st.1 st.2 (x := items[i]) (by simp [hi]) fun h' hit' hs' => ?_
    exact hQ _ h' s.toks ⟨by simp [hi], hit', st.2.extBut hs'.extBut hne⟩ fun b o hb e => hs'.extBut b o (fun h => hb (by simp [h])) e
  go := fun i v s Q E hm hQ => by
    obtain ⟨T, rfl⟩ := href i v hm.1
    exact wpAny_letOwnedTupleGo_listiter hm.2.1 (hQ s.heap hm.1 hm.2 fun _ _ _ e => e)
  done := fun s Q E st hQ => wpAny_pyNext_list_end hh st.1 st.2 (by simp) fun h' he' => hQ h' s.toks fun b o hb e => he' b o (fun h => hb (by simp [h])) e

/-- the end of a turn: what the ledger bears -/
def TurnEnd (g : Heap) (L : Addr) (J : (Str → Option Value) → List (Addr × Obj) → Prop) (own : List (Addr × Obj)) (s : Shared) (f : Flow) (s' : Shared) : Prop :=
  f = .next ∧ ∃ h' tk m' nx, s' = { s with heap := h', toks := tk } ∧ Fr g L h' m' ∧ News g L h' (nx ++ own) ∧ (∀ p ∈ nx, ∀ q ∈ own, p.1 ≠ q.1) ∧ J m' nx

/-- a loop over a list that the base bears, its items references, its target a pair; the ledger is told by J -/
theorem loopBase {elts : List Expr} {k : Nat} {pos fpos : Pos} {iter : Expr} {l : Addr} {items : Array Value} (hL : env.locals = L) (hh : A.handled = none) (hl : g.IsList l items) (href : ∀ (i : Nat) (v : Value), items[i]? = some v → ∃ T, v = Value.ref T)
    (J : Nat → (Str → Option Value) → List (Addr × Obj) → Prop) (F : Fr g L s.heap m) (N : News g L s.heap news) (h0 : J 0 m news)
    (hi : ∀ (Q' : Value → Shared → Prop), Q' (.ref l) s → wpAny (model prog w) A (eval iter env) Q' (fun _ _ => False) s)
    (step : ∀ i v m₁ nx h₁ tk₁ I oI, items[i]? = some v → J i m₁ nx → (∀ p ∈ nx, p.1 ≠ I) → oI.cls = .type "list_iterator" → Fr g L h₁ m₁ → News g L h₁ (nx ++ [(I, oI)]) →
      wpAny (model prog w) A (assign (.Tuple elts k pos) env v) (fun _ s₃ => wpAny (model prog w) A (execs body env) (TurnEnd g L (J (i + 1)) [(I, oI)] s) (fun _ _ => False) s₃) (fun _ _ => False) { s with heap := h₁, toks := tk₁ })
    (done : ∀ h' tk m' nx, Fr g L h' m' → News g L h' nx → J items.size m' nx → Q .next { s with heap := h', toks := tk })
    (hs : ∀ x, foldedSetIterable iter env x = pure x := by intro _; rfl) :
    wpAny (model prog w) A (exec (.For (.Tuple elts k pos) iter body [] fpos) env) Q (fun _ _ => False) s := by
  subst hL
  refine For_turns F (hi _ ?_) hs (PassesOwn.never)
  have hls : s.heap.IsList l items := hl.at fun o e => F.keep l o e
  obtain ⟨ol, hol, _⟩ := id hl
  have hlt : l < g.objs.size := Heap.lt_size hol
  have hne : l ≠ s.heap.objs.size := Nat.ne_of_lt (Nat.lt_trans (Nat.lt_of_lt_of_le hlt F.above) F.ns.lt)
  refine wpAny_pyIter_list hls ?_
  have W := turnsList (prog := prog) (w := w) (elts := elts) (k := k) (pos := pos) hh s.heap.objs.size l hne items href
  have hI0 : g.get? s.heap.objs.size = none := next_is_new F
  refine ⟨_, _, _, _, _, _, _, m, news, J, rfl, W, ?_, ?_, ?_, ⟨⟨_, Heap.get?_push_size _ rfl, rfl, rfl⟩, hls.at fun o e => Heap.get?_push_of_some _ e⟩, F.push _, (fun p hp => ⟨Heap.get?_push_of_some _ (N p hp).1, (N p hp).2⟩), h0, ?_, ?_⟩
  · intro hm
    rcases List.mem_cons.mp hm with e | hm
    · exact absurd F.ns.lt (e ▸ Nat.lt_irrefl _)
    · exact absurd (Nat.lt_of_lt_of_le hlt F.above) ((List.mem_singleton.mp hm) ▸ Nat.lt_irrefl _)
  · intro b hb
    rw [List.mem_singleton.mp hb]; exact hI0
  · intro p hp hI
    exact absurd (Heap.lt_size (N p hp).1) ((List.mem_singleton.mp hI) ▸ Nat.lt_irrefl _)
  · intro i v m₁ nx h₁ tk₁ own hin hP hJ hoff hown hget hall hst F₁ N₁
    obtain ⟨⟨oI, hoI, hcI, _⟩, _⟩ := id hst
    have hIown : (s.heap.objs.size, oI) ∈ own := hall _ (List.mem_cons.mpr (.inl rfl)) hI0 _ hoI
    have hoffI : ∀ p ∈ nx, p.1 ≠ s.heap.objs.size := fun p hp e => hoff p hp (List.mem_singleton.mpr e)
    have N₂ : News g env.locals h₁ (nx ++ [(s.heap.objs.size, oI)]) := fun p hp => by
      rcases List.mem_append.mp hp with h | h
      · exact N₁ p (List.mem_append_right _ h)
      · rw [List.mem_singleton.mp h]; exact N₁ _ (List.mem_append_left _ hIown)
    have hz := step i v m₁ nx h₁ tk₁ _ oI hP hJ hoffI hcI F₁ N₂
    refine wpAny_mono hz (fun _ s₃ h₃ => wpAny_mono h₃ (fun f s₄ h₄ => ?_) fun _ _ e => e.elim) fun _ _ e => e.elim
    obtain ⟨rfl, h', tk, m', nx', rfl, F', N', ha, hJ'⟩ := h₄
    refine LoopStepV.next ⟨rfl, h', tk, m', nx', rfl, F', fun p hp => ?_, fun p hp hq => ?_, hJ'⟩
    · rcases List.mem_append.mp hp with h | h
      · have h1 := hown p h
        rcases List.mem_cons.mp h1 with e1 | e1
        · have h2 : h₁.get? p.1 = some p.2 := hget p h
          rw [e1, hoI] at h2
          have h3 : p = (s.heap.objs.size, oI) := Prod.ext e1 (Option.some.inj h2).symm
          rw [h3]; exact N' _ (List.mem_append_right _ (List.mem_singleton.mpr rfl))
        · have e2 := List.mem_singleton.mp e1
          have h4 := (N₁ p (List.mem_append_left _ h)).2.2
          rw [e2, hol] at h4; cases h4
      · exact N' p (List.mem_append_left _ h)
    · exact ha p hp _ (List.mem_singleton.mpr rfl) (List.mem_singleton.mp hq)
  · intro h' tk m' nx F' N' _ hJ'
    exact done h' tk m' nx F' N' hJ'

theorem Fr.pin {h : Heap} {x : Str} {v : Value} (F : Fr g L h m) (hv : m x = some v) : Fr g L h (fun y => if y = x then some v else m y) := by
  have e : (fun y => if y = x then some v else m y) = m := by
    funext y
    by_cases h : y = x
    · subst h; simp [hv]
    · simp [h]
  rw [e]; exact F
end
end Mine

end
section
open PySem PySem.W PyProof.Rows PySem.Calls
namespace Mine
set_option maxRecDepth 100000
abbrev AA (dp un : Nat) (fr : Option (List Env)) (gd : Option (List Code)) : Around := { handled := none, depth := dp, frames := fr, guards := gd, units := un }
abbrev lets : List Str := [Str.ofString "d", Str.ofString "M", Str.ofString "y", Str.ofString "E"]
abbrev txts : List Str := [Str.ofString " ", Str.ofString "/", Str.ofString ", ", Str.ofString " day ", Str.ofString "to d", Str.ofString " - "]
def TkOk : Tk → Prop
  | .fld c n => c ∈ lets ∧ 1 ≤ n ∧ n ≤ 3
  | .chr x => x ∈ txts
def tkText : Tk → Str
  | .fld c n => Txt.mul c n
  | .chr x => if (Builtin.Str.occurrences x (Str.ofString "d") 0 x.length 1).isEmpty = true then x else Str.ofString "'" ++ x ++ Str.ofString "'"
def writtenT (ts : List Tk) : Str := ts.foldl (fun a t => a ++ tkText t) (Str.ofString "")

theorem tkText_plain {x : Str} (h : (Builtin.Str.occurrences x (Str.ofString "d") 0 x.length 1).isEmpty = true) : tkText (.chr x) = x := if_pos h
theorem tkText_quoted {x : Str} (h : (Builtin.Str.occurrences x (Str.ofString "d") 0 x.length 1).isEmpty = false) : tkText (.chr x) = Str.ofString "'" ++ x ++ Str.ofString "'" := if_neg (by rw [h]; decide)
theorem writtenT_snoc (ts : List Tk) (t : Tk) : writtenT (ts ++ [t]) = writtenT ts ++ tkText t := by
  unfold writtenT; rw [List.foldl_append]; rfl
theorem int3 {n : Int} (h : 1 ≤ n) (h' : n ≤ 3) : n = 1 ∨ n = 2 ∨ n = 3 := by omega
theorem fld_len {c : Str} {n : Int} (h : TkOk (.fld c n)) : c.length = 1 ∧ (Txt.mul c n).length ≤ 3 := by
  obtain ⟨h1, h2, h3⟩ := h
  simp only [List.mem_cons, List.not_mem_nil, or_false] at h1
  rcases h1 with rfl | rfl | rfl | rfl <;> rcases int3 h2 h3 with rfl | rfl | rfl <;> decide
theorem chr_len {x : Str} (h : TkOk (.chr x)) : x.length ≤ 5 := by
  have h1 : x ∈ txts := h
  simp only [List.mem_cons, List.not_mem_nil, or_false] at h1
  rcases h1 with rfl | rfl | rfl | rfl | rfl | rfl <;> decide
theorem tkText_len {t : Tk} (h : TkOk t) : (tkText t).length ≤ 7 := by
  cases t with
  | fld c n => have := (fld_len h).2; show (Txt.mul c n).length ≤ 7; omega
  | chr x =>
    have := chr_len h
    show (if (Builtin.Str.occurrences x (Str.ofString "d") 0 x.length 1).isEmpty = true then x else Str.ofString "'" ++ x ++ Str.ofString "'").length ≤ 7
    split
    · omega
    · rw [Str.length_append, Str.length_append]
      have : (Str.ofString "'").length = 1 := by decide
      omega
theorem writtenT_len {ts : List Tk} (h : ∀ t ∈ ts, TkOk t) : (writtenT ts).length ≤ 7 * ts.length := by
  have key : ∀ (ts : List Tk) (a : Str), (∀ t ∈ ts, TkOk t) → (ts.foldl (fun a t => a ++ tkText t) a).length ≤ a.length + 7 * ts.length := by
    intro ts
    induction ts with
    | nil => intro a _; simp
    | cons t r ih =>
      intro a h
      have h1 := ih (a ++ tkText t) fun u hu => h u (.tail _ hu)
      have h2 := tkText_len (h t (.head _))
      rw [Str.length_append] at h1
      rw [List.foldl_cons, List.length_cons]
      omega
  have := key ts (Str.ofString "") h
  have e : (Str.ofString "").length = 0 := by decide
  unfold writtenT
  omega
theorem mulOk {c : Str} {n : Int} (h : TkOk (.fld c n)) : MulOk c n := by
  have := (fld_len h).1
  obtain ⟨_, h2, h3⟩ := h
  exact mulOk_of 1 3 (by omega) (by omega) (by omega) (by decide) (by decide)
theorem take_snoc {α : Type} {l : List α} {i : Nat} {a : α} (h : l[i]? = some a) : l.take (i + 1) = l.take i ++ [a] := by
  rw [List.take_add_one, h]; rfl
theorem lt_of_get {α : Type} {l : List α} {i : Nat} {a : α} (h : l[i]? = some a) : i < l.length := (List.getElem?_eq_some_iff.mp h).1
theorem mem_of_get {α : Type} {l : List α} {i : Nat} {a : α} (h : l[i]? = some a) : a ∈ l := List.mem_of_getElem? h
theorem written_take {ts : List Tk} (h : ∀ t ∈ ts, TkOk t) (hl : ts.length ≤ 16) (i : Nat) : (writtenT (ts.take i)).length ≤ 200 := by
  have := writtenT_len (ts := ts.take i) fun t ht => h t (List.mem_of_mem_take ht)
  have h2 : (ts.take i).length ≤ 16 := by rw [List.length_take]; omega
  omega
end Mine

end
section
open PySem PySem.W PyProof.Rows PySem.Calls
namespace Mine
set_option maxRecDepth 100000

theorem glue {g g₂ h h' : Heap} {L L₂ : Addr} {m m₂ : Str → Option Value} {news news₂ muts : List (Addr × Obj)} (F : Fr g L h m) (N : News g L h news) (hmn : ∀ p ∈ muts, p ∈ news)
    (st : ∀ b o, b ∉ muts.map (·.1) → h.get? b = some o → g₂.get? b = some o) (F' : Fr g₂ L₂ h' m₂) (N' : News g₂ L₂ h' news₂) :
    Fr g L h' m ∧ News g L h' news₂ ∧ (∀ keep : List (Addr × Obj), (∀ p ∈ keep, p ∈ news ∧ p.1 ∉ muts.map (·.1)) → News g L h' keep) ∧ (∀ q ∈ news₂, q.1 ∉ muts.map (·.1) → q.1 ≠ L ∧ ∀ p ∈ news, p.1 ≠ q.1) := by
  have hLm : L ∉ muts.map (·.1) := fun e => by
    obtain ⟨p, hp, e⟩ := List.mem_map.mp e
    exact (N p (hmn p hp)).2.1 e
  have hgm : ∀ b o, g.get? b = some o → b ∉ muts.map (·.1) := fun b o e hb => by
    obtain ⟨p, hp, rfl⟩ := List.mem_map.mp hb
    rw [(N p (hmn p hp)).2.2] at e; cases e
  obtain ⟨oL, es, ep, hL, hr⟩ := id F.ns
  have hq : ∀ q ∈ news₂, q.1 ∉ muts.map (·.1) → h.get? q.1 = none := fun q hq hn => by
    cases e : h.get? q.1 with
    | none => rfl
    | some o => have := st _ _ hn e; rw [(N' q hq).2.2] at this; cases this
  refine ⟨⟨⟨oL, es, ep, F'.keep _ _ (st _ _ hLm hL), hr⟩, fun b o e => F'.keep _ _ (st _ _ (hgm b o e) (F.keep b o e)), F.above⟩, fun q hq' => ?_, fun keep hk p hp => ?_, fun q hq' hn => ⟨fun e => ?_, fun p hp e => ?_⟩⟩
  · refine ⟨(N' q hq').1, ?_⟩
    by_cases hm : q.1 ∈ muts.map (·.1)
    · obtain ⟨p, hp, e⟩ := List.mem_map.mp hm
      rw [← e]; exact (N p (hmn p hp)).2
    · have z := hq q hq' hm
      refine ⟨fun e => ?_, ?_⟩
      · rw [e, hL] at z; cases z
      · cases e : g.get? q.1 with
        | none => rfl
        | some o => have := F.keep _ _ e; rw [z] at this; cases this
  · obtain ⟨h1, h2⟩ := hk p hp
    exact ⟨F'.keep _ _ (st _ _ h2 (N p h1).1), (N p h1).2⟩
  · have z := hq q hq' hn
    rw [e, hL] at z; cases z
  · have z := hq q hq' hn
    rw [← e, (N p hp).1] at z; cases z
theorem nmem1 {a r : Addr} {o : Obj} (h : @Ne Nat a r) : a ∉ [(r, o)].map (·.1) := by simpa using h
theorem nmem2 {a r b : Addr} {o o' : Obj} (h : @Ne Nat a r) (h' : @Ne Nat a b) : a ∉ [(r, o), (b, o')].map (·.1) := by
  simp; exact ⟨h, h'⟩
theorem nmem3 {a r b c : Addr} {o o' o'' : Obj} (h : @Ne Nat a r) (h' : @Ne Nat a b) (h'' : @Ne Nat a c) : a ∉ [(r, o), (b, o'), (c, o'')].map (·.1) := by
  simp; exact ⟨h, h', h''⟩
/-- the written part and the top are read where the caller stands -/
theorem upX {K : Frag} {g h : Heap} {L : Addr} {m : Str → Option Value} (X : K.In g) (F : Fr g L h m) : K.In h := X.keeps F.keep
theorem upT {p : Program} {loose : List Str} {mg mb : Str → Option Value} {g h : Heap} {L : Addr} {m : Str → Option Value} (T : TopRead p loose mg mb g) (F : Fr g L h m) : TopRead p loose mg mb h := T.keeps F.keep
end Mine

end
section
open PySem PySem.W PyProof.Rows PySem.Calls
namespace Mine
set_option maxRecDepth 100000
def selN (start stop step : Int) (i : Nat) : Bool :=
  if step > 0 then start ≤ i && i < stop && (i - start) % step == 0
  else stop < i && i ≤ start && (start - i) % (-step) == 0
def keptBy (a b c : Int) (xs : Array Value) : Array Value := (xs.toList.zipIdx.filterMap fun p => if selN a b c p.2 then none else some p.1).toArray
theorem kept_none (items : Array Value) : keptBy 0 items.size 1 items = #[] := by
  unfold keptBy
  have : (items.toList.zipIdx.filterMap fun p => if selN 0 items.size 1 p.2 then none else some p.1) = [] := by
    rw [List.filterMap_eq_nil_iff]
    intro p hp
    have h := List.snd_lt_of_mem_zipIdx hp
    have e : selN 0 items.size 1 p.2 = true := by
      unfold selN
      rw [if_pos (by decide)]
      simp only [Int.emod_one, Bool.and_eq_true, decide_eq_true_eq]
      refine ⟨⟨by omega, ?_⟩, by decide⟩
      have : p.2 < items.size := by simpa using h
      omega
    rw [e]; rfl
  rw [this]
section
variable {prog : Program} {w : World} {A : Around} {E : Value → Shared → Prop} {s : Shared}
theorem delItem_all {l sl : Addr} {items : Array Value} {n : Nat} {Q : Unit → Shared → Prop} (ho : s.heap.get? l = some (listOf items n)) (hs : s.heap.IsSliceOf sl .none .none .none)
    (hsz : items.size ≤ sizeLine) (h : ∀ h' n', Heap.SameBut l s.heap h' → h'.get? l = some (listOf #[] n') → Q () { s with heap := h' }) : wpAny (model prog w) A (delItem (.ref l) (.ref sl)) Q E s := by
  have hT : s.TypeIs (.ref l) "list" := ⟨_, ho, rfl⟩
  obtain ⟨os, hos, hcs, hds⟩ := id hs
  have hTs : s.TypeIs (.ref sl) "slice" := ⟨os, hos, hcs⟩
  refine wpAny_delItem_slot hT (by decide) F.slot_list_delitem (wpAny_call_entry F.slot_list_delitem hT F.entry_list_delitem ?_ (F.args_list_delitem_2 _ _))
  show wpAny _ _ (Builtin.List.listSubscript? (.ref sl) >>= _) _ _ s
  refine wpAny_bind ?_
  unfold Builtin.List.listSubscript?
  refine wpAny_bind (wpAny_specialOf hTs slice_no_index ?_)
  simp only [Option.isNone_none, if_true]
  refine wpAny_pure ?_
  show wpAny _ _ (typeOf (.ref sl) >>= _) _ _ s
  refine wpAny_bind (wpAny_typeOf hTs ?_)
  rw [if_neg (by decide)]
  rw [listSliceParts_eq]
  refine wpAny_bind (wpAny_bind (wpAny_field hos hds (x := .none) rfl (wpAny_bind (wpAny_listPart .none ?_))))
  rw [if_neg (show ¬ ((rawPart none == rawInt 0) = true) from Bool.false_ne_true)]
  refine wpAny_bind (wpAny_field hos hds (x := .none) rfl (wpAny_bind (wpAny_listPart .none ?_)))
  refine wpAny_bind (wpAny_field hos hds (x := .none) rfl (wpAny_bind (wpAny_listPart .none (wpAny_pure ?_))))
  refine wpAny_bind (m := Builtin.List.listItems (.ref l)) ?_
  unfold Builtin.List.listItems
  refine wpAny_bind (wpAny_seqItems ho rfl (wpAny_pure ?_))
  refine wpAny_bind (wpAny_of_eq (sliceIndices_raw none none none items.size (by simp)) ?_)
  refine wpAny_bind (wpAny_rule ?_)
  have e : keptBy 0 items.size 1 items = #[] := kept_none items
  show wpAny _ _ (updateSeq l (keptBy 0 items.size 1) >>= _) _ _ s
  refine wpAny_bind (wpAny_updateSeq ho rfl ?_ hsz (by rw [e]; exact Nat.zero_le _))
  refine wpAny_bind (wpAny_letGo (wpAny_pure ⟨_, rfl, h _ (if (#[] : Array Value).size == items.size then n else n + 1) (Heap.SameBut.update ..) ?_⟩))
  have e2 : Obj.mapSeq (keptBy 0 items.size 1) (listOf items n) = listOf #[] (if (#[] : Array Value).size == items.size then n else n + 1) := by
    show (⟨_, _, .seq (keptBy 0 items.size 1 items) (if (keptBy 0 items.size 1 items).size == items.size then n else n + 1), _⟩ : Obj) = _
    rw [e]
  rw [Heap.get?_update_self _ ho (by rw [e2]; rfl), e2]
end
end Mine

end
section
open PySem PySem.W PyProof.Rows PySem.Calls
namespace Mine
set_option maxRecDepth 100000
set_option maxHeartbeats 4000000
local macro_rules | `(tactic| ktr_unf) => `(tactic| repeat' (first | ((fail_if_success (with_reducible show wpAny _ _ (exec (Stmt.For _ _ _ _ _) _) _ _ _)); first | walk1 | (dsimp only; walk1)) | fail "stop"))
theorem written_spec : ∀ {w : World} {dp un : Nat} {fr : Option (List Env)} {gd : Option (List Code)} {E : Value → Shared → Prop} {s : Shared} {loose : List Str} {mg mb : Str → Option Value} {l : Addr} {vs : List Value} {ts : List Tk} {cst : List (Addr × Obj)} {Q : Value → Shared → Prop},
   (hd.heap_39 w.params).In s.heap → TopRead hd.view_39 loose mg mb s.heap → dp < 900 → un < 900 →
   s.heap.IsList l vs.toArray → Has s.heap cst → TksIn cst vs ts → ts.length ≤ 16 → (∀ t ∈ ts, TkOk t) →
   (∀ t h' tk, (∀ b o, s.heap.get? b = some o → h'.get? b = some o) → Q (.str (writtenT ts) t) {s with heap := h', toks := tk}) →
   wpAny (model PySem.Challenge.rw_ey0008_01.row.prog w) (AA dp un fr gd) (call (.ref 100) [.ref l]) Q E s := by
  k_fill
  intro w dp un fr gd E s loose mg mb l vs ts cst Q X T hd hu hl hc hi hlen hok hQ
  refine' enter (K := Mine.hd.heap_39 w.params) (binds := [(Str.ofString "tokens", .ref l)]) [] ?m X T.nolimit ?ho ?hcd ?hr ?hb ?hl ?_ ?c2 ?c3 ?c4 ?c5
  case m => intro p hp; cases hp
  case ho => k_is
  case hcd => k_is
  case hr => have : recursionLimit = 1000 := rfl; show dp < recursionLimit; omega
  case hb => exact BindsTo.of_eq rfl
  case hl => exact locs rfl
  case c2 => exact rfl
  case c3 => exact rfl
  case c4 => exact rfl
  case c5 => decide
  intro g L h₁ F N st old rev
  have X' : (Mine.hd.heap_39 w.params).In g := Frag.In.keeps X fun b o e => st b o (by simp) e
  have T' : TopRead Mine.hd.view_39 loose mg mb g := T.keeps fun b o e => st b o (by simp) e
  have hl' : g.IsList l vs.toArray := hl.at fun o e => st l o (by simp) e
  have hc' : Has g cst := fun p hp => st _ _ (by simp) (hc p hp)
  clear X T hl hc
  try dsimp only
  show wpAny _ _ _ _ _ _
  ktr_unf
  rename_i h2 F2 N2
  refine loopBase (L := L) rfl rfl hl' (fun i v hv => ?_) (fun i m nx => nx = [] ∧ ∃ t, m (Str.ofString "text") = some (.str (writtenT (ts.take i)) t)) F2 N2 ⟨rfl, _, rfl⟩ (fun Q' h => ?_) ?_ ?_
  · obtain ⟨d, _, hd'⟩ := hi.get (i := i) (v := v) (by simpa using hv)
    exact hd'.ref
  · walk1; exact h
  · rintro i v m₁ nx h₃ tk₃ I oI hv ⟨rfl, t, ht⟩ hnI hcI F3 N3
    obtain ⟨d, hd1, hd'⟩ := hi.get (i := i) (v := v) (by simpa using hv)
    replace F3 := Fr.pin F3 ht
    clear N2 F2
    have hs2 := written_take hok hlen i
    have hok1 := hok d (mem_of_get hd1)
    have hsn : writtenT (ts.take (i + 1)) = writtenT (ts.take i) ++ tkText d := by rw [take_snoc hd1, writtenT_snoc]
    cases hd' with
    | fld m1 m2 =>
      rename_i a b t1 t2 t3 k1 k2 c n
      have u1 : IsTup g a #[.str (Str.ofString "field") t1, .ref b] := ⟨_, hc' _ m1, rfl, _, rfl⟩
      have u2 : IsTup g b #[.str c t2, .int n t3] := ⟨_, hc' _ m2, rfl, _, rfl⟩
      have hM : MulOk c n := mulOk hok1
      have hs1 := (fld_len hok1).2
      ktr_unf
      exact ⟨rfl, _, _, _, [], rfl, by assumption, by assumption, by simp, rfl, _, by rw [hsn]; rfl⟩
    | chr m1 =>
      rename_i a t1 t2 k1 c
      have u1 : IsTup g a #[.str (Str.ofString "chars") t1, .str c t2] := ⟨_, hc' _ m1, rfl, _, rfl⟩
      have hs1 : c.length ≤ 5 := chr_len hok1
      ktr_unf
      · rename_i hz _ _ _ _ _ _
        exact ⟨rfl, _, _, _, [], rfl, by assumption, by assumption, by simp, rfl, _, by rw [hsn, tkText_plain hz]; rfl⟩
      · rename_i hz _ _ _ _ _ _ _ _ _ _ _ _
        exact ⟨rfl, _, _, _, [], rfl, by assumption, by assumption, by simp, rfl, _, by rw [hsn, tkText_quoted hz]; rfl⟩
  · rintro h' tk' m' nx F' N' ⟨rfl, t, ht⟩
    rw [List.take_of_length_le (by simp [hi.length])] at ht
    replace F' := Fr.pin F' ht
    clear N2 F2
    show wpAny _ _ _ _ _ _
    ktr_unf
    exact hQ _ _ _ fun b o e => F'.keep b o (st b o (by simp) e)
end Mine

end
section
open PySem PySem.W PyProof.Rows PySem.Calls
namespace Mine
set_option maxRecDepth 100000
set_option maxHeartbeats 4000000
local macro_rules | `(tactic| ktr_unf) => `(tactic| repeat' (first | ((fail_if_success (with_reducible show wpAny _ _ (exec (Stmt.For _ _ _ _ _) _) _ _ _)); first | walk1 | (dsimp only; walk1)) | fail "stop"))
local macro_rules | `(tactic| size_fits) => `(tactic| (rw [sizeLine_eq]; simp only [List.size_toArray, List.length_append, List.length_cons, List.length_nil, Array.size_push, Array.size_append]; omega))
theorem afield_N : ∀ {w : World} {dp un : Nat} {fr : Option (List Env)} {gd : Option (List Code)} {E : Value → Shared → Prop} {s : Shared} {loose : List Str} {mg mb : Str → Option Value} {g : Heap} {L : Addr} {m : Str → Option Value} {news keep : List (Addr × Obj)} {r fa na : Addr} {vs : List Value} {nr nf nn : Nat} {c : Str} {n : Int} {t t' : Tok} {Q : Value → Shared → Prop},
   (hd.heap_39 w.params).In g → TopRead hd.view_39 loose mg mb g → Fr g L s.heap m → News g L s.heap news → dp < 900 → un < 900 →
   (r, listOf vs.toArray nr) ∈ news → (fa, listOf [Value.str c t].toArray nf) ∈ news → (na, listOf [Value.int n t'].toArray nn) ∈ news → (∀ p ∈ keep, p ∈ news ∧ p.1 ≠ r ∧ p.1 ≠ fa ∧ p.1 ≠ na) → @Ne Nat r fa → @Ne Nat r na → @Ne Nat fa na → vs.length ≤ 1000 →
   (∀ (a b : Addr) (h' : Heap) (tk : Nat) (t1 t2 t3 t4 : Tok) (k1 k2 : Nat), Fr g L h' m → News g L h' ((a, tupO [.str (Str.ofString "field") t1, .ref b] k1) :: (b, tupO [.str c t, .int n t2] k2) :: (r, listOf (vs ++ [Value.ref a]).toArray (nr + 1)) :: (fa, listOf [Value.str (Str.ofString "") t3].toArray nf) :: (na, listOf [Value.int 0 t4].toArray nn) :: keep) →
      (∀ p ∈ news, @Ne Nat p.1 a) → (∀ p ∈ news, @Ne Nat p.1 b) → @Ne Nat a b → Q .none {s with heap := h', toks := tk}) →
   wpAny (model PySem.Challenge.rw_ey0008_01.row.prog w) (AA dp un fr gd) (call (.ref 60) [.ref r, .ref fa, .ref na]) Q E s := by
  k_fill
  intro w dp un fr gd E s loose mg mb g₀ L₀ m₀ news keep r fa na vs nr nf nn c n t t' Q X T F₀ N₀ hd hu m1 m2 m3 hk d1 d2 d3 hlen hQ
  have hmn : ∀ p ∈ [(r, listOf vs.toArray nr), (fa, listOf [Value.str c t].toArray nf), (na, listOf [Value.int n t'].toArray nn)], p ∈ news := by
    intro p hp
    simp only [List.mem_cons, List.not_mem_nil, or_false] at hp
    rcases hp with rfl | rfl | rfl <;> assumption
  refine' enter (K := Mine.hd.heap_39 w.params) (binds := [(Str.ofString "result", .ref r), (Str.ofString "fieldchar", .ref fa), (Str.ofString "fieldnum", .ref na)]) _ (fun p hp => (N₀ p (hmn p hp)).1) (upX X F₀) (upT T F₀).nolimit ?ho ?hcd ?hr ?hb ?hl ?_ ?c2 ?c3 ?c4 ?c5
  case ho => k_is
  case hcd => k_is
  case hr => have : recursionLimit = 1000 := rfl; show dp < recursionLimit; omega
  case hb => exact BindsTo.of_eq rfl
  case hl => exact locs rfl
  case c2 => exact rfl
  case c3 => exact rfl
  case c4 => exact rfl
  case c5 => decide
  intro g L h₁ F N st old rev
  have stg : ∀ b o, g₀.get? b = some o → g.get? b = some o := fun b o e => st b o (fun hb => by
    obtain ⟨p, hp, rfl⟩ := List.mem_map.mp hb
    have := (N₀ p (hmn p hp)).2.2
    rw [this] at e; cases e) (F₀.keep b o e)
  have X' : (Mine.hd.heap_39 w.params).In g := X.keeps stg
  have T' : TopRead Mine.hd.view_39 loose mg mb g := T.keeps stg
  clear X T
  try dsimp only
  show wpAny _ _ _ _ _ _
  ktr_unf
  rename_i tk1 tk2 D1 hh1 l1 D2 hh2 l2 hh3 F3 N3 hh4 F4 N4 hh5 F5 N5
  obtain ⟨FF, NN, NK, NF⟩ := glue F₀ N₀ hmn st F5 N5
  have NK' := NK keep fun p hp => ⟨(hk p hp).1, nmem3 (hk p hp).2.1 (hk p hp).2.2.1 (hk p hp).2.2.2⟩
  have ha := NF _ (List.Mem.head _) (nmem3 (by dsimp only; omega) (by dsimp only; omega) (by dsimp only; omega))
  have hb := NF _ (List.Mem.tail _ (List.Mem.head _)) (nmem3 (by dsimp only; omega) (by dsimp only; omega) (by dsimp only; omega))
  refine hQ D2 D1 _ _ tk1 tk2 tk (tk + 1 + 1) 0 0 FF ?_ (fun p hp => ha.2 p hp) (fun p hp => hb.2 p hp) (by omega)
  intro p hp
  simp only [List.mem_cons] at hp
  rcases hp with rfl | rfl | rfl | rfl | rfl | hp
  · exact NN _ (List.Mem.head _)
  · exact NN _ (List.Mem.tail _ (List.Mem.head _))
  · have := NN _ (List.Mem.tail _ (List.Mem.tail _ (List.Mem.head _)))
    simpa using this
  · exact NN _ (List.Mem.tail _ (List.Mem.tail _ (List.Mem.tail _ (List.Mem.head _))))
  · exact NN _ (List.Mem.tail _ (List.Mem.tail _ (List.Mem.tail _ (List.Mem.tail _ (List.Mem.head _)))))
  · exact NK' p hp
end Mine

end
section
open PySem PySem.W PyProof.Rows PySem.Calls
namespace Mine
set_option maxRecDepth 100000
set_option maxHeartbeats 4000000
local macro_rules | `(tactic| ktr_unf) => `(tactic| repeat' (first | ((fail_if_success (with_reducible show wpAny _ _ (exec (Stmt.For _ _ _ _ _) _) _ _ _)); first | walk1 | (dsimp only; walk1)) | fail "stop"))
local macro_rules | `(tactic| size_fits) => `(tactic| (rw [sizeLine_eq]; simp only [List.size_toArray, List.length_append, List.length_cons, List.length_nil, Array.size_push, Array.size_append]; omega))
theorem sum_ones {xs : List Str} (h : ∀ x ∈ xs, x.length = 1) : (xs.map (·.length)).sum = xs.length := by
  induction xs with
  | nil => rfl
  | cons x r ih =>
    rw [List.map_cons, List.sum_cons, ih fun y hy => h y (.tail _ hy), h x (.head _), List.length_cons]; omega
theorem replace_none {prog : Program} {w : World} {A : Around} {E : Value → Shared → Prop} {s : Shared} {x y z : Str} {t u v : Tok} {Q : Value → Shared → Prop} (h : (Builtin.Str.occurrences x y 0 x.length (x.length + 1)).isEmpty = true)
    (hq : ∀ t' k, Q (.str x t') { s with toks := k }) : wpAny (model prog w) A (call (.builtin "str.replace") [.str x t, .str y u, .str z v]) Q E s := by
  have h2 : ((Builtin.Str.occurrences x y 0 x.length (x.length + 1)).isEmpty || (y.length == 0 && z.length == 0)) = true := by rw [h]; rfl
  refine call_gives F.slot_str_replace (typeIs_str _ _ _) F.entry_str_replace (F.args_str_replace_3 _ _ _)
    (gives_str_replace x y z t u v fun hc => by rw [h2] at hc; cases hc) ?_
  simp only [h2, if_true]
  exact hq t s.toks
local macro_rules | `(tactic| walk_at "call builtin:str.replace") => `(tactic| (refine replace_none (by assumption) ?_; intro _ _))
local macro_rules | `(tactic| walk_at "call builtin:str.join") => `(tactic| (refine join_listW (News.isList (by assumption) (by k_mem)) (by assumption) (by decide) (by assumption) ?_; intro _ _))
theorem strsAre_len {cs : List Value} {xs : List Str} (h : StrsAre cs xs) : cs.length = xs.length := by
  induction h with
  | nil => rfl
  | cons _ _ _ ih => simp [ih]
theorem achars_N : ∀ {w : World} {dp un : Nat} {fr : Option (List Env)} {gd : Option (List Code)} {E : Value → Shared → Prop} {s : Shared} {loose : List Str} {mg mb : Str → Option Value} {g : Heap} {L : Addr} {m : Str → Option Value} {news keep : List (Addr × Obj)} {r ca : Addr} {vs cs : List Value} {xs : List Str} {nr nc : Nat} {Q : Value → Shared → Prop},
   (hd.heap_39 w.params).In g → TopRead hd.view_39 loose mg mb g → Fr g L s.heap m → News g L s.heap news → dp < 900 → un < 900 →
   (r, listOf vs.toArray nr) ∈ news → (ca, listOf cs.toArray nc) ∈ news → StrsAre cs xs → (∀ p ∈ keep, p ∈ news ∧ p.1 ≠ r ∧ p.1 ≠ ca) → @Ne Nat r ca → vs.length ≤ 1000 → xs.length ≤ 1000 → (∀ x ∈ xs, x.length = 1) → (Builtin.Str.occurrences (Txt.join (Str.ofString "") xs) (Str.ofString "\x00") 0 (Txt.join (Str.ofString "") xs).length ((Txt.join (Str.ofString "") xs).length + 1)).isEmpty = true →
   (∀ (a : Addr) (h' : Heap) (tk : Nat) (t1 t2 : Tok) (k1 nc' : Nat), Fr g L h' m → News g L h' ((a, tupO [.str (Str.ofString "chars") t1, .str (Txt.join (Str.ofString "") xs) t2] k1) :: (r, listOf (vs ++ [Value.ref a]).toArray (nr + 1)) :: (ca, listOf ([] : List Value).toArray nc') :: keep) →
      (∀ p ∈ news, @Ne Nat p.1 a) → Q .none {s with heap := h', toks := tk}) →
   wpAny (model PySem.Challenge.rw_ey0008_01.row.prog w) (AA dp un fr gd) (call (.ref 53) [.ref r, .ref ca]) Q E s := by
  k_fill
  intro w dp un fr gd E s loose mg mb g₀ L₀ m₀ news keep r ca vs cs xs nr nc Q X T F₀ N₀ hd hu m1 m2 hS hk d1 hlen hlx h1 hno hQ
  have hmn : ∀ p ∈ [(r, listOf vs.toArray nr), (ca, listOf cs.toArray nc)], p ∈ news := by
    intro p hp
    simp only [List.mem_cons, List.not_mem_nil, or_false] at hp
    rcases hp with rfl | rfl <;> assumption
  refine' enter (K := Mine.hd.heap_39 w.params) (binds := [(Str.ofString "result", .ref r), (Str.ofString "charbuf", .ref ca)]) _ (fun p hp => (N₀ p (hmn p hp)).1) (upX X F₀) (upT T F₀).nolimit ?ho ?hcd ?hr ?hb ?hl ?_ ?c2 ?c3 ?c4 ?c5
  case ho => k_is
  case hcd => k_is
  case hr => have : recursionLimit = 1000 := rfl; show dp < recursionLimit; omega
  case hb => exact BindsTo.of_eq rfl
  case hl => exact locs rfl
  case c2 => exact rfl
  case c3 => exact rfl
  case c4 => exact rfl
  case c5 => decide
  intro g L h₁ F N st old rev
  have stg : ∀ b o, g₀.get? b = some o → g.get? b = some o := fun b o e => st b o (fun hb => by
    obtain ⟨p, hp, rfl⟩ := List.mem_map.mp hb
    have := (N₀ p (hmn p hp)).2.2
    rw [this] at e; cases e) (F₀.keep b o e)
  have X' : (Mine.hd.heap_39 w.params).In g := X.keeps stg
  have T' : TopRead Mine.hd.view_39 loose mg mb g := T.keeps stg
  clear X T
  try dsimp only
  have hS' : StrsAre cs.toArray.toList xs := hS
  have hw : (xs.map (·.length)).sum + xs.length ≤ 1048576 := by rw [sum_ones h1]; omega
  show wpAny _ _ _ _ _ _
  ktr_unf
  rename_i tk1 t1 k1 t2 k2 D hh1 l1 hh2 F2 N2
  have F3 := F2.push { cls := .type "slice", data := .fields #[.none, .none, .none] }
  have N3 := N2.push F2 { cls := .type "slice", data := .fields #[.none, .none, .none] }
  have hxs := strsAre_len hS
  refine delItem_all (l := ca) (items := cs.toArray) (n := nc) (N3 _ (List.Mem.tail _ (List.Mem.tail _ (List.Mem.tail _ (List.Mem.head _))))).1 (Heap.IsSliceOf.new ..) (by rw [sizeLine_eq]; simp only [List.size_toArray]; omega) fun h4 n4 hs4 ho4 => ?_
  have dca := N3 _ (List.Mem.tail _ (List.Mem.tail _ (List.Mem.tail _ (List.Mem.head _))))
  have F4 := F3.change hs4 dca.2.1 dca.2.2
  have N4 : News g L h4 [(D, tupO [.str (Str.ofString "chars") tk1, .str (Txt.join (Str.ofString "") xs) t2] 0), (r, listOf (vs ++ [Value.ref D]).toArray (nr + 1)), (ca, listOf #[] n4)] := by
    intro p hp
    simp only [List.mem_cons, List.not_mem_nil, or_false] at hp
    rcases hp with rfl | rfl | rfl
    · have z := N3 _ (List.Mem.tail _ (List.Mem.head _))
      exact ⟨(hs4.2 D (by show @Ne Nat D ca; omega)).trans z.1, z.2⟩
    · have z := N3 _ (List.Mem.tail _ (List.Mem.tail _ (List.Mem.head _)))
      have z1 := (hs4.2 r (by show @Ne Nat r ca; omega)).trans z.1
      refine ⟨by simpa using z1, z.2⟩
    · exact ⟨ho4, dca.2⟩
  clear F3 N3 F2 N2
  ktr_unf
  obtain ⟨FF, NN, NK, NF⟩ := glue F₀ N₀ hmn st F4 N4
  have NK' := NK keep fun p hp => ⟨(hk p hp).1, nmem2 (hk p hp).2.1 (hk p hp).2.2⟩
  have ha := NF _ (List.Mem.head _) (nmem2 (by dsimp only; omega) (by dsimp only; omega))
  refine hQ D _ _ tk1 t2 0 n4 FF ?_ (fun p hp => ha.2 p hp)
  intro p hp
  simp only [List.mem_cons] at hp
  rcases hp with rfl | rfl | rfl | hp
  · exact NN _ (List.Mem.head _)
  · exact NN _ (List.Mem.tail _ (List.Mem.head _))
  · exact NN _ (List.Mem.tail _ (List.Mem.tail _ (List.Mem.head _)))
  · exact NK' p hp
end Mine

end
section
open PySem PySem.W PyProof.Rows PySem.Calls
namespace Mine
set_option maxRecDepth 100000
section
variable {prog : Program} {w : World} {A : Around} {s : Shared} {env : Env} {g : Heap} {L : Addr} {body : List Stmt} {Q : Flow → Shared → Prop} {m : Str → Option Value} {news : List (Addr × Obj)}

/-- a loop over a text's signs; the ledger is told by J -/
theorem loopStr {x : Str} {px fpos : Pos} {iter : Expr} {tx : Str} (hL : env.locals = L) (hh : A.handled = none) (hx : env.kindOf x = some .local)
    (hp : (env.scope.kind == .class || (env.scope.kind == .module && env.locals != env.globals)) = false)
    (J : Nat → (Str → Option Value) → List (Addr × Obj) → Prop) (F : Fr g L s.heap m) (N : News g L s.heap news) (h0 : J 0 m news)
    (hi : ∀ (Q' : Value → Shared → Prop), (∀ t tk, Q' (.str tx t) { s with toks := tk }) → wpAny (model prog w) A (eval iter env) Q' (fun _ _ => False) s)
    (step : ∀ i c u m₁ nx h₁ tk₁ I oI, tx.cps[i]? = some c → J i m₁ nx → (∀ p ∈ nx, p.1 ≠ I) → Fr g L h₁ (fun y => if y = x then some (.str ⟨#[c]⟩ u) else m₁ y) → News g L h₁ (nx ++ [(I, oI)]) →
      wpAny (model prog w) A (execs body env) (TurnEnd g L (J (i + 1)) [(I, oI)] s) (fun _ _ => False) { s with heap := h₁, toks := tk₁ })
    (done : ∀ h' tk m' nx, Fr g L h' m' → News g L h' nx → J tx.cps.size m' nx → Q .next { s with heap := h', toks := tk })
    (hs : ∀ x, foldedSetIterable iter env x = pure x := by intro _; rfl) :
    wpAny (model prog w) A (exec (.For (.Name x px) iter body [] fpos) env) Q (fun _ _ => False) s := by
  subst hL
  refine For_invV g hx hp (hi _ fun t tk => ?_) hs (PassesOwn.never)
  refine wpAny_pyIter_strU ?_
  have hI0 : g.get? s.heap.objs.size = none := next_is_new F
  have go : ∀ (T : String) (o : Obj), Walks prog w A s.heap.objs.size [s.heap.objs.size] [s.heap.objs.size] tx.cps.size (SignAt tx) (fun i h => h.IsStrIter s.heap.objs.size T tx t i) →
      (s.heap.push o).IsStrIter s.heap.objs.size T tx t 0 → LoopAtV prog w A g env x body Q (fun _ _ => False) (.ref s.heap.objs.size) { s with heap := s.heap.push o, toks := tk } := by
    intro T o W hst
    refine ⟨_, _, _, _, _, _, m, news, J, rfl, W, ?_, ?_, ?_, hst, F.push _, (fun p hp => ⟨Heap.get?_push_of_some _ (N p hp).1, (N p hp).2⟩), h0, ?_, ?_⟩
    · intro hm
      exact absurd F.ns.lt ((List.mem_singleton.mp hm) ▸ Nat.lt_irrefl _)
    · intro b hb
      rw [List.mem_singleton.mp hb]; exact hI0
    · intro p hp hI
      exact absurd (Heap.lt_size (N p hp).1) ((List.mem_singleton.mp hI) ▸ Nat.lt_irrefl _)
    · rintro i v m₁ nx s₁ own ⟨hh', tk', rfl⟩ hin hP hJ hoff hown hget hall hst' F₁ N₁
      obtain ⟨c, u, hc, rfl⟩ := hP
      obtain ⟨oI, hoI, hcI, _⟩ := id hst'
      have hIown : (s.heap.objs.size, oI) ∈ own := hall _ (List.mem_singleton.mpr rfl) hI0 _ hoI
      have hoffI : ∀ p ∈ nx, p.1 ≠ s.heap.objs.size := fun p hp e => hoff p hp (List.mem_singleton.mpr e)
      have N₂ : News g env.locals hh' (nx ++ [(s.heap.objs.size, oI)]) := fun p hp => by
        rcases List.mem_append.mp hp with h | h
        · exact N₁ p (List.mem_append_right _ h)
        · rw [List.mem_singleton.mp h]; exact N₁ _ (List.mem_append_left _ hIown)
      refine wpAny_mono (step i c u m₁ nx hh' tk' _ oI hc hJ hoffI F₁ N₂) (fun f s₄ h₄ => ?_) fun _ _ e => e.elim
      obtain ⟨rfl, h', tk2, m', nx', rfl, F', N', ha, hJ'⟩ := h₄
      refine LoopStepV.next ⟨rfl, h', tk2, m', nx', rfl, F', fun p hp => ?_, fun p hp hq => ?_, hJ'⟩
      · rcases List.mem_append.mp hp with h | h
        · have h1 := List.mem_singleton.mp (hown p h)
          have h2 : hh'.get? p.1 = some p.2 := hget p h
          rw [h1, hoI] at h2
          have h3 : p = (s.heap.objs.size, oI) := Prod.ext h1 (Option.some.inj h2).symm
          rw [h3]; exact N' _ (List.mem_append_right _ (List.mem_singleton.mpr rfl))
        · exact N' p (List.mem_append_left _ h)
      · exact ha p hp _ (List.mem_singleton.mpr rfl) (List.mem_singleton.mp hq)
    · intro h' tk2 m' nx F' N' _ hJ'
      exact done h' tk2 m' nx F' N' hJ'
  unfold strIterType
  split
  · exact go "str_ascii_iterator" _ (Walks.strAscii hh _ _ _) ⟨_, Heap.get?_push_size _ rfl, rfl, rfl⟩
  · exact go "str_iterator" _ (Walks.strWide hh _ _ _) ⟨_, Heap.get?_push_size _ rfl, rfl, rfl⟩
end

/-! PATTERN_CHARS -/
abbrev patKeys : List Str := ["G", "y", "Y", "u", "Q", "q", "M", "L", "w", "W", "d", "D", "F", "g", "E", "e", "c", "a", "b", "B", "h", "H", "K", "k", "m", "s", "S", "A", "z", "Z", "O", "v", "V", "x", "X"].map Str.ofString
def isPat (x : Str) : Bool := patKeys.any fun k => Value.isStrOf x (.str k 0)
theorem patIn : ∀ {w : World} {A : Around} {E : Value → Shared → Prop} {s : Shared} {g : Heap} {L : Addr} {m : Str → Option Value} {x : Str} {t : Tok} {Q : Value → Shared → Prop},
    (hd.heap_39 w.params).In g → Fr g L s.heap m → Q (.bool (isPat x)) { s with toks := s.toks + 1 } →
    wpAny (model PySem.Challenge.rw_ey0008_01.row.prog w) A (compareOp .In (.str x t) (.ref 15)) Q E s := by
  k_fill
  intro w A E s g L m x t Q X F h
  refine' wpAny_in_of (strKind_is _ w x t) ?lo (mapOf_K (K := Mine.hd.heap_39 w.params) (prog := PySem.Challenge.rw_ey0008_01.row.prog) (X.keeps F.keep) ?l ?k) ?_
  case lo => decide
  case l => k_is
  case k => k_keys
  have e : ∀ (es : Array DictEntry), (findBy Value.isStrOf es x).isSome = es.toList.any fun d => Value.isStrOf x d.key := by
    intro es
    obtain ⟨l⟩ := es
    unfold findBy
    rw [List.find?_toArray, Option.isSome_map]
    show (List.find? (fun d => Value.isStrOf x d.key) l).isSome = l.any fun d => Value.isStrOf x d.key
    induction l with
    | nil => rfl
    | cons a r ih =>
      rw [List.find?_cons, List.any_cons]
      cases Value.isStrOf x a.key
      · simpa using ih
      · rfl
  rw [e]
  exact h
end Mine

end
section
open PySem PySem.W PyProof.Rows PySem.Calls
namespace Mine
set_option maxRecDepth 100000
structure Dist5 (r ca fa na I : Nat) : Prop where
  a1 : r ≠ ca
  a2 : r ≠ fa
  a3 : r ≠ na
  a4 : r ≠ I
  b1 : ca ≠ fa
  b2 : ca ≠ na
  b3 : ca ≠ I
  c1 : fa ≠ na
  c2 : fa ≠ I
  d1 : na ≠ I
theorem ownOff_cons {a : Addr} {o : Obj} {rest : List (Addr × Obj)} {adr : List Addr} (h : ∀ b ∈ adr, a ≠ b) (O : OwnOff rest adr) : OwnOff ((a, o) :: rest) adr := by
  intro p hp b hb
  rcases List.mem_cons.mp hp with rfl | hp
  · exact h b hb
  · exact O p hp b hb

abbrev noZero (xs : List Str) : Prop := (Builtin.Str.occurrences (Txt.join (Str.ofString "") xs) (Str.ofString "\x00") 0 (Txt.join (Str.ofString "") xs).length ((Txt.join (Str.ofString "") xs).length + 1)).isEmpty = true

section
variable {w : World} {dp un : Nat} {fr : Option (List Env)} {gd : Option (List Code)} {E : Value → Shared → Prop} {s : Shared} {loose : List Str} {mg mb : Str → Option Value} {g : Heap} {L : Addr} {m : Str → Option Value} {rest : List (Addr × Obj)} {r ca fa na I : Addr} {oc of' on oI : Obj} {vs cs : List Value} {ts : List Tk} {xs : List Str} {nr nc nf nn : Nat} {c : Str} {n : Int} {t t' : Tok} {Q : Value → Shared → Prop}

theorem afield_C (X : (hd.heap_39 w.params).In g) (T : TopRead hd.view_39 loose mg mb g) (F : Fr g L s.heap m)
    (N : News g L s.heap ((r, listOf vs.toArray nr) :: (ca, oc) :: (fa, listOf [Value.str c t].toArray nf) :: (na, listOf [Value.int n t'].toArray nn) :: (I, oI) :: rest)) (hd : dp < 900) (hu : un < 900)
    (D : Dist5 r ca fa na I) (O : OwnOff rest [r, ca, fa, na, I]) (hT : TksIn rest vs ts) (hlen : vs.length ≤ 1000)
    (h : ∀ (h' : Heap) (tk : Nat) (vs' : List Value) (nr' : Nat) (t3 t4 : Tok) (rest' : List (Addr × Obj)), Fr g L h' m → News g L h' ((r, listOf vs'.toArray nr') :: (ca, oc) :: (fa, listOf [Value.str (Str.ofString "") t3].toArray nf) :: (na, listOf [Value.int 0 t4].toArray nn) :: (I, oI) :: rest') →
      OwnOff rest' [r, ca, fa, na, I] → TksIn rest' vs' (ts ++ [.fld c n]) → vs'.length = vs.length + 1 → Q .none { s with heap := h', toks := tk }) :
    wpAny (model PySem.Challenge.rw_ey0008_01.row.prog w) (AA dp un fr gd) (call (.ref 60) [.ref r, .ref fa, .ref na]) Q E s := by
  refine afield_N (keep := (ca, oc) :: (I, oI) :: rest) X T F N hd hu (.head _) (.tail _ (.tail _ (.head _))) (.tail _ (.tail _ (.tail _ (.head _)))) (fun p hp => ?_) D.a2 D.a3 D.c1 hlen ?_
  · rcases List.mem_cons.mp hp with rfl | hp
    · exact ⟨.tail _ (.head _), D.a1.symm, D.b1, D.b2⟩
    · rcases List.mem_cons.mp hp with rfl | hp
      · exact ⟨.tail _ (.tail _ (.tail _ (.tail _ (.head _)))), D.a4.symm, D.c2.symm, D.d1.symm⟩
      · exact ⟨.tail _ (.tail _ (.tail _ (.tail _ (.tail _ hp)))), O p hp _ (by simp), O p hp _ (by simp), O p hp _ (by simp)⟩
  · intro a b h' tk t1 t2 t3 t4 k1 k2 F' N' ha hb hab
    have off : ∀ z : Addr, (∀ p ∈ ((r, listOf vs.toArray nr) :: (ca, oc) :: (fa, listOf [Value.str c t].toArray nf) :: (na, listOf [Value.int n t'].toArray nn) :: (I, oI) :: rest), @Ne Nat p.1 z) → ∀ x ∈ [r, ca, fa, na, I], z ≠ x := by
      intro z hz x hx
      simp only [List.mem_cons, List.not_mem_nil, or_false] at hx
      rcases hx with rfl | rfl | rfl | rfl | rfl
      · exact (hz _ (.head _)).symm
      · exact (hz _ (.tail _ (.head _))).symm
      · exact (hz _ (.tail _ (.tail _ (.head _)))).symm
      · exact (hz _ (.tail _ (.tail _ (.tail _ (.head _))))).symm
      · exact (hz _ (.tail _ (.tail _ (.tail _ (.tail _ (.head _)))))).symm
    refine h h' tk (vs ++ [Value.ref a]) (nr + 1) t3 t4 ((a, tupO [.str (Str.ofString "field") t1, .ref b] k1) :: (b, tupO [.str c t, .int n t2] k2) :: rest) F' (fun p hp => N' p ?_) (ownOff_cons (off a ha) (ownOff_cons (off b hb) O)) ((hT.mono fun p hp => .tail _ (.tail _ hp)).append (.cons (.fld (.head _) (.tail _ (.head _))) .nil)) (by simp)
    simp only [List.mem_cons] at hp ⊢
    rcases hp with h | h | h | h | h | h | h | h <;> simp [h]

theorem achars_C (X : (hd.heap_39 w.params).In g) (T : TopRead hd.view_39 loose mg mb g) (F : Fr g L s.heap m)
    (N : News g L s.heap ((r, listOf vs.toArray nr) :: (ca, listOf cs.toArray nc) :: (fa, of') :: (na, on) :: (I, oI) :: rest)) (hd : dp < 900) (hu : un < 900)
    (D : Dist5 r ca fa na I) (O : OwnOff rest [r, ca, fa, na, I]) (hT : TksIn rest vs ts) (hS : StrsAre cs xs) (hlen : vs.length ≤ 1000) (hlx : xs.length ≤ 1000) (h1 : ∀ x ∈ xs, x.length = 1) (hz : noZero xs)
    (h : ∀ (h' : Heap) (tk : Nat) (vs' : List Value) (nr' nc' : Nat) (rest' : List (Addr × Obj)), Fr g L h' m → News g L h' ((r, listOf vs'.toArray nr') :: (ca, listOf ([] : List Value).toArray nc') :: (fa, of') :: (na, on) :: (I, oI) :: rest') →
      OwnOff rest' [r, ca, fa, na, I] → TksIn rest' vs' (ts ++ [.chr (Txt.join (Str.ofString "") xs)]) → vs'.length = vs.length + 1 → Q .none { s with heap := h', toks := tk }) :
    wpAny (model PySem.Challenge.rw_ey0008_01.row.prog w) (AA dp un fr gd) (call (.ref 53) [.ref r, .ref ca]) Q E s := by
  refine achars_N (keep := (fa, of') :: (na, on) :: (I, oI) :: rest) X T F N hd hu (.head _) (.tail _ (.head _)) hS (fun p hp => ?_) D.a1 hlen hlx h1 hz ?_
  · rcases List.mem_cons.mp hp with rfl | hp
    · exact ⟨.tail _ (.tail _ (.head _)), D.a2.symm, D.b1.symm⟩
    · rcases List.mem_cons.mp hp with rfl | hp
      · exact ⟨.tail _ (.tail _ (.tail _ (.head _))), D.a3.symm, D.b2.symm⟩
      · rcases List.mem_cons.mp hp with rfl | hp
        · exact ⟨.tail _ (.tail _ (.tail _ (.tail _ (.head _)))), D.a4.symm, D.b3.symm⟩
        · exact ⟨.tail _ (.tail _ (.tail _ (.tail _ (.tail _ hp)))), O p hp _ (by simp), O p hp _ (by simp)⟩
  · intro a h' tk t1 t2 k1 nc' F' N' ha
    have off : ∀ x ∈ [r, ca, fa, na, I], a ≠ x := by
      intro x hx
      simp only [List.mem_cons, List.not_mem_nil, or_false] at hx
      rcases hx with rfl | rfl | rfl | rfl | rfl
      · exact (ha _ (.head _)).symm
      · exact (ha _ (.tail _ (.head _))).symm
      · exact (ha _ (.tail _ (.tail _ (.head _)))).symm
      · exact (ha _ (.tail _ (.tail _ (.tail _ (.head _))))).symm
      · exact (ha _ (.tail _ (.tail _ (.tail _ (.tail _ (.head _)))))).symm
    refine h h' tk (vs ++ [Value.ref a]) (nr + 1) nc' ((a, tupO [.str (Str.ofString "chars") t1, .str (Txt.join (Str.ofString "") xs) t2] k1) :: rest) F' (fun p hp => N' p ?_) (ownOff_cons off O) ((hT.mono fun p hp => .tail _ hp).append (.cons (.chr (.head _)) .nil)) (by simp)
    simp only [List.mem_cons] at hp ⊢
    rcases hp with h | h | h | h | h | h | h <;> simp [h]
theorem afield_D (X : (hd.heap_39 w.params).In g) (T : TopRead hd.view_39 loose mg mb g) (F : Fr g L s.heap m)
    (N : News g L s.heap ((r, listOf vs.toArray nr) :: (ca, oc) :: (fa, listOf [Value.str c t].toArray nf) :: (na, listOf [Value.int n t'].toArray nn) :: rest)) (hd : dp < 900) (hu : un < 900)
    (d1 : @Ne Nat r fa) (d2 : @Ne Nat r na) (d3 : @Ne Nat fa na) (O : OwnOff rest [r, ca, fa, na]) (hT : TksIn rest vs ts) (hlen : vs.length ≤ 1000)
    (h : ∀ (h' : Heap) (tk : Nat) (vs' : List Value) (nr' : Nat) (rest' : List (Addr × Obj)), Fr g L h' m → News g L h' ((r, listOf vs'.toArray nr') :: rest') →
      TksIn rest' vs' (ts ++ [.fld c n]) → Q .none { s with heap := h', toks := tk }) :
    wpAny (model PySem.Challenge.rw_ey0008_01.row.prog w) (AA dp un fr gd) (call (.ref 60) [.ref r, .ref fa, .ref na]) Q E s := by
  refine afield_N (keep := rest) X T F N hd hu (.head _) (.tail _ (.tail _ (.head _))) (.tail _ (.tail _ (.tail _ (.head _)))) (fun p hp => ?_) d1 d2 d3 hlen ?_
  · exact ⟨.tail _ (.tail _ (.tail _ (.tail _ hp))), O p hp _ (by simp), O p hp _ (by simp), O p hp _ (by simp)⟩
  · intro a b h' tk t1 t2 t3 t4 k1 k2 F' N' ha hb hab
    refine h h' tk (vs ++ [Value.ref a]) (nr + 1) ((a, tupO [.str (Str.ofString "field") t1, .ref b] k1) :: (b, tupO [.str c t, .int n t2] k2) :: rest) F' (fun p hp => N' p ?_) ((hT.mono fun p hp => .tail _ (.tail _ hp)).append (.cons (.fld (.head _) (.tail _ (.head _))) .nil))
    simp only [List.mem_cons] at hp ⊢
    rcases hp with h | h | h | h <;> simp [h]
theorem achars_D (X : (hd.heap_39 w.params).In g) (T : TopRead hd.view_39 loose mg mb g) (F : Fr g L s.heap m)
    (N : News g L s.heap ((r, listOf vs.toArray nr) :: (ca, listOf cs.toArray nc) :: (fa, of') :: (na, on) :: rest)) (hd : dp < 900) (hu : un < 900)
    (d1 : @Ne Nat r ca) (O : OwnOff rest [r, ca, fa, na]) (hT : TksIn rest vs ts) (hS : StrsAre cs xs) (hlen : vs.length ≤ 1000) (hlx : xs.length ≤ 1000) (h1 : ∀ x ∈ xs, x.length = 1) (hz : noZero xs)
    (h : ∀ (h' : Heap) (tk : Nat) (vs' : List Value) (nr' : Nat) (rest' : List (Addr × Obj)), Fr g L h' m → News g L h' ((r, listOf vs'.toArray nr') :: rest') →
      TksIn rest' vs' (ts ++ [.chr (Txt.join (Str.ofString "") xs)]) → Q .none { s with heap := h', toks := tk }) :
    wpAny (model PySem.Challenge.rw_ey0008_01.row.prog w) (AA dp un fr gd) (call (.ref 53) [.ref r, .ref ca]) Q E s := by
  refine achars_N (keep := rest) X T F N hd hu (.head _) (.tail _ (.head _)) hS (fun p hp => ?_) d1 hlen hlx h1 hz ?_
  · exact ⟨.tail _ (.tail _ (.tail _ (.tail _ hp))), O p hp _ (by simp), O p hp _ (by simp)⟩
  · intro a h' tk t1 t2 k1 nc' F' N' ha
    refine h h' tk (vs ++ [Value.ref a]) (nr + 1) ((a, tupO [.str (Str.ofString "chars") t1, .str (Txt.join (Str.ofString "") xs) t2] k1) :: rest) F' (fun p hp => N' p ?_) ((hT.mono fun p hp => .tail _ hp).append (.cons (.chr (.head _)) .nil))
    simp only [List.mem_cons] at hp ⊢
    rcases hp with h | h | h <;> simp [h]
end
end Mine

end
section
open PySem PySem.W PyProof.Rows PySem.Calls
namespace Mine
set_option maxRecDepth 100000

structure TS where
  res : List Tk
  qb : Option (List Str)
  cb : List Str
  fc : Str
  fn : Int
abbrev TS.ff (S : TS) : TS := { S with res := S.res ++ [.fld S.fc S.fn], fc := Str.ofString "", fn := 0 }
abbrev TS.fch (S : TS) : TS := { S with res := S.res ++ [.chr (Txt.join (Str.ofString "") S.cb)], cb := [] }
def tstep (S : TS) (c : Nat) : TS :=
  match S.qb with
  | some q => if ((⟨#[c]⟩ : Str) == Str.ofString "'") = true then { S with cb := S.cb ++ q, qb := none } else { S with qb := some (q ++ [⟨#[c]⟩]) }
  | none =>
    if ((⟨#[c]⟩ : Str) == Str.ofString "'") = true then
      (if (S.fc.length : Int) = 0 then (if S.cb.isEmpty = true then { S with qb := some [] } else { S.fch with qb := some [] }) else { S.ff with qb := some [] })
    else if isPat ⟨#[c]⟩ = true then
      (if S.cb.isEmpty = true then
        (if ((⟨#[c]⟩ : Str) == S.fc) = true then { S with fn := S.fn + 1 } else if (S.fc.length : Int) = 0 then { S with fc := ⟨#[c]⟩, fn := 1 } else { S.ff with fc := ⟨#[c]⟩, fn := 1 })
      else
        (if ((⟨#[c]⟩ : Str) == S.fc) = true then { S.fch with fn := S.fn + 1 } else if (S.fc.length : Int) = 0 then { S.fch with fc := ⟨#[c]⟩, fn := 1 } else { S.fch.ff with fc := ⟨#[c]⟩, fn := 1 }))
    else if (S.fc.length : Int) = 0 then { S with cb := S.cb ++ [⟨#[c]⟩] } else { S.ff with cb := S.cb ++ [⟨#[c]⟩] }
section
variable {res : List Tk} {cb q : List Str} {fc : Str} {fn : Int} {c : Nat}
theorem ts1 (h1 : ((⟨#[c]⟩ : Str) == Str.ofString "'") = true) (h2 : (fc.length : Int) ≠ 0) : tstep ⟨res, none, cb, fc, fn⟩ c = ⟨res ++ [.fld fc fn], some [], cb, Str.ofString "", 0⟩ := by simp only [tstep, h1, h2, if_true, if_false]
theorem ts2 (h1 : ((⟨#[c]⟩ : Str) == Str.ofString "'") = true) (h2 : (fc.length : Int) = 0) (h3 : cb.isEmpty = true) : tstep ⟨res, none, cb, fc, fn⟩ c = ⟨res, some [], cb, fc, fn⟩ := by simp only [tstep, h1, h2, h3, if_true, if_false]
theorem ts3 (h1 : ((⟨#[c]⟩ : Str) == Str.ofString "'") = true) (h2 : (fc.length : Int) = 0) (h3 : cb.isEmpty = false) : tstep ⟨res, none, cb, fc, fn⟩ c = ⟨res ++ [.chr (Txt.join (Str.ofString "") cb)], some [], [], fc, fn⟩ := by simp only [tstep, h1, h2, h3, if_true, if_false, Bool.false_eq_true]
theorem ts4 (h1 : ((⟨#[c]⟩ : Str) == Str.ofString "'") = false) (h2 : isPat ⟨#[c]⟩ = true) (h3 : cb.isEmpty = true) (h4 : ((⟨#[c]⟩ : Str) == fc) = true) : tstep ⟨res, none, cb, fc, fn⟩ c = ⟨res, none, cb, fc, fn + 1⟩ := by simp only [tstep, h1, h2, h3, h4, if_true, if_false, Bool.false_eq_true]
theorem ts5 (h1 : ((⟨#[c]⟩ : Str) == Str.ofString "'") = false) (h2 : isPat ⟨#[c]⟩ = true) (h3 : cb.isEmpty = true) (h4 : ((⟨#[c]⟩ : Str) == fc) = false) (h5 : (fc.length : Int) ≠ 0) : tstep ⟨res, none, cb, fc, fn⟩ c = ⟨res ++ [.fld fc fn], none, cb, ⟨#[c]⟩, 1⟩ := by simp only [tstep, h1, h2, h3, h4, h5, if_true, if_false, Bool.false_eq_true]
theorem ts6 (h1 : ((⟨#[c]⟩ : Str) == Str.ofString "'") = false) (h2 : isPat ⟨#[c]⟩ = true) (h3 : cb.isEmpty = true) (h4 : ((⟨#[c]⟩ : Str) == fc) = false) (h5 : (fc.length : Int) = 0) : tstep ⟨res, none, cb, fc, fn⟩ c = ⟨res, none, cb, ⟨#[c]⟩, 1⟩ := by simp only [tstep, h1, h2, h3, h4, h5, if_true, if_false, Bool.false_eq_true]
theorem ts7 (h1 : ((⟨#[c]⟩ : Str) == Str.ofString "'") = false) (h2 : isPat ⟨#[c]⟩ = true) (h3 : cb.isEmpty = false) (h4 : ((⟨#[c]⟩ : Str) == fc) = true) : tstep ⟨res, none, cb, fc, fn⟩ c = ⟨res ++ [.chr (Txt.join (Str.ofString "") cb)], none, [], fc, fn + 1⟩ := by simp only [tstep, h1, h2, h3, h4, if_true, if_false, Bool.false_eq_true]
theorem ts8 (h1 : ((⟨#[c]⟩ : Str) == Str.ofString "'") = false) (h2 : isPat ⟨#[c]⟩ = true) (h3 : cb.isEmpty = false) (h4 : ((⟨#[c]⟩ : Str) == fc) = false) (h5 : (fc.length : Int) ≠ 0) : tstep ⟨res, none, cb, fc, fn⟩ c = ⟨res ++ [.chr (Txt.join (Str.ofString "") cb)] ++ [.fld fc fn], none, [], ⟨#[c]⟩, 1⟩ := by simp only [tstep, h1, h2, h3, h4, h5, if_true, if_false, Bool.false_eq_true]
theorem ts9 (h1 : ((⟨#[c]⟩ : Str) == Str.ofString "'") = false) (h2 : isPat ⟨#[c]⟩ = true) (h3 : cb.isEmpty = false) (h4 : ((⟨#[c]⟩ : Str) == fc) = false) (h5 : (fc.length : Int) = 0) : tstep ⟨res, none, cb, fc, fn⟩ c = ⟨res ++ [.chr (Txt.join (Str.ofString "") cb)], none, [], ⟨#[c]⟩, 1⟩ := by simp only [tstep, h1, h2, h3, h4, h5, if_true, if_false, Bool.false_eq_true]
theorem ts10 (h1 : ((⟨#[c]⟩ : Str) == Str.ofString "'") = false) (h2 : isPat ⟨#[c]⟩ = false) (h3 : (fc.length : Int) ≠ 0) : tstep ⟨res, none, cb, fc, fn⟩ c = ⟨res ++ [.fld fc fn], none, cb ++ [⟨#[c]⟩], Str.ofString "", 0⟩ := by simp only [tstep, h1, h2, h3, if_true, if_false, Bool.false_eq_true]
theorem ts11 (h1 : ((⟨#[c]⟩ : Str) == Str.ofString "'") = false) (h2 : isPat ⟨#[c]⟩ = false) (h3 : (fc.length : Int) = 0) : tstep ⟨res, none, cb, fc, fn⟩ c = ⟨res, none, cb ++ [⟨#[c]⟩], fc, fn⟩ := by simp only [tstep, h1, h2, h3, if_true, if_false, Bool.false_eq_true]
theorem ts12 (h1 : ((⟨#[c]⟩ : Str) == Str.ofString "'") = true) : tstep ⟨res, some q, cb, fc, fn⟩ c = ⟨res, none, cb ++ q, fc, fn⟩ := by simp only [tstep, h1, if_true]
theorem ts13 (h1 : ((⟨#[c]⟩ : Str) == Str.ofString "'") = false) : tstep ⟨res, some q, cb, fc, fn⟩ c = ⟨res, some (q ++ [⟨#[c]⟩]), cb, fc, fn⟩ := by simp only [tstep, h1, if_false, Bool.false_eq_true]
end
def tinit : TS := ⟨[], none, [], Str.ofString "", 0⟩
def tend (S : TS) : List Tk := if (S.fc.length : Int) = 0 then (if S.cb.isEmpty = true then S.res else S.res ++ [.chr (Txt.join (Str.ofString "") S.cb)]) else S.res ++ [.fld S.fc S.fn]
def tokF (x : Str) : List Tk := tend (x.cps.toList.foldl tstep tinit)

section
variable {prog : Program} {w : World} {A : Around} {E : Value → Shared → Prop} {s : Shared} {g : Heap} {L : Addr} {m : Str → Option Value} {news : List (Addr × Obj)}
theorem Fr.congr {h : Heap} {m' : Str → Option Value} (F : Fr g L h m) (e : ∀ y, m' y = m y) : Fr g L h m' := by
  have : m' = m := funext e
  rw [this]; exact F
def Sg (x : Str) : Prop := ∃ c, c ≠ 0 ∧ x = ⟨#[c]⟩
theorem sg_len {x : Str} (h : Sg x) : x.length = 1 := by obtain ⟨c, _, rfl⟩ := h; rfl
theorem strsAre_app {cs ds : List Value} {xs ys : List Str} (h : StrsAre cs xs) (k : StrsAre ds ys) : StrsAre (cs ++ ds) (xs ++ ys) := by
  induction h with
  | nil => exact k
  | cons y t _ ih => exact .cons y t ih
theorem item0 {l : Addr} {v : Value} {vs : List Value} {n : Nat} {u : Tok} {value slice : Expr} {Q : Value → Shared → Prop} (N : News g L s.heap news) (hm : (l, listOf (v :: vs).toArray n) ∈ news) (h : Q v s)
    (hs : subscripted slice false (.ref l) (.int 0 u) = operate [.ref l, .int 0 u] (getItem (.ref l) (.int 0 u)) := by with_unfolding_all rfl) :
    wpAny (model prog w) A (subscriptTail value slice (.ref l) (.int 0 u)) Q E s :=
  have hL := News.isList N hm
  tail_any hL.typeIs slot_list_getitem.lookup (wpAny_getItem_list hL (by decide) (by decide) rfl h) hs
theorem truthy_strs {l : Addr} {cs : List Value} {xs : List Str} {n : Nat} {Q : Bool → Shared → Prop} (N : News g L s.heap news) (hm : (l, listOf cs.toArray n) ∈ news) (hS : StrsAre cs xs) (hx : xs.length ≤ 1000)
    (h : Q (!xs.isEmpty) { s with toks := s.toks + 1 + 1 }) : wpAny (model prog w) A (truthy (.ref l)) Q E s := by
  have hl := strsAre_len hS
  refine wpAny_truthy_list (News.isList N hm) (by simp only [List.size_toArray]; omega) ?_
  have e : (!cs.toArray.isEmpty) = !xs.isEmpty := by
    cases hS with
    | nil => rfl
    | cons _ _ _ => simp
  rw [e]; exact h
theorem extend_Q {r ca fa na I q : Addr} {or of' on oI : Obj} {cs qs : List Value} {nc nq : Nat} {rest : List (Addr × Obj)} {Q : Value → Shared → Prop} (F : Fr g L s.heap m)
    (N : News g L s.heap ((r, or) :: (ca, listOf cs.toArray nc) :: (fa, of') :: (na, on) :: (I, oI) :: (q, listOf qs.toArray nq) :: rest)) (D : Dist5 r ca fa na I) (hq : @Ne Nat q ca) (O : OwnOff rest [r, ca, fa, na, I, q]) (hc : cs.length ≤ 1000) (hqs : qs.length ≤ 1000)
    (h : ∀ h' nc', Fr g L h' m → News g L h' ((r, or) :: (ca, listOf (cs ++ qs).toArray nc') :: (fa, of') :: (na, on) :: (I, oI) :: (q, listOf qs.toArray nq) :: rest) → Q .none { s with heap := h' }) :
    wpAny (model prog w) A (call (.builtin "list.extend") [.ref ca, .ref q]) Q E s := by
  have z := N (ca, listOf cs.toArray nc) (.tail _ (.head _))
  have zq := N (q, listOf qs.toArray nq) (.tail _ (.tail _ (.tail _ (.tail _ (.tail _ (.head _))))))
  have e : cs.toArray ++ qs.toArray = (cs ++ qs).toArray := by simp
  refine call_meets PySem.F.slot_list_extend ⟨_, z.1, rfl⟩ PySem.F.entry_list_extend (PySem.F.args_list_extend_2 _ _)
    (PySem.AutoSeq1.list_extend_list_list_0 ca cs.toArray nc q qs.toArray nq ?_ (by rw [sizeLine_eq]; simp only [List.size_toArray]; omega) (by rw [sizeLine_eq]; simp only [List.size_toArray]; omega)) ⟨z.1, zq.1, h _ (if ((cs ++ qs).toArray.size == cs.toArray.size) = true then nc else nc + 1) (F.change (Heap.SameBut.update ..) z.2.1 z.2.2) ?_⟩
  · unfold Builtin.List.listTooLong
    simp only [List.size_toArray]
    intro hh
    rw [Bool.and_eq_true] at hh
    have h2 := hh.2
    first | (rw [sizeLine_eq] at h2; simp at h2; omega) | (simp [sizeLine_eq] at h2; omega)
  · have hs := Heap.SameBut.update s.heap ca (Obj.mapSeq fun x => x ++ qs.toArray)
    have upd := PySem.IsL.update z.1 (fun x => x ++ qs.toArray)
    have old : ∀ p ∈ ((r, or) :: (ca, listOf cs.toArray nc) :: (fa, of') :: (na, on) :: (I, oI) :: (q, listOf qs.toArray nq) :: rest), @Ne Nat p.1 ca → (s.heap.update ca (Obj.mapSeq fun x => x ++ qs.toArray)).get? p.1 = some p.2 ∧ p.1 ≠ L ∧ g.get? p.1 = none := fun p hp hne => ⟨(hs.2 p.1 hne).trans (N p hp).1, (N p hp).2⟩
    intro p hp
    simp only [List.mem_cons] at hp
    rcases hp with rfl | rfl | rfl | rfl | rfl | rfl | hp
    · exact old _ (.head _) D.a1
    · refine ⟨?_, z.2⟩
      have := upd
      rw [e] at this
      exact this
    · exact old _ (.tail _ (.tail _ (.head _))) D.b1.symm
    · exact old _ (.tail _ (.tail _ (.tail _ (.head _)))) D.b2.symm
    · exact old _ (.tail _ (.tail _ (.tail _ (.tail _ (.head _))))) D.b3.symm
    · exact old _ (.tail _ (.tail _ (.tail _ (.tail _ (.tail _ (.head _)))))) hq
    · exact old _ (.tail _ (.tail _ (.tail _ (.tail _ (.tail _ (.tail _ hp)))))) (O p hp _ (by simp))
end
def TokJ (r ca fa na : Addr) (S : TS) (m : Str → Option Value) (nx : List (Addr × Obj)) : Prop :=
  m (Str.ofString "result") = some (.ref r) ∧ m (Str.ofString "charbuf") = some (.ref ca) ∧ m (Str.ofString "fieldchar") = some (.ref fa) ∧ m (Str.ofString "fieldnum") = some (.ref na) ∧
  ∃ (vs cs : List Value) (nr nc nf nn : Nat) (t t' : Tok) (rest : List (Addr × Obj)), TksIn rest vs S.res ∧ StrsAre cs S.cb ∧
   ((S.qb = none ∧ m (Str.ofString "quotebuf") = some .none ∧ nx = (r, listOf vs.toArray nr) :: (ca, listOf cs.toArray nc) :: (fa, listOf [Value.str S.fc t].toArray nf) :: (na, listOf [Value.int S.fn t'].toArray nn) :: rest ∧ OwnOff rest [r, ca, fa, na])
   ∨ ∃ (q : List Str) (qa : Addr) (qs : List Value) (nq : Nat), S.qb = some q ∧ m (Str.ofString "quotebuf") = some (.ref qa) ∧ StrsAre qs q ∧
      nx = (r, listOf vs.toArray nr) :: (ca, listOf cs.toArray nc) :: (fa, listOf [Value.str S.fc t].toArray nf) :: (na, listOf [Value.int S.fn t'].toArray nn) :: (qa, listOf qs.toArray nq) :: rest ∧ @Ne Nat qa r ∧ @Ne Nat qa ca ∧ @Ne Nat qa fa ∧ @Ne Nat qa na ∧ OwnOff rest [r, ca, fa, na, qa])
theorem ownOff_sub {rest : List (Addr × Obj)} {a b : List Addr} (O : OwnOff rest a) (h : ∀ x ∈ b, x ∈ a) : OwnOff rest b := fun p hp x hx => O p hp x (h x hx)

section
variable {s : Shared} {g h' : Heap} {L : Addr} {m' : Str → Option Value} {rest : List (Addr × Obj)} {r ca fa na I qa : Addr} {oR oC oF oN oI oQ : Obj} {vs cs qs : List Value} {nr nc nf nn nq tk : Nat} {t t' : Tok} {res : List Tk} {cb q : List Str} {fc : Str} {fn : Int} {qb : Option (List Str)}
theorem endN (F' : Fr g L h' m') (N' : News g L h' ((r, oR) :: (ca, oC) :: (fa, oF) :: (na, oN) :: (I, oI) :: rest)) (D : Dist5 r ca fa na I) (O : OwnOff rest [r, ca, fa, na, I])
    (eR : oR = listOf vs.toArray nr) (eC : oC = listOf cs.toArray nc) (eF : oF = listOf [Value.str fc t].toArray nf) (eN : oN = listOf [Value.int fn t'].toArray nn) (hT : TksIn rest vs res) (hS : StrsAre cs cb)
    (k1 : m' (Str.ofString "result") = some (.ref r)) (k2 : m' (Str.ofString "charbuf") = some (.ref ca)) (k3 : m' (Str.ofString "fieldchar") = some (.ref fa)) (k4 : m' (Str.ofString "fieldnum") = some (.ref na)) (k5 : m' (Str.ofString "quotebuf") = some .none) :
    TurnEnd g L (TokJ r ca fa na ⟨res, none, cb, fc, fn⟩) [(I, oI)] s .next { s with heap := h', toks := tk } := by
  subst eR eC eF eN
  refine ⟨rfl, h', tk, m', _, rfl, F', ?_, ?_, k1, k2, k3, k4, vs, cs, nr, nc, nf, nn, t, t', rest, hT, hS, .inl ⟨rfl, k5, rfl, ownOff_sub O (by simp)⟩⟩
  · intro p hp
    refine N' p ?_
    simp only [List.mem_append, List.mem_cons, List.not_mem_nil, or_false] at hp ⊢
    rcases hp with (h | h | h | h | h) | h <;> simp [h]
  · intro p hp q hq
    rw [List.mem_singleton.mp hq]
    simp only [List.mem_cons] at hp
    rcases hp with rfl | rfl | rfl | rfl | hp
    · exact D.a4
    · exact D.b3
    · exact D.c2
    · exact D.d1
    · exact O p hp _ (by simp)
theorem endQ (F' : Fr g L h' m') (N' : News g L h' ((qa, oQ) :: (r, oR) :: (ca, oC) :: (fa, oF) :: (na, oN) :: (I, oI) :: rest)) (D : Dist5 r ca fa na I) (O : OwnOff rest [r, ca, fa, na, I, qa])
    (eR : oR = listOf vs.toArray nr) (eC : oC = listOf cs.toArray nc) (eF : oF = listOf [Value.str fc t].toArray nf) (eN : oN = listOf [Value.int fn t'].toArray nn) (eQ : oQ = listOf qs.toArray nq) (hT : TksIn rest vs res) (hS : StrsAre cs cb) (hQ : StrsAre qs q)
    (q1 : @Ne Nat qa r) (q2 : @Ne Nat qa ca) (q3 : @Ne Nat qa fa) (q4 : @Ne Nat qa na) (q5 : @Ne Nat qa I)
    (k1 : m' (Str.ofString "result") = some (.ref r)) (k2 : m' (Str.ofString "charbuf") = some (.ref ca)) (k3 : m' (Str.ofString "fieldchar") = some (.ref fa)) (k4 : m' (Str.ofString "fieldnum") = some (.ref na)) (k5 : m' (Str.ofString "quotebuf") = some (.ref qa)) :
    TurnEnd g L (TokJ r ca fa na ⟨res, some q, cb, fc, fn⟩) [(I, oI)] s .next { s with heap := h', toks := tk } := by
  subst eR eC eF eN eQ
  refine ⟨rfl, h', tk, m', _, rfl, F', ?_, ?_, k1, k2, k3, k4, vs, cs, nr, nc, nf, nn, t, t', rest, hT, hS, .inr ⟨q, qa, qs, nq, rfl, k5, hQ, rfl, q1, q2, q3, q4, ownOff_sub O (by simp)⟩⟩
  · intro p hp
    refine N' p ?_
    simp only [List.mem_append, List.mem_cons, List.not_mem_nil, or_false] at hp ⊢
    rcases hp with (h | h | h | h | h | h) | h <;> simp [h]
  · intro p hp q hq
    rw [List.mem_singleton.mp hq]
    simp only [List.mem_cons] at hp
    rcases hp with rfl | rfl | rfl | rfl | rfl | hp
    · exact D.a4
    · exact D.b3
    · exact D.c2
    · exact D.d1
    · exact q5
    · exact O p hp _ (by simp)
/-- a new quote's list stands at the head: it lies off the rest -/
theorem ownOff_new (O : OwnOff rest [r, ca, fa, na, I]) (h : ∀ p ∈ rest, p.1 ≠ qa) : OwnOff rest [r, ca, fa, na, I, qa] := by
  intro p hp b hb
  simp only [List.mem_cons, List.not_mem_nil, or_false] at hb
  rcases hb with rfl | rfl | rfl | rfl | rfl | rfl
  · exact O p hp _ (by simp)
  · exact O p hp _ (by simp)
  · exact O p hp _ (by simp)
  · exact O p hp _ (by simp)
  · exact O p hp _ (by simp)
  · exact h p hp
theorem allLt_ne {d : Addr} : ∀ {l : List (Addr × Obj)}, AllLt d l → ∀ p ∈ l, p.1 ≠ d
  | [], _, _, h => nomatch h
  | q :: r, ⟨h1, h2⟩, p, hp => by
    rcases List.mem_cons.mp hp with rfl | hp
    · exact Nat.ne_of_lt h1
    · exact allLt_ne h2 p hp
theorem endQnew (F' : Fr g L h' m') (N' : News g L h' ((qa, oQ) :: (r, oR) :: (ca, oC) :: (fa, oF) :: (na, oN) :: (I, oI) :: rest)) (D : Dist5 r ca fa na I) (O : OwnOff rest [r, ca, fa, na, I])
    (l1 : @LT.lt Nat _ r qa ∧ @LT.lt Nat _ ca qa ∧ @LT.lt Nat _ fa qa ∧ @LT.lt Nat _ na qa ∧ @LT.lt Nat _ I qa ∧ AllLt qa rest)
    (eR : oR = listOf vs.toArray nr) (eC : oC = listOf cs.toArray nc) (eF : oF = listOf [Value.str fc t].toArray nf) (eN : oN = listOf [Value.int fn t'].toArray nn) (eQ : oQ = listOf ([] : List Value).toArray nq) (hT : TksIn rest vs res) (hS : StrsAre cs cb)
    (k1 : m' (Str.ofString "result") = some (.ref r)) (k2 : m' (Str.ofString "charbuf") = some (.ref ca)) (k3 : m' (Str.ofString "fieldchar") = some (.ref fa)) (k4 : m' (Str.ofString "fieldnum") = some (.ref na)) (k5 : m' (Str.ofString "quotebuf") = some (.ref qa)) :
    TurnEnd g L (TokJ r ca fa na ⟨res, some [], cb, fc, fn⟩) [(I, oI)] s .next { s with heap := h', toks := tk } :=
  endQ F' N' D (ownOff_new O (allLt_ne l1.2.2.2.2.2)) eR eC eF eN eQ hT hS .nil (Ne.symm (Nat.ne_of_lt l1.1)) (Ne.symm (Nat.ne_of_lt l1.2.1)) (Ne.symm (Nat.ne_of_lt l1.2.2.1)) (Ne.symm (Nat.ne_of_lt l1.2.2.2.1)) (Ne.symm (Nat.ne_of_lt l1.2.2.2.2.1)) k1 k2 k3 k4 k5
theorem push_list {l : List Value} {v : Value} {n : Nat} : listOf (l.toArray.push v) n = listOf (l ++ [v]).toArray n := by simp
theorem endQ2 (F' : Fr g L h' m') (N' : News g L h' ((r, oR) :: (ca, oC) :: (fa, oF) :: (na, oN) :: (I, oI) :: (qa, oQ) :: rest)) (D : Dist5 r ca fa na I) (O : OwnOff rest [r, ca, fa, na, I, qa])
    (eR : oR = listOf vs.toArray nr) (eC : oC = listOf cs.toArray nc) (eF : oF = listOf [Value.str fc t].toArray nf) (eN : oN = listOf [Value.int fn t'].toArray nn) (eQ : oQ = listOf qs.toArray nq) (hT : TksIn rest vs res) (hS : StrsAre cs cb) (hQ : StrsAre qs q)
    (q1 : @Ne Nat qa r) (q2 : @Ne Nat qa ca) (q3 : @Ne Nat qa fa) (q4 : @Ne Nat qa na) (q5 : @Ne Nat qa I)
    (k1 : m' (Str.ofString "result") = some (.ref r)) (k2 : m' (Str.ofString "charbuf") = some (.ref ca)) (k3 : m' (Str.ofString "fieldchar") = some (.ref fa)) (k4 : m' (Str.ofString "fieldnum") = some (.ref na)) (k5 : m' (Str.ofString "quotebuf") = some (.ref qa)) :
    TurnEnd g L (TokJ r ca fa na ⟨res, some q, cb, fc, fn⟩) [(I, oI)] s .next { s with heap := h', toks := tk } :=
  endQ F' (fun p hp => N' p (by
    simp only [List.mem_cons] at hp ⊢
    rcases hp with h | h | h | h | h | h | h <;> simp [h])) D O eR eC eF eN eQ hT hS hQ q1 q2 q3 q4 q5 k1 k2 k3 k4 k5
theorem te1 (h : (fc.length : Int) ≠ 0) : tend ⟨res, qb, cb, fc, fn⟩ = res ++ [.fld fc fn] := by simp only [tend, h, if_false]
theorem te2 (h : (fc.length : Int) = 0) (h2 : cb.isEmpty = false) : tend ⟨res, qb, cb, fc, fn⟩ = res ++ [.chr (Txt.join (Str.ofString "") cb)] := by simp only [tend, h, h2, if_true, if_false, Bool.false_eq_true]
theorem te3 (h : (fc.length : Int) = 0) (h2 : cb.isEmpty = true) : tend ⟨res, qb, cb, fc, fn⟩ = res := by simp only [tend, h, h2, if_true]
end
end Mine

end
section
open PySem PySem.W PyProof.Rows PySem.Calls
namespace Mine
set_option maxRecDepth 100000
set_option linter.unusedSimpArgs false

theorem join_cps (xs : List Str) : (Txt.join (Str.ofString "") xs).cps.toList = xs.flatMap fun x => x.cps.toList := by
  unfold Txt.join
  rw [StrLaws.glued_eq_join]
  have e0 : (Str.ofString "").cps = #[] := by decide
  have key : ∀ (xs : List Str), (Str.join (Str.ofString "") xs).cps.toList = xs.flatMap fun x => x.cps.toList := by
    intro xs
    induction xs with
    | nil => rfl
    | cons x r ih =>
      cases r with
      | nil => simp [Str.join]
      | cons y r =>
        rw [List.flatMap_cons, ← ih]
        show ((x ++ Str.ofString "" ++ Str.join (Str.ofString "") (y :: r)).cps).toList = _
        rw [Str.cps_append, Str.cps_append, e0]
        simp
  exact key xs
theorem occ_none {x y : Str} {lim : Nat} (h : ∀ i, i + y.length ≤ x.length → Builtin.Str.subAt x y i = false) : (Builtin.Str.occurrences x y 0 x.length lim).isEmpty = true := by
  rw [occ_nil_of_no x y lim h]; rfl
theorem occ_none_of_mem {x y : Str} {lim c : Nat} (hc : c ∈ y.cps.toList) (h : c ∉ x.cps.toList) : (Builtin.Str.occurrences x y 0 x.length lim).isEmpty = true := by
  refine occ_none fun i _ => ?_
  rw [StrLaws.subAt_eq]
  rw [beq_eq_false_iff_ne]
  intro e
  rw [← e] at hc
  exact h (List.mem_of_mem_drop (List.mem_of_mem_take hc))
theorem noZero_of {xs : List Str} (h : ∀ x ∈ xs, Sg x) : noZero xs := by
  refine occ_none_of_mem (c := 0) (by decide) ?_
  rw [join_cps]
  intro hm
  obtain ⟨x, hx, h0⟩ := List.mem_flatMap.mp hm
  obtain ⟨c, hc, rfl⟩ := h x hx
  have : 0 = c := by simpa using h0
  exact hc this.symm

structure TSok (i : Nat) (S : TS) : Prop where
  res : S.res.length ≤ 2 * i
  len : S.cb.length + (S.qb.getD []).length ≤ i
  cb : ∀ x ∈ S.cb, Sg x
  qb : ∀ x ∈ S.qb.getD [], Sg x
  fc : S.fc.length ≤ 1
theorem sg_nil : ∀ x ∈ ([] : List Str), Sg x := fun _ hx => (nomatch hx)
theorem sg_app {xs : List Str} {c : Nat} (h : ∀ x ∈ xs, Sg x) (hc : c ≠ 0) : ∀ x ∈ xs ++ [(⟨#[c]⟩ : Str)], Sg x := by
  intro x hx
  rcases List.mem_append.mp hx with hx | hx
  · exact h x hx
  · rw [List.mem_singleton.mp hx]; exact ⟨c, hc, rfl⟩
theorem tsok_step {i c : Nat} {S : TS} (h : TSok i S) (hc : c ≠ 0) : TSok (i + 1) (tstep S c) := by
  obtain ⟨res, qb, cb, fc, fn⟩ := S
  obtain ⟨h1, h2, h3, h4, h5⟩ := h
  have e0 : (Str.ofString "").length ≤ 1 := by decide
  have e1 : (⟨#[c]⟩ : Str).length ≤ 1 := Nat.le_refl 1
  cases qb with
  | some q =>
    simp only [Option.getD_some] at h2 h4
    unfold tstep
    dsimp only
    split
    · exact ⟨by simp only at h1 ⊢; omega, by simp only [List.length_append, Option.getD_none, List.length_nil] at h2 ⊢; omega, fun x hx => (List.mem_append.mp hx).elim (h3 x) (h4 x), sg_nil, h5⟩
    · exact ⟨by simp only at h1 ⊢; omega, by simp only [List.length_append, List.length_cons, List.length_nil, Option.getD_some] at h2 ⊢; omega, h3, sg_app h4 hc, h5⟩
  | none =>
    simp only [Option.getD_none, List.length_nil, Nat.add_zero] at h2
    unfold tstep
    dsimp only
    repeat' split
    all_goals
      exact ⟨by simp only [List.length_append, List.length_cons, List.length_nil] at h1 ⊢; omega, by simp only [List.length_append, List.length_cons, List.length_nil, Option.getD_some, Option.getD_none] at h2 ⊢; omega, by first | exact h3 | exact sg_app h3 hc | exact sg_nil, sg_nil, by first | exact h5 | exact e0 | exact e1⟩
theorem tsok_fold : ∀ (l : List Nat) (k : Nat) (S : TS), (∀ c ∈ l, c ≠ 0) → TSok k S → TSok (k + l.length) (l.foldl tstep S)
  | [], _, _, _, h => h
  | c :: r, k, S, hl, h => by
    rw [List.foldl_cons, List.length_cons, show k + (r.length + 1) = k + 1 + r.length by omega]
    exact tsok_fold r (k + 1) _ (fun d hd => hl d (.tail _ hd)) (tsok_step h (hl c (.head _)))
theorem TSok.le {i j : Nat} {S : TS} (h : TSok i S) (hij : i ≤ j) : TSok j S := ⟨by have := h.res; omega, by have := h.len; omega, h.cb, h.qb, h.fc⟩
theorem tsok {x : Str} (hz : ∀ c ∈ x.cps, c ≠ 0) (i : Nat) : TSok i ((x.cps.toList.take i).foldl tstep tinit) := by
  have h := tsok_fold (x.cps.toList.take i) 0 tinit (fun c hc => hz c (Array.mem_toList_iff.mp (List.mem_of_mem_take hc))) ⟨Nat.zero_le _, Nat.zero_le _, sg_nil, sg_nil, by decide⟩
  exact h.le (by rw [List.length_take]; omega)
end Mine

end
section
open PySem PySem.W PyProof.Rows PySem.Calls
namespace Mine
set_option maxRecDepth 100000
set_option maxHeartbeats 4000000
local macro_rules | `(tactic| ktr_unf) => `(tactic| repeat' (first | ((fail_if_success (with_reducible show wpAny _ _ (exec (Stmt.For _ _ _ _ _) _) _ _ _)); first | walk1 | (dsimp only; walk1)) | fail "stop"))
local macro_rules | `(tactic| size_fits) => `(tactic| (rw [sizeLine_eq]; simp only [List.size_toArray, List.length_append, List.length_cons, List.length_nil, Array.size_push, Array.size_append]; omega))
local macro_rules | `(tactic| walk_at "call builtin:str.replace") => `(tactic| (refine replace_none (by assumption) ?_; intro _ _))
local macro_rules | `(tactic| walk_at "call ref") => `(tactic| (k_dflt (refine afield_C (by assumption) (by assumption) (by assumption) (by assumption) (by assumption) (by assumption) (by assumption) (by assumption) (by assumption) (by omega) ?_); intro h' tk' vs' nr' t3' t4' rest' F' N' O' hT' hlen'; (try k_sweep)))
local macro_rules | `(tactic| walk_at "call ref") => `(tactic| (k_dflt (refine achars_C (by assumption) (by assumption) (by assumption) (by assumption) (by assumption) (by assumption) (by assumption) (by assumption) (by assumption) (by assumption) (by omega) (by assumption) (by assumption) (by assumption) ?_); intro h' tk' vs' nr' nc' rest' F' N' O' hT' hlen'; (try k_sweep)))
local macro_rules | `(tactic| walk_at "call ref") => `(tactic| (k_dflt (refine afield_D (by assumption) (by assumption) (by assumption) (by assumption) (by assumption) (by assumption) (by assumption) (by assumption) (by assumption) (by assumption) (by assumption) (by omega) ?_); intro h' tk' vs' nr' rest' F' N' hT'; (try k_sweep)))
local macro_rules | `(tactic| walk_at "call ref") => `(tactic| (k_dflt (refine achars_D (by assumption) (by assumption) (by assumption) (by assumption) (by assumption) (by assumption) (by assumption) (by assumption) (by assumption) (by assumption) (by omega) (by assumption) (by assumption) (by assumption) ?_); intro h' tk' vs' nr' rest' F' N' hT'; (try k_sweep)))
local macro_rules | `(tactic| walk_at "truthy ref") => `(tactic| (k_dflt (refine truthy_strs (by assumption) (by k_mem) (by assumption) (by assumption) ?_)))
local macro_rules | `(tactic| walk_at "compareOp In str ref") => `(tactic| (k_dflt (refine patIn (by assumption) (by assumption) ?_)))
local macro_rules | `(tactic| walk_at "subscriptTail Name Constant ref int") => `(tactic| (k_dflt (refine item0 (by assumption) (by k_mem) ?_)))
local macro_rules | `(tactic| walk_at "call builtin:list.extend") => `(tactic| (k_dflt (refine extend_Q (by assumption) (by assumption) (by assumption) (by assumption) (by assumption) (by omega) (by omega) ?_); intro h' nc' F' N'; (try k_sweep)))
theorem tokenize_spec : ∀ {w : World} {dp un : Nat} {fr : Option (List Env)} {gd : Option (List Code)} {E : Value → Shared → Prop} {s : Shared} {loose : List Str} {mg mb : Str → Option Value} {x : Str} {tx : Tok} {Q : Value → Shared → Prop},
   (hd.heap_39 w.params).In s.heap → TopRead hd.view_39 loose mg mb s.heap → dp < 800 → un < 800 →
   x.length ≤ 400 → (Builtin.Str.occurrences x (Str.ofString "''") 0 x.length (x.length + 1)).isEmpty = true → (∀ c ∈ x.cps, c ≠ 0) →
   (∀ (r : Addr) (vs : List Value) (nr : Nat) (cst : List (Addr × Obj)) (h' : Heap) (tk : Nat), (∀ b o, s.heap.get? b = some o → h'.get? b = some o) → Fresh s.heap h' ((r, listOf vs.toArray nr) :: cst) → TksIn cst vs (tokF x) → Q (.ref r) {s with heap := h', toks := tk}) →
   wpAny (model PySem.Challenge.rw_ey0008_01.row.prog w) (AA dp un fr gd) (call (.ref 67) [.str x tx]) Q E s := by
  k_fill
  intro w dp un fr gd E s loose mg mb x tx Q X T hd hu hlen hqq hz hQ
  refine' enter (K := Mine.hd.heap_39 w.params) (binds := [(Str.ofString "pattern", .str x tx)]) [] ?m X T.nolimit ?ho ?hcd ?hr ?hb ?hl ?_ ?c2 ?c3 ?c4 ?c5
  case m => intro p hp; cases hp
  case ho => k_is
  case hcd => k_is
  case hr => have : recursionLimit = 1000 := rfl; show dp < recursionLimit; omega
  case hb => exact BindsTo.of_eq rfl
  case hl => exact locs rfl
  case c2 => exact rfl
  case c3 => exact rfl
  case c4 => exact rfl
  case c5 => decide
  intro g L h₁ F N st old rev
  have X' : (Mine.hd.heap_39 w.params).In g := Frag.In.keeps X fun b o e => st b o (by simp) e
  have T' : TopRead Mine.hd.view_39 loose mg mb g := T.keeps fun b o e => st b o (by simp) e
  clear X T
  try dsimp only
  show wpAny _ _ _ _ _ _
  ktr_unf
  rename_i tk1 r hh1 l1 hh2 tk2 hh3 ca hh4 l2 hh5 tk3 fa hh6 l3 hh7 tk4 na hh8 l4 hh9 F2 N2
  have hseq : ∀ (i c : Nat), x.cps[i]? = some c → (x.cps.toList.take (i + 1)).foldl tstep tinit = tstep ((x.cps.toList.take i).foldl tstep tinit) c := by
    intro i c hc
    rw [take_snoc (by rw [Array.getElem?_toList]; exact hc), List.foldl_append]; rfl
  have N3 : News g L hh9 [(r, listOf ([] : List Value).toArray 0), (ca, listOf ([] : List Value).toArray 0), (fa, listOf [Value.str (Str.ofString "") tk3].toArray 0), (na, listOf [Value.int 0 tk4].toArray 0)] := fun p hp => N2 p (by
    simp only [List.mem_cons, List.not_mem_nil, or_false] at hp ⊢
    rcases hp with h | h | h | h <;> simp [h])
  refine loopStr (L := L) (tx := x) rfl rfl rfl rfl (fun i m nx => TokJ r ca fa na ((x.cps.toList.take i).foldl tstep tinit) m nx) F2 N3 ?_ ?_ ?_ ?_
  · exact ⟨rfl, rfl, rfl, rfl, [], [], 0, 0, 0, 0, tk3, tk4, [], .nil, .nil, .inl ⟨rfl, rfl, rfl, fun _ hp => nomatch hp⟩⟩
  · intro Q' h
    ktr_unf
    exact h _ _
  · rintro i c u m₁ nx h₃ tk₃ I oI hc ⟨m1, m2, m3, m4, vs, cs, nr, nc, nf, nn, t, t', rest, hT, hS, hJ⟩ hnI F3 N3
    have hi : i < x.length := by
      have := (Array.getElem?_eq_some_iff.mp hc).1
      exact this
    rw [hseq i c hc]
    have ok := tsok hz i
    generalize (x.cps.toList.take i).foldl tstep tinit = S at *
    obtain ⟨res, qb, cb, fc, fn⟩ := S
    rcases hJ with ⟨hq, m5, rfl, O⟩ | ⟨q, qa, qs, nq, hq, m5, hqs, rfl, q1, q2, q3, q4, O⟩
    · obtain rfl : qb = none := hq
      have F4 : Fr g L h₃ (fun y => if y = Str.ofString "char" then some (.str ⟨#[c]⟩ u) else if y = Str.ofString "quotebuf" then some .none else if y = Str.ofString "result" then some (.ref r) else if y = Str.ofString "charbuf" then some (.ref ca) else if y = Str.ofString "fieldchar" then some (.ref fa) else if y = Str.ofString "fieldnum" then some (.ref na) else m₁ y) :=
        Fr.congr F3 fun y => by
          split
          · rfl
          · (repeat' split) <;> (try subst_vars) <;> (first | assumption | exact Eq.symm (by assumption) | rfl)
      have O4 : OwnOff rest [r, ca, fa, na, I] := fun p hp b hb => by
        have h1 := hnI p (by simp [hp])
        simp only [List.mem_cons, List.not_mem_nil, or_false] at hb
        rcases hb with rfl | rfl | rfl | rfl | rfl
        · exact O p hp _ (by simp)
        · exact O p hp _ (by simp)
        · exact O p hp _ (by simp)
        · exact O p hp _ (by simp)
        · exact h1
      have D : Dist5 r ca fa na I := ⟨by omega, by omega, by omega, hnI (r, _) (.head _), by omega, by omega, hnI (ca, _) (.tail _ (.head _)), by omega, hnI (fa, _) (.tail _ (.tail _ (.head _))), hnI (na, _) (.tail _ (.tail _ (.tail _ (.head _))))⟩
      have N4 : News g L h₃ ((r, listOf vs.toArray nr) :: (ca, listOf cs.toArray nc) :: (fa, listOf [Value.str fc t].toArray nf) :: (na, listOf [Value.int fn t'].toArray nn) :: (I, oI) :: rest) := fun p hp => N3 p (by
        simp only [List.mem_cons, List.mem_append, List.not_mem_nil, or_false] at hp ⊢
        rcases hp with h | h | h | h | h | h <;> simp [h])
      obtain ⟨d1, d2, d3, d4, d5, d6, d7, d8, d9, d10⟩ := id D
      have hlv : vs.length ≤ 900 := by
        have h1 := hT.length
        have h2 := ok.res
        simp only at h1 h2
        omega
      have hlx : cb.length ≤ 1000 := by
        have h2 := ok.len
        simp only at h2
        omega
      have hfc : fc.length ≤ 1 := ok.fc
      have hl1 : ∀ x ∈ cb, x.length = 1 := fun x hx => sg_len (ok.cb x hx)
      have hzz : noZero cb := noZero_of ok.cb
      have hd' : dp + 1 < 900 := by omega
      have hu' : un + 3 < 900 := by omega
      clear F3 N3 F2 N2 O m1 m2 m3 m4 m5
      ktr_unf
      · rw [ts1 (by assumption) (by assumption)]; exact endQnew (by assumption) (by assumption) D (by assumption) (by assumption) rfl rfl rfl rfl rfl (by assumption) (by assumption) rfl rfl rfl rfl rfl
      · rw [ts2 (by assumption) (by assumption) (by assumption)]; exact endQnew (by assumption) (by assumption) D (by assumption) (by assumption) rfl rfl rfl rfl rfl (by assumption) (by assumption) rfl rfl rfl rfl rfl
      · rw [ts3 (by assumption) (by assumption) (by assumption)]; exact endQnew (by assumption) (by assumption) D (by assumption) (by assumption) rfl rfl rfl rfl rfl (by assumption) .nil rfl rfl rfl rfl rfl
      · rw [ts4 (by assumption) (by assumption) (by assumption) (by assumption)]; exact endN (by assumption) (by assumption) D (by assumption) rfl rfl rfl rfl (by assumption) (by assumption) rfl rfl rfl rfl rfl
      · rw [ts5 (by assumption) (by assumption) (by assumption) (by assumption) (by assumption)]; exact endN (by assumption) (by assumption) D (by assumption) rfl rfl rfl rfl (by assumption) (by assumption) rfl rfl rfl rfl rfl
      · rw [ts6 (by assumption) (by assumption) (by assumption) (by assumption) (by assumption)]; exact endN (by assumption) (by assumption) D (by assumption) rfl rfl rfl rfl (by assumption) (by assumption) rfl rfl rfl rfl rfl
      · rw [ts7 (by assumption) (by assumption) (by assumption) (by assumption)]; exact endN (by assumption) (by assumption) D (by assumption) rfl rfl rfl rfl (by assumption) .nil rfl rfl rfl rfl rfl
      · rw [ts8 (by assumption) (by assumption) (by assumption) (by assumption) (by assumption)]; exact endN (by assumption) (by assumption) D (by assumption) rfl rfl rfl rfl (by assumption) .nil rfl rfl rfl rfl rfl
      · rw [ts9 (by assumption) (by assumption) (by assumption) (by assumption) (by assumption)]; exact endN (by assumption) (by assumption) D (by assumption) rfl rfl rfl rfl (by assumption) .nil rfl rfl rfl rfl rfl
      · rw [ts10 (by assumption) (by assumption) (by assumption)]; exact endN (by assumption) (by assumption) D (by assumption) rfl push_list rfl rfl (by assumption) (strsAre_app hS (.cons _ _ .nil)) rfl rfl rfl rfl rfl
      · rw [ts11 (by assumption) (by assumption) (by assumption)]; exact endN (by assumption) (by assumption) D (by assumption) rfl push_list rfl rfl (by assumption) (strsAre_app hS (.cons _ _ .nil)) rfl rfl rfl rfl rfl
    · obtain rfl : qb = some q := hq
      have F4 : Fr g L h₃ (fun y => if y = Str.ofString "char" then some (.str ⟨#[c]⟩ u) else if y = Str.ofString "quotebuf" then some (.ref qa) else if y = Str.ofString "result" then some (.ref r) else if y = Str.ofString "charbuf" then some (.ref ca) else if y = Str.ofString "fieldchar" then some (.ref fa) else if y = Str.ofString "fieldnum" then some (.ref na) else m₁ y) :=
        Fr.congr F3 fun y => by
          split
          · rfl
          · (repeat' split) <;> (try subst_vars) <;> (first | assumption | exact Eq.symm (by assumption) | rfl)
      have hIq : @Ne Nat qa I := hnI (qa, _) (.tail _ (.tail _ (.tail _ (.tail _ (.head _)))))
      have O4 : OwnOff rest [r, ca, fa, na, I, qa] := fun p hp b hb => by
        have h1 := hnI p (by simp [hp])
        simp only [List.mem_cons, List.not_mem_nil, or_false] at hb
        rcases hb with rfl | rfl | rfl | rfl | rfl | rfl
        · exact O p hp _ (by simp)
        · exact O p hp _ (by simp)
        · exact O p hp _ (by simp)
        · exact O p hp _ (by simp)
        · exact h1
        · exact O p hp _ (by simp)
      have D : Dist5 r ca fa na I := ⟨by omega, by omega, by omega, hnI (r, _) (.head _), by omega, by omega, hnI (ca, _) (.tail _ (.head _)), by omega, hnI (fa, _) (.tail _ (.tail _ (.head _))), hnI (na, _) (.tail _ (.tail _ (.tail _ (.head _))))⟩
      have N4 : News g L h₃ ((r, listOf vs.toArray nr) :: (ca, listOf cs.toArray nc) :: (fa, listOf [Value.str fc t].toArray nf) :: (na, listOf [Value.int fn t'].toArray nn) :: (I, oI) :: (qa, listOf qs.toArray nq) :: rest) := fun p hp => N3 p (by
        simp only [List.mem_cons, List.mem_append, List.not_mem_nil, or_false] at hp ⊢
        rcases hp with h | h | h | h | h | h | h <;> simp [h])
      obtain ⟨d1, d2, d3, d4, d5, d6, d7, d8, d9, d10⟩ := id D
      have hlc := strsAre_len hS
      have hlq := strsAre_len hqs
      have hlx := ok.len
      simp only [Option.getD_some] at hlc hlq hlx
      have hd' : dp + 1 < 900 := by omega
      have hu' : un + 3 < 900 := by omega
      clear F3 N3 F2 N2 O m1 m2 m3 m4 m5
      ktr_unf
      · rw [ts12 (by assumption)]; exact endN (by assumption) (by assumption) D (ownOff_cons (by intro x hx; simp only [List.mem_cons, List.not_mem_nil, or_false] at hx; rcases hx with rfl | rfl | rfl | rfl | rfl <;> assumption) (ownOff_sub O4 (by simp))) rfl rfl rfl rfl (hT.mono fun p hp => .tail _ hp) (strsAre_app hS hqs) rfl rfl rfl rfl rfl
      · rw [ts13 (by assumption)]; exact endQ2 (by assumption) (by assumption) D O4 rfl rfl rfl rfl push_list hT hS (strsAre_app hqs (.cons _ _ .nil)) q1 q2 q3 q4 hIq rfl rfl rfl rfl rfl
  · rintro h' tk' m' nx F3 N3 ⟨m1, m2, m3, m4, vs, cs, nr, nc, nf, nn, t, t', rest, hT, hS, hJ⟩
    have hfull : x.cps.toList.take x.cps.size = x.cps.toList := List.take_of_length_le (by simp)
    have ok := tsok hz x.cps.size
    have hxs : x.cps.size ≤ 400 := hlen
    rw [hfull] at hT hS hJ ok
    have htok : tokF x = tend (x.cps.toList.foldl tstep tinit) := rfl
    generalize x.cps.toList.foldl tstep tinit = S at *
    obtain ⟨res, qb, cb, fc, fn⟩ := S
    have d1 : @Ne Nat r ca := by omega
    have d2 : @Ne Nat r fa := by omega
    have d3 : @Ne Nat r na := by omega
    have d4 : @Ne Nat fa na := by omega
    have F4 : Fr g L h' (fun y => if y = Str.ofString "result" then some (.ref r) else if y = Str.ofString "charbuf" then some (.ref ca) else if y = Str.ofString "fieldchar" then some (.ref fa) else if y = Str.ofString "fieldnum" then some (.ref na) else m' y) :=
      Fr.congr F3 fun y => by
        (repeat' split) <;> (try subst_vars) <;> (first | assumption | exact Eq.symm (by assumption) | rfl)
    obtain ⟨rest2, N4, O4, hT4⟩ : ∃ rest2, News g L h' ((r, listOf vs.toArray nr) :: (ca, listOf cs.toArray nc) :: (fa, listOf [Value.str fc t].toArray nf) :: (na, listOf [Value.int fn t'].toArray nn) :: rest2) ∧ OwnOff rest2 [r, ca, fa, na] ∧ TksIn rest2 vs res := by
      rcases hJ with ⟨_, _, rfl, O⟩ | ⟨q, qa, qs, nq, _, _, _, rfl, q1, q2, q3, q4, O⟩
      · exact ⟨rest, N3, O, hT⟩
      · exact ⟨_, N3, ownOff_cons (by intro x hx; simp only [List.mem_cons, List.not_mem_nil, or_false] at hx; rcases hx with rfl | rfl | rfl | rfl <;> assumption) (ownOff_sub O (by simp)), hT.mono fun p hp => .tail _ hp⟩
    have hlv : vs.length ≤ 900 := by
      have h1 := hT.length
      have h2 := ok.res
      simp only at h1 h2
      omega
    have hlx : cb.length ≤ 1000 := by
      have h2 := ok.len
      simp only at h2
      omega
    have hfc : fc.length ≤ 1 := ok.fc
    have hl1 : ∀ x ∈ cb, x.length = 1 := fun x hx => sg_len (ok.cb x hx)
    have hzz : noZero cb := noZero_of ok.cb
    have hS' : StrsAre cs cb := hS
    have hd' : dp + 1 < 900 := by omega
    have hu' : un + 3 < 900 := by omega
    have fin : ∀ {hx : Heap} {mx : Str → Option Value} {vs' : List Value} {nr' : Nat} {rest' : List (Addr × Obj)}, Fr g L hx mx → News g L hx ((r, listOf vs'.toArray nr') :: rest') →
        (∀ b o, s.heap.get? b = some o → hx.get? b = some o) ∧ Fresh s.heap hx ((r, listOf vs'.toArray nr') :: rest') := fun Fx Nx =>
      ⟨fun b o e => Fx.keep b o (st b o (by simp) e), fun p hp => ⟨(Nx p hp).1, by
        cases e : s.heap.get? p.1 with
        | none => rfl
        | some o => have z := (Nx p hp).2.2; rw [st _ o (by simp) e] at z; cases z⟩⟩
    clear F3 N3 hJ
    show wpAny _ _ _ _ _ _
    ktr_unf
    · exact hQ r _ _ _ _ _ (fin (by assumption) (by assumption)).1 (fin (by assumption) (by assumption)).2 (by rw [htok, te1 (by assumption)]; assumption)
    · exact hQ r _ _ _ _ _ (fin F4 N4).1 (fin F4 N4).2 (by rw [htok, te3 (by assumption) (by assumption)]; exact hT4.mono fun p hp => .tail _ (.tail _ (.tail _ hp)))
    · exact hQ r _ _ _ _ _ (fin (by assumption) (by assumption)).1 (fin (by assumption) (by assumption)).2 (by rw [htok, te2 (by assumption) (by assumption)]; assumption)
end Mine

end
section
open PySem PySem.W PyProof.Rows PySem.Calls
namespace Mine
set_option maxRecDepth 100000

abbrev tabO (ps : Array Value) : Obj := { cls := .none, data := .fields ps }
/-- a code object and its table -/
def CT (h : Heap) (c P : Addr) (ps : Array Value) : Prop := h.IsCode c P ps ∧ h.TableAt c P ps
/-- what the base knows of a code object whose table it leaves out -/
def CTg (g : Heap) (c P : Addr) (ps : Array Value) : Prop := ∀ h : Heap, (∀ b o, g.get? b = some o → h.get? b = some o) → h.get? P = some (tabO ps) → CT h c P ps

section
variable {h h' g : Heap} {c P : Addr} {ps : Array Value} {K : Frag} {p : Program} {loose : List Str} {m mg mb : Str → Option Value} {bm : Addr} {ob : Obj}
theorem CT.tab (x : CT h c P ps) : h.get? P = some (tabO ps) := x.2.2
theorem CT.keeps (x : CT h c P ps) (hk : ∀ b o, h.get? b = some o → h'.get? b = some o) : CT h' c P ps := ⟨x.1.keeps hk, x.2.keeps hk⟩
theorem CT.ne (x : CT h c P ps) : c ≠ P := by
  obtain ⟨o, vs, file, tf, flags, tg, inF, text, tt, op, a, r1, r2, r3, r4, r5, r6, b, r7, r8, r9⟩ := x.1
  exact r9
theorem CT.toG {oc : Obj} (x : CT h c P ps) (hg : ∀ b o, g.get? b = some o → h.get? b = some o) (hc : g.get? c = some oc) : CTg g c P ps := by
  intro h' hk hP
  obtain ⟨o, vs, file, tf, flags, tg, inF, text, tt, op, a, r1, r2, r3, r4, r5, r6, b, r7, r8, r9⟩ := x.1
  obtain ⟨⟨o2, vs2, a2, b2, c2, d2⟩, t2⟩ := x.2
  have e1 : o = oc := Option.some.inj (a.symm.trans (hg _ _ hc))
  have e2 : o2 = oc := Option.some.inj (a2.symm.trans (hg _ _ hc))
  refine ⟨⟨o, vs, file, tf, flags, tg, inF, text, tt, tabO ps, e1 ▸ hk _ _ hc, r1, r2, r3, r4, r5, r6, hP, rfl, r8, r9⟩, ⟨⟨o2, vs2, e2 ▸ hk _ _ hc, b2, c2, d2⟩, hP⟩⟩

theorem ns_ne {a : Addr} (x : h.Ns a m) (hP : h.get? P = some (tabO ps)) : a ≠ P := fun e => by
  obtain ⟨o, es, ep, ho, hd, _⟩ := x
  rw [e, hP] at ho; cases ho; cases hd

/-- the fragment, the module and the builtins module in a base that leaves a table out -/
theorem K_but (X : K.In h) (hP : h.get? P = some (tabO ps)) (st : ∀ b o, b ≠ P → h.get? b = some o → g.get? b = some o) (G : h.Ns mainGlobals mg) (S : h.NoLimit) (hK : kb_classed K = true) : K.In g := by
  intro a o e
  have ha := X a o e
  have q := List.all_eq_true.mp hK (a, o) (kb_mem e)
  refine st a o ?_ ha
  simp only [Bool.or_eq_true, decide_eq_true_eq, beq_iff_eq] at q
  rcases q with (q | q) | q
  · intro z; rw [z, hP] at ha; cases ha; exact q rfl
  · obtain ⟨_, hns, _⟩ := S
    have z := ns_ne hns hP
    intro z2; exact z (q ▸ z2)
  · rw [q]; exact ns_ne G hP
theorem T_but (T : TopRead p loose mg mb h) (hP : h.get? P = some (tabO ps)) (st : ∀ b o, b ≠ P → h.get? b = some o → g.get? b = some o) : TopRead p loose mg mb g := by
  obtain ⟨mc, h1, h2⟩ := T.nolimit
  exact ⟨T.g.at fun o e => st _ o (ns_ne T.g hP) e, T.b.at fun o e => st _ o (ns_ne T.b hP) e, ⟨mc, h1.at fun o e => st _ o (ns_ne h1 hP) e, h2⟩, T.builtins, T.free⟩
theorem M_but {a : Addr} (M : BMod h a mg bm ob) (hP : h.get? P = some (tabO ps)) (st : ∀ b o, b ≠ P → h.get? b = some o → g.get? b = some o) : BMod g a mg bm ob :=
  ⟨M.ns.at fun o e => st _ o (ns_ne M.ns hP) e, M.name, M.ne, st _ _ (fun e => by have := M.obj; rw [e, hP] at this; cases this; have := M.cls; cases this) M.obj, M.cls, M.dict, M.data⟩
theorem C_but {b : Addr} {o : Obj} (hb : h.get? b = some o) (hc : o.cls ≠ .none) (hP : h.get? P = some (tabO ps)) : b ≠ P := fun e => by
  rw [e, hP] at hb; cases hb; exact hc rfl
end

/-- all stays but the table, which may have grown -/
def Grew (c P : Addr) (h h' : Heap) : Prop := (∀ b o, b ≠ P → h.get? b = some o → h'.get? b = some o) ∧ ∀ ps, CT h c P ps → ∃ more, CT h' c P (ps ++ more)
theorem Grew.refl {c P : Addr} {h : Heap} : Grew c P h h := ⟨fun _ _ _ e => e, fun ps x => ⟨#[], by simpa using x⟩⟩
theorem Grew.keeps {c P : Addr} {h h' : Heap} (hk : ∀ b o, h.get? b = some o → h'.get? b = some o) : Grew c P h h' := ⟨fun b o _ e => hk b o e, fun ps x => ⟨#[], by simpa using x.keeps hk⟩⟩
theorem Grew.trans {c P : Addr} {h h' h'' : Heap} (a : Grew c P h h') (b : Grew c P h' h'') : Grew c P h h'' :=
  ⟨fun x o n e => b.1 x o n (a.1 x o n e), fun ps x => by
    obtain ⟨m1, y⟩ := a.2 ps x
    obtain ⟨m2, z⟩ := b.2 _ y
    exact ⟨m1 ++ m2, by rw [← Array.append_assoc]; exact z⟩⟩

section
variable {M : Model} {A : Around} {E : Value → Shared → Prop} {s : Shared}
theorem genCode {env : Env} {c P : Addr} {ps : Array Value} {pos : Pos} {qualname : Str} {scope : Scope} {Q : Value → Shared → Prop} (hc : env.code = .ref c) (x : CT s.heap c P ps)
    (hQ : ∀ c' h' tk more, (∀ b o, b ≠ P → s.heap.get? b = some o → h'.get? b = some o) → s.heap.objs.size ≤ h'.objs.size → CT h' c P (ps ++ more) → Q c' { s with heap := h', toks := tk }) :
    wpAny M A (genexprCode env pos qualname scope) Q E s := by
  cases hf : codeAmong pos ps.toList with
  | some c' => exact wpAny_genexprCode_hit hc x.1 hf (hQ c' s.heap s.toks #[] (fun _ _ _ e => e) (Nat.le_refl _) (by simpa using x))
  | none => exact wpAny_genexprCodeX hc x.1 x.2 hf fun c' h₃ tk₃ hx₃ hge hlt hcode₃ _ htab₃ _ => hQ _ h₃ tk₃ _ hx₃ (Nat.le_trans hge (Nat.le_of_lt hlt)) ⟨hcode₃, htab₃⟩
end

section
variable {prog : Program} {w : World} {A : Around} {E : Value → Shared → Prop} {s : Shared} {g : Heap} {c P : Addr} {ps : Array Value} {m mg : Str → Option Value} {bm : Addr} {ob : Obj}

/-- a generator expression over a text's signs, its elements booleans -/
theorem genStr {env : Env} {elt iter : Expr} {x : Str} {px : Pos} {scope : Scope} {cl : List (Str × Addr)} {pos : Pos} {Q : Value → Shared → Prop} {tx : Str} {rest : List (Addr × Obj)}
    (p : Str → Bool) (hC : CTg g c P ps) (M : BMod g env.globals mg bm ob) (hl : g.NoLimit) (hcode : env.code = .ref c)
    (hg : AllBare s.gens) (F : Fr g env.locals s.heap m) (N : News g env.locals s.heap ((P, tabO ps) :: rest)) (hap : ∀ q ∈ rest, q.1 ≠ P)
    (hi : ∀ (Q' : Value → Shared → Prop), (∀ t tk, Q' (.str tx t) { s with toks := tk }) → wpAny (model prog w) A (eval iter env) Q' E s)
    (helt : ∀ (A' : Around) E' (s' : Shared) C code ch m₂ u, A'.handled = none → A'.depth ≤ A.depth + 1 → A'.units ≤ A.units + 8 → Fr g C s'.heap m₂ → m₂ x = some (.str ⟨#[ch]⟩ u) →
      wpAny (model prog w) A' (eval elt (genEnv scope cl C code builtinsNs env)) (fun y s₃ => y = .bool (p ⟨#[ch]⟩) ∧ Keeps s' s₃) E' s')
    (hQ : ∀ (a : Addr) (s₅ : Shared) (ps' : Array Value) (K : Addr), s₅.os = s.os → AllBare s₅.gens → Fr g env.locals s₅.heap m → News g env.locals s₅.heap ((P, tabO ps') :: rest) → (∃ more, ps' = ps ++ more) → CTg g c P ps' →
      (∀ q ∈ (P, tabO ps') :: rest, q.1 ≤ K) → env.locals ≤ K → Gen prog w A K a tx.cps.size (fun j y => ∃ ch, tx.cps[j]? = some ch ∧ y = .bool (p ⟨#[ch]⟩)) s₅ → Q (.ref a) s₅)
    (hh : A.handled = none) (hco : scope.isCoroutine = false) (hclos : closureFor scope env = pure cl) (hcell : ∀ y ∈ scope.names, y.2 ≠ .cell) (h0 : scope.names.lookup (".0" : Str) = some NameKind.local)
    (hx : scope.names.lookup x = some .local) (hkind : scope.kind = .function) (hroom : A.depth < recursionLimit) (hgc : ∃ oc, g.get? c = some oc)
    (hs : ∀ x, genFold iter env x = pure x) :
    wpAny (model prog w) A (eval (.GeneratorExp elt [⟨.Name x px, iter, [], 0⟩] scope pos) env) Q E s := by
  refine wpAny_GeneratorExp_walksQD hh hco hclos hcell h0 hx hkind hroom (hi _ fun t tk => wpAny_pyIter_strU ⟨hl.keeps fun b o e => Heap.get?_push_of_some _ (F.keep b o e), ?_⟩) hs
  have hPg : g.get? P = none := (N _ (.head _)).2.2
  have hPL : P ≠ env.locals := (N _ (.head _)).2.1
  have hP₀ : s.heap.get? P = some (tabO ps) := (N _ (.head _)).1
  have hC₀ : CT (s.heap.push { cls := .type (strIterType tx), data := .fields #[.str tx t, .int 0 0] }) c P ps := hC _ (fun b o e => Heap.get?_push_of_some _ (F.keep b o e)) (Heap.get?_push_of_some _ hP₀)
  refine genCode hcode hC₀ fun c' h₃ tk₃ more hk₃ hsz₃ hC₃ => ?_
  have hsz : s.heap.objs.size < h₃.objs.size := by
    have := hsz₃
    rw [Heap.size_push] at this; exact this
  have hne : ∀ b o, g.get? b = some o → b ≠ P := fun b o e z => by rw [z, hPg] at e; cases e
  have up : ∀ b o, g.get? b = some o → h₃.get? b = some o := fun b o e => hk₃ b o (hne b o e) (Heap.get?_push_of_some _ (F.keep b o e))
  refine wpAny_builtinsFor (M.ns.keeps up) M.name M.ne (up _ _ M.obj) M.cls M.dict M.data ?_
  have hIP : s.heap.objs.size ≠ P := (Nat.ne_of_lt (Heap.lt_size hP₀)).symm
  have hI : h₃.get? s.heap.objs.size = some { cls := .type (strIterType tx), data := .fields #[.str tx t, .int 0 0] } := hk₃ _ _ hIP (Heap.get?_push_size _ rfl)
  have hLlt : env.locals < s.heap.objs.size := F.ns.lt
  have hclt : cStatics < s.heap.objs.size := by
    obtain ⟨_, hn, _⟩ := hl
    exact Nat.lt_of_lt_of_le hn.lt (Nat.le_trans F.above (Nat.le_of_lt hLlt))
  have go : ∀ T : String, (∀ A' : Around, A'.handled = none → Walks prog w A' s.heap.objs.size [s.heap.objs.size] [s.heap.objs.size] tx.cps.size (SignAt tx) (fun i h => h.IsStrIter s.heap.objs.size T tx t i)) →
      h₃.IsStrIter s.heap.objs.size T tx t 0 →
      ∃ I fp wr n₀ Pi St₀, ∃ (pz : Nat → Bool) (F' : Nat → Value → Prop), Value.ref s.heap.objs.size = .ref I ∧ (∀ A' : Around, A'.handled = none → Walks prog w A' I fp wr n₀ Pi St₀) ∧ St₀ 0 h₃ ∧ (∀ b ∈ fp, b < h₃.objs.size) ∧ h₃.NoLimit ∧ cStatics ∉ wr ∧
          (∀ href : Heap, (∀ b o, h₃.get? b = some o → href.get? b = some o) →
            QuietGenD prog w (genEnv scope cl h₃.objs.size c' builtinsNs env) x [] elt (List.range h₃.objs.size) wr Pi pz F' href (A.depth + 1) (A.units + 8)) ∧
          (∀ a h₅ tk gs, gs.bare = true → h₃.objs.size < a → h₅.objs.size = a + 1 → (∀ b o, h₃.get? b = some o → h₅.get? b = some o) →
            WalksS prog w A.in4 a (a :: h₃.objs.size :: List.range h₃.objs.size) (h₃.objs.size :: wr) (GenOnlyQ s.gens.size) (passing pz n₀ 0).length
              (fun j y => ∃ i, (passing pz n₀ 0)[j]? = some i ∧ F' i y) (GenAt prog w A.in4 a s.gens.size h₃.objs.size (List.range h₃.objs.size) wr pz n₀ F') →
            GenAt prog w A.in4 a s.gens.size h₃.objs.size (List.range h₃.objs.size) wr pz n₀ F' 0 { s with heap := h₅, gens := s.gens.push gs, toks := tk } →
            Q (.ref a) { s with heap := h₅, gens := s.gens.push gs, toks := tk }) := by
    intro T W hst
    have hpa : passing (fun _ => true) tx.cps.size 0 = List.range tx.cps.size := by unfold passing; rw [List.drop_zero, List.filter_eq_self.mpr (by simp)]
    refine ⟨_, _, _, _, _, _, fun _ => true, fun i y => ∃ ch, tx.cps[i]? = some ch ∧ y = .bool (p ⟨#[ch]⟩), rfl, W, hst, ?_, hl.keeps up, ?_, ?_, ?_⟩
    · intro b hb; rw [List.mem_singleton.mp hb]; exact hsz
    · intro hb; rw [List.mem_singleton.mp hb] at hclt; exact Nat.lt_irrefl _ hclt
    · intro href hhref
      refine ⟨fun A' E' i v s₂ m₂ _ _ _ _ _ _ _ => wpAny_pure ⟨rfl, s₂.heap, s₂.toks, rfl, fun _ _ e => e⟩, ?_⟩
      rintro A' E' i v s₂ m₂ hA hD hU ⟨ch, u, hch, rfl⟩ _ hn hm hkp
      have F₂ : Fr g h₃.objs.size s₂.heap m₂ := ⟨hn, fun b o e => hkp b (List.mem_range.mpr (Heap.lt_size (up b o e))) (fun hb => by
        have h1 := Nat.lt_of_lt_of_le (Heap.lt_size e) F.above
        rw [List.mem_singleton.mp hb] at h1
        exact Nat.lt_irrefl _ (Nat.lt_trans h1 hLlt)) o (hhref b o (up b o e)), Nat.le_of_lt (Nat.lt_of_le_of_lt F.above (Nat.lt_trans hLlt hsz))⟩
      refine wpAny_mono (helt A' E' s₂ _ c' ch m₂ u hA hD hU F₂ hm) (fun y s₃ h => ⟨⟨ch, hch, h.1⟩, h.2⟩) fun _ _ e => e
    · intro a h₅ tk gs hgb hag hsz₅ hk₅ W' hat
      have up5 : ∀ b o, g.get? b = some o → h₅.get? b = some o := fun b o e => hk₅ b o (up b o e)
      have hC₅ : CT h₅ c P (ps ++ more) := hC₃.keeps hk₅
      obtain ⟨oc, hoc⟩ := hgc
      refine hQ a _ (ps ++ more) (s.heap.objs.size - 1) rfl (hg.push hgb) ⟨F.ns.at fun o e => hk₅ _ _ (hk₃ _ _ (Ne.symm hPL) (Heap.get?_push_of_some _ e)), up5, F.above⟩ ?_ ⟨more, rfl⟩ (hC₅.toG up5 hoc) ?_ (Nat.le_sub_one_of_lt hLlt) ?_
      · intro q hq
        rcases List.mem_cons.mp hq with rfl | hq
        · exact ⟨hC₅.tab, hPL, hPg⟩
        · obtain ⟨a1, a2, a3⟩ := N q (List.mem_cons_of_mem _ hq)
          exact ⟨hk₅ _ _ (hk₃ _ _ (hap q hq) (Heap.get?_push_of_some _ a1)), a2, a3⟩
      · intro q hq
        have : q.1 < s.heap.objs.size := by
          rcases List.mem_cons.mp hq with rfl | hq
          · exact Heap.lt_size hP₀
          · exact Heap.lt_size (N q (List.mem_cons_of_mem _ hq)).1
        exact Nat.le_sub_one_of_lt this
      · rw [hpa] at W'
        rw [List.length_range] at W'
        have e : (fun (j : Nat) (y : Value) => ∃ i, (List.range tx.cps.size)[j]? = some i ∧ ∃ ch, tx.cps[i]? = some ch ∧ y = .bool (p ⟨#[ch]⟩)) = fun j y => ∃ ch, tx.cps[j]? = some ch ∧ y = .bool (p ⟨#[ch]⟩) := by
          funext j y
          refine propext ⟨?_, ?_⟩
          · rintro ⟨i, hi, ch, h1, h2⟩
            by_cases hj : j < tx.cps.size
            · rw [List.getElem?_range hj] at hi; cases hi; exact ⟨ch, h1, h2⟩
            · rw [List.getElem?_eq_none (by simpa using hj)] at hi; cases hi
          · rintro ⟨ch, h1, h2⟩
            have hj : j < tx.cps.size := by
              rcases Nat.lt_or_ge j tx.cps.size with h | h
              · exact h
              · rw [Array.getElem?_eq_none h] at h1; cases h1
            exact ⟨j, List.getElem?_range hj, ch, h1, h2⟩
        rw [e] at W'
        refine ⟨_, _, _, _, W', hat, (fun i s' st => st.1.typeIs), List.mem_cons_self, ?_, ?_⟩
        · intro b hb
          show b < h₅.objs.size
          rw [hsz₅]
          rcases List.mem_cons.mp hb with rfl | hb
          · exact Nat.lt_succ_self _
          · rcases List.mem_cons.mp hb with rfl | hb
            · exact Nat.lt_succ_of_lt hag
            · exact Nat.lt_succ_of_lt (Nat.lt_trans (List.mem_range.mp hb) hag)
        · intro b hb
          have h0 : s.heap.objs.size - 1 < s.heap.objs.size := Nat.sub_lt (Nat.lt_of_le_of_lt (Nat.zero_le _) hLlt) Nat.one_pos
          rcases List.mem_cons.mp hb with rfl | hb
          · exact Nat.lt_trans h0 hsz
          · rw [List.mem_singleton.mp hb]; exact h0
  unfold strIterType at hI
  split at hI
  · exact go "str_ascii_iterator" (fun A' hA => Walks.strAscii hA _ _ _) ⟨_, hI, rfl, rfl⟩
  · exact go "str_iterator" (fun A' hA => Walks.strWide hA _ _ _) ⟨_, hI, rfl, rfl⟩

/-- any over it -/
theorem anyStr {L : Addr} {Q : Value → Shared → Prop} {tx : Str} {K a : Addr} {own : List (Addr × Obj)} {p : Str → Bool} (hg : AllBare s.gens) (F : Fr g L s.heap m) (N : News g L s.heap own) (hK : ∀ q ∈ own, q.1 ≤ K) (hL : L ≤ K)
    (X : Gen prog w A K a tx.cps.size (fun j y => ∃ ch, tx.cps[j]? = some ch ∧ y = .bool (p ⟨#[ch]⟩)) s)
    (hQ : ∀ s' : Shared, s'.os = s.os → AllBare s'.gens → Fr g L s'.heap m → News g L s'.heap own → Q (.bool (tx.cps.toList.any fun ch => p ⟨#[ch]⟩)) s') :
    wpAny (model prog w) A (call (.builtin "any") [.ref a]) Q E s := by
  refine any_rowsK F hg X hL (fun j => match tx.cps[j]? with | some ch => p ⟨#[ch]⟩ | none => false) ?_ ?_
  · rintro i v s Q E ⟨ch, h1, rfl⟩ h
    simp only [h1] at h
    exact wpAny_truthy_bool h
  · intro s' F' G' hos hk
    have e : ((List.range tx.cps.size).any fun j => match tx.cps[j]? with | some ch => p ⟨#[ch]⟩ | none => false) = tx.cps.toList.any fun ch => p ⟨#[ch]⟩ := by
      apply Bool.eq_iff_iff.mpr
      simp only [List.any_eq_true, List.mem_range]
      constructor
      · rintro ⟨j, hj, h⟩
        rw [Array.getElem?_eq_getElem hj] at h
        exact ⟨_, Array.getElem_mem_toList hj, h⟩
      · rintro ⟨ch, hm, h⟩
        obtain ⟨j, hj, e⟩ := List.mem_iff_getElem.mp hm
        refine ⟨j, by simpa using hj, ?_⟩
        have hj' : j < tx.cps.size := by simpa using hj
        rw [Array.getElem?_eq_getElem hj']
        have e2 : tx.cps[j] = ch := by simpa using e
        simpa [e2] using h
    rw [e]
    refine hQ s' hos G' F' fun q hq => ⟨hk _ _ (hK q hq) (N q hq).1, (N q hq).2⟩
end
end Mine

end
section
open PySem PySem.W PyProof.Rows PySem.Calls
namespace Mine
set_option maxRecDepth 100000
section
variable {prog : Program} {w : World} {A : Around} {s : Shared} {env : Env} {g : Heap} {L : Addr} {body : List Stmt} {Q : Flow → Shared → Prop} {m : Str → Option Value} {news : List (Addr × Obj)}

/-- the end of a turn, whatever generators were made -/
def TurnEndG (g : Heap) (L : Addr) (J : (Str → Option Value) → List (Addr × Obj) → Prop) (own : List (Addr × Obj)) (s : Shared) (f : Flow) (s' : Shared) : Prop :=
  f = .next ∧ s'.os = s.os ∧ AllBare s'.gens ∧ ∃ m' nx, Fr g L s'.heap m' ∧ News g L s'.heap (nx ++ own) ∧ (∀ p ∈ nx, ∀ q ∈ own, p.1 ≠ q.1) ∧ J m' nx

theorem loopBaseG {elts : List Expr} {k : Nat} {pos fpos : Pos} {iter : Expr} {l : Addr} {items : Array Value} (hL : env.locals = L) (hh : A.handled = none) (hl : g.IsList l items) (href : ∀ (i : Nat) (v : Value), items[i]? = some v → ∃ T, v = Value.ref T)
    (J : Nat → (Str → Option Value) → List (Addr × Obj) → Prop) (hg : AllBare s.gens) (F : Fr g L s.heap m) (N : News g L s.heap news) (h0 : J 0 m news)
    (hi : ∀ (Q' : Value → Shared → Prop), Q' (.ref l) s → wpAny (model prog w) A (eval iter env) Q' (fun _ _ => False) s)
    (step : ∀ i v m₁ nx (s₁ : Shared) I oI, items[i]? = some v → J i m₁ nx → (∀ p ∈ nx, p.1 ≠ I) → oI.cls = .type "list_iterator" → s₁.os = s.os → AllBare s₁.gens → Fr g L s₁.heap m₁ → News g L s₁.heap (nx ++ [(I, oI)]) →
      wpAny (model prog w) A (assign (.Tuple elts k pos) env v) (fun _ s₃ => wpAny (model prog w) A (execs body env) (TurnEndG g L (J (i + 1)) [(I, oI)] s₁) (fun _ _ => False) s₃) (fun _ _ => False) s₁)
    (done : ∀ (s' : Shared) m' nx, s'.os = s.os → AllBare s'.gens → Fr g L s'.heap m' → News g L s'.heap nx → J items.size m' nx → Q .next s')
    (hs : ∀ x, foldedSetIterable iter env x = pure x := by intro _; rfl) :
    wpAny (model prog w) A (exec (.For (.Tuple elts k pos) iter body [] fpos) env) Q (fun _ _ => False) s := by
  subst hL
  refine wpAny_For (hi _ ?_) hs
  have hls : s.heap.IsList l items := hl.at fun o e => F.keep l o e
  obtain ⟨ol, hol, _⟩ := id hl
  have hlt : l < g.objs.size := Heap.lt_size hol
  have hne : l ≠ s.heap.objs.size := Nat.ne_of_lt (Nat.lt_trans (Nat.lt_of_lt_of_le hlt F.above) F.ns.lt)
  have hI0 : g.get? s.heap.objs.size = none := next_is_new F
  have hIL : s.heap.objs.size ≠ env.locals := Nat.ne_of_gt F.ns.lt
  refine wpAny_pyIter_list hls ?_
  generalize hI : s.heap.objs.size = I at *
  have hE : ∀ (e : Value) (s' : Shared), False → notedBy (model prog w) A env (fun e s' => cameBackBy (model prog w) A env (fun _ _ => False) e s') e s' := fun _ _ h => h.elim
  refine codeAny_forLoop_any (R := fun r s' => match r with | .ok f => Q f s' | .error e => cameBackBy (model prog w) A env (fun _ _ => False) e s')
    (fun n s' => ∃ i m' nx, s'.os = s.os ∧ AllBare s'.gens ∧ s'.heap.IsListIter I l i ∧ Fr g env.locals s'.heap m' ∧ News g env.locals s'.heap nx ∧ (∀ p ∈ nx, p.1 ≠ I) ∧ J i m' nx ∧ i ≤ items.size ∧ n = items.size + 1 - i) ?_ (items.size + 1)
    ⟨0, m, news, rfl, hg, ⟨_, hI ▸ Heap.get?_push_size _ rfl, rfl, rfl⟩, F.push _, (fun p hp => ⟨Heap.get?_push_of_some _ (N p hp).1, (N p hp).2⟩), (fun p hp => hI ▸ Nat.ne_of_lt (Heap.lt_size (N p hp).1)), h0, Nat.zero_le _, rfl⟩
  rintro n s' ⟨i, m', nx, hos, hgb, hit, F', N', hoff, hJ, hle, rfl⟩
  have hl' : s'.heap.IsList l items := hl.at fun o e => F'.keep l o e
  have next : ∀ h₁ : Heap, (∀ b o, b ≠ I → s'.heap.get? b = some o → h₁.get? b = some o) → Fr g env.locals h₁ m' ∧ News g env.locals h₁ nx := fun h₁ hk₁ =>
    ⟨⟨F'.ns.at' fun o e => hk₁ _ o (Ne.symm hIL) e, fun b o e => hk₁ b o (fun z => by rw [z, hI0] at e; cases e) (F'.keep b o e), F'.above⟩, fun p hp => ⟨hk₁ _ _ (hoff p hp) (N' p hp).1, (N' p hp).2⟩⟩
  by_cases hlt' : i < items.size
  · refine wpAny_pyNext_list_item hit hl' (x := items[i]) (by simp [hlt']) fun h₁ hit' hs' => ?_
    obtain ⟨F₁, N₁⟩ := next h₁ fun b o hb e => hs'.extBut b o hb e
    obtain ⟨T, hT⟩ := href i items[i] (by simp [hlt'])
    obtain ⟨oI, hoI, hcI, hdI⟩ := id hit'
    have N₂ : News g env.locals h₁ (nx ++ [(I, oI)]) := fun p hp => by
      rcases List.mem_append.mp hp with h | h
      · exact N₁ p h
      · rw [List.mem_singleton.mp h]; exact ⟨hoI, hIL, hI0⟩
    have st := step i items[i] m' nx { s' with heap := h₁ } I oI (by simp [hlt']) hJ hoff hcI hos hgb F₁ N₂
    dsimp only
    rw [hT] at st ⊢
    refine wpAny_letOwnedTupleGo_listiter hit' (wpAny_mono st (fun _ s₂ h₂ => wpAny_mono h₂ (fun f s₃ h₃ => ?_) fun _ _ e => e.elim) fun _ _ e => e.elim)
    obtain ⟨rfl, ho₃, hg₃, m₃, nx₃, F₃, N₃, ha₃, hJ₃⟩ := h₃
    refine ⟨items.size + 1 - (i + 1), by omega, i + 1, m₃, nx₃, ho₃.trans hos, hg₃, ⟨oI, (N₃ (I, oI) (List.mem_append_right _ (List.mem_singleton.mpr rfl))).1, hcI, hdI⟩, F₃, (fun p hp => N₃ p (List.mem_append_left _ hp)), fun p hp => ha₃ p hp _ (List.mem_singleton.mpr rfl), hJ₃, hlt', rfl⟩
  · have hin : i = items.size := by omega
    subst hin
    refine wpAny_pyNext_list_end hh hit hl' (by simp) fun h₁ he' => wpAny_execs_nil ?_
    obtain ⟨F₁, N₁⟩ := next h₁ fun b o hb e => he' b o hb e
    exact done _ m' nx hos hgb F₁ N₁ hJ
end
end Mine

end
section
open PySem PySem.W PyProof.Rows PySem.Calls
namespace Mine
set_option maxRecDepth 100000
set_option maxHeartbeats 4000000

theorem ntup {P : Addr} {ps : Array Value} {h : Heap} {a : Addr} {vs : List Value} {k : Nat} (hP : h.get? P = some (tabO ps)) (ha : h.get? a = some (tupO vs k)) : a ≠ P := fun e => by
  rw [e, hP] at ha; cases ha
theorem TksIn_but {P : Addr} {ps : Array Value} {h : Heap} {cst : List (Addr × Obj)} {vs : List Value} {ts : List Tk} (hP : h.get? P = some (tabO ps)) (hc : Has h cst) (x : TksIn cst vs ts) :
    TksIn (cst.filter fun p => p.1 != P) vs ts := by
  have key : ∀ {p : Addr × Obj} {vs : List Value} {k : Nat}, p.2 = tupO vs k → p ∈ cst → p ∈ cst.filter fun p => p.1 != P := by
    intro p vs k e hp
    have h1 := hc p hp
    rw [e] at h1
    have := ntup hP h1
    exact List.mem_filter.mpr ⟨hp, by simpa using this⟩
  induction x with
  | nil => exact .nil
  | cons a _ ih =>
    refine .cons ?_ ih
    cases a with
    | fld m1 m2 => exact .fld (key rfl m1) (key rfl m2)
    | chr m1 => exact .chr (key rfl m1)
theorem Has_but {P : Addr} {h g : Heap} {cst : List (Addr × Obj)} (hc : Has h cst) (st : ∀ b o, b ≠ P → h.get? b = some o → g.get? b = some o) : Has g (cst.filter fun p => p.1 != P) := by
  intro p hp
  obtain ⟨h1, h2⟩ := List.mem_filter.mp hp
  exact st _ _ (by simpa using h2) (hc p h1)
theorem list_but {P : Addr} {ps : Array Value} {h g : Heap} {l : Addr} {xs : Array Value} (hP : h.get? P = some (tabO ps)) (hl : h.IsList l xs) (st : ∀ b o, b ≠ P → h.get? b = some o → g.get? b = some o) : g.IsList l xs :=
  hl.at fun o e => st l o (fun z => by
    obtain ⟨o2, h2, h3, _⟩ := hl
    rw [z, hP] at h2; cases h2; cases h3) e
theorem kcl (w : World) : kb_classed (Mine.hd.heap_39 w.params) = true := by
  with_unfolding_all rfl
theorem patAny {x : Str} (h : x ∈ txts) : (x.cps.toList.any fun ch => isPat ⟨#[ch]⟩) = !(Builtin.Str.occurrences x (Str.ofString "d") 0 x.length 1).isEmpty := by
  simp only [List.mem_cons, List.not_mem_nil, or_false] at h
  rcases h with rfl | rfl | rfl | rfl | rfl | rfl <;> decide +kernel
theorem endG {g : Heap} {L oa P I : Addr} {s₁ s' : Shared} {cs : List Value} {n' : Nat} {x : Str} {t : Tok} {ps ps' : Array Value} {oI : Obj} {m' : Str → Option Value} {ts : List Tk} {i : Nat} {d : Tk}
    (F : Fr g L s'.heap m') (N : News g L s'.heap [(oa, listOf (cs.toArray.push (.str x t)) n'), (P, tabO ps'), (I, oI)]) (hm : m' (Str.ofString "output") = some (.ref oa)) (hS : StrsAre cs ((ts.take i).map tkText)) (e : tkText d = x)
    (hsn : (ts.take (i + 1)).map tkText = (ts.take i).map tkText ++ [tkText d]) (d1 : @Ne Nat oa I) (d2 : @Ne Nat P I) (hC : CTg g 73 P ps') (hmore : ∃ more, ps' = ps ++ more) (os : s'.os = s₁.os) (G : AllBare s'.gens) :
    TurnEndG g L (fun m nx => m (Str.ofString "output") = some (.ref oa) ∧ ∃ cs no ps', nx = [(oa, listOf cs.toArray no), (P, tabO ps')] ∧ StrsAre cs ((ts.take (i + 1)).map tkText) ∧ CTg g 73 P ps' ∧ ∃ more, ps' = ps ++ more) [(I, oI)] s₁ .next s' := by
  refine ⟨rfl, os, G, m', [(oa, listOf (cs ++ [Value.str x t]).toArray n'), (P, tabO ps')], F, ?_, ?_, hm, cs ++ [Value.str x t], n', ps', rfl, ?_, hC, hmore⟩
  · intro p hp
    refine N p ?_
    simpa using hp
  · intro p hp q hq
    rw [List.mem_singleton.mp hq]
    simp only [List.mem_cons, List.not_mem_nil, or_false] at hp
    rcases hp with rfl | rfl
    · exact d1
    · exact d2
  · rw [hsn, ← e]
    exact strsAre_app hS (.cons _ _ .nil)
theorem grew_of {c P : Addr} {h g h' : Heap} {ps : Array Value} (C : CT h c P ps) (st : ∀ b o, b ≠ P → h.get? b = some o → g.get? b = some o) (k : ∀ b o, g.get? b = some o → h'.get? b = some o) (C' : ∃ more, CT h' c P (ps ++ more)) : Grew c P h h' := by
  refine ⟨fun b o n e => k b o (st b o n e), fun ps2 C2 => ?_⟩
  have : ps2 = ps := by
    have := C2.tab.symm.trans C.tab
    injection this with this
    injection this with _ _ h3
    injection h3
  rw [this]; exact C'
theorem join_written (ts : List Tk) : Txt.join (Str.ofString "") (ts.map tkText) = writtenT ts := by
  have key : ∀ (ts : List Tk) (a : Str), (ts.foldl (fun a t => a ++ tkText t) a).cps.toList = a.cps.toList ++ (ts.map tkText).flatMap fun x => x.cps.toList := by
    intro ts
    induction ts with
    | nil => intro a; simp
    | cons t r ih =>
      intro a
      rw [List.foldl_cons, ih, List.map_cons, List.flatMap_cons, ← List.append_assoc]
      congr 1
      exact Array.toList_append
  have h := join_cps (ts.map tkText)
  have h2 := key ts (Str.ofString "")
  have e0 : (Str.ofString "").cps.toList = [] := by decide
  rw [e0, List.nil_append, ← h] at h2
  have : (Txt.join (Str.ofString "") (ts.map tkText)).cps = (writtenT ts).cps := Array.toList_inj.mp h2.symm
  cases h3 : Txt.join (Str.ofString "") (ts.map tkText)
  cases h4 : writtenT ts
  rw [h3, h4] at this
  exact congrArg Str.mk this
theorem mapLen {ts : List Tk} (hok : ∀ t ∈ ts, TkOk t) (hlen : ts.length ≤ 16) : ((ts.map tkText).map (·.length)).sum + (ts.map tkText).length ≤ 1048576 := by
  have key : ∀ ts : List Tk, (∀ t ∈ ts, TkOk t) → ((ts.map tkText).map (·.length)).sum ≤ 7 * ts.length := by
    intro ts
    induction ts with
    | nil => intro _; simp
    | cons t r ih =>
      intro h
      have h1 := ih fun u hu => h u (.tail _ hu)
      have h2 := tkText_len (h t (.head _))
      simp only [List.map_cons, List.sum_cons, List.length_cons]
      omega
  have := key ts hok
  rw [List.length_map]
  omega
local macro_rules | `(tactic| walk_at "call builtin:str.join") => `(tactic| (refine join_listW (News.isList (by assumption) (by k_mem)) (by assumption) (by decide) (by assumption) ?_; intro _ _))
local macro_rules | `(tactic| ktr_unf) => `(tactic| repeat' (first | ((fail_if_success (with_reducible show wpAny _ _ (exec (Stmt.For _ _ _ _ _) _) _ _ _)); (fail_if_success (with_reducible show wpAny _ _ (eval (Expr.GeneratorExp _ _ _ _) _) _ _ _)); first | walk1 | (dsimp only; walk1)) | fail "stop"))
local macro_rules | `(tactic| size_fits) => `(tactic| (rw [sizeLine_eq]; simp only [List.size_toArray, List.length_append, List.length_cons, List.length_nil, Array.size_push, Array.size_append]; omega))
local macro_rules | `(tactic| walk_at "compareOp In str ref") => `(tactic| (k_dflt (refine patIn (by assumption) (by assumption) ?_)))
local macro_rules | `(tactic| walk_at "call builtin:str.replace") => `(tactic| (refine replace_none (by assumption) ?_; intro _ _))
theorem noQuote {x : Str} (h : x ∈ txts) : (Builtin.Str.occurrences x (Str.ofString "'") 0 x.length (x.length + 1)).isEmpty = true := by
  simp only [List.mem_cons, List.not_mem_nil, or_false] at h
  rcases h with rfl | rfl | rfl | rfl | rfl | rfl <;> decide +kernel
theorem untok_spec : ∀ {w : World} {dp un : Nat} {fr : Option (List Env)} {gd : Option (List Code)} {E : Value → Shared → Prop} {s : Shared} {loose : List Str} {mg mb mq : Str → Option Value} {bm P : Addr} {ob : Obj} {ps : Array Value} {l : Addr} {vs : List Value} {ts : List Tk} {cst : List (Addr × Obj)} {Q : Value → Shared → Prop},
   (hd.heap_39 w.params).In s.heap → TopRead hd.view_39 loose mg mb s.heap → BMod s.heap mainGlobals mq bm ob → CT s.heap 73 P ps → AllBare s.gens → dp < 800 → un < 800 →
   s.heap.IsList l vs.toArray → Has s.heap cst → TksIn cst vs ts → ts.length ≤ 16 → (∀ t ∈ ts, TkOk t) →
   (∀ t (s' : Shared), s'.os = s.os → AllBare s'.gens → Grew 73 P s.heap s'.heap → Q (.str (writtenT ts) t) s') →
   wpAny (model PySem.Challenge.rw_ey0008_01.row.prog w) (AA dp un fr gd) (call (.ref 74) [.ref l]) Q E s := by
  k_fill
  intro w dp un fr gd E s loose mg mb mq bm P ob ps l vs ts cst Q X T BM C G hd hu hl hc hi hlen hok hQ
  have hP := C.tab
  refine' enter (K := Mine.hd.heap_39 w.params) (binds := [(Str.ofString "tokens", .ref l)]) [(P, tabO ps)] ?m X T.nolimit ?ho ?hcd ?hr ?hb ?hl ?_ ?c2 ?c3 ?c4 ?c5
  case m => intro p hp; rw [List.mem_singleton.mp hp]; exact hP
  case ho => k_is
  case hcd => k_is
  case hr => have : recursionLimit = 1000 := rfl; show dp < recursionLimit; omega
  case hb => exact BindsTo.of_eq rfl
  case hl => exact locs rfl
  case c2 => exact rfl
  case c3 => exact rfl
  case c4 => exact rfl
  case c5 => decide
  intro g L h₁ F N st old rev
  have st' : ∀ b o, b ≠ P → s.heap.get? b = some o → g.get? b = some o := fun b o hb e => st b o (by simpa using hb) e
  have X' : (Mine.hd.heap_39 w.params).In g := K_but X hP st' T.g T.nolimit (kcl w)
  have T' : TopRead Mine.hd.view_39 loose mg mb g := T_but T hP st'
  have BM' : BMod g mainGlobals mq bm ob := M_but BM hP st'
  have hl' : g.IsList l vs.toArray := list_but hP hl st'
  have hc' := Has_but hc st'
  have hi' := TksIn_but hP hc hi
  have hoc : ∃ oc, s.heap.get? 73 = some oc := by
    obtain ⟨⟨o, v, a, _⟩, _⟩ := C.2
    exact ⟨o, a⟩
  obtain ⟨oc, hoc⟩ := hoc
  have hoc' := st' _ _ C.ne hoc
  have hCg : CTg g 73 P ps := C.toG rev hoc'
  clear X T hl hc
  try dsimp only
  show wpAny _ _ _ _ _ _
  ktr_unf
  rename_i oa hh1 l1 h2 F2 N2
  have hoaP : @Ne Nat P oa := Nat.ne_of_lt l1
  refine loopBaseG (L := L) rfl rfl hl' (fun i v hv => ?_) (fun i m nx => m (Str.ofString "output") = some (.ref oa) ∧ ∃ cs no ps', nx = [(oa, listOf cs.toArray no), (P, tabO ps')] ∧ StrsAre cs ((ts.take i).map tkText) ∧ CTg g 73 P ps' ∧ ∃ more, ps' = ps ++ more) G F2 N2 ⟨rfl, [], 0, ps, rfl, .nil, hCg, #[], by simp⟩ (fun Q' h => ?_) ?_ ?_
  · obtain ⟨d, _, hd'⟩ := hi'.get (i := i) (v := v) (by simpa using hv)
    exact hd'.ref
  · walk1; exact h
  · rintro i v m₁ nx s₁ I oI hv ⟨m1, cs, no, ps', rfl, hS, hCg', more, rfl⟩ hnI hcI os₁ G₁ F3 N3
    obtain ⟨d, hd1, hd'⟩ := hi'.get (i := i) (v := v) (by simpa using hv)
    replace F3 := Fr.pin F3 m1
    clear N2 F2
    have hdI : @Ne Nat oa I := hnI _ (.head _)
    have hPI : @Ne Nat P I := hnI _ (.tail _ (.head _))
    have hok1 := hok d (mem_of_get hd1)
    have hsn : (ts.take (i + 1)).map tkText = (ts.take i).map tkText ++ [tkText d] := by rw [take_snoc hd1, List.map_append]; rfl
    have hlen2 : cs.length ≤ 16 := by rw [strsAre_len hS, List.length_map, List.length_take]; omega
    cases hd' with
    | fld m1 m2 =>
      rename_i a b t1 t2 t3 k1 k2 c n
      have u1 : IsTup g a #[.str (Str.ofString "field") t1, .ref b] := ⟨_, hc' _ m1, rfl, _, rfl⟩
      have u2 : IsTup g b #[.str c t2, .int n t3] := ⟨_, hc' _ m2, rfl, _, rfl⟩
      have hM : MulOk c n := mulOk hok1
      have hs1 := (fld_len hok1).2
      ktr_unf
      exact endG (by assumption) (by assumption) rfl hS rfl hsn hdI hPI hCg' ⟨_, rfl⟩ rfl G₁
    | chr m1 =>
      rename_i a t1 t2 k1 c
      have u1 : IsTup g a #[.str (Str.ofString "chars") t1, .str c t2] := ⟨_, hc' _ m1, rfl, _, rfl⟩
      have hs1 : c.length ≤ 5 := chr_len hok1
      have hnq := noQuote hok1
      ktr_unf
      rename_i hA hB hC F4 N4 tkA tkB
      have N5 : News g L hC ((P, tabO (ps ++ more)) :: [(oa, listOf cs.toArray no), (I, oI)]) := fun p hp => N4 p (by
        simp only [List.mem_cons, List.not_mem_nil, or_false, List.cons_append, List.nil_append] at hp ⊢
        rcases hp with h | h | h <;> simp [h])
      have hap : ∀ q ∈ [(oa, listOf cs.toArray no), (I, oI)], q.1 ≠ P := by
        intro q hq
        simp only [List.mem_cons, List.not_mem_nil, or_false] at hq
        rcases hq with rfl | rfl
        · exact hoaP.symm
        · exact hPI.symm
      refine genStr (tx := c) isPat hCg' BM' T'.nolimit rfl G₁ F4 N5 hap ?_ ?_ ?_ rfl rfl rfl (by decide) rfl rfl rfl ?_ ⟨oc, hoc'⟩ (fun _ => rfl)
      · intro Q' h
        walk1
        exact h _ _
      · intro A' E' s' C code ch m₂ u hA' hD' hU' F₆ hm₂
        clear N5 N4 F4
        walk1
        refine ldVarG F₆ hm₂ ?_
        try dsimp only
        refine' nameG_K F₆ X' T' ?k3 ?_ rfl rfl rfl (by decide)
        case k3 => k_is
        refine patIn X' F₆ ?_
        exact ⟨rfl, _, _, rfl, fun _ _ e => e⟩
      · intro a5 s₅ ps5 K5 os₅ G₅ F₅ N₅ hm5 hC5 hK5 hL5 X₅
        ktr_unf
        refine anyStr (tx := c) (p := isPat) G₅ F₅ N₅ hK5 hL5 X₅ fun s₆ os₆ G₆ F₆ N₆ => ?_
        rw [patAny hok1]
        have N₇ : News g L s₆.heap [(oa, listOf cs.toArray no), (P, tabO ps5), (I, oI)] := fun p hp => N₆ p (by
          simp only [List.mem_cons, List.not_mem_nil, or_false] at hp ⊢
          rcases hp with h | h | h <;> simp [h])
        obtain ⟨more5, rfl⟩ := hm5
        clear N₆ N₅ F₅ N5 N4 F4 X₅
        cases hdd : (Builtin.Str.occurrences c (Str.ofString "d") 0 c.length 1).isEmpty
        · ktr_unf
          exact endG (by assumption) (by assumption) rfl hS (tkText_quoted hdd) hsn hdI hPI hC5 ⟨_, Array.append_assoc⟩ (os₆.trans os₅) G₆
        · ktr_unf
          exact endG (by assumption) (by assumption) rfl hS (tkText_plain hdd) hsn hdI hPI hC5 ⟨_, Array.append_assoc⟩ (os₆.trans os₅) G₆
      · show dp + 1 < recursionLimit
        have : recursionLimit = 1000 := rfl
        omega
  · rintro s₂ m' nx os₂ G₂ F₂ N₄ ⟨m1, cs, no, ps', rfl, hS, hCg', more, rfl⟩
    rw [List.take_of_length_le (by simp [hi.length])] at hS
    replace F₂ := Fr.pin F₂ m1
    clear N2 F2
    have hS' : StrsAre cs.toArray.toList (ts.map tkText) := hS
    have hw := mapLen hok hlen
    show wpAny _ _ _ _ _ _
    ktr_unf
    rw [join_written]
    exact hQ _ _ os₂ G₂ (grew_of C st' (fun b o e => F₂.keep b o e) ⟨more, hCg' _ (fun b o e => F₂.keep b o e) (N₄ _ (.tail _ (.head _))).1⟩)
end Mine

end
section
open PySem PySem.W PyProof.Rows PySem.Calls
namespace Mine
set_option maxRecDepth 100000
section
variable {prog : Program} {w : World} {K : Type} [DecidableEq K] {knd : KeyKind prog w K} {A : Around} {E : Value → Shared → Prop} {s : Shared} {a : Addr}

theorem getMethod_set_clear {S : K → Bool} {n : Nat} {pl : Sem Bool} {Q : Value × List Value → Shared → Prop} (hS : s.heap.SetOf knd a S n) (h : Q (.builtin "set.clear", [.ref a]) s) :
    wpAny (model prog w) A (getMethod (.ref a) "clear" pl) Q E s :=
  getMethod_builtin hS.typeIs F.plainAttrs_set F.slot_set_clear F.type_set_clear hS.noDict h

theorem wpAny_setWalk_known {o : Obj} {es : Array (Int × Value)} {ep : Nat} {t : SetTable} {Q : Array (Int × Value) → Shared → Prop}
    (ho : s.heap.get? a = some o) (hd : o.data = .set es ep t) (hf : t.fits es.size = true) (hk : (w.params.followText "set-order" || (t.led && t.plain) || decide (es.size ≤ 1)) = true)
    (h : ∀ es', Q es' s) : wpAny (model prog w) A (setWalk a) Q E s := by
  unfold setWalk setsByText
  refine wpAny_bind (wpAny_setState_of ho hd hf ?_)
  refine wpAny_bind (wpAny_bind (wpAny_askSetting (wpAny_pure ?_)))
  dsimp only
  split
  · exact wpAny_bind (wpAny_askSetting (wpAny_pure (h _)))
  · rename_i hb
    have hb' : w.params.followText "set-order" = false := by
      cases hx : w.params.followText "set-order"
      · rfl
      · exact absurd hx hb
    rw [hb', Bool.false_or] at hk
    split
    · rename_i hdr
      have hdr' : (!t.plain && decide (es.size > 1)) = true := hdr
      exfalso
      simp only [Bool.and_eq_true, Bool.not_eq_true', decide_eq_true_eq, Bool.or_eq_true] at hdr' hk
      rcases hk with hk | hk
      · rw [hk.2] at hdr'; cases hdr'.1
      · exact absurd hdr'.2 (Nat.not_lt.mpr hk)
    · refine wpAny_bind ?_
      show wpAny _ _ (if (!t.led && decide (es.size > 1)) = true then unsupported "set:maker-not-led" else pure ()) _ _ _
      have hne : (!t.led && decide (es.size > 1)) = false := by
        simp only [Bool.and_eq_true, Bool.or_eq_true, decide_eq_true_eq] at hk
        rcases hk with hk | hk
        · rw [hk.1]; rfl
        · rw [Bool.and_eq_false_iff]; right; exact decide_eq_false (Nat.not_lt.mpr hk)
      rw [hne]
      exact wpAny_pure (wpAny_pure (h _))

theorem call_set_clear {S : K → Bool} {n : Nat} {Q : Value → Shared → Prop} (hS : s.heap.SetOf knd a S n)
    (h : ∀ h', Heap.SameBut a s.heap h' → h'.SetOf knd a (fun _ => false) 0 → Q .none { s with heap := h' }) :
    wpAny (model prog w) A (call (.builtin "set.clear") [.ref a]) Q E s := by
  refine wpAny_call_entry F.slot_set_clear hS.typeIs F.entry_set_clear ?_ (F.args_set_clear_1 _)
  obtain ⟨o, es, ep, t, ho, hex, hd, hel, hmem, hb, hf, hn⟩ := hS
  unfold Builtin.«set.clear» Builtin.Frozenset.noArgs
  simp only [List.isEmpty_nil, bind_assoc]
  unfold Builtin.Frozenset.addrOf
  refine wpAny_bind (wpAny_pure ?_)
  try dsimp only
  unfold Builtin.Frozenset.clearAll
  refine wpAny_bind ?_
  have store : ∀ (old : Option (List Value)) , ∀ (b : Bool), ∀ Q' : Option (List Value) → Shared → Prop, (∀ h', Heap.SameBut a s.heap h' → h'.SetOf knd a (fun _ => false) 0 → Q' old { s with heap := h' }) →
      wpAny (model prog w) A.in1 (do storeSet a #[] (t.cleared (led := b)); return old) Q' E s := by
    intro old b Q' hQ'
    refine wpAny_bind (wpAny_storeSet_of ho hd ?_ (by simp))
    obtain ⟨_, z2⟩ := SetOf_store (knd := knd) ho hex hd (es' := #[]) (t' := t.cleared (led := b)) (S' := fun _ => false) (fun e he => by simp at he) (fun k => by simp) (by decide) (by rfl)
    exact wpAny_pure (hQ' _ (Heap.SameBut.update ..) z2)
  refine wpAny_bind (wpAny_mono (Q := fun _ s' => ∃ h', Heap.SameBut a s.heap h' ∧ h'.SetOf knd a (fun _ => false) 0 ∧ s' = { s with heap := h' }) ?_ (fun old s' hx => ?_) fun _ _ e => e)
  rotate_left
  · obtain ⟨h', h1, h2, rfl⟩ := hx
    cases old with
    | none =>
      show wpAny _ _ point _ _ _
      exact wpAny_point (wpAny_pure ⟨_, rfl, h h' h1 h2⟩)
    | some old =>
      show wpAny _ _ (letGo _) _ _ _
      exact wpAny_letGo (wpAny_pure ⟨_, rfl, h h' h1 h2⟩)
  unfold setClear setDeathsKnown setItems
  simp only [bind_assoc, pure_bind]
  refine wpAny_bind (wpAny_setState_of ho hd hf ?_)
  unfold setsByText
  simp only [bind_assoc, pure_bind]
  refine wpAny_bind (wpAny_askSetting ?_)
  dsimp only
  split
  · rename_i hc
    refine wpAny_bind (wpAny_setWalk_known ho hd hf hc fun es' => ?_)
    refine wpAny_bind (wpAny_setState_of ho hd hf ?_)
    refine wpAny_bind (wpAny_askSetting ?_)
    exact store _ _ _ fun h' h1 h2 => ⟨h', h1, h2, rfl⟩
  · refine wpAny_bind (wpAny_setState_of ho hd hf ?_)
    refine wpAny_bind (wpAny_askSetting ?_)
    exact store _ _ _ fun h' h1 h2 => ⟨h', h1, h2, rfl⟩
end

section
variable {prog : Program} {w : World} {K : Type} [DecidableEq K] [BEq K] [LawfulBEq K] {knd : KeyKind prog w K} {A : Around} {E : Value → Shared → Prop} {s : Shared} {h₀ : Heap} {L sa : Addr} {m : Str → Option Value} {news : List (Addr × Obj)} {g : Obj → List (Addr × Obj)} {so : Obj} {S : K → Bool} {n : Nat}
theorem kse_methodC {pl : Sem Bool} {Q : Value × List Value → Shared → Prop} (N : News h₀ L s.heap news) (U : UpdF sa so news g) (hso : so.SetObjOf knd S n) (hb : n < scanBound) (h : Q (.builtin "set.clear", [.ref sa]) s) :
    wpAny (model prog w) A (getMethod (.ref sa) "clear" pl) Q E s := by
  obtain ⟨pre, post, rfl, _, _, _⟩ := U.split
  exact getMethod_set_clear (hso.setOf (N _ (List.mem_append_right _ (.head _))).1 hb) h
theorem kse_clear {Q : Value → Shared → Prop} (F : Fr h₀ L s.heap m) (N : News h₀ L s.heap news) (U : UpdF sa so news g) (hso : so.SetObjOf knd S n) (hb : n < scanBound)
    (h : ∀ h' so', Fr h₀ L h' m → News h₀ L h' (g so') → so'.SetObjOf knd (fun _ => false) 0 → Q .none { s with heap := h' }) :
    wpAny (model prog w) A (call (.builtin "set.clear") [.ref sa]) Q E s := by
  obtain ⟨pre, post, rfl, hg, a, b⟩ := U.split
  have hm := N _ (List.mem_append_right _ (.head _))
  refine call_set_clear (hso.setOf hm.1 hb) fun h' hsb hS' => ?_
  obtain ⟨so', ho', hso'⟩ := hS'.objOf
  exact h h' so' (F.change hsb hm.2.1 hm.2.2) (hg so' ▸ N.setIn a b hsb ho') hso'
end
end Mine

end
section
open PySem PySem.W PyProof.Rows PySem.Calls
namespace Mine
set_option maxRecDepth 100000
section
variable {prog : Program} {w : World} {A : Around} {E : Value → Shared → Prop} {s : Shared} {env : Env}

theorem compLoopG {R : Result → Shared → Prop} {elt iter : Expr} {x : Str} {px : Pos} {scope : Scope} {pos : Pos} {I ax D P : Addr} {cenv : Env} {items : Array Value} {m : Str → Option Value}
    (OK : Shared → Prop) (F : Nat → Value → Prop) (hOK : ∀ (s : Shared) h' tk, OK s → (∀ o, s.heap.get? P = some o → h'.get? P = some o) → OK { s with heap := h', toks := tk })
    (hh : A.handled = none) (hx : cenv.kindOf x = some .local)
    (hp : (cenv.scope.kind == .class || (cenv.scope.kind == .module && cenv.locals != cenv.globals)) = false)
    (hDI : D ≠ I) (hDC : D ≠ cenv.locals) (hIC : I ≠ cenv.locals) (haI : ax ≠ I) (haC : ax ≠ cenv.locals) (haD : ax ≠ D) (haP : ax ≠ P) (hPI : P ≠ I) (hPD : P ≠ D) (hPC : P ≠ cenv.locals)
    (hok : OK s) (hit : s.heap.IsListIter I ax 0) (hl : s.heap.IsList ax items) (hacc : s.heap.PlainList D #[]) (hn : s.heap.Ns cenv.locals m)
    (helt : ∀ i v (s₂ : Shared) m₂, items[i]? = some v → OK s₂ → s₂.heap.Ns cenv.locals m₂ → m₂ x = some v → (∀ b o, b ≠ cenv.locals → b ≠ I → b ≠ D → b ≠ P → s.heap.get? b = some o → s₂.heap.get? b = some o) →
      wpAny (model prog w) A (eval elt cenv) (fun y s₃ => F i y ∧ OK s₃ ∧ ∀ b o, b ≠ P → s₂.heap.get? b = some o → s₃.heap.get? b = some o) (notedBy (model prog w) A cenv fun e s' => R (.error e) s') s₂)
    (hR : ∀ (s' : Shared) m' ys, OK s' → s'.heap.Ns cenv.locals m' → s'.heap.PlainList D ys → ys.size = items.size → (∀ j y, ys[j]? = some y → F j y) →
      (∀ b o, b ≠ cenv.locals → b ≠ I → b ≠ D → b ≠ P → s.heap.get? b = some o → s'.heap.get? b = some o) → R (.ok .next) s')
    (hsz : items.size ≤ sizeLine) :
    codeAny (model prog w) A (.compLoop (.ListComp elt [⟨.Name x px, iter, [], 0⟩] scope pos) 0 (.ref I) (.ref D) cenv) R s := by
  refine codeAny_compLoop_tests
    (fun k s' => ∃ m' ys i, OK s' ∧ s'.heap.IsListIter I ax i ∧ s'.heap.IsList ax items ∧ s'.heap.PlainList D ys ∧ s'.heap.Ns cenv.locals m' ∧
      ys.size = i ∧ (∀ j y, ys[j]? = some y → F j y) ∧ i ≤ items.size ∧ k = items.size + 1 - i ∧
      ∀ b o, b ≠ cenv.locals → b ≠ I → b ≠ D → b ≠ P → s.heap.get? b = some o → s'.heap.get? b = some o) ?_ (items.size + 1)
    ⟨m, #[], 0, hok, hit, hl, hacc, hn, rfl, by simp, Nat.zero_le _, rfl, fun _ _ _ _ _ _ e => e⟩
  rintro k s' ⟨m', ys, i, hok', hit', hl', hacc', hn', hys, hF, hi, rfl, hk⟩
  cases hv : items[i]? with
  | none =>
    have hsz2 : items.size ≤ i := by simpa using hv
    refine wpAny_pyNext_list_end hh hit' hl' hv fun h₁ he₁ => ?_
    refine hR _ m' ys (hOK s' h₁ s'.toks hok' fun o e => he₁ P o hPI e) (hn'.extBut he₁ (Ne.symm hIC)) (hacc'.extBut he₁ hDI) (by omega) hF fun b o hbC hbI hbD hbP e => he₁ b o hbI (hk b o hbC hbI hbD hbP e)
  | some v =>
    have hlt : i < items.size := (Array.getElem?_eq_some_iff.mp hv).1
    refine wpAny_pyNext_list_item hit' hl' hv fun h₁ hit₁ hs₁ => ?_
    refine wpAny_assign_Name (wpAny_storeName_local hx (hn'.sameBut hs₁ (Ne.symm hIC)) (fun h₂ hn₂ hs₂ => ?_) hp)
    refine wpAny_tests_nil ?_
    simp only [if_true]
    have up₂ : ∀ b o, b ≠ cenv.locals → b ≠ I → s'.heap.get? b = some o → h₂.get? b = some o := fun b o hbC hbI e => hs₂.extBut b o hbC (hs₁.extBut b o hbI e)
    refine wpAny_mono (helt i v { s' with heap := h₂, toks := s'.toks + 1 } _ hv (hOK s' h₂ (s'.toks + 1) hok' fun o e => up₂ P o hPC hPI e) hn₂ (by simp) fun b o hbC hbI hbD hbP e => up₂ b o hbC hbI (hk b o hbC hbI hbD hbP e)) (fun y s₄ h₄ => ?_) fun _ _ e => e
    obtain ⟨hFy, hok₄, hk₄⟩ := h₄
    have hcP : cenv.locals ≠ P := Ne.symm hPC
    refine wpAny_list_append_plain (hsz := by omega) ((hacc'.at fun o e => up₂ D o hDC hDI e).at fun o e => hk₄ D o (Ne.symm hPD) e) fun h₅ hl₅ hs₅ => ?_
    refine ⟨items.size + 1 - (i + 1), by omega, _, ys.push y, i + 1, hOK s₄ h₅ s₄.toks hok₄ (fun o e => hs₅.extBut P o hPD e), ((hit₁.extBut hs₂.extBut hIC).at fun o e => hk₄ I o (Ne.symm hPI) e).extBut hs₅.extBut (Ne.symm hDI),
      ((hl'.at fun o e => up₂ ax o haC haI e).at fun o e => hk₄ ax o haP e).extBut hs₅.extBut haD, hl₅, (hn₂.at fun o e => hk₄ _ o hcP e).sameBut hs₅ (Ne.symm hDC), by rw [Array.size_push, hys], ?_, hlt, rfl,
      fun b o hbC hbI hbD hbP e => hs₅.extBut b o hbD (hk₄ b o hbP (up₂ b o hbC hbI (hk b o hbC hbI hbD hbP e)))⟩
    intro j y' hj
    rw [Array.getElem?_push] at hj
    split at hj
    · rename_i hji
      cases hj
      rw [hji, hys]; exact hFy
    · exact hF j y' hj

theorem compListG {elt iter : Expr} {x : Str} {px : Pos} {scope : Scope} {pos : Pos} {P : Addr} {Q : Value → Shared → Prop}
    (OK : Shared → Prop) (F : Nat → Value → Prop) (hOK : ∀ (s : Shared) h' tk, OK s → (∀ o, s.heap.get? P = some o → h'.get? P = some o) → OK { s with heap := h', toks := tk })
    (hh : A.handled = none) (hfree : ∀ y ∈ scope.names, y.2 ≠ .free) (hcell : ∀ y ∈ scope.names, y.2 ≠ .cell) (hkind : scope.kind = .function)
    (hnames : ∀ y ∈ scope.names, y.2 = .local → scope.names.lookup y.1 = some .local) (hx : scope.names.lookup x = some .local)
    (h : wpAny (model prog w) A (eval iter env) (fun xv s₁ => ∃ ax items, xv = .ref ax ∧ s₁.heap.IsList ax items ∧ items.size ≤ sizeLine ∧ OK s₁ ∧ ax ≠ P ∧ P < s₁.heap.objs.size ∧
      (∀ C i v (s₂ : Shared) m₂ E', items[i]? = some v → OK s₂ → s₂.heap.Ns C m₂ → m₂ x = some v → C ≠ P → s₁.heap.objs.size ≤ C → (∀ b o, b ≠ P → s₁.heap.get? b = some o → s₂.heap.get? b = some o) →
        wpAny (model prog w) A (eval elt (compEnv scope C env)) (fun y s₃ => F i y ∧ OK s₃ ∧ ∀ b o, b ≠ P → s₂.heap.get? b = some o → s₃.heap.get? b = some o) E' s₂) ∧
      (∀ D (s' : Shared) ys, s₁.heap.get? D = none → OK s' → s'.heap.PlainList D ys → ys.size = items.size → (∀ j y, ys[j]? = some y → F j y) → (∀ b o, b ≠ P → s₁.heap.get? b = some o → s'.heap.get? b = some o) →
        Q (.ref D) s')) E s)
    (hs : ∀ x, foldedSetIterable iter env x = pure x := by intro _; rfl) :
    wpAny (model prog w) A (eval (.ListComp elt [⟨.Name x px, iter, [], 0⟩] scope pos) env) Q E s := by
  refine wpAny_ListComp hfree hkind hnames (wpAny_mono h (fun xv s₁ h₁ => ?_) fun _ _ e => e) hs
  obtain ⟨ax, items, rfl, hl, hsz, hok, haP, hPlt, helt, hQ⟩ := h₁
  refine wpAny_pyIter_list hl (wpAny_newObj_type (hd := by size_fits) (wpAny_newFunctionEnv hcell (by intro y hy; simp at hy) (fun h₁ hns₁ hsb₁ => ?_) hkind))
  dsimp only at hns₁ hsb₁ ⊢
  obtain ⟨ol, hol, hol'⟩ := id hl
  have hax : ax < s₁.heap.objs.size := Heap.lt_size hol
  generalize hH1 : s₁.heap.push { cls := .type "list_iterator", data := .fields #[.ref ax, .int 0 0] } = H1 at hns₁ hsb₁ ⊢
  have hD : H1.objs.size = s₁.heap.objs.size + 1 := by rw [← hH1, Heap.size_push]
  generalize hH2 : H1.push { cls := .type "list", dict := none, data := .seq ([] : List Value).toArray } = H2 at hns₁ hsb₁ ⊢
  have hC : H2.objs.size = s₁.heap.objs.size + 2 := by rw [← hH2, Heap.size_push, hD]
  have hDI : H1.objs.size ≠ s₁.heap.objs.size := by rw [hD]; exact Nat.succ_ne_self _
  have hDC : H1.objs.size ≠ H2.objs.size := by rw [hD, hC]; exact Nat.ne_of_lt (Nat.lt_succ_self _)
  have hIC : s₁.heap.objs.size ≠ H2.objs.size := by rw [hC]; exact Nat.ne_of_lt (Nat.lt_succ_of_lt (Nat.lt_succ_self _))
  have below : ∀ b, b < s₁.heap.objs.size → b ≠ H2.objs.size ∧ b ≠ s₁.heap.objs.size ∧ b ≠ H1.objs.size := fun b hb =>
    ⟨by rw [hC]; exact Nat.ne_of_lt (Nat.lt_succ_of_lt (Nat.lt_succ_of_lt hb)), Nat.ne_of_lt hb, by rw [hD]; exact Nat.ne_of_lt (Nat.lt_succ_of_lt hb)⟩
  have old : ∀ b o, s₁.heap.get? b = some o → h₁.get? b = some o := fun b o e =>
    hsb₁.extBut b o (below b (Heap.lt_size e)).1 (Heap.get?_push_of_some _ (hH2 ▸ Heap.get?_push_of_some _ (hH1 ▸ Heap.get?_push_of_some _ e)))
  have hit : h₁.IsListIter s₁.heap.objs.size ax 0 :=
    ⟨_, hsb₁.extBut _ _ hIC (Heap.get?_push_of_some _ (hH2 ▸ Heap.get?_push_of_some _ (hH1 ▸ Heap.get?_push_size _ rfl))), rfl, rfl⟩
  have hacc : h₁.PlainList H1.objs.size #[] := ⟨_, hsb₁.extBut _ _ hDC (Heap.get?_push_of_some _ (hH2 ▸ Heap.get?_push_size _ rfl))⟩
  have hl₁ : h₁.IsList ax items := ⟨ol, old _ _ hol, hol'⟩
  have hnew : s₁.heap.get? H1.objs.size = none := by
    cases e : s₁.heap.get? H1.objs.size with
    | none => rfl
    | some o' => have := Heap.lt_size e; rw [hD] at this; exact absurd this (Nat.not_lt.mpr (Nat.le_succ _))
  have bP := below P hPlt
  have loop : ∀ s₂ : Shared, s₂ = { s₁ with heap := h₁, toks := s₁.toks + ([] : List (Str × Value)).length } →
      codeAny (model prog w) A (.compLoop (.ListComp elt [⟨.Name x px, iter, [], 0⟩] scope pos) 0 (.ref s₁.heap.objs.size) (.ref H1.objs.size) (compEnv scope H2.objs.size env))
        (fun r s' => ∃ m, s'.heap.Ns H2.objs.size m ∧ ∀ h', Heap.SameBut H2.objs.size s'.heap h' →
          match r with | .ok _ => Q (.ref H1.objs.size) { s' with heap := h' } | .error x => wpAny (model prog w) A (passOn "comprehension.variables-let-go" x (compEnv scope H2.objs.size env)) Q E { s' with heap := h' }) s₂ := by
    rintro s₂ rfl
    refine compLoopG (P := P) (cenv := compEnv scope H2.objs.size env) OK F hOK hh hx (by simp [compEnv, hkind]) hDI hDC hIC (below ax hax).2.1 (below ax hax).1 (below ax hax).2.2 haP bP.2.1 bP.2.2 bP.1
      (hOK s₁ h₁ _ hok fun o e => old P o e) hit hl₁ hacc hns₁
      (fun i v s₂ m₂ hv hok₂ hn hm hk => helt _ i v s₂ m₂ _ hv hok₂ hn hm (Ne.symm bP.1) (by show s₁.heap.objs.size ≤ H2.objs.size; rw [hC]; exact Nat.le_add_right _ _) fun b o hbP e => hk b o (below b (Heap.lt_size e)).1 (below b (Heap.lt_size e)).2.1 (below b (Heap.lt_size e)).2.2 hbP (old b o e)) (fun s' m' ys hok' hn ha hys hF hk => ?_) hsz
    exact ⟨m', hn, fun h'' hs'' => hQ _ _ ys hnew (hOK s' h'' s'.toks hok' fun o e => hs''.extBut P o bP.1 e) (ha.extBut hs''.extBut hDC) hys hF fun b o hbP e =>
      hs''.extBut b o (below b (Heap.lt_size e)).1 (hk b o (below b (Heap.lt_size e)).1 (below b (Heap.lt_size e)).2.1 (below b (Heap.lt_size e)).2.2 hbP (old b o e))⟩
  exact codeAny_compStart_list (loop _ rfl) (wpAny_pyIter_listiter hit (loop _ rfl))
end
section
variable {M : Model} {A : Around} {K : Frag} {mg mb m : Str → Option Value} {p : Program} {loose : List Str} {g : Heap} {C : Addr} {s : Shared} {E : Value → Shared → Prop}
/-- a call, in a block, of a def of the text with one of the block's names -/
theorem callOneB {env : Env} {f x : Str} {pf px pos : Pos} {a : Addr} {v : Value} {Q : Value → Shared → Prop} (F : Fr g C s.heap m) (X : K.In g) (T : TopRead p loose mg mb g) (hv : m x = some v)
    (e : nsIn K mainGlobals f = some (some (.ref a))) (hkeep : keepIn K (.ref a) = true) (h : wpAny M A (call (.ref a) [v]) Q E s) (hL : env.locals = C) (hg : env.globals = mainGlobals) (hk : env.scope.kind = .function)
    (hx : env.kindOf f = some .globalImplicit) (hy : env.kindOf x = some .local) (hd1 : (f == ("__debug__" : Str)) = false) (hd2 : (x == ("__debug__" : Str)) = false)
    (he : starEach [Expr.Name x px] env = (false, eval (Expr.Name x px) env) :: starEach [] env := by rfl) :
    wpAny M A (eval (.Call (.Name f pf) [.Name x px] [] pos) env) Q E s := by
  refine Call_ (nameG_K F X T e (callWith_K X hkeep ?_) hg hk hx hd1)
  refine args_cons (wpAny_Name (wpAny_loadName_local hk hy (hL ▸ F.ns) hv (args_nil ⟨X.keeps F.keep, h⟩)) hd2) he
end
end Mine

end
section
open PySem PySem.W PyProof.Rows PySem.Calls
namespace Mine
set_option maxRecDepth 100000
section
variable {prog : Program} {w : World} {A : Around} {s : Shared} {env : Env} {g : Heap} {L : Addr} {body : List Stmt} {Q : Flow → Shared → Prop}

/-- a loop over a list that the ledger bears -/
def LoopLed (prog : Program) (w : World) (A : Around) (g : Heap) (L : Addr) (env : Env) (target : Expr) (body : List Stmt) (Q : Flow → Shared → Prop) (xv : Value) (s₁ : Shared) : Prop :=
  ∃ (l : Addr) (items : Array Value) (n : Nat) (cst : List (Addr × Obj)) (m : Str → Option Value) (news : List (Addr × Obj)) (J : Nat → (Str → Option Value) → List (Addr × Obj) → Prop),
    xv = .ref l ∧ (l, listOf items n) ∈ cst ∧ (∀ (i : Nat) (v : Value), items[i]? = some v → ∃ T, v = Value.ref T) ∧ AllBare s₁.gens ∧ Fr g L s₁.heap m ∧ News g L s₁.heap (news ++ cst) ∧ (∀ p ∈ news, ∀ q ∈ cst, p.1 ≠ q.1) ∧ J 0 m news ∧
    (∀ i v m₁ nx (s₂ : Shared) I oI, items[i]? = some v → J i m₁ nx → (∀ p ∈ nx, p.1 ≠ I) → (∀ p ∈ nx, ∀ q ∈ cst, p.1 ≠ q.1) → (∀ q ∈ cst, q.1 ≠ I) → s₂.os = s₁.os → AllBare s₂.gens → Fr g L s₂.heap m₁ → News g L s₂.heap (nx ++ (I, oI) :: cst) →
      wpAny (model prog w) A (assign target env v) (fun _ s₃ => wpAny (model prog w) A (execs body env) (TurnEndG g L (J (i + 1)) ((I, oI) :: cst) s₂) (fun _ _ => False) s₃) (fun _ _ => False) s₂) ∧
    (∀ (s' : Shared) m' nx, s'.os = s₁.os → AllBare s'.gens → Fr g L s'.heap m' → News g L s'.heap (nx ++ cst) → (∀ p ∈ nx, ∀ q ∈ cst, p.1 ≠ q.1) → J items.size m' nx → Q .next s')

theorem loopLed {elts : List Expr} {k : Nat} {pos fpos : Pos} {iter : Expr} (hL : env.locals = L) (hh : A.handled = none)
    (h : wpAny (model prog w) A (eval iter env) (LoopLed prog w A g L env (.Tuple elts k pos) body Q) (fun _ _ => False) s)
    (hs : ∀ x, foldedSetIterable iter env x = pure x := by intro _; rfl) :
    wpAny (model prog w) A (exec (.For (.Tuple elts k pos) iter body [] fpos) env) Q (fun _ _ => False) s := by
  subst hL
  refine wpAny_For (wpAny_mono h (fun xv s hx => ?_) fun _ _ e => e.elim) hs
  obtain ⟨l, items, n, cst, m, news, J, rfl, hlc, href, hg, F, N, hap, h0, step, done⟩ := hx
  have hlN := N _ (List.mem_append_right _ hlc)
  have hls : s.heap.IsList l items := ⟨_, hlN.1, rfl, n, rfl⟩
  have hlt : l < s.heap.objs.size := Heap.lt_size hlN.1
  have hne : l ≠ s.heap.objs.size := Nat.ne_of_lt hlt
  have hI0 : g.get? s.heap.objs.size = none := next_is_new F
  have hIL : s.heap.objs.size ≠ env.locals := Nat.ne_of_gt F.ns.lt
  have hnI : ∀ p ∈ news, p.1 ≠ s.heap.objs.size := fun p hp => Nat.ne_of_lt (Heap.lt_size (N p (List.mem_append_left _ hp)).1)
  have hcI : ∀ p ∈ cst, p.1 ≠ s.heap.objs.size := fun p hp => Nat.ne_of_lt (Heap.lt_size (N p (List.mem_append_right _ hp)).1)
  refine wpAny_pyIter_list hls ?_
  generalize hI : s.heap.objs.size = I at *
  refine codeAny_forLoop_any (R := fun r s' => match r with | .ok f => Q f s' | .error e => cameBackBy (model prog w) A env (fun _ _ => False) e s')
    (fun n s' => ∃ i m' nx, s'.os = s.os ∧ AllBare s'.gens ∧ s'.heap.IsListIter I l i ∧ Fr g env.locals s'.heap m' ∧ News g env.locals s'.heap (nx ++ cst) ∧ (∀ p ∈ nx, p.1 ≠ I) ∧ (∀ p ∈ nx, ∀ q ∈ cst, p.1 ≠ q.1) ∧ J i m' nx ∧ i ≤ items.size ∧ n = items.size + 1 - i) ?_ (items.size + 1)
    ⟨0, m, news, rfl, hg, ⟨_, hI ▸ Heap.get?_push_size _ rfl, rfl, rfl⟩, F.push _, (fun p hp => ⟨Heap.get?_push_of_some _ (N p hp).1, (N p hp).2⟩), hnI, hap, h0, Nat.zero_le _, rfl⟩
  rintro n' s' ⟨i, m', nx, hos, hgb, hit, F', N', hoff, hap', hJ, hle, rfl⟩
  have hl' : s'.heap.IsList l items := ⟨_, (N' _ (List.mem_append_right _ hlc)).1, rfl, n, rfl⟩
  have next : ∀ h₁ : Heap, (∀ b o, b ≠ I → s'.heap.get? b = some o → h₁.get? b = some o) → Fr g env.locals h₁ m' ∧ News g env.locals h₁ (nx ++ cst) := fun h₁ hk₁ =>
    ⟨⟨F'.ns.at' fun o e => hk₁ _ o (Ne.symm hIL) e, fun b o e => hk₁ b o (fun z => by rw [z, hI0] at e; cases e) (F'.keep b o e), F'.above⟩, fun p hp => ⟨hk₁ _ _ (by
      rcases List.mem_append.mp hp with h | h
      · exact hoff p h
      · exact hcI p h) (N' p hp).1, (N' p hp).2⟩⟩
  by_cases hlt' : i < items.size
  · refine wpAny_pyNext_list_item hit hl' (x := items[i]) (by simp [hlt']) fun h₁ hit' hs' => ?_
    obtain ⟨F₁, N₁⟩ := next h₁ fun b o hb e => hs'.extBut b o hb e
    obtain ⟨T, hT⟩ := href i items[i] (by simp [hlt'])
    obtain ⟨oI, hoI, hcI', hdI⟩ := id hit'
    have N₂ : News g env.locals h₁ (nx ++ (I, oI) :: cst) := fun p hp => by
      rcases List.mem_append.mp hp with h | h
      · exact N₁ p (List.mem_append_left _ h)
      · rcases List.mem_cons.mp h with rfl | h
        · exact ⟨hoI, hIL, hI0⟩
        · exact N₁ p (List.mem_append_right _ h)
    have st := step i items[i] m' nx { s' with heap := h₁ } I oI (by simp [hlt']) hJ hoff hap' hcI hos hgb F₁ N₂
    dsimp only
    rw [hT] at st ⊢
    refine wpAny_letOwnedTupleGo_listiter hit' (wpAny_mono st (fun _ s₂ h₂ => wpAny_mono h₂ (fun f s₃ h₃ => ?_) fun _ _ e => e.elim) fun _ _ e => e.elim)
    obtain ⟨rfl, ho₃, hg₃, m₃, nx₃, F₃, N₃, ha₃, hJ₃⟩ := h₃
    refine ⟨items.size + 1 - (i + 1), by omega, i + 1, m₃, nx₃, ho₃.trans hos, hg₃, ⟨oI, (N₃ (I, oI) (List.mem_append_right _ (.head _))).1, hcI', hdI⟩, F₃, (fun p hp => N₃ p (by
      rcases List.mem_append.mp hp with h | h
      · exact List.mem_append_left _ h
      · exact List.mem_append_right _ (.tail _ h))), fun p hp => ha₃ p hp _ (.head _), fun p hp q hq => ha₃ p hp q (.tail _ hq), hJ₃, hlt', rfl⟩
  · have hin : i = items.size := by omega
    subst hin
    refine wpAny_pyNext_list_end hh hit hl' (by simp) fun h₁ he' => wpAny_execs_nil ?_
    obtain ⟨F₁, N₁⟩ := next h₁ fun b o hb e => he' b o hb e
    exact done _ m' nx hos hgb F₁ N₁ hap' hJ
end
end Mine

end
section
open PySem PySem.W PyProof.Rows PySem.Calls
namespace Mine
set_option maxRecDepth 100000
structure PS where
  done : List (List Tk)
  cur : List Tk
  seen : Str → Bool
def pstep (S : PS) : Tk → PS
  | .fld c n => if S.seen c = true then ⟨S.done ++ [S.cur], [.fld c n], fun k => false || decide (k = c)⟩ else ⟨S.done, S.cur ++ [.fld c n], fun k => S.seen k || decide (k = c)⟩
  | .chr x => ⟨S.done, S.cur ++ [.chr x], S.seen⟩
def pinit : PS := ⟨[], [], fun _ => false⟩
def pfold (ts : List Tk) : PS := ts.foldl pstep pinit
def partsOf (ts : List Tk) : List (List Tk) := (pfold ts).done ++ [(pfold ts).cur]

theorem pfold_snoc (ts : List Tk) (t : Tk) : pfold (ts ++ [t]) = pstep (pfold ts) t := by unfold pfold; rw [List.foldl_append]; rfl

/-- parts laid out in a list of objects -/
inductive PsIn (l : List (Addr × Obj)) : List Value → List (List Tk) → Prop
  | nil : PsIn l [] []
  | cons {d : Addr} {vs : List Value} {n : Nat} {ts : List Tk} {pv : List Value} {pts : List (List Tk)} : (d, listOf vs.toArray n) ∈ l → TksIn l vs ts → PsIn l pv pts → PsIn l (.ref d :: pv) (ts :: pts)
theorem PsIn.mono {l l' : List (Addr × Obj)} (hs : ∀ p ∈ l, p ∈ l') {pv : List Value} {pts : List (List Tk)} (h : PsIn l pv pts) : PsIn l' pv pts := by
  induction h with
  | nil => exact .nil
  | cons a b _ ih => exact .cons (hs _ a) (b.mono hs) ih
theorem PsIn.length {l : List (Addr × Obj)} {pv : List Value} {pts : List (List Tk)} (h : PsIn l pv pts) : pv.length = pts.length := by
  induction h with
  | nil => rfl
  | cons _ _ _ ih => simp [ih]
theorem PsIn.snoc {l : List (Addr × Obj)} {pv : List Value} {pts : List (List Tk)} {d : Addr} {vs : List Value} {n : Nat} {ts : List Tk} (h : PsIn l pv pts) (a : (d, listOf vs.toArray n) ∈ l) (b : TksIn l vs ts) : PsIn l (pv ++ [.ref d]) (pts ++ [ts]) := by
  induction h with
  | nil => exact .cons a b .nil
  | cons a' b' _ ih => exact .cons a' b' ih
theorem PsIn.get {l : List (Addr × Obj)} {pv : List Value} {pts : List (List Tk)} (h : PsIn l pv pts) {i : Nat} {v : Value} (hi : pv[i]? = some v) :
    ∃ d vs n ts, v = .ref d ∧ pts[i]? = some ts ∧ (d, listOf vs.toArray n) ∈ l ∧ TksIn l vs ts := by
  induction h generalizing i with
  | nil => simp at hi
  | cons a b _ ih =>
    cases i with
    | zero => simp at hi; subst hi; exact ⟨_, _, _, _, rfl, rfl, a, b⟩
    | succ i => exact ih (by simpa using hi)

structure POk (S : PS) (k : Nat) : Prop where
  d : S.done.length ≤ k
  c : S.cur.length ≤ k
  ds : ∀ p ∈ S.done, p.length ≤ k ∧ ∀ t ∈ p, TkOk t
  cs : ∀ t ∈ S.cur, TkOk t
theorem POk.step {S : PS} {k : Nat} {t : Tk} (x : POk S k) (ht : TkOk t) : POk (pstep S t) (k + 1) := by
  obtain ⟨h1, h2, h3, h4⟩ := x
  have app : ∀ u ∈ S.cur ++ [t], TkOk u := fun u hu => by
    rcases List.mem_append.mp hu with hu | hu
    · exact h4 u hu
    · rw [List.mem_singleton.mp hu]; exact ht
  cases t with
  | chr x => exact ⟨Nat.le_succ_of_le h1, by show (S.cur ++ [Tk.chr x]).length ≤ _; simp; omega, fun p hp => ⟨Nat.le_succ_of_le (h3 p hp).1, (h3 p hp).2⟩, app⟩
  | fld c n =>
    unfold pstep
    dsimp only
    split
    · refine ⟨by simp; omega, by simp, fun p hp => ?_, fun u hu => by rw [List.mem_singleton.mp hu]; exact ht⟩
      rcases List.mem_append.mp hp with hp | hp
      · exact ⟨Nat.le_succ_of_le (h3 p hp).1, (h3 p hp).2⟩
      · rw [List.mem_singleton.mp hp]; exact ⟨Nat.le_succ_of_le h2, h4⟩
    · exact ⟨Nat.le_succ_of_le h1, by simp; omega, fun p hp => ⟨Nat.le_succ_of_le (h3 p hp).1, (h3 p hp).2⟩, app⟩
theorem pfold_ok {ts : List Tk} (h : ∀ t ∈ ts, TkOk t) : POk (pfold ts) ts.length := by
  have key : ∀ (ts : List Tk) (S : PS) (k : Nat), POk S k → (∀ t ∈ ts, TkOk t) → POk (ts.foldl pstep S) (k + ts.length) := by
    intro ts
    induction ts with
    | nil => intro S k x _; exact x
    | cons t r ih =>
      intro S k x h
      have := ih _ _ (x.step (h t (.head _))) fun u hu => h u (.tail _ hu)
      rw [List.foldl_cons, List.length_cons]
      have e : k + 1 + r.length = k + (r.length + 1) := by omega
      rw [← e]; exact this
  have := key ts pinit 0 ⟨Nat.le_refl _, Nat.le_refl _, fun _ h => (nomatch h), fun _ h => (nomatch h)⟩ h
  rw [Nat.zero_add] at this; exact this

section
variable {prog : Program} {w : World} {A : Around} {E : Value → Shared → Prop} {s : Shared} {g : Heap} {L : Addr} {news : List (Addr × Obj)}
theorem itemLast {l : Addr} {v : Value} {xs : List Value} {n : Nat} {u : Tok} {value slice : Expr} {Q : Value → Shared → Prop} (N : News g L s.heap news) (hm : (l, listOf (xs ++ [v]).toArray n) ∈ news) (h : Q v s)
    (hs : subscripted slice false (.ref l) (.int (-1) u) = operate [.ref l, .int (-1) u] (getItem (.ref l) (.int (-1) u)) := by with_unfolding_all rfl) :
    wpAny (model prog w) A (subscriptTail value slice (.ref l) (.int (-1) u)) Q E s := by
  have hL := News.isList N hm
  refine tail_any hL.typeIs slot_list_getitem.lookup (wpAny_getItem_list_neg hL (by decide) (by simp; omega) (by decide) ?_ h) hs
  have e : ((-1 : Int) + ((xs ++ [v]).toArray.size : Int)).toNat = xs.length := by simp only [List.size_toArray, List.length_append, List.length_cons, List.length_nil]; omega
  rw [e]; simp
theorem itemLastP {l : Addr} {v : Value} {xs : Array Value} {n : Nat} {u : Tok} {value slice : Expr} {Q : Value → Shared → Prop} (N : News g L s.heap news) (hm : (l, listOf (xs.push v) n) ∈ news) (h : Q v s)
    (hs : subscripted slice false (.ref l) (.int (-1) u) = operate [.ref l, .int (-1) u] (getItem (.ref l) (.int (-1) u)) := by with_unfolding_all rfl) :
    wpAny (model prog w) A (subscriptTail value slice (.ref l) (.int (-1) u)) Q E s := by
  have hL := News.isList N hm
  refine tail_any hL.typeIs slot_list_getitem.lookup (wpAny_getItem_list_neg hL (by decide) (by simp; omega) (by decide) ?_ h) hs
  have e : ((-1 : Int) + ((xs.push v).size : Int)).toNat = xs.size := by simp only [Array.size_push]; omega
  rw [e]; simp
end

/-- what the split's loop bears -/
def SplJ (pa sa P : Addr) (ps : Array Value) (w : World) (cst : List (Addr × Obj)) (S : PS) (i : Nat) (m : Str → Option Value) (nx : List (Addr × Obj)) : Prop :=
  m (Str.ofString "parts") = some (.ref pa) ∧ m (Str.ofString "seen_fields") = some (.ref sa) ∧ ∃ (pv cv : List Value) (lc : Addr) (so : Obj) (rest : List (Addr × Obj)) (n np nl : Nat),
    nx = (pa, listOf (pv ++ [Value.ref lc]).toArray np) :: (sa, so) :: (lc, listOf cv.toArray nl) :: (P, tabO ps) :: rest ∧ @Ne Nat pa lc ∧ @Ne Nat sa lc ∧ @Ne Nat P lc ∧ OwnOff rest [pa, sa, lc, P] ∧
    PsIn (rest ++ cst) pv S.done ∧ TksIn (rest ++ cst) cv S.cur ∧ so.SetObjOf (strKind PySem.Challenge.rw_ey0008_01.row.prog w) S.seen n ∧ n ≤ i
end Mine

end
section
open PySem PySem.W PyProof.Rows PySem.Calls
namespace Mine
set_option maxRecDepth 100000
set_option maxHeartbeats 4000000
local macro_rules | `(tactic| ktr_unf) => `(tactic| repeat' (first | ((fail_if_success (with_reducible show wpAny _ _ (exec (Stmt.For _ _ _ _ _) _) _ _ _)); (fail_if_success (with_reducible show wpAny _ _ (eval (Expr.ListComp _ _ _ _) _) _ _ _)); first | walk1 | (dsimp only; walk1)) | fail "stop"))
local macro_rules | `(tactic| size_fits) => `(tactic| (rw [sizeLine_eq]; simp only [List.size_toArray, List.length_append, List.length_cons, List.length_nil, Array.size_push, Array.size_append]; omega))
local macro_rules | `(tactic| walk_at "mine counts") => `(tactic| fail "no such goal")
local macro_rules | `(tactic| walk_at "subscriptTail Name UnaryOp ref int") => `(tactic| (k_dflt (first | refine itemLast (by assumption) (by k_mem) ?_ | refine itemLastP (by assumption) (by k_mem) ?_)))
local macro_rules | `(tactic| walk_at "getMethod ref") => `(tactic| ((with_reducible show wpAny _ _ (getMethod (Value.ref _) (Str.ofString "clear") _) _ _ _); k_dflt (refine' kse_methodC (knd := PySem.strKind _ _) ?N ?U ?d ?z ?_; (case N => k_asm); (case U => k_updF); (case d => k_asm); (case z => kse_small))))
local macro_rules | `(tactic| walk_at "call builtin:set.clear") => `(tactic| (k_dflt (refine' kse_clear (knd := PySem.strKind _ _) ?F ?N ?U ?d ?z ?_; (case F => k_asm); (case N => k_asm); (case U => k_updF); (case d => k_asm); (case z => kse_small)); intro h' so' F' N' hs'; (try k_sweep)))
theorem strs_of : ∀ {ys : List Value} {xs : List Str}, ys.length = xs.length → (∀ (j : Nat) y, ys[j]? = some y → ∃ x t, xs[j]? = some x ∧ y = Value.str x t) → StrsAre ys xs
  | [], [], _, _ => .nil
  | [], _ :: _, h, _ => by simp at h
  | _ :: _, [], h, _ => by simp at h
  | y :: ys, x :: xs, h, k => by
    obtain ⟨x', t, e1, e2⟩ := k 0 y rfl
    simp at e1
    subst e1 e2
    exact .cons _ _ (strs_of (by simpa using h) fun j y hj => k (j + 1) y (by simpa using hj))
theorem gate {M : Model} {A : Around} {E : Value → Shared → Prop} {s : Shared} {α : Type} {m : Sem α} {R : α → Shared → Prop} (h : ∀ QQ : α → Shared → Prop, (∀ v s, R v s → QQ v s) → wpAny M A m QQ E s) : wpAny M A m R E s := h R fun _ _ e => e
theorem allLt_mem {D : Addr} : ∀ {l : List (Addr × Obj)}, AllLt D l → ∀ p ∈ l, p.1 < D
  | [], _, _, h => nomatch h
  | a :: l, x, p, h => by
    rcases List.mem_cons.mp h with rfl | h
    · exact x.1
    · exact allLt_mem x.2 p h
section
variable {w : World} {g : Heap} {L pa sa lc P I D l' : Addr} {s' s₂ : Shared} {m' : Str → Option Value} {tv pv cv : List Value} {np nl i n' : Nat} {so so' oI : Obj} {ps : Array Value} {rest cst tail : List (Addr × Obj)} {done : List (List Tk)} {cur : List Tk} {seen' : Str → Bool} {t : Tk}
theorem splEndB (F' : Fr g L s'.heap m') (N' : News g L s'.heap ((D, tupO tv 0) :: (pa, listOf (pv ++ [Value.ref lc]).toArray np) :: (sa, so') :: (lc, listOf (cv.toArray.push (.ref D)) nl) :: (P, tabO ps) :: (I, oI) :: tail))
    (htail : ∀ p ∈ rest ++ cst, p ∈ tail) (m1 : m' (Str.ofString "parts") = some (.ref pa)) (m2 : m' (Str.ofString "seen_fields") = some (.ref sa)) (d1 : @Ne Nat pa lc) (d2 : @Ne Nat sa lc) (d3 : @Ne Nat P lc)
    (e1 : @Ne Nat pa I) (e2 : @Ne Nat sa I) (e3 : @Ne Nat lc I) (e4 : @Ne Nat P I) (O : OwnOff (rest ++ cst) [pa, sa, lc, P, I]) (hrc : ∀ p ∈ rest, ∀ q ∈ cst, p.1 ≠ q.1)
    (hD : pa < D ∧ sa < D ∧ lc < D ∧ P < D ∧ I < D) (hal : AllLt D (rest ++ cst)) (hPs : PsIn (rest ++ cst) pv done) (hTk : TksIn (rest ++ cst) cv cur)
    (hso : so'.SetObjOf (strKind PySem.Challenge.rw_ey0008_01.row.prog w) seen' n') (hn : n' ≤ i) (hnew : TkIn ((D, tupO tv 0) :: (rest ++ cst)) (.ref D) t) (os : s'.os = s₂.os) (G : AllBare s'.gens) :
    TurnEndG g L (SplJ pa sa P ps w cst ⟨done, cur ++ [t], seen'⟩ i) ((I, oI) :: cst) s₂ .next s' := by
  obtain ⟨l1, l2, l3, l4, l5⟩ := hD
  have mono : ∀ p ∈ rest ++ cst, p ∈ (D, tupO tv 0) :: rest ++ cst := fun p hp => .tail _ hp
  refine ⟨rfl, os, G, m', (pa, listOf (pv ++ [Value.ref lc]).toArray np) :: (sa, so') :: (lc, listOf (cv ++ [Value.ref D]).toArray nl) :: (P, tabO ps) :: (D, tupO tv 0) :: rest, F', ?_, ?_, m1, m2,
    pv, cv ++ [Value.ref D], lc, so', (D, tupO tv 0) :: rest, n', np, nl, rfl, d1, d2, d3, ?_, hPs.mono mono, (hTk.mono mono).append (.cons hnew .nil), hso, hn⟩
  · intro p hp
    refine N' p ?_
    simp only [List.mem_append, List.mem_cons] at hp
    simp only [List.mem_cons, push_list]
    rcases hp with (h | h | h | h | h | h) | h | h
    · simp [h]
    · simp [h]
    · simp [h]
    · simp [h]
    · simp [h]
    · have := htail p (List.mem_append_left _ h); simp [this]
    · simp [h]
    · have := htail p (List.mem_append_right _ h); simp [this]
  · intro p hp q hq
    simp only [List.mem_cons] at hp
    rcases List.mem_cons.mp hq with rfl | hq
    · rcases hp with rfl | rfl | rfl | rfl | rfl | h
      · exact e1
      · exact e2
      · exact e3
      · exact e4
      · exact Nat.ne_of_gt l5
      · exact O p (List.mem_append_left _ h) I (by simp)
    · have hq2 := O q (List.mem_append_right _ hq)
      rcases hp with rfl | rfl | rfl | rfl | rfl | h
      · exact Ne.symm (hq2 _ (by simp))
      · exact Ne.symm (hq2 _ (by simp))
      · exact Ne.symm (hq2 _ (by simp))
      · exact Ne.symm (hq2 _ (by simp))
      · exact Nat.ne_of_gt (allLt_mem hal q (List.mem_append_right _ hq))
      · exact hrc p h q hq
  · intro p hp b hb
    rcases List.mem_cons.mp hp with rfl | hp
    · simp only [List.mem_cons, List.not_mem_nil, or_false] at hb
      rcases hb with rfl | rfl | rfl | rfl
      · exact Nat.ne_of_gt l1
      · exact Nat.ne_of_gt l2
      · exact Nat.ne_of_gt l3
      · exact Nat.ne_of_gt l4
    · refine O p (List.mem_append_left _ hp) b ?_
      simp only [List.mem_cons, List.not_mem_nil, or_false] at hb ⊢
      rcases hb with h | h | h | h <;> simp [h]
theorem splEndA {n1 : Nat} (F' : Fr g L s'.heap m') (N' : News g L s'.heap ((D, tupO tv 0) :: (l', listOf (#[].push (Value.ref D)) n1) :: (pa, listOf (pv ++ [Value.ref lc] ++ [Value.ref l']).toArray np) :: (sa, so') :: (lc, listOf cv.toArray nl) :: (P, tabO ps) :: (I, oI) :: tail))
    (htail : ∀ p ∈ rest ++ cst, p ∈ tail) (m1 : m' (Str.ofString "parts") = some (.ref pa)) (m2 : m' (Str.ofString "seen_fields") = some (.ref sa)) (d1 : @Ne Nat pa lc) (d2 : @Ne Nat sa lc) (d3 : @Ne Nat P lc)
    (e1 : @Ne Nat pa I) (e2 : @Ne Nat sa I) (e3 : @Ne Nat lc I) (e4 : @Ne Nat P I) (O : OwnOff (rest ++ cst) [pa, sa, lc, P, I]) (hrc : ∀ p ∈ rest, ∀ q ∈ cst, p.1 ≠ q.1)
    (hl : pa < l' ∧ sa < l' ∧ lc < l' ∧ P < l' ∧ I < l') (hll : AllLt l' (rest ++ cst)) (hD : l' < D)
    (hPs : PsIn (rest ++ cst) pv done) (hTk : TksIn (rest ++ cst) cv cur)
    (hso : so'.SetObjOf (strKind PySem.Challenge.rw_ey0008_01.row.prog w) seen' n') (hn : n' ≤ i) (hnew : TkIn ((D, tupO tv 0) :: (rest ++ cst)) (.ref D) t) (os : s'.os = s₂.os) (G : AllBare s'.gens) :
    TurnEndG g L (SplJ pa sa P ps w cst ⟨done ++ [cur], [t], seen'⟩ i) ((I, oI) :: cst) s₂ .next s' := by
  obtain ⟨l1, l2, l3, l4, l5⟩ := hl
  have q1 : @LT.lt Nat _ pa D := Nat.lt_trans l1 hD
  have q2 : @LT.lt Nat _ sa D := Nat.lt_trans l2 hD
  have q4 : @LT.lt Nat _ P D := Nat.lt_trans l4 hD
  have q5 : @LT.lt Nat _ I D := Nat.lt_trans l5 hD
  have mono : ∀ p ∈ rest ++ cst, p ∈ (D, tupO tv 0) :: (lc, listOf cv.toArray nl) :: rest ++ cst := fun p hp => .tail _ (.tail _ hp)
  refine ⟨rfl, os, G, m', (pa, listOf ((pv ++ [Value.ref lc]) ++ [Value.ref l']).toArray np) :: (sa, so') :: (l', listOf [Value.ref D].toArray n1) :: (P, tabO ps) :: (D, tupO tv 0) :: (lc, listOf cv.toArray nl) :: rest, F', ?_, ?_, m1, m2,
    pv ++ [Value.ref lc], [Value.ref D], l', so', (D, tupO tv 0) :: (lc, listOf cv.toArray nl) :: rest, n', np, n1, rfl, Nat.ne_of_lt l1, Nat.ne_of_lt l2, Nat.ne_of_lt l4, ?_, (hPs.mono mono).snoc (.tail _ (.head _)) (hTk.mono mono), .cons (hnew.mono (fun p hp => ?_)) .nil, hso, hn⟩
  · intro p hp
    refine N' p ?_
    simp only [List.mem_append, List.mem_cons] at hp
    simp only [List.mem_cons]
    rcases hp with (h | h | h | h | h | h | h) | h | h
    · simp [h]
    · simp [h]
    · refine .inr (.inl ?_)
      rw [h]
      simp
    · simp [h]
    · simp [h]
    · simp [h]
    · have := htail p (List.mem_append_left _ h); simp [this]
    · simp [h]
    · have := htail p (List.mem_append_right _ h); simp [this]
  · intro p hp q hq
    simp only [List.mem_cons] at hp
    rcases List.mem_cons.mp hq with rfl | hq
    · rcases hp with rfl | rfl | rfl | rfl | rfl | rfl | h
      · exact e1
      · exact e2
      · exact Nat.ne_of_gt l5
      · exact e4
      · exact Nat.ne_of_gt q5
      · exact e3
      · exact O p (List.mem_append_left _ h) I (by simp)
    · have hq2 := O q (List.mem_append_right _ hq)
      have hq3 := allLt_mem hll q (List.mem_append_right _ hq)
      rcases hp with rfl | rfl | rfl | rfl | rfl | rfl | h
      · exact Ne.symm (hq2 _ (by simp))
      · exact Ne.symm (hq2 _ (by simp))
      · exact Nat.ne_of_gt hq3
      · exact Ne.symm (hq2 _ (by simp))
      · exact Nat.ne_of_gt (Nat.lt_trans hq3 hD)
      · exact Ne.symm (hq2 _ (by simp))
      · exact hrc p h q hq
  · intro p hp b hb
    simp only [List.mem_cons, List.not_mem_nil, or_false] at hb
    rcases List.mem_cons.mp hp with rfl | hp
    · rcases hb with rfl | rfl | rfl | rfl
      · exact Nat.ne_of_gt q1
      · exact Nat.ne_of_gt q2
      · exact Nat.ne_of_gt hD
      · exact Nat.ne_of_gt q4
    · rcases List.mem_cons.mp hp with rfl | hp
      · rcases hb with rfl | rfl | rfl | rfl
        · exact Ne.symm d1
        · exact Ne.symm d2
        · exact Nat.ne_of_lt l3
        · exact Ne.symm d3
      · have h2 := O p (List.mem_append_left _ hp)
        rcases hb with rfl | rfl | rfl | rfl
        · exact h2 _ (by simp)
        · exact h2 _ (by simp)
        · exact Nat.ne_of_lt (allLt_mem hll p (List.mem_append_left _ hp))
        · exact h2 _ (by simp)
  · rcases List.mem_cons.mp hp with h | h
    · rw [h]; exact .head _
    · exact .tail _ (.tail _ h)
end
section
variable {g : Heap} {L : Addr} {h h' : Heap} {m : Str → Option Value} {news l : List (Addr × Obj)}
theorem news_fresh (F : Fr g L h m) (x : Fresh h h' l) : News g L h' l := fun p hp => by
  obtain ⟨a, b⟩ := x p hp
  refine ⟨a, fun e => ?_, ?_⟩
  · obtain ⟨o, _, _, ho, _⟩ := F.ns
    rw [e, ho] at b; cases b
  · cases e : g.get? p.1 with
    | none => rfl
    | some o => rw [F.keep _ _ e] at b; cases b
theorem news_keeps (N : News g L h news) (k : ∀ b o, h.get? b = some o → h'.get? b = some o) : News g L h' news := fun p hp => ⟨k _ _ (N p hp).1, (N p hp).2⟩
theorem apart_fresh (N : News g L h news) (x : Fresh h h' l) : ∀ p ∈ news, ∀ q ∈ l, p.1 ≠ q.1 := fun p hp q hq e => by
  have := (x q hq).2
  rw [← e, (N p hp).1] at this; cases this
theorem fr_keeps (F : Fr g L h m) (k : ∀ b o, h.get? b = some o → h'.get? b = some o) : Fr g L h' m := ⟨F.ns.keeps k, fun b o e => k b o (F.keep b o e), F.above⟩
end
theorem split_spec : ∀ {w : World} {dp un : Nat} {fr : Option (List Env)} {gd : Option (List Code)} {E : Value → Shared → Prop} {s : Shared} {loose : List Str} {mg mb mq : Str → Option Value} {bm P : Addr} {ob : Obj} {ps : Array Value} {x : Str} {tx : Tok} {ts : List Tk} {Q : Value → Shared → Prop},
   (hd.heap_39 w.params).In s.heap → TopRead hd.view_39 loose mg mb s.heap → BMod s.heap mainGlobals mq bm ob → CT s.heap 73 P ps → AllBare s.gens → dp < 700 → un < 700 →
   x.length ≤ 400 → (Builtin.Str.occurrences x (Str.ofString "''") 0 x.length (x.length + 1)).isEmpty = true → (∀ c ∈ x.cps, c ≠ 0) → tokF x = ts → ts.length ≤ 16 → (∀ t ∈ ts, TkOk t) →
   (∀ (r : Addr) (s' : Shared) (ys : List Value) (n : Nat), s'.os = s.os → AllBare s'.gens → Grew 73 P s.heap s'.heap → s.heap.get? r = none → s'.heap.get? r = some (listOf ys.toArray n) → StrsAre ys ((partsOf ts).map writtenT) → Q (.ref r) s') →
   wpAny (model PySem.Challenge.rw_ey0008_01.row.prog w) (AA dp un fr gd) (call (.ref 79) [.str x tx]) Q E s := by
  k_fill
  intro w dp un fr gd E s loose mg mb mq bm P ob ps x tx ts Q X T BM C G hd hu hx1 hx2 hx3 hxt hlen hok hQ
  have hP := C.tab
  refine' enter (K := Mine.hd.heap_39 w.params) (binds := [(Str.ofString "pattern", .str x tx)]) [(P, tabO ps)] ?m X T.nolimit ?ho ?hcd ?hr ?hb ?hl ?_ ?c2 ?c3 ?c4 ?c5
  case m => intro p hp; rw [List.mem_singleton.mp hp]; exact hP
  case ho => k_is
  case hcd => k_is
  case hr => have : recursionLimit = 1000 := rfl; show dp < recursionLimit; omega
  case hb => exact BindsTo.of_eq rfl
  case hl => exact locs rfl
  case c2 => exact rfl
  case c3 => exact rfl
  case c4 => exact rfl
  case c5 => decide
  intro g L h₁ F N st old rev
  have st' : ∀ b o, b ≠ P → s.heap.get? b = some o → g.get? b = some o := fun b o hb e => st b o (by simpa using hb) e
  have X' : (Mine.hd.heap_39 w.params).In g := K_but X hP st' T.g T.nolimit (kcl w)
  have T' : TopRead Mine.hd.view_39 loose mg mb g := T_but T hP st'
  have BM' : BMod g mainGlobals mq bm ob := M_but BM hP st'
  have hoc : ∃ oc, s.heap.get? 73 = some oc := by
    obtain ⟨⟨o, v, a, _⟩, _⟩ := C.2
    exact ⟨o, a⟩
  obtain ⟨oc, hoc⟩ := hoc
  have hoc' := st' _ _ C.ne hoc
  have hCg : CTg g 73 P ps := C.toG rev hoc'
  have hPg : g.get? P = none := (N (P, tabO ps) (.head _)).2.2
  clear X T BM
  try dsimp only
  show wpAny _ _ _ _ _ _
  ktr_unf
  rename_i tk0 sa hh1 led hs1 hz1 l1 hh2 lc hh3 l2 pa hh4 l3 h2 F2 N2
  refine loopLed (g := g) (L := L) rfl rfl ?_
  ktr_unf
  refine tokenize_spec (upX X' F2) (upT T' F2) (by show dp + 1 < 800; omega) (by show un + 3 < 800; omega) hx1 hx2 hx3 fun r vs nr cst h3 tk3 k3 fr3 hi3 => ?_
  rw [hxt] at hi3
  have F3 := fr_keeps F2 k3
  have N3 := news_keeps N2 k3
  have C3 := news_fresh F2 fr3
  have A3 := apart_fresh N2 fr3
  have hlv : vs.length = ts.length := hi3.length
  refine ⟨r, vs.toArray, nr, (r, listOf vs.toArray nr) :: cst, _, [(pa, listOf #[Value.ref lc] 0), (sa, _), (lc, listOf #[] 0), (P, tabO ps)], fun i => SplJ pa sa P ps w ((r, listOf vs.toArray nr) :: cst) (pfold (ts.take i)) i, rfl, .head _, fun i v hv => ?_, G, F3, ?_, ?_, ⟨rfl, rfl, [], [], lc, _, [], 0, 0, 0, rfl, by omega, by omega, by omega, fun _ h => (nomatch h), .nil, .nil, hz1, Nat.le_refl _⟩, ?_, ?_⟩
  · obtain ⟨d, _, hd'⟩ := hi3.get (i := i) (v := v) (by simpa using hv)
    exact hd'.ref
  · intro p hp
    rcases List.mem_append.mp hp with h | h
    · refine N3 p ?_
      simp only [List.mem_cons, List.not_mem_nil, or_false] at h ⊢
      rcases h with h | h | h | h <;> simp [h]
    · exact C3 p h
  · intro p hp
    refine A3 p ?_
    simp only [List.mem_cons, List.not_mem_nil, or_false] at hp ⊢
    rcases hp with h | h | h | h <;> simp [h]
  · rintro i v m₁ nx s₂ I oI hv ⟨m1, m2, pv, cv, lc, so, rest, n, np, nl, rfl, d1, d2, d3, O, hPs, hTk, hso, hn⟩ hnI hapc hcI os₂ G₂ F4 N4
    obtain ⟨d, hd1, hd'⟩ := hi3.get (i := i) (v := v) (by simpa using hv)
    have hok1 := hok d (mem_of_get hd1)
    have hi : i < ts.length := lt_of_get hd1
    have esn : pfold (ts.take (i + 1)) = pstep (pfold (ts.take i)) d := by rw [take_snoc hd1, pfold_snoc]
    dsimp only
    rw [esn]
    clear esn
    have hpk := pfold_ok (ts := ts.take i) fun t ht => hok t (List.mem_of_mem_take ht)
    have hil : (ts.take i).length ≤ 16 := by rw [List.length_take]; omega
    have hlp : pv.length ≤ 16 := by rw [hPs.length]; exact Nat.le_trans hpk.d hil
    have hlc : cv.length ≤ 16 := by rw [hTk.length]; exact Nat.le_trans hpk.c hil
    generalize pfold (ts.take i) = S at *
    have O5 : OwnOff (rest ++ (r, listOf vs.toArray nr) :: cst) [pa, sa, lc, P, I] := fun p hp b hb => by
      simp only [List.mem_cons, List.not_mem_nil, or_false] at hb
      rcases List.mem_append.mp hp with h | h
      · rcases hb with e | e | e | e | e <;> rw [e]
        · exact O p h _ (by simp)
        · exact O p h _ (by simp)
        · exact O p h _ (by simp)
        · exact O p h _ (by simp)
        · exact hnI p (by simp [h])
      · rcases hb with e | e | e | e | e <;> rw [e]
        · exact Ne.symm (hapc (pa, _) (.head _) p h)
        · exact Ne.symm (hapc (sa, _) (.tail _ (.head _)) p h)
        · exact Ne.symm (hapc (lc, _) (.tail _ (.tail _ (.head _))) p h)
        · exact Ne.symm (hapc (P, _) (.tail _ (.tail _ (.tail _ (.head _)))) p h)
        · exact hcI p h
    have e1 : @Ne Nat pa I := hnI _ (.head _)
    have e2 : @Ne Nat sa I := hnI _ (.tail _ (.head _))
    have e3 : @Ne Nat lc I := hnI _ (.tail _ (.tail _ (.head _)))
    have e4 : @Ne Nat P I := hnI _ (.tail _ (.tail _ (.tail _ (.head _))))
    have f1 : @Ne Nat sa pa := by omega
    have f2 : @Ne Nat P pa := by omega
    have f3 : @Ne Nat P sa := by omega
    have F5 : Fr g L s₂.heap (fun y => if y = Str.ofString "parts" then some (.ref pa) else if y = Str.ofString "seen_fields" then some (.ref sa) else m₁ y) :=
      Fr.congr F4 fun y => by
        (repeat' split) <;> (try subst_vars) <;> (first | assumption | exact Eq.symm (by assumption) | rfl)
    have sub : ∀ (l : List (Addr × Obj)), (∀ p ∈ l, p ∈ cst) → ∀ p ∈ (pa, listOf (pv ++ [Value.ref lc]).toArray np) :: (sa, so) :: (lc, listOf cv.toArray nl) :: (P, tabO ps) :: (I, oI) :: (l ++ (rest ++ (r, listOf vs.toArray nr) :: cst)),
        s₂.heap.get? p.1 = some p.2 ∧ p.1 ≠ L ∧ g.get? p.1 = none := fun l hl p hp => N4 p (by
      simp only [List.mem_cons, List.mem_append] at hp ⊢
      rcases hp with h | h | h | h | h | h | h | h | h <;> first | (simp [h]; done) | exact .inr (.inr (.inr (hl p h))))
    have hn16 : n < 16 := by omega
    have hrc : ∀ p ∈ rest, ∀ q ∈ (r, listOf vs.toArray nr) :: cst, p.1 ≠ q.1 := fun p hp q hq => hapc p (.tail _ (.tail _ (.tail _ (.tail _ hp)))) q hq
    cases hd' with
    | fld ma mb =>
      rename_i a b t1 t2 t3 k1 k2 c n'
      have N5 : News g L s₂.heap ((pa, listOf (pv ++ [Value.ref lc]).toArray np) :: (sa, so) :: (lc, listOf cv.toArray nl) :: (P, tabO ps) :: (I, oI) :: (a, tupO [.str (Str.ofString "field") t1, .ref b] k1) :: (b, tupO [.str c t2, .int n' t3] k2) :: (rest ++ (r, listOf vs.toArray nr) :: cst)) :=
        sub [_, _] fun p hp => by
          simp only [List.mem_cons, List.not_mem_nil, or_false] at hp
          rcases hp with rfl | rfl
          · exact ma
          · exact mb
      have a1 : @Ne Nat pa a := hapc (pa, _) (.head _) (a, _) (.tail _ ma)
      have a2 : @Ne Nat sa a := hapc (sa, _) (.tail _ (.head _)) (a, _) (.tail _ ma)
      have a3 : @Ne Nat lc a := hapc (lc, _) (.tail _ (.tail _ (.head _))) (a, _) (.tail _ ma)
      have b1 : @Ne Nat pa b := hapc (pa, _) (.head _) (b, _) (.tail _ mb)
      have b2 : @Ne Nat sa b := hapc (sa, _) (.tail _ (.head _)) (b, _) (.tail _ mb)
      have b3 : @Ne Nat lc b := hapc (lc, _) (.tail _ (.tail _ (.head _))) (b, _) (.tail _ mb)
      clear N4 F4 N3 F3 N2 F2 C3 A3 sub O hz1 hs1
      generalize hbig : rest ++ (r, listOf vs.toArray nr) :: cst = big at *
      ktr_unf
      · rename_i hseen _ l5 _ l6 _ _ _ _ _ _ _ hso6 _ D6 _ l7 _ F6 N6
        subst hbig
        rw [show pstep S (.fld c n') = ⟨S.done ++ [S.cur], [.fld c n'], fun k => false || decide (k = c)⟩ from if_pos hseen]
        exact splEndA F6 N6 (fun p hp => .tail _ (.tail _ hp)) rfl rfl d1 d2 d3 e1 e2 e3 e4 O5 hrc ⟨l6.1, l6.2.1, l6.2.2.1, l6.2.2.2.1, l6.2.2.2.2.1⟩ l6.2.2.2.2.2.2.2 l7.1 hPs hTk hso6 (by simp)
          (.fld (.head _) (.tail _ (List.mem_append_right _ (.tail _ mb)))) rfl G₂
      · rename_i hseen _ _ _ hso6 _ D6 _ l7 _ F6 N6
        subst hbig
        rw [show pstep S (.fld c n') = ⟨S.done, S.cur ++ [.fld c n'], fun k => S.seen k || decide (k = c)⟩ from if_neg (by rw [hseen]; decide)]
        exact splEndB F6 N6 (fun p hp => .tail _ (.tail _ hp)) rfl rfl d1 d2 d3 e1 e2 e3 e4 O5 hrc ⟨l7.1, l7.2.1, l7.2.2.1, l7.2.2.2.1, l7.2.2.2.2.1⟩ l7.2.2.2.2.2.2.2 hPs hTk hso6 (by split <;> omega)
          (.fld (.head _) (.tail _ (List.mem_append_right _ (.tail _ mb)))) rfl G₂
    | chr ma =>
      rename_i a t1 t2 k1 c
      have N5 : News g L s₂.heap ((pa, listOf (pv ++ [Value.ref lc]).toArray np) :: (sa, so) :: (lc, listOf cv.toArray nl) :: (P, tabO ps) :: (I, oI) :: (a, tupO [.str (Str.ofString "chars") t1, .str c t2] k1) :: (rest ++ (r, listOf vs.toArray nr) :: cst)) :=
        sub [_] fun p hp => by
          rw [List.mem_singleton.mp hp]; exact ma
      have a1 : @Ne Nat pa a := hapc (pa, _) (.head _) (a, _) (.tail _ ma)
      have a2 : @Ne Nat sa a := hapc (sa, _) (.tail _ (.head _)) (a, _) (.tail _ ma)
      have a3 : @Ne Nat lc a := hapc (lc, _) (.tail _ (.tail _ (.head _))) (a, _) (.tail _ ma)
      clear N4 F4 N3 F3 N2 F2 C3 A3 sub O hz1 hs1
      generalize hbig : rest ++ (r, listOf vs.toArray nr) :: cst = big at *
      ktr_unf
      rename_i D6 _ l7 _ F6 N6
      subst hbig
      exact splEndB F6 N6 (fun p hp => .tail _ hp) rfl rfl d1 d2 d3 e1 e2 e3 e4 O5 hrc ⟨l7.1, l7.2.1, l7.2.2.1, l7.2.2.2.1, l7.2.2.2.2.1⟩ l7.2.2.2.2.2.2 hPs hTk hso (by omega)
        (.chr (.head _)) rfl G₂
  · rintro s₂ m' nx os₂ G₂ F4 N4 hapc ⟨m1, m2, pv, cv, lc, so, rest, n, np, nl, rfl, d1, d2, d3, O, hPs, hTk, hso, hn⟩
    have etk : ts.take vs.toArray.size = ts := List.take_of_length_le (by simp [hlv])
    rw [etk] at hPs hTk
    have hpk := pfold_ok hok
    have F5 := Fr.pin F4 m1
    have hbigP : ∀ p ∈ (lc, listOf cv.toArray nl) :: (rest ++ (r, listOf vs.toArray nr) :: cst), p.1 ≠ P := by
      intro p hp
      rcases List.mem_cons.mp hp with rfl | hp
      · exact Ne.symm d3
      · rcases List.mem_append.mp hp with h | h
        · exact O p h P (by simp)
        · exact Ne.symm (hapc (P, _) (.tail _ (.tail _ (.tail _ (.head _)))) p h)
    have N5 : ∀ p ∈ (lc, listOf cv.toArray nl) :: (rest ++ (r, listOf vs.toArray nr) :: cst), s₂.heap.get? p.1 = some p.2 := by
      intro p hp
      refine (N4 p ?_).1
      simp only [List.mem_cons, List.mem_append] at hp ⊢
      rcases hp with h | h | h | h <;> simp [h]
    have NP : s₂.heap.get? P = some (tabO ps) := (N4 (P, tabO ps) (by simp)).1
    have Npa : News g L s₂.heap [(pa, listOf (pv ++ [Value.ref lc]).toArray np)] := fun p hp => N4 p (by rw [List.mem_singleton.mp hp]; simp)
    have hAll : PsIn ((lc, listOf cv.toArray nl) :: (rest ++ (r, listOf vs.toArray nr) :: cst)) (pv ++ [Value.ref lc]) (partsOf ts) := (hPs.mono fun p hp => .tail _ hp).snoc (.head _) (hTk.mono fun p hp => .tail _ hp)
    have hokp : ∀ p ∈ partsOf ts, p.length ≤ 16 ∧ ∀ t ∈ p, TkOk t := by
      intro p hp
      rcases List.mem_append.mp hp with h | h
      · exact ⟨Nat.le_trans (hpk.ds p h).1 hlen, (hpk.ds p h).2⟩
      · rw [List.mem_singleton.mp h]; exact ⟨Nat.le_trans hpk.c hlen, hpk.cs⟩
    have hlp : (pv ++ [Value.ref lc]).length ≤ 17 := by
      rw [hAll.length]
      have := hpk.d
      simp only [partsOf, List.length_append, List.length_cons, List.length_nil]
      omega
    have hpaP : @Ne Nat pa P := by omega
    generalize (lc, listOf cv.toArray nl) :: (rest ++ (r, listOf vs.toArray nr) :: cst) = big at *
    clear N4 F4 N3 F3 N2 F2 C3 A3 O hz1 hs1
    show wpAny _ _ _ _ _ _
    ktr_unf
    have base : s₂.os = s.os := os₂
    refine compListG (P := P) (fun s' => s'.os = s.os ∧ AllBare s'.gens ∧ ∃ ps', s'.heap.get? P = some (tabO ps') ∧ CTg g 73 P ps' ∧ ∃ more, ps' = ps ++ more) (fun j y => ∃ x t, ((partsOf ts).map writtenT)[j]? = some x ∧ y = .str x t) ?_ rfl (by decide) (by decide) rfl (by decide) rfl ?_
    · rintro s' h' tk' ⟨o1, o2, ps', o3, o4, o5⟩ k
      exact ⟨o1, o2, ps', k _ o3, o4, o5⟩
    walk1
    refine ⟨pa, _, rfl, Npa.isList (.head _), ?_, ⟨base, G₂, ps, NP, hCg, #[], by simp⟩, hpaP, Heap.lt_size NP, ?_, ?_⟩
    · simp only [List.size_toArray]; rw [sizeLine_eq]; omega
    · rintro C i v s₃ m₃ E' hv ⟨o1, o2, ps', o3, o4, more, rfl⟩ hn hm hCP hCge hk
      have hgk : ∀ b o, g.get? b = some o → s₃.heap.get? b = some o := fun b o e => hk b o (fun z => by
        rw [z, hPg] at e; cases e) (F5.keep b o e)
      have F₆ : Fr g C s₃.heap m₃ := ⟨hn, hgk, Nat.le_trans F5.above (Nat.le_trans (Nat.le_of_lt F5.ns.lt) hCge)⟩
      obtain ⟨d, dvs, dn, tsd, rfl, htd, hdm, hdT⟩ := hAll.get (i := i) (v := v) (by simpa using hv)
      replace F₆ := Fr.pin F₆ hm
      clear F5 hm
      have hdin : tsd ∈ partsOf ts := mem_of_get htd
      obtain ⟨hl16, hokd⟩ := hokp _ hdin
      refine gate fun QQ hQQ => ?_
      refine' callOneB (v := .ref d) (a := 74) F₆ X' T' (if_pos rfl) ?ke ?kk ?_ rfl rfl rfl rfl rfl (by decide) (by decide)
      case ke => k_is
      case kk => k_is
      have hPs₃ := o4 _ hgk o3
      refine untok_spec (X'.keeps hgk) (T'.keeps hgk) (BM'.keeps hgk) hPs₃ o2 (by show dp + 1 < 800; omega) (by show un + 3 < 800; omega) ⟨_, hk _ _ (hbigP _ hdm) (N5 _ hdm), rfl, _, rfl⟩ (fun p hp => hk _ _ (hbigP _ hp) (N5 _ hp)) hdT hl16 hokd fun t s' q1 q2 q3 => ?_
      obtain ⟨more2, q4⟩ := q3.2 _ hPs₃
      have hgk' : ∀ b o, g.get? b = some o → s'.heap.get? b = some o := fun b o e => q3.1 b o (fun z => by rw [z, hPg] at e; cases e) (hgk b o e)
      exact hQQ _ _ ⟨⟨_, t, by rw [List.getElem?_map, htd]; rfl, rfl⟩, ⟨q1.trans o1, q2, _, q4.tab, q4.toG hgk' hoc', _, Array.append_assoc⟩, q3.1⟩
    · rintro D s' ys hD ⟨o1, o2, ps', o3, o4, more, rfl⟩ ⟨n', hDl⟩ hys hF hk
      have hgk : ∀ b o, g.get? b = some o → s'.heap.get? b = some o := fun b o e => hk b o (fun z => by rw [z, hPg] at e; cases e) (F5.keep b o e)
      refine hQ D s' ys.toList n' o1 o2 (grew_of C st' hgk ⟨more, o4 _ hgk o3⟩) ?_ (by simpa using hDl) (strs_of ?_ ?_)
      · cases e : s.heap.get? D with
        | none => rfl
        | some o =>
          by_cases hDP : D = P
          · rw [hDP, NP] at hD; cases hD
          · rw [F5.keep _ _ (st' _ _ hDP e)] at hD; cases hD
      · rw [List.length_map, ← hAll.length, Array.length_toList, hys, List.size_toArray]
      · intro j y hj
        exact hF j y (by rw [← Array.getElem?_toList]; exact hj)
end Mine

end
section
open PySem PySem.W PyProof.Rows PySem.Calls
namespace Mine
set_option maxRecDepth 100000
set_option maxHeartbeats 4000000
theorem cell_spec : ∀ {w : World} {dp un : Nat} {fr : Option (List Env)} {gd : Option (List Code)} {E : Value → Shared → Prop} {s : Shared} {loose : List Str} {mg mb : Str → Option Value} {l : Addr} {vs : List Value} {ns : List Int} {i : Int} {t : Tok} {Q : Value → Shared → Prop},
   (hd.heap_39 w.params).In s.heap → TopRead hd.view_39 loose mg mb s.heap → dp < 900 → un < 900 →
   s.heap.IsList l vs.toArray → IntsAre vs ns → 0 ≤ i → i < 100 → ns.length ≤ 63 →
   (∀ n t h' tk, 0 ≤ n → (∀ b o, s.heap.get? b = some o → h'.get? b = some o) → Q (.int n t) {s with heap := h', toks := tk}) →
   wpAny (model PySem.Challenge.rw_ey0008_01.row.prog w) (AA dp un fr gd) (call (.ref 86) [.ref l, .int i t]) Q E s := by
  k_fill
  intro w dp un fr gd E s loose mg mb l vs ns i t Q X T hd hu hl hi h0 h1 hlen hQ
  refine' enter (K := Mine.hd.heap_39 w.params) (binds := [(Str.ofString "script", .ref l), (Str.ofString "at", .int i t)]) [] ?m X T.nolimit ?ho ?hcd ?hr ?hb ?hl ?_ ?c2 ?c3 ?c4 ?c5
  case m => intro p hp; cases hp
  case ho => k_is
  case hcd => k_is
  case hr => have : recursionLimit = 1000 := rfl; show dp < recursionLimit; omega
  case hb => exact BindsTo.of_eq rfl
  case hl => exact locs rfl
  case c2 => exact rfl
  case c3 => exact rfl
  case c4 => exact rfl
  case c5 => decide
  intro g L h₁ F N st old rev
  have X' : (Mine.hd.heap_39 w.params).In g := Frag.In.keeps X fun b o e => st b o (by simp) e
  have T' : TopRead Mine.hd.view_39 loose mg mb g := T.keeps fun b o e => st b o (by simp) e
  have hl' : g.IsList l vs.toArray := hl.at fun o e => st l o (by simp) e
  clear X T hl
  try dsimp only
  show wpAny _ _ _ _ _ _
  k_steps
  · exact hQ _ _ _ _ (by split <;> omega) fun b o e => F.keep b o (st b o (by simp) e)
  · exact hQ _ _ _ _ (by omega) fun b o e => F.keep b o (st b o (by simp) e)
end Mine

end
section
open PySem PySem.W PyProof.Rows PySem.Calls
namespace Mine
set_option maxRecDepth 100000
section
variable {prog : Program} {w : World} {A : Around} {s : Shared} {env : Env} {g : Heap} {L : Addr} {body : List Stmt} {Q : Flow → Shared → Prop}

def RangeLed (prog : Program) (w : World) (A : Around) (g : Heap) (L : Addr) (env : Env) (x : Str) (body : List Stmt) (Q : Flow → Shared → Prop) (xv : Value) (s : Shared) : Prop :=
  ∃ (R : Addr) (N : Nat) (t u v : Tok) (m : Str → Option Value) (news : List (Addr × Obj)) (J : Nat → (Str → Option Value) → List (Addr × Obj) → Prop),
    xv = .ref R ∧ IsRange s.heap R 0 (N : Int) 1 t u v ∧ N ≤ 1000 ∧ Fr g L s.heap m ∧ News g L s.heap news ∧ J 0 m news ∧
    (∀ (i : Nat) u m₁ nx h₁ tk₁ I oI, i < N → J i m₁ nx → (∀ p ∈ nx, p.1 ≠ I) → Fr g L h₁ (fun y => if y = x then some (.int (i : Int) u) else m₁ y) → News g L h₁ (nx ++ [(I, oI)]) →
      wpAny (model prog w) A (execs body env) (TurnEnd g L (J (i + 1)) [(I, oI)] s) (fun _ _ => False) { s with heap := h₁, toks := tk₁ }) ∧
    (∀ h' tk m' nx, Fr g L h' m' → News g L h' nx → J N m' nx → Q .next { s with heap := h', toks := tk })

theorem loopRange {x : Str} {px fpos : Pos} {iter : Expr} (hL : env.locals = L) (hh : A.handled = none) (hx : env.kindOf x = some .local)
    (hp : (env.scope.kind == .class || (env.scope.kind == .module && env.locals != env.globals)) = false)
    (h : wpAny (model prog w) A (eval iter env) (RangeLed prog w A g L env x body Q) (fun _ _ => False) s)
    (hs : ∀ x, foldedSetIterable iter env x = pure x := by intro _; rfl) :
    wpAny (model prog w) A (exec (.For (.Name x px) iter body [] fpos) env) Q (fun _ _ => False) s := by
  subst hL
  refine For_invV g hx hp (wpAny_mono h (fun xv s hx => ?_) fun _ _ e => e) hs (PassesOwn.never)
  obtain ⟨R, N, t, u, v, m, news, J, rfl, hr, hN, F, N₀, h0, step, done⟩ := hx
  have hI0 : g.get? s.heap.objs.size = none := next_is_new F
  have hsz : Builtin.Range.rangeSize 0 (N : Int) 1 = (N : Int) := by
    unfold Builtin.Range.rangeSize
    simp
    try omega
  refine wpAny_pyIter_range hr ?_ ?_
  · exact small_one (by decide) (by decide) (by omega) (by omega)
  rw [hsz]
  refine ⟨_, _, _, _, _, _, m, news, J, rfl, LCg.range_walks hh 0 N, ?_, ?_, ?_, ?_, F.push _, (fun p hp => ⟨Heap.get?_push_of_some _ (N₀ p hp).1, (N₀ p hp).2⟩), h0, ?_, ?_⟩
  · intro hm
    exact absurd F.ns.lt ((List.mem_singleton.mp hm) ▸ Nat.lt_irrefl _)
  · intro b hb
    rw [List.mem_singleton.mp hb]; exact hI0
  · intro p hp hI
    exact absurd (Heap.lt_size (N₀ p hp).1) ((List.mem_singleton.mp hI) ▸ Nat.lt_irrefl _)
  · show Heap.get? _ _ = _
    rw [Heap.get?_push_size _ rfl]
    simp
  · rintro i v m₁ nx s₁ own ⟨hh', tk', rfl⟩ hin hP hJ hoff hown hget hall hst' F₁ N₁
    obtain ⟨u', rfl⟩ := hP
    rw [Int.zero_add] at F₁
    have hoI := hst'
    have hIown := hall _ (List.mem_singleton.mpr rfl) hI0 _ hoI
    have hoffI : ∀ p ∈ nx, p.1 ≠ s.heap.objs.size := fun p hp e => hoff p hp (List.mem_singleton.mpr e)
    have N₂ : News g env.locals hh' (nx ++ [(s.heap.objs.size, _)]) := fun p hp => by
      rcases List.mem_append.mp hp with h | h
      · exact N₁ p (List.mem_append_right _ h)
      · rw [List.mem_singleton.mp h]; exact N₁ _ (List.mem_append_left _ hIown)
    refine wpAny_mono (step i u' m₁ nx hh' tk' _ _ hin hJ hoffI F₁ N₂) (fun f s₄ h₄ => ?_) fun _ _ e => e.elim
    obtain ⟨rfl, h', tk2, m', nx', rfl, F', N', ha, hJ'⟩ := h₄
    refine LoopStepV.next ⟨rfl, h', tk2, m', nx', rfl, F', fun p hp => ?_, fun p hp hq => ?_, hJ'⟩
    · rcases List.mem_append.mp hp with h | h
      · have h1 := List.mem_singleton.mp (hown p h)
        have h2 : hh'.get? p.1 = some p.2 := hget p h
        rw [h1, hoI] at h2
        have h3 : p = (s.heap.objs.size, p.2) := Prod.ext h1 rfl
        rw [h3, ← Option.some.inj h2]; exact N' _ (List.mem_append_right _ (List.mem_singleton.mpr rfl))
      · exact N' p (List.mem_append_left _ h)
    · exact ha p hp _ (List.mem_singleton.mpr rfl) (List.mem_singleton.mp hq)
  · intro h' tk2 m' nx F' N' _ hJ'
    exact done h' tk2 m' nx F' N' hJ'
end

theorem strsAre_get : ∀ {vs : List Value} {xs : List Str}, StrsAre vs xs → ∀ {i : Nat}, i < xs.length → ∃ x t, vs[i]? = some (Value.str x t) ∧ x ∈ xs
  | _, _, .nil, _, h => by simp at h
  | _, _, .cons y t r, i, h => by
    cases i with
    | zero => exact ⟨y, t, rfl, .head _⟩
    | succ i =>
      obtain ⟨x, t', e, hm⟩ := strsAre_get r (i := i) (by simpa using h)
      exact ⟨x, t', by simpa using e, .tail _ hm⟩
theorem itemStrs {prog : Program} {w : World} {A : Around} {E : Value → Shared → Prop} {s : Shared} {g : Heap} {L : Addr} {news : List (Addr × Obj)} {l : Addr} {vs : List Value} {xs : List Str} {n : Nat} {k : Int} {u : Tok} {value slice : Expr} {Q : Value → Shared → Prop}
    (N : News g L s.heap news) (hm : (l, listOf vs.toArray n) ∈ news) (hS : StrsAre vs xs) (h0 : 0 ≤ k) (h1 : k < (xs.length : Int)) (hx : xs.length ≤ 100) (h : ∀ x t, x ∈ xs → Q (.str x t) s)
    (hs : subscripted slice false (.ref l) (.int k u) = operate [.ref l, .int k u] (getItem (.ref l) (.int k u)) := by with_unfolding_all rfl) :
    wpAny (model prog w) A (subscriptTail value slice (.ref l) (.int k u)) Q E s := by
  have hL := News.isList N hm
  obtain ⟨x, t, e, hmx⟩ := strsAre_get hS (i := k.toNat) (by omega)
  exact tail_any hL.typeIs slot_list_getitem.lookup (wpAny_getItem_list hL h0 (by omega) (by simpa using e) (h x t hmx)) hs
theorem fm0 (n : Int) {k : Int} (h : 0 < k) : 0 ≤ n.fmod k := by
  rw [Int.fmod_eq_emod_of_nonneg _ (by omega)]; exact Int.emod_nonneg _ (by omega)
theorem fm1 (n : Int) {k : Int} (h : 0 < k) : n.fmod k < k := by
  rw [Int.fmod_eq_emod_of_nonneg _ (by omega)]; exact Int.emod_lt_of_pos _ h
/-- good lists of tokens: no two texts side by side, no two fields of one letter side by side -/
def okAdj : Option Tk → Tk → Prop
  | some (.chr _), .chr _ => False
  | some (.fld c _), .fld d _ => c ≠ d
  | _, _ => True
def GoodFrom : Option Tk → List Tk → Prop
  | _, [] => True
  | p, t :: r => okAdj p t ∧ GoodFrom (some t) r
def lastO : Option Tk → List Tk → Option Tk
  | p, [] => p
  | _, t :: r => lastO (some t) r
theorem good_snoc : ∀ {ts : List Tk} {p : Option Tk} {t : Tk}, GoodFrom p ts → okAdj (lastO p ts) t → GoodFrom p (ts ++ [t])
  | [], _, _, _, h => ⟨h, trivial⟩
  | _ :: _, _, _, g, h => ⟨g.1, good_snoc g.2 h⟩
theorem lastO_snoc : ∀ {ts : List Tk} {p : Option Tk} {t : Tk}, lastO p (ts ++ [t]) = some t
  | [], _, _ => rfl
  | _ :: r, _, _ => lastO_snoc (ts := r)
theorem TksIn.last {l : List (Addr × Obj)} {vs : List Value} {ts : List Tk} (h : TksIn l vs ts) : (vs = [] ∧ ts = []) ∨ ∃ vs' v ts' t, vs = vs' ++ [v] ∧ ts = ts' ++ [t] ∧ TksIn l vs' ts' ∧ TkIn l v t := by
  induction h with
  | nil => exact .inl ⟨rfl, rfl⟩
  | cons a b ih =>
    right
    rcases ih with ⟨rfl, rfl⟩ | ⟨vs', v, ts', t, rfl, rfl, h1, h2⟩
    · exact ⟨[], _, [], _, rfl, rfl, .nil, a⟩
    · exact ⟨_ :: vs', v, _ :: ts', t, rfl, rfl, .cons a h1, h2⟩
end Mine

end
section
open PySem PySem.W PyProof.Rows PySem.Calls
namespace Mine
set_option maxRecDepth 100000
set_option maxHeartbeats 8000000
local macro_rules | `(tactic| ktr_unf) => `(tactic| repeat' (first | ((fail_if_success (with_reducible show wpAny _ _ (exec (Stmt.For _ _ _ _ _) _) _ _ _)); (fail_if_success (with_reducible show wpAny _ _ (call (Value.ref _) _) _ _ _)); (fail_if_success (with_reducible show RangeLed _ _ _ _ _ _ _ _ _ _ _)); first | walk1 | (dsimp only; walk1)) | fail "stop"))
local macro_rules | `(tactic| size_fits) => `(tactic| (rw [sizeLine_eq]; simp only [List.size_toArray, List.length_append, List.length_cons, List.length_nil, Array.size_push, Array.size_append]; omega))
local macro_rules | `(tactic| walk_at "subscriptTail Name UnaryOp ref int") => `(tactic| (k_dflt (first | refine itemLast (by assumption) (by k_mem) ?_ | refine itemLastP (by assumption) (by k_mem) ?_)))

abbrev txts5 : List Str := [Str.ofString " ", Str.ofString "/", Str.ofString ", ", Str.ofString " day ", Str.ofString "to d"]
theorem neNil {prog : Program} {w : World} {A : Around} {E : Value → Shared → Prop} {s : Shared} {g : Heap} {L : Addr} {news : List (Addr × Obj)} {a b : Addr} {xs : List Value} {v : Value} {n n' : Nat} {Q : Value → Shared → Prop}
    (N : News g L s.heap news) (ha : (a, listOf (xs ++ [v]).toArray n) ∈ news) (hb : (b, listOf #[] n') ∈ news) (hu : A.units < cLine) (h : Q (.bool true) s) : wpAny (model prog w) A (compareOp .NotEq (.ref a) (.ref b)) Q E s :=
  PySem.EqBoolInt.of_rcne (SeqAt.RcNeAt.lists_lengths (News.isList N ha) (News.isList N hb) (by simp) hu) h
local macro_rules | `(tactic| ktr_unf) => `(tactic| repeat' (first | ((fail_if_success (with_reducible show wpAny _ _ (exec (Stmt.For _ _ _ _ _) _) _ _ _)); (fail_if_success (with_reducible show wpAny _ _ (call (Value.ref _) _) _ _ _)); (fail_if_success (with_reducible show RangeLed _ _ _ _ _ _ _ _ _ _ _)); first | ((with_reducible show wpAny _ _ (subscriptTail _ _ (Value.ref _) (Value.int (Int.fmod _ _) _)) _ _ _); dsimp only; first | (refine' itemStrs (xs := lets) (by assumption) (by k_mem) ?hs (fm0 _ (by decide)) ?h1 (by decide) ?_; (case hs => exact StrsAre.cons _ _ (StrsAre.cons _ _ (StrsAre.cons _ _ (StrsAre.cons _ _ StrsAre.nil)))); (case h1 => exact Int.lt_of_lt_of_le (fm1 _ (by decide)) (by decide)); intro xq tq hq) | (refine' itemStrs (xs := txts5) (by assumption) (by k_mem) ?hs (fm0 _ (by decide)) ?h1 (by decide) ?_; (case hs => exact StrsAre.cons _ _ (StrsAre.cons _ _ (StrsAre.cons _ _ (StrsAre.cons _ _ (StrsAre.cons _ _ StrsAre.nil))))); (case h1 => exact Int.lt_of_lt_of_le (fm1 _ (by decide)) (by decide)); intro xq tq hq)) | ((with_reducible show wpAny _ _ (compareOp CmpOp.NotEq (Value.ref _) (Value.ref _)) _ _ _); dsimp only; refine' neNil (by assumption) (by k_mem) (by k_mem) ?hu ?_; (case hu => first | units_room | (have hcl : cLine = 10000 := rfl; show _ + 3 < cLine; omega))) | ((with_reducible show wpAny _ _ (callWith _ (Prod.fst _) _ _ _) _ _ _); dsimp only; refine callWith_method1 ?_) | ((fail_if_success (with_reducible show wpAny _ _ (subscriptTail _ _ (Value.ref _) (Value.int (Int.fmod _ _) _)) _ _ _)); (first | walk1 | (dsimp only; walk1)))) | fail "stop"))
def BuJ (fa l : Addr) (ts : List Tk) (i : Nat) (m : Str → Option Value) (nx : List (Addr × Obj)) : Prop :=
  m (Str.ofString "found") = some (.ref fa) ∧ m (Str.ofString "script") = some (.ref l) ∧ ∃ (vs : List Value) (n : Nat) (rest : List (Addr × Obj)),
    nx = (fa, listOf vs.toArray n) :: rest ∧ OwnOff rest [fa] ∧ TksIn rest vs ts ∧ (∀ t ∈ ts, TkOk t) ∧ GoodFrom none ts ∧ ts.length ≤ 2 * i

theorem buEnd {g : Heap} {L fa l I : Addr} {s : Shared} {h' : Heap} {tk : Nat} {m' : Str → Option Value} {led rest' : List (Addr × Obj)} {oI : Obj} {vs' : List Value} {n' i : Nat} {ts' : List Tk}
    (F' : Fr g L h' m') (N' : News g L h' led) (mfa : (fa, listOf vs'.toArray n') ∈ led) (mI : (I, oI) ∈ led) (hrest : ∀ p ∈ rest', p ∈ led) (O : OwnOff rest' [fa, I]) (e1 : @Ne Nat fa I) (hT : TksIn rest' vs' ts')
    (hok : ∀ t ∈ ts', TkOk t) (hgood : GoodFrom none ts') (hlen : ts'.length ≤ 2 * i) (m1 : m' (Str.ofString "found") = some (.ref fa)) (m2 : m' (Str.ofString "script") = some (.ref l)) :
    TurnEnd g L (fun m nx => ∃ ts, BuJ fa l ts i m nx) [(I, oI)] s .next { s with heap := h', toks := tk } := by
  refine ⟨rfl, h', tk, m', (fa, listOf vs'.toArray n') :: rest', rfl, F', ?_, ?_, ts', m1, m2, vs', n', rest', rfl, ?_, hT, hok, hgood, hlen⟩
  · intro p hp
    refine N' p ?_
    rcases List.mem_append.mp hp with hp | hp
    · rcases List.mem_cons.mp hp with rfl | hp
      · exact mfa
      · exact hrest p hp
    · rw [List.mem_singleton.mp hp]; exact mI
  · intro p hp q hq
    rw [List.mem_singleton.mp hq]
    rcases List.mem_cons.mp hp with rfl | hp
    · exact e1
    · exact O p hp I (by simp)
  · intro p hp b hb
    rw [List.mem_singleton.mp hb]
    exact O p hp fa (by simp)
theorem okAll_snoc {ts : List Tk} {t : Tk} (h : ∀ t ∈ ts, TkOk t) (k : TkOk t) : ∀ u ∈ ts ++ [t], TkOk u := fun u hu => by
  rcases List.mem_append.mp hu with hu | hu
  · exact h u hu
  · rw [List.mem_singleton.mp hu]; exact k
theorem fldOk {c : Str} {n : Int} (h : c ∈ lets) : TkOk (.fld c (1 + n.fmod 3)) := ⟨h, by have := fm0 n (k := 3) (by decide); omega, by have := fm1 n (k := 3) (by decide); omega⟩
theorem chr5 {x : Str} (h : x ∈ txts5) : TkOk (.chr x) := by
  show x ∈ txts
  simp only [List.mem_cons, List.not_mem_nil, or_false] at h ⊢
  rcases h with h | h | h | h | h <;> simp [h]
section
variable {g : Heap} {L fa l I D6 D1 : Addr} {s : Shared} {h' : Heap} {tk : Nat} {m' : Str → Option Value} {rest1 rest : List (Addr × Obj)} {oI : Obj} {vs' : List Value} {n' i : Nat} {ts' : List Tk} {ta tb tc : Tok} {c : Str} {n : Int}
theorem buF (F' : Fr g L h' m') (N' : News g L h' ((D6, tupO [.str (Str.ofString "field") ta, .ref D1] 0) :: rest1)) (h1 : (D1, tupO [.str c tb, .int (1 + n.fmod 3) tc] 0) ∈ rest1) (h2 : (fa, listOf (vs'.toArray.push (Value.ref D6)) n') ∈ rest1) (h3 : (I, oI) ∈ rest1)
    (hr : ∀ p ∈ rest, p ∈ rest1) (l6 : @LT.lt Nat _ fa D6 ∧ @LT.lt Nat _ I D6) (l1 : @LT.lt Nat _ fa D1 ∧ @LT.lt Nat _ I D1) (O : OwnOff rest [fa, I]) (e1 : @Ne Nat fa I) (hT : TksIn rest vs' ts') (hc : c ∈ lets)
    (hok : ∀ t ∈ ts', TkOk t) (hgood : GoodFrom none ts') (hadj : okAdj (lastO none ts') (.fld c (1 + n.fmod 3))) (hlen : ts'.length + 1 ≤ 2 * i) (m1 : m' (Str.ofString "found") = some (.ref fa)) (m2 : m' (Str.ofString "script") = some (.ref l)) :
    TurnEnd g L (fun m nx => ∃ ts, BuJ fa l ts i m nx) [(I, oI)] s .next { s with heap := h', toks := tk } := by
  rw [push_list] at h2
  refine buEnd (vs' := vs' ++ [Value.ref D6]) (ts' := ts' ++ [.fld c (1 + n.fmod 3)]) F' N' (.tail _ h2) (.tail _ h3) (rest' := (D6, tupO [.str (Str.ofString "field") ta, .ref D1] 0) :: (D1, tupO [.str c tb, .int (1 + n.fmod 3) tc] 0) :: rest) (fun p hp => ?_)
    (ownOff_cons (fun b hb => ?_) (ownOff_cons (fun b hb => ?_) O)) e1 ((hT.mono fun p hp => .tail _ (.tail _ hp)).append (.cons (.fld (.head _) (.tail _ (.head _))) .nil)) (okAll_snoc hok (fldOk hc)) (good_snoc hgood hadj) (by simp; omega) m1 m2
  · rcases List.mem_cons.mp hp with rfl | hp
    · exact .head _
    · rcases List.mem_cons.mp hp with rfl | hp
      · exact .tail _ h1
      · exact .tail _ (hr p hp)
  · simp only [List.mem_cons, List.not_mem_nil, or_false] at hb
    rcases hb with rfl | rfl
    · exact Nat.ne_of_gt l6.1
    · exact Nat.ne_of_gt l6.2
  · simp only [List.mem_cons, List.not_mem_nil, or_false] at hb
    rcases hb with rfl | rfl
    · exact Nat.ne_of_gt l1.1
    · exact Nat.ne_of_gt l1.2
theorem buC (F' : Fr g L h' m') (N' : News g L h' ((D6, tupO [.str (Str.ofString "chars") ta, .str c tb] 0) :: rest1)) (h2 : (fa, listOf (vs'.toArray.push (Value.ref D6)) n') ∈ rest1) (h3 : (I, oI) ∈ rest1)
    (hr : ∀ p ∈ rest, p ∈ rest1) (l6 : @LT.lt Nat _ fa D6 ∧ @LT.lt Nat _ I D6) (O : OwnOff rest [fa, I]) (e1 : @Ne Nat fa I) (hT : TksIn rest vs' ts') (hc : c ∈ txts5)
    (hok : ∀ t ∈ ts', TkOk t) (hgood : GoodFrom none ts') (hadj : okAdj (lastO none ts') (.chr c)) (hlen : ts'.length + 1 ≤ 2 * i) (m1 : m' (Str.ofString "found") = some (.ref fa)) (m2 : m' (Str.ofString "script") = some (.ref l)) :
    TurnEnd g L (fun m nx => ∃ ts, BuJ fa l ts i m nx) [(I, oI)] s .next { s with heap := h', toks := tk } := by
  rw [push_list] at h2
  refine buEnd (vs' := vs' ++ [Value.ref D6]) (ts' := ts' ++ [.chr c]) F' N' (.tail _ h2) (.tail _ h3) (rest' := (D6, tupO [.str (Str.ofString "chars") ta, .str c tb] 0) :: rest) (fun p hp => ?_)
    (ownOff_cons (fun b hb => ?_) O) e1 ((hT.mono fun p hp => .tail _ hp).append (.cons (.chr (.head _)) .nil)) (okAll_snoc hok (chr5 hc)) (good_snoc hgood hadj) (by simp; omega) m1 m2
  · rcases List.mem_cons.mp hp with rfl | hp
    · exact .head _
    · exact .tail _ (hr p hp)
  · simp only [List.mem_cons, List.not_mem_nil, or_false] at hb
    rcases hb with rfl | rfl
    · exact Nat.ne_of_gt l6.1
    · exact Nat.ne_of_gt l6.2
theorem buFF {D2 : Addr} {td te : Tok} (F' : Fr g L h' m') (N' : News g L h' ((D6, tupO [.str (Str.ofString "field") ta, .ref D1] 0) :: rest1)) (h1 : (D1, tupO [.str c tb, .int (1 + n.fmod 3) tc] 0) ∈ rest1) (h0 : (D2, tupO [.str (Str.ofString "chars") td, .str (Str.ofString " - ") te] 0) ∈ rest1) (h2 : (fa, listOf ((vs'.toArray.push (Value.ref D2)).push (Value.ref D6)) n') ∈ rest1) (h3 : (I, oI) ∈ rest1)
    (hr : ∀ p ∈ rest, p ∈ rest1) (l6 : @LT.lt Nat _ fa D6 ∧ @LT.lt Nat _ I D6) (l1 : @LT.lt Nat _ fa D1 ∧ @LT.lt Nat _ I D1) (l2 : @LT.lt Nat _ fa D2 ∧ @LT.lt Nat _ I D2) (O : OwnOff rest [fa, I]) (e1 : @Ne Nat fa I) (hT : TksIn rest vs' ts') (hc : c ∈ lets)
    (hok : ∀ t ∈ ts', TkOk t) (hgood : GoodFrom none ts') (hadj : okAdj (lastO none ts') (.chr (Str.ofString " - "))) (hlen : ts'.length + 2 ≤ 2 * i) (m1 : m' (Str.ofString "found") = some (.ref fa)) (m2 : m' (Str.ofString "script") = some (.ref l)) :
    TurnEnd g L (fun m nx => ∃ ts, BuJ fa l ts i m nx) [(I, oI)] s .next { s with heap := h', toks := tk } := by
  rw [show listOf ((vs'.toArray.push (Value.ref D2)).push (Value.ref D6)) n' = listOf ((vs' ++ [Value.ref D2]).toArray.push (Value.ref D6)) n' by simp] at h2
  have hcd : TkOk (.chr (Str.ofString " - ")) := by show Str.ofString " - " ∈ txts; simp
  refine buF (vs' := vs' ++ [Value.ref D2]) (ts' := ts' ++ [.chr (Str.ofString " - ")]) (rest := (D2, tupO [.str (Str.ofString "chars") td, .str (Str.ofString " - ") te] 0) :: rest) F' N' h1 h2 h3 (fun p hp => ?_) l6 l1 (ownOff_cons (fun b hb => ?_) O) e1
    ((hT.mono fun p hp => .tail _ hp).append (.cons (.chr (.head _)) .nil)) hc (okAll_snoc hok hcd) (good_snoc hgood hadj) (by rw [lastO_snoc]; trivial) (by simp; omega) m1 m2
  · rcases List.mem_cons.mp hp with rfl | hp
    · exact h0
    · exact hr p hp
  · simp only [List.mem_cons, List.not_mem_nil, or_false] at hb
    rcases hb with rfl | rfl
    · exact Nat.ne_of_gt l2.1
    · exact Nat.ne_of_gt l2.2
end
theorem built_spec : ∀ {w : World} {dp un : Nat} {fr : Option (List Env)} {gd : Option (List Code)} {E : Value → Shared → Prop} {s : Shared} {loose : List Str} {mg mb : Str → Option Value} {l : Addr} {vs : List Value} {ns : List Int} {Q : Value → Shared → Prop},
   (hd.heap_39 w.params).In s.heap → TopRead hd.view_39 loose mg mb s.heap → dp < 700 → un < 700 →
   s.heap.IsList l vs.toArray → IntsAre vs ns → ns.length ≤ 63 →
   (∀ (r : Addr) (vs' : List Value) (nr : Nat) (cst : List (Addr × Obj)) (ts : List Tk) (h' : Heap) (tk : Nat), (∀ b o, s.heap.get? b = some o → h'.get? b = some o) → Fresh s.heap h' ((r, listOf vs'.toArray nr) :: cst) → TksIn cst vs' ts → (∀ t ∈ ts, TkOk t) → GoodFrom none ts → ts.length ≤ 16 → Q (.ref r) {s with heap := h', toks := tk}) →
   wpAny (model PySem.Challenge.rw_ey0008_01.row.prog w) (AA dp un fr gd) (call (.ref 93) [.ref l]) Q E s := by
  k_fill
  intro w dp un fr gd E s loose mg mb l vs ns Q X T hd hu hl hi hlen hQ
  refine' enter (K := Mine.hd.heap_39 w.params) (binds := [(Str.ofString "script", .ref l)]) [] ?m X T.nolimit ?ho ?hcd ?hr ?hb ?hl ?_ ?c2 ?c3 ?c4 ?c5
  case m => intro p hp; cases hp
  case ho => k_is
  case hcd => k_is
  case hr => have : recursionLimit = 1000 := rfl; show dp < recursionLimit; omega
  case hb => exact BindsTo.of_eq rfl
  case hl => exact locs rfl
  case c2 => exact rfl
  case c3 => exact rfl
  case c4 => exact rfl
  case c5 => decide
  intro g L h₁ F N st old rev
  have X' : (Mine.hd.heap_39 w.params).In g := Frag.In.keeps X fun b o e => st b o (by simp) e
  have T' : TopRead Mine.hd.view_39 loose mg mb g := T.keeps fun b o e => st b o (by simp) e
  have hl' : g.IsList l vs.toArray := hl.at fun o e => st l o (by simp) e
  clear X T hl
  try dsimp only
  show wpAny _ _ _ _ _ _
  ktr_unf
  rename_i fa hh1 l1 h2 F2 N2
  refine loopRange (g := g) (L := L) rfl rfl rfl rfl ?_
  ktr_unf
  refine cell_spec (upX X' F2) (upT T' F2) (by show dp + 1 < 900; omega) (by show un + 3 < 900; omega) (hl'.at fun o e => F2.keep l o e) hi (by decide) (by decide) hlen fun n t h3 tk3 hn0 k3 => ?_
  have F3 := fr_keeps F2 k3
  have N3 := news_keeps N2 k3
  clear F2 N2
  ktr_unf
  rename_i h4 tk4 u1 u2 u3 hr4 F4 N4 k4
  obtain ⟨M, hM, hM8⟩ : ∃ M : Nat, 1 + n.fmod 8 = (M : Int) ∧ M ≤ 8 := by
    rw [Int.fmod_eq_emod_of_nonneg _ (by decide)]
    exact ⟨(1 + n % 8).toNat, by omega, by omega⟩
  rw [hM] at hr4
  refine ⟨_, M, u1, u2, u3, _, _, fun i m nx => ∃ ts, BuJ fa l ts i m nx, rfl, hr4, by omega, F4, N4, ⟨[], rfl, rfl, [], 0, [], rfl, fun _ h => (nomatch h), .nil, fun _ h => (nomatch h), trivial, Nat.le_refl _⟩, ?_, ?_⟩
  · rintro i u m₁ nx h₅ tk₅ I oI hiM ⟨ts, m1, m2, vs', nf, rest, rfl, O, hT, hok, hgood, hlen2⟩ hnI F5 N5
    have e1 : @Ne Nat fa I := hnI _ (.head _)
    have F6 : Fr g L h₅ (fun y => if y = Str.ofString "at" then some (.int (i : Int) u) else if y = Str.ofString "found" then some (.ref fa) else if y = Str.ofString "script" then some (.ref l) else m₁ y) :=
      Fr.congr F5 fun y => by
        (repeat' split) <;> (try subst_vars) <;> (first | assumption | exact Eq.symm (by assumption) | rfl)
    have O6 : OwnOff rest [fa, I] := fun p hp b hb => by
      simp only [List.mem_cons, List.not_mem_nil, or_false] at hb
      rcases hb with e | e <;> rw [e]
      · exact O p hp _ (by simp)
      · exact hnI p (by simp [hp])
    have N6 : ∀ (x : List (Addr × Obj)), (∀ p ∈ x, p ∈ rest) → ∀ p ∈ (fa, listOf vs'.toArray nf) :: (I, oI) :: (x ++ rest), h₅.get? p.1 = some p.2 ∧ p.1 ≠ L ∧ g.get? p.1 = none := fun x hx p hp => N5 p (by
      simp only [List.mem_cons, List.mem_append] at hp ⊢
      rcases hp with h | h | h | h
      · simp [h]
      · simp [h]
      · exact .inl (.inr (hx p h))
      · simp [h])
    have hl20 : vs'.length ≤ 20 := by rw [hT.length]; omega
    clear N5 F5 N4 F4
    rcases hT.last with ⟨rfl, rfl⟩ | ⟨vs2, v2, ts2, t2, rfl, rfl, hT2, hk2⟩
    · have N7 : News g L h₅ ((fa, listOf ([] : List Value).toArray nf) :: (I, oI) :: rest) := N6 [] (fun _ h => nomatch h)
      clear N6
      ktr_unf
      refine cell_spec (upX X' F6) (upT T' F6) (by show dp + 1 < 900; omega) (by show un + 3 < 900; omega) (hl'.at fun o e => F6.keep l o e) hi (by omega) (by omega) hlen fun n2 t2 h7 tk7 hn2 k7 => ?_
      have F8 := fr_keeps F6 k7
      have N8 := news_keeps N7 k7
      clear F6 N7
      ktr_unf
      · exact buF (by assumption) (by assumption) (by k_mem) (by k_mem) (by k_mem) (fun p hp => by simp [hp]) (by omega) (by omega) O6 e1 hT (by assumption) hok hgood trivial (by simp; omega) rfl rfl
      · exact buC (by assumption) (by assumption) (by k_mem) (by k_mem) (fun p hp => by simp [hp]) (by omega) O6 e1 hT (by assumption) hok hgood trivial (by simp; omega) rfl rfl
    · cases hk2 with
      | chr ma =>
        rename_i a t1 t2 k1 x
        have N7 : News g L h₅ ((fa, listOf (vs2 ++ [Value.ref a]).toArray nf) :: (I, oI) :: (a, tupO [.str (Str.ofString "chars") t1, .str x t2] k1) :: rest) := N6 [_] (fun p hp => by rw [List.mem_singleton.mp hp]; exact ma)
        have a1 : @Ne Nat fa a := Ne.symm (O _ ma _ (by simp))
        clear N6
        ktr_unf
        refine cell_spec (upX X' F6) (upT T' F6) (by show dp + 1 < 900; omega) (by show un + 3 < 900; omega) (hl'.at fun o e => F6.keep l o e) hi (by omega) (by omega) hlen fun n2 t2 h7 tk7 hn2 k7 => ?_
        have F8 := fr_keeps F6 k7
        have N8 := news_keeps N7 k7
        clear F6 N7
        ktr_unf
        · exact buF (by assumption) (by assumption) (by k_mem) (by k_mem) (by k_mem) (fun p hp => by simp [hp]) (by omega) (by omega) O6 e1 hT (by assumption) hok hgood (by rw [lastO_snoc]; trivial) (by omega) rfl rfl
        · exact buF (by assumption) (by assumption) (by k_mem) (by k_mem) (by k_mem) (fun p hp => by simp [hp]) (by omega) (by omega) O6 e1 hT (by assumption) hok hgood (by rw [lastO_snoc]; trivial) (by omega) rfl rfl
      | fld ma mb =>
        rename_i a b t1 t2 t3 k1 k2 c0 n0
        have N7 : News g L h₅ ((fa, listOf (vs2 ++ [Value.ref a]).toArray nf) :: (I, oI) :: (a, tupO [.str (Str.ofString "field") t1, .ref b] k1) :: (b, tupO [.str c0 t2, .int n0 t3] k2) :: rest) := N6 [_, _] (fun p hp => by
          simp only [List.mem_cons, List.not_mem_nil, or_false] at hp
          rcases hp with rfl | rfl
          · exact ma
          · exact mb)
        have a1 : @Ne Nat fa a := Ne.symm (O _ ma _ (by simp))
        have b1 : @Ne Nat fa b := Ne.symm (O _ mb _ (by simp))
        clear N6
        ktr_unf
        refine cell_spec (upX X' F6) (upT T' F6) (by show dp + 1 < 900; omega) (by show un + 3 < 900; omega) (hl'.at fun o e => F6.keep l o e) hi (by omega) (by omega) hlen fun n2 t2 h7 tk7 hn2 k7 => ?_
        have F8 := fr_keeps F6 k7
        have N8 := news_keeps N7 k7
        clear F6 N7
        ktr_unf
        · exact buFF (by assumption) (by assumption) (by k_mem) (by k_mem) (by k_mem) (by k_mem) (fun p hp => by simp [hp]) (by omega) (by omega) (by omega) O6 e1 hT (by assumption) hok hgood (by rw [lastO_snoc]; trivial) (by omega) rfl rfl
        · exact buF (by assumption) (by assumption) (by k_mem) (by k_mem) (by k_mem) (fun p hp => by simp [hp]) (by omega) (by omega) O6 e1 hT (by assumption) hok hgood (by rw [lastO_snoc]; intro e; (rename _ = false => hbe); rw [e] at hbe; first | (simp at hbe; done) | (exact absurd hbe (by simp)) | (exact Bool.noConfusion (hbe.symm.trans (beq_self_eq_true _)))) (by omega) rfl rfl
        · exact buC (by assumption) (by assumption) (by k_mem) (by k_mem) (fun p hp => by simp [hp]) (by omega) O6 e1 hT (by assumption) hok hgood (by rw [lastO_snoc]; trivial) (by omega) rfl rfl
  · rintro h' tk' m' nx F' N' ⟨ts, m1, m2, vs', n', rest, rfl, O, hT, hok, hgood, hlen2⟩
    replace F' := Fr.pin F' m1
    clear F4 N4
    show wpAny _ _ _ _ _ _
    ktr_unf
    refine hQ fa vs' n' rest ts _ _ (fun b o e => F'.keep b o (st b o (by simp) e)) (fun p hp => ⟨(N' p hp).1, ?_⟩) hT hok hgood (by omega)
    cases e : s.heap.get? p.1 with
    | none => rfl
    | some o => have := st _ _ (by simp) e; rw [(N' p hp).2.2] at this; cases this
end Mine

end
section
open PySem PySem.W PyProof.Rows PySem.Calls
namespace Mine
set_option maxRecDepth 100000
set_option maxHeartbeats 4000000
def charsOf (x : Str) : List Str := x.cps.toList.map fun c => ⟨#[c]⟩
def stOf (res : List Tk) : Option Tk → TS
  | none => ⟨res, none, [], Str.ofString "", 0⟩
  | some (.fld c n) => ⟨res, none, [], c, n⟩
  | some (.chr x) => ⟨res, none, charsOf x, Str.ofString "", 0⟩
theorem stEnd {res : List Tk} : ∀ {a : Option Tk}, (∀ t, a = some t → TkOk t) → tend (stOf res a) = res ++ a.toList
  | none, _ => by show res = res ++ []; simp
  | some (.fld c n), h => by
    obtain ⟨h1, _⟩ := h _ rfl
    simp only [List.mem_cons, List.not_mem_nil, or_false] at h1
    rcases h1 with rfl | rfl | rfl | rfl <;> rfl
  | some (.chr x), h => by
    have h1 : x ∈ txts := h _ rfl
    simp only [List.mem_cons, List.not_mem_nil, or_false] at h1
    rcases h1 with rfl | rfl | rfl | rfl | rfl | rfl <;> kernel_rfl
theorem trans1 {res : List Tk} {a : Option Tk} {t : Tk} (ha : ∀ u, a = some u → TkOk u) (ht : TkOk t) (adj : okAdj a t) : (tkText t).cps.toList.foldl tstep (stOf res a) = stOf (res ++ a.toList) (some t) := by
  have e0 : ∀ l : List Tk, l ++ (none : Option Tk).toList = l := fun l => by simp
  cases t with
  | fld c n =>
    obtain ⟨h1, h2, h3⟩ := ht
    simp only [List.mem_cons, List.not_mem_nil, or_false] at h1
    cases a with
    | none =>
      rw [e0]
      rcases h1 with rfl | rfl | rfl | rfl <;> rcases int3 h2 h3 with rfl | rfl | rfl <;> kernel_rfl
    | some u =>
      cases u with
      | fld d m =>
        obtain ⟨k1, _⟩ := ha _ rfl
        simp only [List.mem_cons, List.not_mem_nil, or_false] at k1
        rcases h1 with rfl | rfl | rfl | rfl <;> rcases k1 with rfl | rfl | rfl | rfl <;> first | exact absurd rfl adj | (rcases int3 h2 h3 with rfl | rfl | rfl <;> kernel_rfl)
      | chr x =>
        have k1 : x ∈ txts := ha _ rfl
        simp only [List.mem_cons, List.not_mem_nil, or_false] at k1
        rcases h1 with rfl | rfl | rfl | rfl <;> rcases k1 with rfl | rfl | rfl | rfl | rfl | rfl <;> rcases int3 h2 h3 with rfl | rfl | rfl <;> kernel_rfl
  | chr y =>
    have h1 : y ∈ txts := ht
    simp only [List.mem_cons, List.not_mem_nil, or_false] at h1
    cases a with
    | none =>
      rw [e0]
      rcases h1 with rfl | rfl | rfl | rfl | rfl | rfl <;> kernel_rfl
    | some u =>
      cases u with
      | fld d m =>
        obtain ⟨k1, _⟩ := ha _ rfl
        simp only [List.mem_cons, List.not_mem_nil, or_false] at k1
        rcases h1 with rfl | rfl | rfl | rfl | rfl | rfl <;> rcases k1 with rfl | rfl | rfl | rfl <;> kernel_rfl
      | chr x => exact adj.elim

theorem runs : ∀ (ts : List Tk) (res : List Tk) (a : Option Tk), (∀ u, a = some u → TkOk u) → (∀ t ∈ ts, TkOk t) → GoodFrom a ts →
    tend (((ts.map tkText).flatMap fun x => x.cps.toList).foldl tstep (stOf res a)) = res ++ a.toList ++ ts
  | [], res, a, ha, _, _ => by
    rw [List.append_nil]; exact stEnd ha
  | t :: r, res, a, ha, h, g => by
    have ht := h t (.head _)
    rw [List.map_cons, List.flatMap_cons, List.foldl_append, trans1 ha ht g.1]
    rw [runs r (res ++ a.toList) (some t) (fun u hu => by cases hu; exact ht) (fun u hu => h u (.tail _ hu)) g.2]
    simp
theorem written_cps (ts : List Tk) : (writtenT ts).cps.toList = (ts.map tkText).flatMap fun x => x.cps.toList := by
  rw [← join_written, join_cps]
theorem tokF_written {ts : List Tk} (h : ∀ t ∈ ts, TkOk t) (g : GoodFrom none ts) : tokF (writtenT ts) = ts := by
  unfold tokF
  rw [written_cps]
  have := runs ts [] none (fun _ h => nomatch h) h g
  rw [show tinit = stOf [] none from rfl, this]
  simp

def noQQ : List Nat → Bool
  | a :: b :: r => !(a == 39 && b == 39) && noQQ (b :: r)
  | _ => true
theorem noQQ_at : ∀ {l : List Nat}, noQQ l = true → ∀ i, (l.drop i).take 2 ≠ [39, 39]
  | [], _, i => by simp
  | [a], _, i => by
    cases i with
    | zero => simp
    | succ i => simp
  | a :: b :: r, h, i => by
    unfold noQQ at h
    rw [Bool.and_eq_true] at h
    cases i with
    | zero =>
      intro e
      simp at e
      rw [e.1, e.2] at h
      exact absurd h.1 (by decide)
    | succ i => exact noQQ_at h.2 i
theorem noQQ_append : ∀ {l1 l2 : List Nat}, noQQ l1 = true → noQQ l2 = true → ¬(l1.getLast? = some 39 ∧ l2.head? = some 39) → noQQ (l1 ++ l2) = true
  | [], _, _, h, _ => h
  | [a], [], _, _, _ => rfl
  | [a], b :: r, _, h2, h3 => by
    show (!(a == 39 && b == 39) && noQQ (b :: r)) = true
    rw [h2, Bool.and_true, Bool.not_eq_true']
    cases ha : (a == 39 && b == 39) with
    | false => rfl
    | true =>
      simp at ha
      exact absurd ⟨by simp [ha.1], by simp [ha.2]⟩ h3
  | a :: b :: r, l2, h1, h2, h3 => by
    unfold noQQ at h1
    rw [Bool.and_eq_true] at h1
    show (!(a == 39 && b == 39) && noQQ ((b :: r) ++ l2)) = true
    rw [h1.1, Bool.true_and]
    exact noQQ_append h1.2 h2 (by simpa using h3)
def isChr : Tk → Bool
  | .chr _ => true
  | .fld _ _ => false
def tokChk (l : List Nat) (chr : Bool) : Bool := noQQ l && !l.isEmpty && l.all (fun c => !(c == 0)) && (chr || (!(l.head? == some 39) && !(l.getLast? == some 39)))
theorem tok_chk {t : Tk} (h : TkOk t) : tokChk (tkText t).cps.toList (isChr t) = true := by
  cases t with
  | fld c n =>
    obtain ⟨h1, h2, h3⟩ := h
    simp only [List.mem_cons, List.not_mem_nil, or_false] at h1
    rcases h1 with rfl | rfl | rfl | rfl <;> rcases int3 h2 h3 with rfl | rfl | rfl <;> kernel_rfl
  | chr y =>
    have h1 : y ∈ txts := h
    simp only [List.mem_cons, List.not_mem_nil, or_false] at h1
    rcases h1 with rfl | rfl | rfl | rfl | rfl | rfl <;> kernel_rfl
theorem quiet : ∀ (ts : List Tk) (a : Option Tk), (∀ t ∈ ts, TkOk t) → GoodFrom a ts → noQQ ((ts.map tkText).flatMap fun x => x.cps.toList) = true ∧
    (((ts.map tkText).flatMap fun x => x.cps.toList).head? = some 39 → ∃ t r, ts = t :: r ∧ isChr t = true)
  | [], _, _, _ => ⟨rfl, fun h => by cases h⟩
  | t :: r, a, h, g => by
    obtain ⟨q1, q2⟩ := quiet r (some t) (fun u hu => h u (.tail _ hu)) g.2
    have hc := tok_chk (h t (.head _))
    simp only [tokChk, Bool.and_eq_true] at hc
    obtain ⟨⟨⟨c1, c2⟩, c3⟩, c4⟩ := hc
    rw [List.map_cons, List.flatMap_cons]
    refine ⟨noQQ_append c1 q1 ?_, fun hh => ?_⟩
    · rintro ⟨e1, e2⟩
      obtain ⟨t', r', rfl, ht'⟩ := q2 e2
      cases t with
      | fld c n =>
        simp only [isChr, Bool.false_or, Bool.and_eq_true] at c4
        rw [e1] at c4
        exact absurd c4.2 (by decide)
      | chr x =>
        cases t' with
        | fld _ _ => cases ht'
        | chr y => exact g.2.1.elim
    · refine ⟨t, r, rfl, ?_⟩
      cases t with
      | chr x => rfl
      | fld c n =>
        simp only [isChr, Bool.false_or, Bool.and_eq_true] at c4
        cases hl : (tkText (.fld c n)).cps.toList with
        | nil => rw [hl] at c2; cases c2
        | cons x l =>
          rw [hl] at hh c4
          simp only [List.cons_append, List.head?_cons] at hh c4
          rw [hh] at c4
          exact absurd c4.1 (by decide)
theorem written_qq {ts : List Tk} (h : ∀ t ∈ ts, TkOk t) (g : GoodFrom none ts) : (Builtin.Str.occurrences (writtenT ts) (Str.ofString "''") 0 (writtenT ts).length ((writtenT ts).length + 1)).isEmpty = true := by
  refine occ_none fun i _ => ?_
  rw [StrLaws.subAt_eq, beq_eq_false_iff_ne]
  have := noQQ_at (quiet ts none h g).1 i
  rw [← written_cps] at this
  have e2 : (Str.ofString "''").cps.toList = [39, 39] := by decide
  have e3 : (Str.ofString "''").length = 2 := by decide
  rw [e2]
  simpa [e3] using this
theorem written_nul {ts : List Tk} (h : ∀ t ∈ ts, TkOk t) : ∀ c ∈ (writtenT ts).cps, c ≠ 0 := by
  intro c hc
  have hc' : c ∈ (writtenT ts).cps.toList := by simpa using hc
  rw [written_cps] at hc'
  obtain ⟨x, hx, hcx⟩ := List.mem_flatMap.mp hc'
  obtain ⟨t, ht, rfl⟩ := List.mem_map.mp hx
  have hk := tok_chk (h t ht)
  simp only [tokChk, Bool.and_eq_true] at hk
  have := List.all_eq_true.mp hk.1.2 c hcx
  simpa using this
/-- the parts' texts joined are the whole text -/
theorem parts_join (ts : List Tk) : (partsOf ts).flatten = ts := by
  have key : ∀ (ts : List Tk) (S : PS), ((ts.foldl pstep S).done ++ [(ts.foldl pstep S).cur]).flatten = (S.done ++ [S.cur]).flatten ++ ts := by
    intro ts
    induction ts with
    | nil => intro S; simp
    | cons t r ih =>
      intro S
      rw [List.foldl_cons, ih]
      cases t with
      | chr x => simp [pstep]
      | fld c n =>
        unfold pstep
        dsimp only
        split <;> simp
  have := key ts pinit
  simpa [partsOf, pfold, pinit] using this
theorem joined (ts : List Tk) : Txt.join (Str.ofString "") ((partsOf ts).map writtenT) = writtenT ts := by
  have h1 := join_cps ((partsOf ts).map writtenT)
  have h2 := written_cps ts
  have h3 : (((partsOf ts).map writtenT).flatMap fun x => x.cps.toList) = (ts.map tkText).flatMap fun x => x.cps.toList := by
    conv => rhs; rw [← parts_join ts]
    rw [List.map_flatten, List.flatMap_def, List.flatMap_def, List.map_map, List.map_flatten, List.flatten_flatten]
    congr 1
    rw [List.map_map, List.map_map]
    apply List.map_congr_left
    intro p _
    simp only [Function.comp]
    rw [written_cps, List.flatMap_def]
  rw [h3, ← h2] at h1
  have : (Txt.join (Str.ofString "") ((partsOf ts).map writtenT)).cps = (writtenT ts).cps := Array.toList_inj.mp h1
  cases h4 : Txt.join (Str.ofString "") ((partsOf ts).map writtenT)
  cases h5 : writtenT ts
  rw [h4, h5] at this
  exact congrArg Str.mk this
end Mine

end
section
open PySem PySem.W PyProof.Rows PySem.Calls
namespace Mine
set_option maxRecDepth 100000
/-- what the law's loop bears -/
def LawJ (pa r P : Addr) (ps : Array Value) (cst : List (Addr × Obj)) (S : PS) (i : Nat) (m : Str → Option Value) (nx : List (Addr × Obj)) : Prop :=
  m (Str.ofString "parts") = some (.ref pa) ∧ m (Str.ofString "tokens") = some (.ref r) ∧ ∃ (pv cv ss : List Value) (seenL : List Str) (lc sa : Addr) (rest : List (Addr × Obj)) (np nl n2 : Nat),
    m (Str.ofString "seen") = some (.ref sa) ∧ nx = (pa, listOf (pv ++ [Value.ref lc]).toArray np) :: (lc, listOf cv.toArray nl) :: (P, tabO ps) :: (sa, listOf ss.toArray n2) :: rest ∧
    @Ne Nat pa lc ∧ @Ne Nat P lc ∧ @Ne Nat sa pa ∧ @Ne Nat sa lc ∧ @Ne Nat sa P ∧ OwnOff rest [pa, lc, P] ∧
    PsIn (rest ++ cst) pv S.done ∧ TksIn (rest ++ cst) cv S.cur ∧ StrsAre ss seenL ∧ (∀ k, S.seen k = true ↔ k ∈ seenL) ∧ seenL.length ≤ i

section
variable {g : Heap} {L pa lc P I D l' r sa : Addr} {s' s₂ : Shared} {m' : Str → Option Value} {tv pv cv ss : List Value} {np nl n2 i : Nat} {oI : Obj} {ps : Array Value} {rest cst led : List (Addr × Obj)} {done : List (List Tk)} {cur : List Tk} {seen' : Str → Bool} {t : Tk} {seenL : List Str}
/-- a turn's end, no new part -/
theorem lawEndB (F' : Fr g L s'.heap m') (N' : News g L s'.heap led) (mD : (D, tupO tv 0) ∈ led) (mpa : (pa, listOf (pv ++ [Value.ref lc]).toArray np) ∈ led) (mlc : (lc, listOf (cv.toArray.push (.ref D)) nl) ∈ led) (mP : (P, tabO ps) ∈ led) (msa : (sa, listOf ss.toArray n2) ∈ led) (mI : (I, oI) ∈ led)
    (hled : ∀ p ∈ rest ++ cst, p ∈ led) (m1 : m' (Str.ofString "parts") = some (.ref pa)) (m2 : m' (Str.ofString "tokens") = some (.ref r)) (m3 : m' (Str.ofString "seen") = some (.ref sa)) (d1 : @Ne Nat pa lc) (d3 : @Ne Nat P lc) (d4 : @Ne Nat sa pa) (d5 : @Ne Nat sa lc) (d6 : @Ne Nat sa P)
    (e1 : @Ne Nat pa I) (e3 : @Ne Nat lc I) (e4 : @Ne Nat P I) (e5 : @Ne Nat sa I) (hsc : ∀ q ∈ cst, q.1 ≠ sa) (O : OwnOff (rest ++ cst) [pa, lc, P, I]) (hrc : ∀ p ∈ rest, ∀ q ∈ cst, p.1 ≠ q.1)
    (l1 : @LT.lt Nat _ pa D) (l3 : @LT.lt Nat _ lc D) (l4 : @LT.lt Nat _ P D) (l5 : @LT.lt Nat _ I D) (hal : AllLt D (rest ++ cst)) (hPs : PsIn (rest ++ cst) pv done) (hTk : TksIn (rest ++ cst) cv cur)
    (hS : StrsAre ss seenL) (hk : ∀ k, seen' k = true ↔ k ∈ seenL) (hn : seenL.length ≤ i) (hnew : TkIn ((D, tupO tv 0) :: (rest ++ cst)) (.ref D) t) (os : s'.os = s₂.os) (G : AllBare s'.gens) :
    TurnEndG g L (LawJ pa r P ps cst ⟨done, cur ++ [t], seen'⟩ i) ((I, oI) :: cst) s₂ .next s' := by
  have mono : ∀ p ∈ rest ++ cst, p ∈ (D, tupO tv 0) :: rest ++ cst := fun p hp => .tail _ hp
  rw [push_list] at mlc
  refine ⟨rfl, os, G, m', (pa, listOf (pv ++ [Value.ref lc]).toArray np) :: (lc, listOf (cv ++ [Value.ref D]).toArray nl) :: (P, tabO ps) :: (sa, listOf ss.toArray n2) :: (D, tupO tv 0) :: rest, F', ?_, ?_, m1, m2,
    pv, cv ++ [Value.ref D], ss, seenL, lc, sa, (D, tupO tv 0) :: rest, np, nl, n2, m3, rfl, d1, d3, d4, d5, d6, ?_, hPs.mono mono, (hTk.mono mono).append (.cons hnew .nil), hS, hk, hn⟩
  · intro p hp
    refine N' p ?_
    simp only [List.mem_append, List.mem_cons] at hp
    rcases hp with (rfl | rfl | rfl | rfl | rfl | h) | rfl | h
    · exact mpa
    · exact mlc
    · exact mP
    · exact msa
    · exact mD
    · exact hled p (List.mem_append_left _ h)
    · exact mI
    · exact hled p (List.mem_append_right _ h)
  · intro p hp q hq
    simp only [List.mem_cons] at hp
    rcases List.mem_cons.mp hq with rfl | hq
    · rcases hp with rfl | rfl | rfl | rfl | rfl | h
      · exact e1
      · exact e3
      · exact e4
      · exact e5
      · exact Nat.ne_of_gt l5
      · exact O p (List.mem_append_left _ h) I (by simp)
    · have hq2 := O q (List.mem_append_right _ hq)
      rcases hp with rfl | rfl | rfl | rfl | rfl | h
      · exact Ne.symm (hq2 _ (by simp))
      · exact Ne.symm (hq2 _ (by simp))
      · exact Ne.symm (hq2 _ (by simp))
      · exact Ne.symm (hsc q hq)
      · exact Nat.ne_of_gt (allLt_mem hal q (List.mem_append_right _ hq))
      · exact hrc p h q hq
  · intro p hp b hb
    simp only [List.mem_cons, List.not_mem_nil, or_false] at hb
    rcases List.mem_cons.mp hp with rfl | hp
    · rcases hb with rfl | rfl | rfl
      · exact Nat.ne_of_gt l1
      · exact Nat.ne_of_gt l3
      · exact Nat.ne_of_gt l4
    · refine O p (List.mem_append_left _ hp) b ?_
      simp only [List.mem_cons, List.not_mem_nil, or_false]
      rcases hb with h | h | h <;> simp [h]
/-- a turn's end, a new part -/
theorem lawEndA {n1 : Nat} (F' : Fr g L s'.heap m') (N' : News g L s'.heap led) (mD : (D, tupO tv 0) ∈ led) (mpa : (pa, listOf (pv ++ [Value.ref lc] ++ [Value.ref l']).toArray np) ∈ led) (mlc : (lc, listOf cv.toArray nl) ∈ led) (ml : (l', listOf (#[].push (Value.ref D)) n1) ∈ led) (mP : (P, tabO ps) ∈ led) (msa : (sa, listOf ss.toArray n2) ∈ led) (mI : (I, oI) ∈ led)
    (hled : ∀ p ∈ rest ++ cst, p ∈ led) (m1 : m' (Str.ofString "parts") = some (.ref pa)) (m2 : m' (Str.ofString "tokens") = some (.ref r)) (m3 : m' (Str.ofString "seen") = some (.ref sa)) (d1 : @Ne Nat pa lc) (d3 : @Ne Nat P lc) (d4 : @Ne Nat sa pa) (d6 : @Ne Nat sa P) (d7 : @Ne Nat sa l')
    (e1 : @Ne Nat pa I) (e3 : @Ne Nat lc I) (e4 : @Ne Nat P I) (e5 : @Ne Nat sa I) (hsc : ∀ q ∈ cst, q.1 ≠ sa) (O : OwnOff (rest ++ cst) [pa, lc, P, I]) (hrc : ∀ p ∈ rest, ∀ q ∈ cst, p.1 ≠ q.1)
    (l1 : @LT.lt Nat _ pa l') (l3 : @LT.lt Nat _ lc l') (l4 : @LT.lt Nat _ P l') (l5 : @LT.lt Nat _ I l') (hD : @LT.lt Nat _ l' D) (hal : AllLt l' (rest ++ cst)) (hPs : PsIn (rest ++ cst) pv done) (hTk : TksIn (rest ++ cst) cv cur)
    (hS : StrsAre ss seenL) (hk : ∀ k, seen' k = true ↔ k ∈ seenL) (hn : seenL.length ≤ i) (hnew : TkIn ((D, tupO tv 0) :: (rest ++ cst)) (.ref D) t) (os : s'.os = s₂.os) (G : AllBare s'.gens) :
    TurnEndG g L (LawJ pa r P ps cst ⟨done ++ [cur], [t], seen'⟩ i) ((I, oI) :: cst) s₂ .next s' := by
  have q1 : @LT.lt Nat _ pa D := Nat.lt_trans l1 hD
  have q4 : @LT.lt Nat _ P D := Nat.lt_trans l4 hD
  have q5 : @LT.lt Nat _ I D := Nat.lt_trans l5 hD
  have mono : ∀ p ∈ rest ++ cst, p ∈ (D, tupO tv 0) :: (lc, listOf cv.toArray nl) :: rest ++ cst := fun p hp => .tail _ (.tail _ hp)
  have ml' : (l', listOf [Value.ref D].toArray n1) ∈ led := by simpa using ml
  refine ⟨rfl, os, G, m', (pa, listOf ((pv ++ [Value.ref lc]) ++ [Value.ref l']).toArray np) :: (l', listOf [Value.ref D].toArray n1) :: (P, tabO ps) :: (sa, listOf ss.toArray n2) :: (D, tupO tv 0) :: (lc, listOf cv.toArray nl) :: rest, F', ?_, ?_, m1, m2,
    pv ++ [Value.ref lc], [Value.ref D], ss, seenL, l', sa, (D, tupO tv 0) :: (lc, listOf cv.toArray nl) :: rest, np, n1, n2, m3, rfl, Nat.ne_of_lt l1, Nat.ne_of_lt l4, d4, d7, d6, ?_, (hPs.mono mono).snoc (.tail _ (.head _)) (hTk.mono mono), .cons (hnew.mono (fun p hp => ?_)) .nil, hS, hk, hn⟩
  · intro p hp
    refine N' p ?_
    simp only [List.mem_append, List.mem_cons] at hp
    rcases hp with (rfl | rfl | rfl | rfl | rfl | rfl | h) | rfl | h
    · exact mpa
    · exact ml'
    · exact mP
    · exact msa
    · exact mD
    · exact mlc
    · exact hled p (List.mem_append_left _ h)
    · exact mI
    · exact hled p (List.mem_append_right _ h)
  · intro p hp q hq
    simp only [List.mem_cons] at hp
    rcases List.mem_cons.mp hq with rfl | hq
    · rcases hp with rfl | rfl | rfl | rfl | rfl | rfl | h
      · exact e1
      · exact Nat.ne_of_gt l5
      · exact e4
      · exact e5
      · exact Nat.ne_of_gt q5
      · exact e3
      · exact O p (List.mem_append_left _ h) I (by simp)
    · have hq2 := O q (List.mem_append_right _ hq)
      have hq3 := allLt_mem hal q (List.mem_append_right _ hq)
      rcases hp with rfl | rfl | rfl | rfl | rfl | rfl | h
      · exact Ne.symm (hq2 _ (by simp))
      · exact Nat.ne_of_gt hq3
      · exact Ne.symm (hq2 _ (by simp))
      · exact Ne.symm (hsc q hq)
      · exact Nat.ne_of_gt (Nat.lt_trans hq3 hD)
      · exact Ne.symm (hq2 _ (by simp))
      · exact hrc p h q hq
  · intro p hp b hb
    simp only [List.mem_cons, List.not_mem_nil, or_false] at hb
    rcases List.mem_cons.mp hp with rfl | hp
    · rcases hb with rfl | rfl | rfl
      · exact Nat.ne_of_gt q1
      · exact Nat.ne_of_gt hD
      · exact Nat.ne_of_gt q4
    · rcases List.mem_cons.mp hp with rfl | hp
      · rcases hb with rfl | rfl | rfl
        · exact Ne.symm d1
        · exact Nat.ne_of_lt l3
        · exact Ne.symm d3
      · have h2 := O p (List.mem_append_left _ hp)
        rcases hb with rfl | rfl | rfl
        · exact h2 _ (by simp)
        · exact Nat.ne_of_lt (allLt_mem hal p (List.mem_append_left _ hp))
        · exact h2 _ (by simp)
  · rcases List.mem_cons.mp hp with h | h
    · rw [h]; exact .head _
    · exact .tail _ (.tail _ h)
end
end Mine

end
section
open PySem PySem.W PyProof.Rows PySem.Calls
namespace Mine
set_option maxRecDepth 100000
section
variable {prog : Program} {w : World} {A : Around} {E : Value → Shared → Prop} {s : Shared} {env : Env}
theorem assignCompG {elt iter : Expr} {x y : Str} {px py : Pos} {scope : Scope} {pos spos : Pos} {P : Addr} {Q : Flow → Shared → Prop}
    (OK : Shared → Prop) (F : Nat → Value → Prop) (hOK : ∀ (s : Shared) h' tk, OK s → (∀ o, s.heap.get? P = some o → h'.get? P = some o) → OK { s with heap := h', toks := tk })
    (hsw : swapsWith (.ListComp elt [⟨.Name x px, iter, [], 0⟩] scope pos) (some (.Name y py)) spos.line env = pure true)
    (hh : A.handled = none) (hfree : ∀ y ∈ scope.names, y.2 ≠ .free) (hcell : ∀ y ∈ scope.names, y.2 ≠ .cell) (hkind : scope.kind = .function)
    (hnames : ∀ y ∈ scope.names, y.2 = .local → scope.names.lookup y.1 = some .local) (hx : scope.names.lookup x = some .local)
    (hy : env.kindOf y = some .local) (hp : (env.scope.kind == .class || (env.scope.kind == .module && env.locals != env.globals)) = false)
    (h : wpAny (model prog w) A (eval iter env) (fun xv s₁ => ∃ ax items m, xv = .ref ax ∧ s₁.heap.IsList ax items ∧ items.size ≤ sizeLine ∧ OK s₁ ∧ ax ≠ P ∧ P < s₁.heap.objs.size ∧ env.locals ≠ P ∧ s₁.heap.Ns env.locals m ∧
      (∀ C i v (s₂ : Shared) m₂ E', items[i]? = some v → OK s₂ → s₂.heap.Ns C m₂ → m₂ x = some v → C ≠ P → s₁.heap.objs.size ≤ C → (∀ b o, b ≠ P → s₁.heap.get? b = some o → s₂.heap.get? b = some o) →
        wpAny (model prog w) A (eval elt (compEnv scope C env)) (fun y s₃ => F i y ∧ OK s₃ ∧ ∀ b o, b ≠ P → s₂.heap.get? b = some o → s₃.heap.get? b = some o) E' s₂) ∧
      (∀ D (s' : Shared) ys, s₁.heap.get? D = none → OK s' → s'.heap.PlainList D ys → ys.size = items.size → (∀ j y, ys[j]? = some y → F j y) → s'.heap.Ns env.locals (fun z => if z = y then some (.ref D) else m z) →
        (∀ b o, b ≠ P → b ≠ env.locals → s₁.heap.get? b = some o → s'.heap.get? b = some o) → Q .next s')) E s)
    (hs : ∀ x, foldedSetIterable iter env x = pure x := by intro _; rfl) :
    wpAny (model prog w) A (exec (.Assign [.Name y py] (.ListComp elt [⟨.Name x px, iter, [], 0⟩] scope pos) spos) env) Q E s := by
  rw [exec_Assign_Name_used _ _ _ _ hsw]
  refine wpAny_bind (wpAny_standAt (wpAny_bind ?_))
  show wpAny _ A (do let _ ← comprehension (.ListComp elt [⟨.Name x px, iter, [], 0⟩] scope pos) scope env _ (newList []) false (eval iter env) (some (assign (.Name y py) env))) _ _ s
  refine wpAny_bind (wpAny_mono (wpAny_comprehension_use (Q := fun _ s' => Q .next s') rfl hs hfree hkind hnames (wpAny_mono h (fun xv s₁ h₁ => ?_) fun _ _ e => e))
    (fun _ s' hq => wpAny_pure (wpAny_pure hq)) fun _ _ e => e)
  obtain ⟨ax, items, m, rfl, hl, hsz, hok, haP, hPlt, hLP, hnL, helt, hQ⟩ := h₁
  refine wpAny_pyIter_list hl (wpAny_newObj_type (hd := by size_fits) (wpAny_newFunctionEnv hcell (by intro y hy; simp at hy) (fun h₁ hns₁ hsb₁ => ?_) hkind))
  dsimp only at hns₁ hsb₁ ⊢
  obtain ⟨ol, hol, hol'⟩ := id hl
  have hax : ax < s₁.heap.objs.size := Heap.lt_size hol
  generalize hH1 : s₁.heap.push { cls := .type "list_iterator", data := .fields #[.ref ax, .int 0 0] } = H1 at hns₁ hsb₁ ⊢
  have hD : H1.objs.size = s₁.heap.objs.size + 1 := by rw [← hH1, Heap.size_push]
  generalize hH2 : H1.push { cls := .type "list", dict := none, data := .seq ([] : List Value).toArray } = H2 at hns₁ hsb₁ ⊢
  have hC : H2.objs.size = s₁.heap.objs.size + 2 := by rw [← hH2, Heap.size_push, hD]
  have hDI : H1.objs.size ≠ s₁.heap.objs.size := by rw [hD]; exact Nat.succ_ne_self _
  have hDC : H1.objs.size ≠ H2.objs.size := by rw [hD, hC]; exact Nat.ne_of_lt (Nat.lt_succ_self _)
  have hIC : s₁.heap.objs.size ≠ H2.objs.size := by rw [hC]; exact Nat.ne_of_lt (Nat.lt_succ_of_lt (Nat.lt_succ_self _))
  have below : ∀ b, b < s₁.heap.objs.size → b ≠ H2.objs.size ∧ b ≠ s₁.heap.objs.size ∧ b ≠ H1.objs.size := fun b hb =>
    ⟨by rw [hC]; exact Nat.ne_of_lt (Nat.lt_succ_of_lt (Nat.lt_succ_of_lt hb)), Nat.ne_of_lt hb, by rw [hD]; exact Nat.ne_of_lt (Nat.lt_succ_of_lt hb)⟩
  have old : ∀ b o, s₁.heap.get? b = some o → h₁.get? b = some o := fun b o e =>
    hsb₁.extBut b o (below b (Heap.lt_size e)).1 (Heap.get?_push_of_some _ (hH2 ▸ Heap.get?_push_of_some _ (hH1 ▸ Heap.get?_push_of_some _ e)))
  have hit : h₁.IsListIter s₁.heap.objs.size ax 0 :=
    ⟨_, hsb₁.extBut _ _ hIC (Heap.get?_push_of_some _ (hH2 ▸ Heap.get?_push_of_some _ (hH1 ▸ Heap.get?_push_size _ rfl))), rfl, rfl⟩
  have hacc : h₁.PlainList H1.objs.size #[] := ⟨_, hsb₁.extBut _ _ hDC (Heap.get?_push_of_some _ (hH2 ▸ Heap.get?_push_size _ rfl))⟩
  have hl₁ : h₁.IsList ax items := ⟨ol, old _ _ hol, hol'⟩
  have hnew : s₁.heap.get? H1.objs.size = none := by
    cases e : s₁.heap.get? H1.objs.size with
    | none => rfl
    | some o' => have := Heap.lt_size e; rw [hD] at this; exact absurd this (Nat.not_lt.mpr (Nat.le_succ _))
  have bP := below P hPlt
  have bL := below env.locals hnL.lt
  have loop : ∀ s₂ : Shared, s₂ = { s₁ with heap := h₁, toks := s₁.toks + ([] : List (Str × Value)).length } →
      codeAny (model prog w) A (.compLoop (.ListComp elt [⟨.Name x px, iter, [], 0⟩] scope pos) 0 (.ref s₁.heap.objs.size) (.ref H1.objs.size) (compEnv scope H2.objs.size env))
        (fun r s' => match r with
          | .ok _ => wpAny (model prog w) A (assign (.Name y py) env (.ref H1.objs.size)) (fun _ s'' => ∃ m, s''.heap.Ns H2.objs.size m ∧ ∀ h', Heap.SameBut H2.objs.size s''.heap h' → Q .next { s'' with heap := h' }) E s'
          | .error x => ∃ m, s'.heap.Ns H2.objs.size m ∧ ∀ h', Heap.SameBut H2.objs.size s'.heap h' → wpAny (model prog w) A (passOn "comprehension.variables-let-go" x (compEnv scope H2.objs.size env)) (fun (_ : Value) s' => Q .next s') E { s' with heap := h' }) s₂ := by
    rintro s₂ rfl
    refine compLoopG (P := P) (cenv := compEnv scope H2.objs.size env) OK F hOK hh hx (by simp [compEnv, hkind]) hDI hDC hIC (below ax hax).2.1 (below ax hax).1 (below ax hax).2.2 haP bP.2.1 bP.2.2 bP.1
      (hOK s₁ h₁ _ hok fun o e => old P o e) hit hl₁ hacc hns₁
      (fun i v s₂ m₂ hv hok₂ hn hm hk => helt _ i v s₂ m₂ _ hv hok₂ hn hm (Ne.symm bP.1) (by show s₁.heap.objs.size ≤ H2.objs.size; rw [hC]; exact Nat.le_add_right _ _) fun b o hbP e => hk b o (below b (Heap.lt_size e)).1 (below b (Heap.lt_size e)).2.1 (below b (Heap.lt_size e)).2.2 hbP (old b o e)) (fun s' m' ys hok' hn ha hys hF hk => ?_) hsz
    have hn' : s'.heap.Ns env.locals m := hnL.at' fun o e => hk _ o bL.1 bL.2.1 bL.2.2 hLP (old _ o e)
    refine wpAny_assign_Name (wpAny_storeName_local hy hn' (fun h₂ hn₂ hs₂ => ?_) hp)
    refine ⟨m', hn.sameBut hs₂ (Ne.symm bL.1), fun h₃ hs₃ => ?_⟩
    exact hQ _ _ ys hnew (hOK s' h₃ (s'.toks + 1) hok' fun o e => hs₃.extBut P o bP.1 (hs₂.extBut P o (Ne.symm hLP) e)) ((ha.extBut hs₂.extBut (Ne.symm bL.2.2)).extBut hs₃.extBut hDC) hys hF (hn₂.sameBut hs₃ bL.1) fun b o hbP hbL e =>
      hs₃.extBut b o (below b (Heap.lt_size e)).1 (hs₂.extBut b o hbL (hk b o (below b (Heap.lt_size e)).1 (below b (Heap.lt_size e)).2.1 (below b (Heap.lt_size e)).2.2 hbP (old b o e)))
  exact codeAny_compStart_list (loop _ rfl) (wpAny_pyIter_listiter hit (loop _ rfl))
end
end Mine

end
section
open PySem PySem.W PyProof.Rows PySem.Calls
namespace Mine
set_option maxRecDepth 100000
theorem es_canLayAll0 : ∀ ns : List Str, (∀ x ∈ ns, PyData.strOk x = true) → PyData.canLayAll0 (ns.map PyData.str) = true
  | [], _ => rfl
  | a :: r, h => by simp [PyData.canLayAll0, PyData.canLay0, h a (.head _), es_canLayAll0 r fun x hx => h x (.tail _ hx)]
theorem es_depthAll : ∀ ns : List Str, PyData.depthAll (ns.map PyData.str) = 0
  | [] => rfl
  | _ :: r => by simp [PyData.depthAll, PyData.depth, es_depthAll r]
theorem es_shaped (ns : List Str) (h : ∀ x ∈ ns, PyData.strOk x = true) : SeqAt.shaped (.list (ns.map PyData.str)) = true := by
  simp [SeqAt.shaped, PyData.canLay0, PyData.depth, es_canLayAll0 ns h, es_depthAll]
theorem es_sameAll : ∀ ns : List Str, PySem.Spec.sameAll (ns.map PyData.str) (ns.map PyData.str) = true
  | [] => by simp [PySem.Spec.sameAll]
  | a :: r => by simp only [List.map_cons, PySem.Spec.sameAll, PySem.Spec.same, es_sameAll r]; simp
theorem es_same (ns : List Str) : PySem.Spec.same (.list (ns.map PyData.str)) (.list (ns.map PyData.str)) = true := by
  simp only [PySem.Spec.same]; exact es_sameAll ns
theorem es_carried : ∀ {vs : List Value} {ns : List Str}, StrsAre vs ns → CarriedAll vs (ns.map PyData.str)
  | _, _, .nil => .nil
  | _, _, .cons _ t r => .cons (.str _ t) (es_carried r)
theorem tok_strOk {t : Tk} (h : TkOk t) : (tkText t).cps.toList.all (fun c => decide (c < 0x110000)) = true := by
  cases t with
  | fld c n =>
    obtain ⟨h1, h2, h3⟩ := h
    simp only [List.mem_cons, List.not_mem_nil, or_false] at h1
    rcases h1 with rfl | rfl | rfl | rfl <;> rcases int3 h2 h3 with rfl | rfl | rfl <;> kernel_rfl
  | chr y =>
    have h1 : y ∈ txts := h
    simp only [List.mem_cons, List.not_mem_nil, or_false] at h1
    rcases h1 with rfl | rfl | rfl | rfl | rfl | rfl <;> kernel_rfl
theorem written_strOk {ts : List Tk} (h : ∀ t ∈ ts, TkOk t) : PyData.strOk (writtenT ts) = true := by
  unfold PyData.strOk
  rw [← Array.all_toList, written_cps, List.all_eq_true]
  intro c hc
  obtain ⟨x, hx, hcx⟩ := List.mem_flatMap.mp hc
  obtain ⟨t, ht, rfl⟩ := List.mem_map.mp hx
  exact List.all_eq_true.mp (tok_strOk (h t ht)) c hcx
section
variable {prog : Program} {w : World} {A : Around} {E : Value → Shared → Prop} {s : Shared} {a b : Addr} {xs ys : List Value} {ns : List Str} {Q : Value → Shared → Prop}
theorem es_eq (ha : s.heap.IsList a xs.toArray) (hb : s.heap.IsList b ys.toArray) (hi : StrsAre xs ns) (hj : StrsAre ys ns) (hok : ∀ x ∈ ns, PyData.strOk x = true) (hu : A.units + 64 < cLine) (h : Q (.bool true) s) :
    wpAny (model prog w) A (compareOp .Eq (.ref a) (.ref b)) Q E s :=
  eq_dataH_same (reads_newData ha (es_carried hi)) (reads_newData hb (es_carried hj)) (es_shaped _ hok) (es_shaped _ hok) hu (SeqAt.noMix_of_shape (.list .str) rfl _ _ (list_map_has fun _ => rfl) (list_map_has fun _ => rfl)) (by rw [es_same]; exact h)
end
end Mine

end
section
open PySem PySem.W PyProof.Rows PySem.Calls
namespace Mine
set_option maxRecDepth 100000
set_option maxHeartbeats 8000000
local macro_rules | `(tactic| ktr_unf) => `(tactic| repeat' (first | ((fail_if_success (with_reducible show wpAny _ _ (exec (Stmt.For _ _ _ _ _) _) _ _ _)); (fail_if_success (with_reducible show wpAny _ _ (eval (Expr.ListComp _ _ _ _) _) _ _ _)); (fail_if_success (with_reducible show wpAny _ _ (exec (Stmt.Assign _ (Expr.ListComp _ _ _ _) _) _) _ _ _)); (fail_if_success (with_reducible show wpAny _ _ (call (Value.ref _) _) _ _ _)); (fail_if_success (with_reducible show wpAny _ _ (compareOp CmpOp.Eq (Value.ref _) (Value.ref _)) _ _ _)); first | ((with_reducible show wpAny _ _ (callWith _ (Prod.fst _) _ _ _) _ _ _); dsimp only; refine callWith_method1 ?_) | walk1 | (dsimp only; walk1)) | fail "stop"))
local macro_rules | `(tactic| size_fits) => `(tactic| (rw [sizeLine_eq]; simp only [List.size_toArray, List.length_append, List.length_cons, List.length_nil, Array.size_push, Array.size_append]; omega))
local macro_rules | `(tactic| walk_at "call builtin:str.join") => `(tactic| (refine join_listW (News.isList (by assumption) (by k_mem)) (by assumption) (by decide) (by assumption) ?_; intro _ _))
local macro_rules | `(tactic| walk_at "subscriptTail Name UnaryOp ref int") => `(tactic| (k_dflt (first | refine itemLast (by assumption) (by k_mem) ?_ | refine itemLastP (by assumption) (by k_mem) ?_)))

theorem weight {pts : List (List Tk)} (h : ∀ p ∈ pts, p.length ≤ 16 ∧ ∀ t ∈ p, TkOk t) (hl : pts.length ≤ 17) : ((pts.map writtenT).map (·.length)).sum + (pts.map writtenT).length ≤ 1048576 := by
  have key : ∀ pts : List (List Tk), (∀ p ∈ pts, p.length ≤ 16 ∧ ∀ t ∈ p, TkOk t) → ((pts.map writtenT).map (·.length)).sum ≤ 112 * pts.length := by
    intro pts
    induction pts with
    | nil => intro _; simp
    | cons t r ih =>
      intro h
      have h1 := ih fun u hu => h u (.tail _ hu)
      have h2 := writtenT_len (h t (.head _)).2
      have h3 := (h t (.head _)).1
      simp only [List.map_cons, List.sum_cons, List.length_cons]
      omega
  have := key pts h
  rw [List.length_map]
  omega
theorem addSeen {prog : Program} {w : World} {A : Around} {E : Value → Shared → Prop} {s : Shared} {g : Heap} {L : Addr} {m : Str → Option Value} {news : List (Addr × Obj)} {a b : Addr} {ss : List Value} {v : Value} {n n' : Nat} {Q : Value → Shared → Prop}
    (F : Fr g L s.heap m) (N : News g L s.heap news) (ha : (a, listOf ss.toArray n) ∈ news) (hb : (b, listOf #[v] n') ∈ news)
    (h : ∀ D h', Fr g L h' m → News g L h' ((D, listOf (ss ++ [v]).toArray 0) :: news) → (∀ p ∈ news, p.1 < D) → Q (.ref D) { s with heap := h' }) (hz : ss.length + 1 ≤ 1000) : wpAny (model prog w) A (binaryOp .Add (.ref a) (.ref b)) Q E s :=
  kmk_add_lit F N (News.isList N ha) (News.isList N hb) (zs := ss ++ [v]) (by simp) h (by rw [sizeLine_eq]; simp; omega)
local macro_rules | `(tactic| walk_at "binaryOp Add ref ref") => `(tactic| (k_dflt (refine' addSeen (by assumption) (by assumption) (by k_mem) (by k_mem) ?_ ?z; (case z => first | omega | (simp; done))); intro D' h' F' N' l1; (try k_lt l1); (try k_sweep)))
theorem law_spec : ∀ {w : World} {dp un : Nat} {fr : Option (List Env)} {gd : Option (List Code)} {E : Value → Shared → Prop} {s : Shared} {loose : List Str} {mg mb mq : Str → Option Value} {bm P : Addr} {ob : Obj} {ps : Array Value} {l : Addr} {vs : List Value} {ns : List Int} {Q : Value → Shared → Prop},
   (hd.heap_39 w.params).In s.heap → TopRead hd.view_39 loose mg mb s.heap → BMod s.heap mainGlobals mq bm ob → CT s.heap 73 P ps → AllBare s.gens → dp < 500 → un < 500 →
   s.heap.IsList l vs.toArray → IntsAre vs ns → ns.length ≤ 63 →
   (∀ (s' : Shared), s'.os = s.os → AllBare s'.gens → Grew 73 P s.heap s'.heap → Q (.bool true) s') →
   wpAny (model PySem.Challenge.rw_ey0008_01.row.prog w) (AA dp un fr gd) (call (.ref 105) [.ref l]) Q E s := by
  k_fill
  intro w dp un fr gd E s loose mg mb mq bm P ob ps l vs ns Q X T BM C G hd hu hl hi hlen hQ
  have hP := C.tab
  refine' enter (K := Mine.hd.heap_39 w.params) (binds := [(Str.ofString "script", .ref l)]) [(P, tabO ps)] ?m X T.nolimit ?ho ?hcd ?hr ?hb ?hl ?_ ?c2 ?c3 ?c4 ?c5
  case m => intro p hp; rw [List.mem_singleton.mp hp]; exact hP
  case ho => k_is
  case hcd => k_is
  case hr => have : recursionLimit = 1000 := rfl; show dp < recursionLimit; omega
  case hb => exact BindsTo.of_eq rfl
  case hl => exact locs rfl
  case c2 => exact rfl
  case c3 => exact rfl
  case c4 => exact rfl
  case c5 => decide
  intro g L h₁ F N st old rev
  have st' : ∀ b o, b ≠ P → s.heap.get? b = some o → g.get? b = some o := fun b o hb e => st b o (by simpa using hb) e
  have X' : (Mine.hd.heap_39 w.params).In g := K_but X hP st' T.g T.nolimit (kcl w)
  have T' : TopRead Mine.hd.view_39 loose mg mb g := T_but T hP st'
  have BM' : BMod g mainGlobals mq bm ob := M_but BM hP st'
  have hl' : g.IsList l vs.toArray := list_but hP hl st'
  have hoc : ∃ oc, s.heap.get? 73 = some oc := by
    obtain ⟨⟨o, v, a, _⟩, _⟩ := C.2
    exact ⟨o, a⟩
  obtain ⟨oc, hoc⟩ := hoc
  have hoc' := st' _ _ C.ne hoc
  have hCg : CTg g 73 P ps := C.toG rev hoc'
  have hPg : g.get? P = none := (N (P, tabO ps) (.head _)).2.2
  clear X T BM
  try dsimp only
  show wpAny _ _ _ _ _ _
  ktr_unf
  refine built_spec (upX X' F) (upT T' F) (by show dp + 1 < 700; omega) (by show un + 3 < 700; omega) (hl'.at fun o e => F.keep l o e) hi hlen fun r tv nr cst ts h3 tk3 k3 fr3 hT hok hgood hlen2 => ?_
  have F3 := fr_keeps F k3
  have N3 := news_keeps N k3
  have C3 := news_fresh F fr3
  have A3 := apart_fresh N fr3
  have N4 : News g L h3 ((P, tabO ps) :: (r, listOf tv.toArray nr) :: cst) := fun p hp => by
    rcases List.mem_cons.mp hp with rfl | hp
    · exact N3 _ (.head _)
    · exact C3 p hp
  clear N N3 C3 F
  ktr_unf
  rename_i h7 tk7 lc h6 q3 pa h5 q2 sa h4 q1 D h3x q0 h2 h1 h0 F5 N5
  refine loopLed (g := g) (L := L) rfl rfl ?_
  ktr_unf
  have hlv : tv.length = ts.length := hT.length
  refine ⟨r, tv.toArray, nr, (r, listOf tv.toArray nr) :: cst, _, [(pa, listOf #[Value.ref lc] 0), (lc, listOf #[] 0), (P, tabO ps), (sa, listOf #[] 0)], fun i => LawJ pa r P ps ((r, listOf tv.toArray nr) :: cst) (pfold (ts.take i)) i, rfl, .head _, fun i v hv => ?_, G, F5, ?_, ?_,
    ⟨rfl, rfl, [], [], [], [], lc, sa, [], 0, 0, 0, rfl, rfl, by omega, by omega, by omega, by omega, by omega, fun _ h => (nomatch h), .nil, .nil, .nil, fun k => by simp [pfold, pinit], Nat.le_refl _⟩, ?_, ?_⟩
  · obtain ⟨d, _, hd'⟩ := hT.get (i := i) (v := v) (by simpa using hv)
    exact hd'.ref
  · intro p hp
    refine N5 p ?_
    simp only [List.mem_append, List.mem_cons, List.not_mem_nil, or_false] at hp ⊢
    rcases hp with (h | h | h | h) | h | h <;> simp [h]
  · intro p hp q hq
    have hq' : q.1 = r ∨ q ∈ cst := by
      rcases List.mem_cons.mp hq with rfl | hq
      · exact .inl rfl
      · exact .inr hq
    simp only [List.mem_cons, List.not_mem_nil, or_false] at hp
    rcases hp with rfl | rfl | rfl | rfl
    · rcases hq' with e | hq'
      · rw [e]; show @Ne Nat pa r; omega
      · exact Nat.ne_of_gt (allLt_mem q2.2.2.2 q hq')
    · rcases hq' with e | hq'
      · rw [e]; show @Ne Nat lc r; omega
      · exact Nat.ne_of_gt (allLt_mem q3.2.2 q hq')
    · exact A3 _ (.head _) q hq
    · rcases hq' with e | hq'
      · rw [e]; show @Ne Nat sa r; omega
      · exact Nat.ne_of_gt (allLt_mem q1.2.2.2.2 q hq')
  · rintro i v m₁ nx s₂ I oI hv ⟨m1, m2, pv, cv, ss, seenL, lc, sa, rest, np, nl, n2, m3, rfl, d1, d3, d4, d5, d6, O, hPs, hTk, hSS, hk, hn⟩ hnI hapc hcI os₂ G₂ F6 N6
    obtain ⟨d, hd1, hd'⟩ := hT.get (i := i) (v := v) (by simpa using hv)
    have hok1 := hok d (mem_of_get hd1)
    have hi' : i < ts.length := lt_of_get hd1
    have esn : pfold (ts.take (i + 1)) = pstep (pfold (ts.take i)) d := by rw [take_snoc hd1, pfold_snoc]
    dsimp only
    rw [esn]
    clear esn
    have hpk := pfold_ok (ts := ts.take i) fun t ht => hok t (List.mem_of_mem_take ht)
    have hil : (ts.take i).length ≤ 16 := by rw [List.length_take]; omega
    have hlp : pv.length ≤ 16 := by rw [hPs.length]; exact Nat.le_trans hpk.d hil
    have hlc : cv.length ≤ 16 := by rw [hTk.length]; exact Nat.le_trans hpk.c hil
    generalize pfold (ts.take i) = S at *
    have O5 : OwnOff (rest ++ (r, listOf tv.toArray nr) :: cst) [pa, lc, P, I] := fun p hp b hb => by
      simp only [List.mem_cons, List.not_mem_nil, or_false] at hb
      rcases List.mem_append.mp hp with h | h
      · rcases hb with e | e | e | e <;> rw [e]
        · exact O p h _ (by simp)
        · exact O p h _ (by simp)
        · exact O p h _ (by simp)
        · exact hnI p (by simp [h])
      · rcases hb with e | e | e | e <;> rw [e]
        · exact Ne.symm (hapc (pa, _) (.head _) p h)
        · exact Ne.symm (hapc (lc, _) (.tail _ (.head _)) p h)
        · exact Ne.symm (hapc (P, _) (.tail _ (.tail _ (.head _))) p h)
        · exact hcI p h
    have hsc : ∀ q ∈ (r, listOf tv.toArray nr) :: cst, q.1 ≠ sa := fun q hq => Ne.symm (hapc (sa, _) (.tail _ (.tail _ (.tail _ (.head _)))) q hq)
    have hrc : ∀ p ∈ rest, ∀ q ∈ (r, listOf tv.toArray nr) :: cst, p.1 ≠ q.1 := fun p hp q hq => hapc p (.tail _ (.tail _ (.tail _ (.tail _ hp)))) q hq
    have e1 : @Ne Nat pa I := hnI _ (.head _)
    have e3 : @Ne Nat lc I := hnI _ (.tail _ (.head _))
    have e4 : @Ne Nat P I := hnI _ (.tail _ (.tail _ (.head _)))
    have e5 : @Ne Nat sa I := hnI _ (.tail _ (.tail _ (.tail _ (.head _))))
    have f2 : @Ne Nat P pa := by omega
    have F7 : Fr g L s₂.heap (fun y => if y = Str.ofString "parts" then some (.ref pa) else if y = Str.ofString "seen" then some (.ref sa) else if y = Str.ofString "tokens" then some (.ref r) else m₁ y) :=
      Fr.congr F6 fun y => by
        (repeat' split) <;> (try subst_vars) <;> (first | assumption | exact Eq.symm (by assumption) | rfl)
    have sub : ∀ (l : List (Addr × Obj)), (∀ p ∈ l, p ∈ cst) → ∀ p ∈ (pa, listOf (pv ++ [Value.ref lc]).toArray np) :: (lc, listOf cv.toArray nl) :: (P, tabO ps) :: (sa, listOf ss.toArray n2) :: (I, oI) :: (l ++ (rest ++ (r, listOf tv.toArray nr) :: cst)),
        s₂.heap.get? p.1 = some p.2 ∧ p.1 ≠ L ∧ g.get? p.1 = none := fun l hl p hp => N6 p (by
      simp only [List.mem_cons, List.mem_append] at hp ⊢
      rcases hp with h | h | h | h | h | h | h | h | h <;> first | (simp [h]; done) | exact .inr (.inr (.inr (hl p h))))
    have hls : ss.length ≤ 16 := by rw [strsAre_len hSS]; omega
    have hlsL : seenL.length ≤ 16 := by omega
    cases hd' with
    | fld ma mb =>
      rename_i a b t1 t2 t3 k1 k2 c n'
      have N8 : News g L s₂.heap ((pa, listOf (pv ++ [Value.ref lc]).toArray np) :: (lc, listOf cv.toArray nl) :: (P, tabO ps) :: (sa, listOf ss.toArray n2) :: (I, oI) :: (a, tupO [.str (Str.ofString "field") t1, .ref b] k1) :: (b, tupO [.str c t2, .int n' t3] k2) :: (rest ++ (r, listOf tv.toArray nr) :: cst)) :=
        sub [_, _] fun p hp => by
          simp only [List.mem_cons, List.not_mem_nil, or_false] at hp
          rcases hp with rfl | rfl
          · exact ma
          · exact mb
      have a1 : @Ne Nat pa a := hapc (pa, _) (.head _) (a, _) (.tail _ ma)
      have a3 : @Ne Nat lc a := hapc (lc, _) (.tail _ (.head _)) (a, _) (.tail _ ma)
      have b1 : @Ne Nat pa b := hapc (pa, _) (.head _) (b, _) (.tail _ mb)
      have b3 : @Ne Nat lc b := hapc (lc, _) (.tail _ (.head _)) (b, _) (.tail _ mb)
      clear N6 F6 N5 F5 sub O
      generalize hbig : rest ++ (r, listOf tv.toArray nr) :: cst = big at *
      ktr_unf
      · rename_i hany _ ln _ w4 _ _ lz _ _ _ _ _ lq _ _ D1 _ w1 _ _ D0 _ w0 _ F9 N9
        subst hbig
        have hin : c ∈ seenL := by
          obtain ⟨x, hx, e⟩ := List.any_eq_true.mp hany
          have : x = c := by simpa using e
          rwa [← this]
        rw [show pstep S (.fld c n') = ⟨S.done ++ [S.cur], [.fld c n'], fun k => false || decide (k = c)⟩ from if_pos ((hk c).mpr hin)]
        exact lawEndA (seenL := [c]) (l' := ln) (D := D0) (sa := D1) F9 N9 (by k_mem) (by k_mem) (by k_mem) (by k_mem) (by k_mem) (by k_mem) (by k_mem) (fun p hp => by repeat (first | exact hp | refine List.Mem.tail _ ?_)) rfl rfl rfl d1 d3 (by omega) (by omega) (by omega)
          e1 e3 e4 (by omega) (fun q hq => Nat.ne_of_lt (allLt_mem w1.2.2.2.2.2.2.2.2.2.2 q (List.mem_append_right _ hq))) O5 hrc (by omega) (by omega) (by omega) (by omega) (by omega) w4.2.2.2.2.2.2.2 hPs hTk (.cons _ _ .nil) (fun k => by simp) (by simp)
          (.fld (.head _) (.tail _ (List.mem_append_right _ (.tail _ mb)))) rfl G₂
      · rename_i hany _ _ lq _ _ D1 _ w1 _ _ D0 _ w0 _ F9 N9
        subst hbig
        have hin : ¬ S.seen c = true := fun hs => by
          have hm := (hk c).mp hs
          have : (seenL.any fun x => x == c) = true := List.any_eq_true.mpr ⟨c, hm, by simp⟩
          rw [hany] at this; cases this
        rw [show pstep S (.fld c n') = ⟨S.done, S.cur ++ [.fld c n'], fun k => S.seen k || decide (k = c)⟩ from if_neg hin]
        exact lawEndB (seenL := seenL ++ [c]) (D := D0) (sa := D1) F9 N9 (by k_mem) (by k_mem) (by k_mem) (by k_mem) (by k_mem) (by k_mem) (fun p hp => by repeat (first | exact hp | refine List.Mem.tail _ ?_)) rfl rfl rfl d1 d3 (by omega) (by omega) (by omega)
          e1 e3 e4 (by omega) (fun q hq => Nat.ne_of_lt (allLt_mem w1.2.2.2.2.2.2.2.2 q (List.mem_append_right _ hq))) O5 hrc (by omega) (by omega) (by omega) (by omega) w0.2.2.2.2.2.2.2.2.2 hPs hTk (strsAre_app hSS (.cons _ _ .nil)) (fun k => by rw [Bool.or_eq_true, hk k, List.mem_append, List.mem_singleton, decide_eq_true_eq]) (by simp; omega)
          (.fld (.head _) (.tail _ (List.mem_append_right _ (.tail _ mb)))) rfl G₂
    | chr ma =>
      rename_i a t1 t2 k1 c
      have N8 : News g L s₂.heap ((pa, listOf (pv ++ [Value.ref lc]).toArray np) :: (lc, listOf cv.toArray nl) :: (P, tabO ps) :: (sa, listOf ss.toArray n2) :: (I, oI) :: (a, tupO [.str (Str.ofString "chars") t1, .str c t2] k1) :: (rest ++ (r, listOf tv.toArray nr) :: cst)) :=
        sub [_] fun p hp => by
          rw [List.mem_singleton.mp hp]; exact ma
      have a1 : @Ne Nat pa a := hapc (pa, _) (.head _) (a, _) (.tail _ ma)
      have a3 : @Ne Nat lc a := hapc (lc, _) (.tail _ (.head _)) (a, _) (.tail _ ma)
      clear N6 F6 N5 F5 sub O
      generalize hbig : rest ++ (r, listOf tv.toArray nr) :: cst = big at *
      ktr_unf
      rename_i D0 _ w0 _ F9 N9
      subst hbig
      exact lawEndB (seenL := seenL) (D := D0) (sa := sa) (seen' := S.seen) F9 N9 (by k_mem) (by k_mem) (by k_mem) (by k_mem) (by k_mem) (by k_mem) (fun p hp => by repeat (first | exact hp | refine List.Mem.tail _ ?_)) rfl rfl rfl d1 d3 d4 d5 d6
          e1 e3 e4 e5 hsc O5 hrc (by omega) (by omega) (by omega) (by omega) w0.2.2.2.2.2.2 hPs hTk hSS hk (by omega)
          (.chr (.head _)) rfl G₂
  · rintro s₂ m' nx os₂ G₂ F6 N6 hapc ⟨m1, m2, pv, cv, ss, seenL, lc, sa, rest, np, nl, n2, m3, rfl, d1, d3, d4, d5, d6, O, hPs, hTk, hSS, hk, hn⟩
    have etk : ts.take tv.toArray.size = ts := List.take_of_length_le (by simp [hlv])
    rw [etk] at hPs hTk
    have hpk := pfold_ok hok
    have F7 : Fr g L s₂.heap (fun y => if y = Str.ofString "parts" then some (.ref pa) else if y = Str.ofString "tokens" then some (.ref r) else m' y) :=
      Fr.congr F6 fun y => by
        (repeat' split) <;> (try subst_vars) <;> (first | assumption | exact Eq.symm (by assumption) | rfl)
    have hbigP : ∀ p ∈ (pa, listOf (pv ++ [Value.ref lc]).toArray np) :: (lc, listOf cv.toArray nl) :: (rest ++ (r, listOf tv.toArray nr) :: cst), p.1 ≠ P := by
      intro p hp
      rcases List.mem_cons.mp hp with rfl | hp
      · show @Ne Nat pa P; omega
      · rcases List.mem_cons.mp hp with rfl | hp
        · exact Ne.symm d3
        · rcases List.mem_append.mp hp with h | h
          · exact O p h P (by simp)
          · exact Ne.symm (hapc (P, _) (.tail _ (.tail _ (.head _))) p h)
    have N8 : News g L s₂.heap ((P, tabO ps) :: (pa, listOf (pv ++ [Value.ref lc]).toArray np) :: (lc, listOf cv.toArray nl) :: (rest ++ (r, listOf tv.toArray nr) :: cst)) := by
      intro p hp
      refine N6 p ?_
      simp only [List.mem_cons, List.mem_append] at hp ⊢
      rcases hp with h | h | h | h | h | h <;> simp [h]
    have NP : s₂.heap.get? P = some (tabO ps) := (N8 _ (.head _)).1
    have hAll : PsIn ((pa, listOf (pv ++ [Value.ref lc]).toArray np) :: (lc, listOf cv.toArray nl) :: (rest ++ (r, listOf tv.toArray nr) :: cst)) (pv ++ [Value.ref lc]) (partsOf ts) := (hPs.mono fun p hp => .tail _ (.tail _ hp)).snoc (.tail _ (.head _)) (hTk.mono fun p hp => .tail _ (.tail _ hp))
    have hTall : TksIn ((pa, listOf (pv ++ [Value.ref lc]).toArray np) :: (lc, listOf cv.toArray nl) :: (rest ++ (r, listOf tv.toArray nr) :: cst)) tv ts := hT.mono fun p hp => .tail _ (.tail _ (List.mem_append_right _ (.tail _ hp)))
    have mr : (r, listOf tv.toArray nr) ∈ (pa, listOf (pv ++ [Value.ref lc]).toArray np) :: (lc, listOf cv.toArray nl) :: (rest ++ (r, listOf tv.toArray nr) :: cst) := .tail _ (.tail _ (List.mem_append_right _ (.head _)))
    have mpa : (pa, listOf (pv ++ [Value.ref lc]).toArray np) ∈ (pa, listOf (pv ++ [Value.ref lc]).toArray np) :: (lc, listOf cv.toArray nl) :: (rest ++ (r, listOf tv.toArray nr) :: cst) := .head _
    have hokp : ∀ p ∈ partsOf ts, p.length ≤ 16 ∧ ∀ t ∈ p, TkOk t := by
      intro p hp
      rcases List.mem_append.mp hp with h | h
      · exact ⟨Nat.le_trans (hpk.ds p h).1 hlen2, (hpk.ds p h).2⟩
      · rw [List.mem_singleton.mp h]; exact ⟨Nat.le_trans hpk.c hlen2, hpk.cs⟩
    have hlp : (pv ++ [Value.ref lc]).length ≤ 17 := by
      rw [hAll.length]
      have := hpk.d
      simp only [partsOf, List.length_append, List.length_cons, List.length_nil]
      omega
    generalize (pa, listOf (pv ++ [Value.ref lc]).toArray np) :: (lc, listOf cv.toArray nl) :: (rest ++ (r, listOf tv.toArray nr) :: cst) = big at *
    clear N6 F6 N5 F5 O
    show wpAny _ _ _ _ _ _
    ktr_unf
    refine assignCompG (P := P) (fun s' => s'.os = s.os ∧ AllBare s'.gens ∧ s'.heap.get? P = some (tabO ps)) (fun j y => ∃ x t, ((partsOf ts).map writtenT)[j]? = some x ∧ y = .str x t) ?_ (by rfl) rfl (by decide) (by decide) rfl (by decide) rfl rfl rfl ?_
    · rintro s' h' tk' ⟨o1, o2, o3⟩ k
      exact ⟨o1, o2, k _ o3⟩
    walk1
    refine ⟨pa, _, _, rfl, News.isList N8 (.tail _ mpa), ?_, ⟨os₂, G₂, NP⟩, hbigP _ mpa, Heap.lt_size NP, Ne.symm (N8 _ (.head _)).2.1, F7.ns, ?_, ?_⟩
    · simp only [List.size_toArray]; rw [sizeLine_eq]; omega
    · rintro C i v s₃ m₃ E' hv ⟨o1, o2, o3⟩ hn' hm hCP hCge hk3
      have hgk : ∀ b o, g.get? b = some o → s₃.heap.get? b = some o := fun b o e => hk3 b o (fun z => by rw [z, hPg] at e; cases e) (F7.keep b o e)
      have F₆ : Fr g C s₃.heap m₃ := ⟨hn', hgk, Nat.le_trans F7.above (Nat.le_trans (Nat.le_of_lt F7.ns.lt) hCge)⟩
      obtain ⟨d, dvs, dn, tsd, rfl, htd, hdm, hdT⟩ := hAll.get (i := i) (v := v) (by simpa using hv)
      replace F₆ := Fr.pin F₆ hm
      obtain ⟨hl16, hokd⟩ := hokp _ (mem_of_get htd)
      refine gate fun QQ hQQ => ?_
      refine' callOneB (v := .ref d) (a := 100) F₆ X' T' (if_pos rfl) ?ke ?kk ?_ rfl rfl rfl rfl rfl (by decide) (by decide)
      case ke => k_is
      case kk => k_is
      refine written_spec (X'.keeps hgk) (T'.keeps hgk) (by show dp + 1 < 900; omega) (by show un + 3 < 900; omega) ⟨_, hk3 _ _ (hbigP _ hdm) (N8 _ (.tail _ hdm)).1, rfl, _, rfl⟩ (fun p hp => hk3 _ _ (hbigP _ hp) (N8 _ (.tail _ hp)).1) hdT hl16 hokd fun t h' tk' q1 => ?_
      exact hQQ _ _ ⟨⟨_, t, by rw [List.getElem?_map, htd]; rfl, rfl⟩, ⟨o1, o2, q1 _ _ o3⟩, fun b o _ e => q1 b o e⟩
    · rintro D s' ys hD ⟨o1, o2, o3⟩ ⟨nd, hDl⟩ hys hF hnsD hk3
      have hPL : P ≠ L := (N8 _ (.head _)).2.1
      have hgk : ∀ b o, g.get? b = some o → s'.heap.get? b = some o := fun b o e => hk3 b o (fun z => by rw [z, hPg] at e; cases e) (fun z => by
        have h1 := Heap.lt_size e
        rw [z] at h1
        exact absurd (Nat.lt_of_lt_of_le h1 F7.above) (Nat.lt_irrefl _)) (F7.keep b o e)
      have hSy : StrsAre ys.toList ((partsOf ts).map writtenT) := strs_of (by rw [List.length_map, ← hAll.length, Array.length_toList, hys, List.size_toArray]) fun j y hj => hF j y (by rw [← Array.getElem?_toList]; exact hj)
      have F9 : Fr g L s'.heap _ := ⟨hnsD, hgk, F7.above⟩
      have hDL : D ≠ L := fun e => by
        obtain ⟨o, _, _, ho, _⟩ := F7.ns
        rw [e, ho] at hD; cases hD
      have hDg : g.get? D = none := by
        cases e : g.get? D with
        | none => rfl
        | some o => rw [F7.keep _ _ e] at hD; cases hD
      have N9 : News g L s'.heap ((D, listOf ys.toList.toArray nd) :: (P, tabO ps) :: big) := by
        intro p hp
        rcases List.mem_cons.mp hp with rfl | hp
        · exact ⟨by simpa using hDl, hDL, hDg⟩
        · rcases List.mem_cons.mp hp with rfl | hp
          · exact ⟨o3, hPL, hPg⟩
          · have hz := N8 p (.tail _ hp)
            exact ⟨hk3 _ _ (hbigP _ hp) hz.2.1 hz.1, hz.2⟩
      generalize ys.toList = yl at *
      clear F7 N8 hnsD
      show wpAny _ _ _ _ _ _
      ktr_unf
      refine written_spec (upX X' F9) (upT T' F9) (by show dp + 1 < 900; omega) (by show un + 3 < 900; omega) ⟨_, (N9 _ (.tail _ (.tail _ mr))).1, rfl, _, rfl⟩ (fun p hp => (N9 p (.tail _ (.tail _ hp))).1) hTall hlen2 hok fun t1 h1 tk1 k1 => ?_
      have Fa := fr_keeps F9 k1
      have Na := news_keeps N9 k1
      clear F9 N9
      ktr_unf
      have hCa := hCg _ Fa.keep (Na (P, tabO ps) (.tail _ (.head _))).1
      refine split_spec (upX X' Fa) (upT T' Fa) (BM'.keeps Fa.keep) hCa o2 (by show dp + 1 < 700; omega) (by show un + 3 < 700; omega) ?_ (written_qq hok hgood) (written_nul hok) (tokF_written hok hgood) hlen2 hok fun told s'' zs n'' z1 z2 z3 z4 z5 z6 => ?_
      · have := writtenT_len hok
        omega
      obtain ⟨more, z7⟩ := z3.2 _ hCa
      have hgk2 : ∀ b o, g.get? b = some o → s''.heap.get? b = some o := fun b o e => z3.1 b o (fun z => by rw [z, hPg] at e; cases e) (Fa.keep b o e)
      have Fb : Fr g L s''.heap _ := ⟨Fa.ns.at fun o e => z3.1 _ o (Ne.symm hPL) e, hgk2, Fa.above⟩
      have hDP : D ≠ P := fun e => by rw [e, NP] at hD; cases hD
      have Nb : News g L s''.heap ((told, listOf zs.toArray n'') :: (D, listOf yl.toArray nd) :: (P, tabO (ps ++ more)) :: big) := by
        intro p hp
        rcases List.mem_cons.mp hp with rfl | hp
        · refine ⟨z5, fun e => ?_, ?_⟩
          · obtain ⟨o, _, _, ho, _⟩ := Fa.ns
            have e' : told = L := e
            rw [e'] at z4
            exact absurd (ho.symm.trans z4) (fun z => nomatch z)
          · cases e : g.get? told with
            | none => rfl
            | some o => exact absurd ((Fa.keep _ _ e).symm.trans z4) (fun z => nomatch z)
        · rcases List.mem_cons.mp hp with rfl | hp
          · exact ⟨z3.1 _ _ hDP (Na _ (.head _)).1, (Na _ (.head _)).2⟩
          · rcases List.mem_cons.mp hp with rfl | hp
            · exact ⟨z7.tab, hPL, hPg⟩
            · have hz := Na p (.tail _ (.tail _ hp))
              exact ⟨z3.1 _ _ (hbigP _ hp) hz.1, hz.2⟩
      have hS' : StrsAre zs.toArray.toList ((partsOf ts).map writtenT) := z6
      have hw := weight hokp (by rw [← hAll.length]; exact hlp)
      have hokS : ∀ x ∈ (partsOf ts).map writtenT, PyData.strOk x = true := fun x hx => by
        obtain ⟨p, hp, rfl⟩ := List.mem_map.mp hx
        exact written_strOk (hokp p hp).2
      have hosF : s''.os = s.os := z1.trans o1
      have hgF : Grew 73 P s.heap s''.heap := grew_of C st' hgk2 ⟨more, z7⟩
      clear Fa Na
      have hCg2 : CTg g 73 P (ps ++ more) := z7.toG hgk2 hoc'
      ktr_unf
      rename_i hE FE NE
      refine es_eq (News.isList NE (.head _)) (News.isList NE (.tail _ (.head _))) z6 hSy hokS ?_ ?_
      · have : cLine = 9900 := rfl
        show un + 3 + 64 < cLine
        omega
      ktr_unf
      rw [joined]
      refine written_spec (upX X' FE) (upT T' FE) (by show dp + 1 < 900; omega) (by show un + 3 < 900; omega) ⟨_, (NE _ (.tail _ (.tail _ (.tail _ mr)))).1, rfl, _, rfl⟩ (fun p hp => (NE p (.tail _ (.tail _ (.tail _ hp)))).1) hTall hlen2 hok fun t2 h2 tk2 k2 => ?_
      have Ff := fr_keeps FE k2
      have Nf := news_keeps NE k2
      clear FE NE
      ktr_unf
      rw [show (writtenT ts == writtenT ts) = true by simp]
      exact hQ _ hosF z2 (grew_of C st' (fun b o e => Ff.keep b o e) ⟨more, hCg2 _ (fun b o e => Ff.keep b o e) (Nf _ (.tail _ (.tail _ (.head _)))).1⟩)
end Mine

end
section
open PySem PySem.W PyProof.Rows PySem.Calls
namespace Mine
set_option maxRecDepth 100000
set_option maxHeartbeats 8000000
theorem ct_of {h : Heap} {K : Frag} {p : Program} {loose : List Str} {mean : ExcName → Option Value} {mg mb : Str → Option Value} {nm : Str} {d : DefRec} {f c : Addr}
  {name qual : Str} {params : Arguments} {body : List Stmt} {scope : Scope} {dV kV doc pm ct oc : Value} {an od : Option Addr} {osl : Array (Option Value)}
    (X : K.In h) (T : Top p loose mean mg mb h) (e : nsIn K mainGlobals nm = some (some (.ref f))) (ho : K.lookup f = some ⟨oc, od, .func (fnOf name qual params body scope dV kV doc pm an (.ref c) ct), osl⟩)
    (hf : (recsOf p).find? (fun e => e.name == nm) = some d) : ∃ P, CT h c P #[] := by
  have hm := mg_of X T.g e
  have hn : d.name = nm := beq_iff_eq.mp (List.find?_some (p := fun e : DefRec => e.name == nm) hf)
  obtain ⟨a', o', fd', c', P, h1, h2, h3, h4, h5, h6⟩ := T.tab d (List.mem_of_find?_eq_some hf)
  rw [hn, hm] at h1; cases h1
  rw [X _ _ ho] at h2; cases h2
  cases h3
  cases h4
  exact ⟨P, h5, h6⟩
theorem oldK_of {h h' : Heap} {c P : Addr} {ps : Array Value} (C : CT h c P ps) (G : Grew c P h h') (S : h.NoLimit) : OldK h h' := by
  obtain ⟨more, C'⟩ := G.2 ps C
  refine OldK.step_table (OldK.refl h) C.2 C.2 C'.2 (fun b o n e => G.1 b o n e) ?_
  obtain ⟨_, hns, _⟩ := S
  exact Ne.symm (ns_ne hns C.tab)
end Mine
set_option maxRecDepth 100000 in
set_option maxHeartbeats 8000000 in
theorem PySem.Challenge.cw_ey0008_01_holds : PySem.Challenge.rw_ey0008_01.Holds := by
  refine Mine.hd ?_
  k_fill
  intro w s₀ s₁ mg mb G Y fa o pm cd doc dV kV ho hd hcd hD hmg hg args vals as hpre hlay hrd hwl hlo
  have KX := kIn_of Y
  have X := (Ground.X G).1
  have V := (Ground.X G).2
  refine Ground.open G ?_
  intro T B D TE TW
  obtain ⟨_, _, M⟩ := bmod_of_top T
  have hfa : fa = 105 := by
    have e : nsIn (Mine.hd.heap_39 w.params) mainGlobals (Str.ofString "law") = some (some (.ref 105)) := by k_is
    have h2 := mg_of KX T.g e
    have h3 : mg (Str.ofString "law") = some (.ref fa) := hmg
    rw [h3] at h2
    cases h2
    rfl
  subst hfa
  obtain ⟨P, hCT⟩ : ∃ P, Mine.CT s₁.heap 73 P #[] := by
    refine' Mine.ct_of (K := Mine.hd.heap_39 w.params) (nm := Str.ofString "untokenize_pattern") (f := 74) KX T ?e ?ho ?hf
    case e => k_is
    case ho => k_is
    case hf => rfl
  wrow_args hpre hlay hrd hwl hlo
  refine Mine.law_spec KX (topRead_of T) M hCT (AllBare.of_eq hg) (by decide) (by decide) (by assumption) (by assumption) (by omega) fun s' q1 q2 q3 => ?_
  refine ⟨.inl ⟨.bool true, _, [], rfl, ?_, readsW_of_reads (.bool true), ?_, ?_⟩, Mine.oldK_of hCT q3 T.nolimit, q1, q2⟩
  · exact fun cls => raisesW_false (by wrow_none_raised) cls
  · exact postW_of (by wrow_shape) (by wtm_val) (by str_meet; first | done | w_fin)
  · exact fun _ => ⟨.nil, fun _ h => nomatch h⟩

end
