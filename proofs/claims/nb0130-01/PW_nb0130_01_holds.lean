import PyProof.Rows.All
import Wide.All
import OpenK.AllK
import Wide.FinOn
import PySem.Challenge.RW_nb0130_01
open PySem PySem.W PyProof.Rows
set_option Elab.async false
set_option maxRecDepth 100000
set_option maxHeartbeats 4000000
namespace Mine
open_top hd for PySem.Challenge.rw_nb0130_01

open PySem.Challenge (rw_nb0130_01)
variable {w : World} {mean : ExcName → Option Value} {mg mb : Str → Option Value}
theorem fill (w : World) (h : Heap) (X : (hd.heap_39 w.params).In h) : (hd.heap_39 w.params).In h ∧ rw_nb0130_01.row.prog = rw_nb0130_01.row.prog := by
  k_fill
  exact ⟨X, rfl⟩
section
--PURE
/-! the plain functions -/
variable {α : Type}

noncomputable def sdF (key : α → Int) (x : α) (start : Nat) : Nat → List α → Nat → List α
  | 0, xs, pos => xs.set pos x
  | f + 1, xs, pos => if start < pos then (match xs[(pos - 1) / 2]? with
      | some p => if key x < key p then sdF key x start f (xs.set pos p) ((pos - 1) / 2) else xs.set pos x
      | none => xs.set pos x) else xs.set pos x

noncomputable def siftdownF (key : α → Int) (xs : List α) (start pos : Nat) : List α := match xs[pos]? with
  | some x => sdF key x start pos xs pos
  | none => xs

/-- the child that siftup goes to -/
noncomputable def childF (key : α → Int) (xs : List α) (c : Nat) : Nat := match xs[c]?, xs[c + 1]? with
  | some a, some b => if key a < key b then c else c + 1
  | _, _ => c

noncomputable def suF (key : α → Int) : Nat → List α → Nat → List α × Nat
  | 0, xs, pos => (xs, pos)
  | f + 1, xs, pos => match xs[childF key xs (2 * pos + 1)]? with
      | some c => suF key f (xs.set pos c) (childF key xs (2 * pos + 1))
      | none => (xs, pos)

noncomputable def siftupF (key : α → Int) (xs : List α) (pos : Nat) : List α := match xs[pos]? with
  | some x => let r := suF key xs.length xs pos; siftdownF key (r.1.set r.2 x) pos r.2
  | none => xs

noncomputable def pushF (key : α → Int) (xs : List α) (x : α) : List α := siftdownF key (xs ++ [x]) 0 xs.length

/-- heappop of a list that is not empty: what is left -/
noncomputable def popF (key : α → Int) (xs : List α) : List α := match xs.getLast? with
  | some last => (match xs.dropLast with
      | [] => []
      | _ :: r => siftupF key (last :: r) 0)
  | none => []

noncomputable def replaceF (key : α → Int) (xs : List α) (x : α) : List α := siftupF key (xs.set 0 x) 0

/-- heappushpop: what goes out, what is left -/
noncomputable def pushpopF (key : α → Int) (xs : List α) (x : α) : α × List α := match xs with
  | a :: r => if key a < key x then (a, siftupF key (x :: r) 0) else (x, xs)
  | [] => (x, [])

noncomputable def heapifyF (key : α → Int) : Nat → List α → List α
  | 0, xs => xs
  | n + 1, xs => heapifyF key n (siftupF key xs n)

theorem sdF_length (key : α → Int) (x : α) (start : Nat) : ∀ (f : Nat) (xs : List α) (pos : Nat), (sdF key x start f xs pos).length = xs.length
  | 0, xs, pos => by simp [sdF]
  | f + 1, xs, pos => by
    unfold sdF
    split
    · split
      · split
        · rw [sdF_length]; simp
        · simp
      · simp
    · simp
theorem siftdownF_length (key : α → Int) (xs : List α) (start pos : Nat) : (siftdownF key xs start pos).length = xs.length := by
  unfold siftdownF; split
  · rw [sdF_length]
  · rfl
theorem suF_length (key : α → Int) : ∀ (f : Nat) (xs : List α) (pos : Nat), (suF key f xs pos).1.length = xs.length
  | 0, xs, pos => rfl
  | f + 1, xs, pos => by
    unfold suF
    split
    · rw [suF_length]; simp
    · rfl
theorem siftupF_length (key : α → Int) (xs : List α) (pos : Nat) : (siftupF key xs pos).length = xs.length := by
  unfold siftupF; split
  · simp only [siftdownF_length, List.length_set, suF_length]
  · rfl

/-- more fuel than the place changes nothing -/
theorem sdF_fuel (key : α → Int) (x : α) (start : Nat) : ∀ (f : Nat) (xs : List α) (pos : Nat), pos ≤ f → sdF key x start f xs pos = sdF key x start pos xs pos
  | f, xs, pos, h => by
    induction pos using Nat.strongRecOn generalizing f xs with
    | ind pos ih =>
      match f, pos, h with
      | 0, 0, _ => rfl
      | f + 1, 0, _ => simp [sdF]
      | f + 1, p + 1, h =>
        simp only [sdF]
        have h2 : (p + 1 - 1) / 2 < p + 1 := by lia
        split
        · split
          · split
            · rw [ih _ h2 f _ (by lia), ih _ h2 p _ (by lia)]
            · rfl
          · rfl
        · rfl

theorem sdF_step (key : α → Int) (x : α) (start : Nat) (xs : List α) (pos : Nat) (h : start < pos) {p : α} (hp : xs[(pos - 1) / 2]? = some p) (hlt : key x < key p) :
    sdF key x start pos xs pos = sdF key x start ((pos - 1) / 2) (xs.set pos p) ((pos - 1) / 2) := by
  obtain ⟨q, rfl⟩ : ∃ q, pos = q + 1 := ⟨pos - 1, by lia⟩
  rw [show sdF key x start (q + 1) xs (q + 1) = sdF key x start q (xs.set (q + 1) p) ((q + 1 - 1) / 2) by simp only [sdF, h, if_true, hp, hlt]]
  exact sdF_fuel _ _ _ _ _ _ (by lia)
theorem sdF_stop (key : α → Int) (x : α) (start : Nat) (xs : List α) (pos : Nat) (h : start < pos → ∀ p, xs[(pos - 1) / 2]? = some p → ¬ key x < key p) :
    sdF key x start pos xs pos = xs.set pos x := by
  cases pos with
  | zero => rfl
  | succ q =>
    unfold sdF
    split
    · rename_i hs
      split
      · rename_i p hp
        rw [if_neg (h hs p hp)]
      · rfl
    · rfl


theorem childF_cases (key : α → Int) (xs : List α) (c : Nat) : childF key xs c = c ∨ (childF key xs c = c + 1 ∧ c + 1 < xs.length) := by
  unfold childF
  split
  · rename_i a b h1 h2
    split
    · exact .inl rfl
    · exact .inr ⟨rfl, (List.getElem?_eq_some_iff.mp h2).1⟩
  · exact .inl rfl
theorem suF_stop (key : α → Int) (f : Nat) (xs : List α) (pos : Nat) (h : xs.length ≤ 2 * pos + 1) : suF key f xs pos = (xs, pos) := by
  cases f with
  | zero => rfl
  | succ f =>
    unfold suF
    rcases childF_cases key xs (2 * pos + 1) with e | ⟨e, h2⟩
    · rw [e, List.getElem?_eq_none h]
    · lia
theorem suF_fuel (key : α → Int) : ∀ (f g : Nat) (xs : List α) (pos : Nat), xs.length - pos ≤ f → xs.length - pos ≤ g → suF key f xs pos = suF key g xs pos
  | 0, g, xs, pos, h, _ => by rw [suF_stop _ _ _ _ (by lia), suF_stop _ _ _ _ (by lia)]
  | f + 1, 0, xs, pos, _, h => by rw [suF_stop _ _ _ _ (by lia), suF_stop _ _ _ _ (by lia)]
  | f + 1, g + 1, xs, pos, h1, h2 => by
    unfold suF
    split
    · rename_i c hc
      have hlt := (List.getElem?_eq_some_iff.mp hc).1
      have hge : 2 * pos + 1 ≤ childF key xs (2 * pos + 1) := by rcases childF_cases key xs (2 * pos + 1) with e | ⟨e, _⟩ <;> lia
      refine suF_fuel key f g _ _ ?_ ?_ <;> simp only [List.length_set] <;> lia
    · rfl
theorem suF_step (key : α → Int) (xs : List α) (pos c : Nat) {v : α} (hc : childF key xs (2 * pos + 1) = c) (hv : xs[c]? = some v) :
    suF key xs.length xs pos = suF key (xs.set pos v).length (xs.set pos v) c := by
  have hlt := (List.getElem?_eq_some_iff.mp hv).1
  have hge : 2 * pos + 1 ≤ c := by rcases childF_cases key xs (2 * pos + 1) with e | ⟨e, _⟩ <;> lia
  obtain ⟨f, hf⟩ : ∃ f, xs.length = f + 1 := ⟨xs.length - 1, by lia⟩
  rw [show suF key xs.length xs pos = suF key f (xs.set pos v) c by rw [hf]; simp only [suF, hc, hv]]
  refine suF_fuel _ _ _ _ _ ?_ ?_ <;> simp only [List.length_set] <;> lia

theorem popF_concat (key : α → Int) (x y : α) (r : List α) : popF key ((x :: r) ++ [y]) = siftupF key (y :: r) 0 := by
  unfold popF
  rw [List.getLast?_concat, List.dropLast_concat]

theorem sdF_mem (key : α → Int) (x : α) (start : Nat) : ∀ (f : Nat) (xs : List α) (pos : Nat) (v : α), v ∈ sdF key x start f xs pos → v ∈ xs ∨ v = x
  | 0, xs, pos, v, h => List.mem_or_eq_of_mem_set h
  | f + 1, xs, pos, v, h => by
    unfold sdF at h
    split at h
    · split at h
      · rename_i p hp
        split at h
        · rcases sdF_mem key x start f _ _ v h with q | q
          · rcases List.mem_or_eq_of_mem_set q with q | rfl
            · exact .inl q
            · exact .inl (List.mem_of_getElem? hp)
          · exact .inr q
        · exact List.mem_or_eq_of_mem_set h
      · exact List.mem_or_eq_of_mem_set h
    · exact List.mem_or_eq_of_mem_set h
theorem siftdownF_mem (key : α → Int) (xs : List α) (start pos : Nat) (v : α) (h : v ∈ siftdownF key xs start pos) : v ∈ xs := by
  unfold siftdownF at h
  split at h
  · rename_i x hx
    rcases sdF_mem key x start pos xs pos v h with q | rfl
    · exact q
    · exact List.mem_of_getElem? hx
  · exact h
theorem suF_mem (key : α → Int) : ∀ (f : Nat) (xs : List α) (pos : Nat) (v : α), v ∈ (suF key f xs pos).1 → v ∈ xs
  | 0, xs, pos, v, h => h
  | f + 1, xs, pos, v, h => by
    unfold suF at h
    split at h
    · rename_i c hc
      rcases List.mem_or_eq_of_mem_set (suF_mem key f _ _ v h) with q | rfl
      · exact q
      · exact List.mem_of_getElem? hc
    · exact h
theorem siftupF_mem (key : α → Int) (xs : List α) (pos : Nat) (v : α) (h : v ∈ siftupF key xs pos) : v ∈ xs := by
  unfold siftupF at h
  split at h
  · rename_i x hx
    rcases List.mem_or_eq_of_mem_set (siftdownF_mem key _ _ _ v h) with q | rfl
    · exact suF_mem key _ _ _ v q
    · exact List.mem_of_getElem? hx
  · exact h

end
section

/-- what the whole proof knows of the top, at a heap -/
structure Bs (w : World) (mean : ExcName → Option Value) (mg mb : Str → Option Value) (h : Heap) : Prop where
  X : (hd.heap_39 w.params).In h
  T : Top hd.view_39 (looseW hd.view_39 [Str.ofString "BaseHandler", Str.ofString "HTTPErrorProcessor"]) mean mg mb h

theorem Bs.keeps {w : World} {mean : ExcName → Option Value} {mg mb : Str → Option Value} {h h' : Heap} (b : Bs w mean mg mb h) (k : ∀ a o, h.get? a = some o → h'.get? a = some o) : Bs w mean mg mb h' :=
  ⟨b.X.keeps k, b.T.keeps k⟩

/-- everything but what lies at the addresses of S is kept -/
def Kp (S : List Addr) (h h' : Heap) : Prop := ∀ b o, b ∉ S → h.get? b = some o → h'.get? b = some o

theorem Kp.refl (S : List Addr) (h : Heap) : Kp S h h := fun _ _ _ e => e
theorem Kp.trans {S : List Addr} {h₁ h₂ h₃ : Heap} (x : Kp S h₁ h₂) (y : Kp S h₂ h₃) : Kp S h₁ h₃ := fun b o n e => y b o n (x b o n e)
theorem Kp.mono {S S' : List Addr} {h h' : Heap} (x : Kp S h h') (i : ∀ a ∈ S, a ∈ S') : Kp S' h h' := fun b o n e => x b o (fun q => n (i _ q)) e


theorem enter {A : Around} {s : Shared} {base : Heap} {name qual : Str} {params : Arguments} {body : List Stmt} {scope : Scope} {dV kV doc pm cdv ct oc : Value} {an od : Option Addr} {osl : Array (Option Value)} {f : Addr}
    {args : List Value} {binds : List (Str × Value)} {Q : Value → Shared → Prop} {E : Value → Shared → Prop} (S : List Addr)
    (b : Bs w mean mg mb base) (hst : ∀ a o, base.get? a = some o → s.heap.get? a = some o) (hS : ∀ a ∈ S, base.get? a = none)
    (ho : (hd.heap_39 w.params).lookup f = some ⟨oc, od, .func (fnOf name qual params body scope dV kV doc pm an cdv ct), osl⟩) (hcd : codeIn (hd.heap_39 w.params) cdv qual = true) (hroom : A.depth < recursionLimit)
    (hbind : BindsTo s (fnOf name qual params body scope dV kV doc pm an cdv ct) ⟨args, []⟩ binds) (hloc : ∀ y ∈ binds, scope.names.lookup y.1 = some .local)
    (h : ∀ g L' h₁, Fr g L' h₁ (fun y => binds.reverse.lookup y) → Bs w mean mg mb g → (∀ a o, base.get? a = some o → g.get? a = some o) →
      Kp S s.heap g → (∀ a ∈ S, g.get? a = none) → (∀ a o, s.heap.get? a = some o → h₁.get? a = some o ∧ a ≠ L') →
      wpAny (model rw_nb0130_01.row.prog w) (A.deeper (envOf qual scope L' f cdv)) (execs body (envOf qual scope L' f cdv))
        (fun fl s' => Q (match fl with | .ret v => v | _ => .none) s') (fun _ _ => False)
        { s with heap := h₁, toks := s.toks + binds.length })
    (hco : scope.isCoroutine = false := by rfl) (hgen : scope.isGenerator = false := by rfl) (hk : scope.kind = .function := by rfl)
    (hcell : ∀ x ∈ scope.names, x.2 ≠ .cell := by decide) : wpAny (model rw_nb0130_01.row.prog w) A (call (.ref f) args) Q E s := by
  have X := b.X.keeps hst
  refine wpAny_call (codeAny_call_def (fd := fnOf name qual params body scope dV kV doc pm an cdv ct) (body := body) (binds := binds) hroom (X _ _ ho) rfl (b.T.nolimit.keeps hst) (codeRec_of X hcd) rfl hbind hcell hloc (fun h₁ hns hk₁ => ?_) hco hgen hk)
  have st : ∀ a o, base.get? a = some o → (hideAll s.heap S).get? a = some o := fun a o e => hideAll_get _ (hst a o e) fun q => by rw [hS a q] at e; cases e
  refine wpAny_mono (h (hideAll s.heap S) s.heap.objs.size h₁ ⟨hns, fun b o e => hk₁ b o (of_hideAll _ e), Nat.le_of_eq (hideAll_size _ _)⟩ (b.keeps st) st
    (fun a o n e => hideAll_get _ e n) (fun a q => hideAll_none _ q) fun a o e => ⟨hk₁ a o e, Nat.ne_of_lt (Heap.lt_size e)⟩) (fun _ _ q => q) fun _ _ q => q.elim


end
section
variable {prog : Program}

theorem item_rule {A : Around} {E : Value → Shared → Prop} {s : Shared} {value slice : PySem.Expr} {l : Addr} {vs : List Value} {n : Nat} {k : Int} {u : Tok} {v : Value} {Q : Value → Shared → Prop}
    (i : Nat) (hl : s.heap.get? l = some (W.listOf vs.toArray n)) (hk : k = (i : Int)) (hfit : i < 2 ^ 62) (hx : vs[i]? = some v) (h : Q v s)
    (hs : subscripted slice false (.ref l) (.int k u) = operate [.ref l, .int k u] (getItem (.ref l) (.int k u)) := by with_unfolding_all rfl) :
    wpAny (model prog w) A (subscriptTail value slice (.ref l) (.int k u)) Q E s := by
  have hL : s.heap.IsList l vs.toArray := PySem.IsL.isList (n := n) hl
  subst hk
  exact tail_any hL.typeIs slot_list_getitem.lookup (wpAny_getItem_list hL (by lia) (by lia) (by simpa using hx) h) hs

theorem while_rule {A : Around} {s : Shared} {test : PySem.Expr} {body : List Stmt} {pos : Pos} {env : Env} {Q : Flow → Shared → Prop} (I : Nat → Shared → Prop)
    (turn : ∀ n s, I n s → wpAny (model prog w) A (isTrue test env (eval test env)) (fun b s₂ =>
        if b then wpAny (model prog w) A (execs body env) (fun f s₃ => match f with
            | .next | .cont => ∃ m, m < n ∧ I m s₃
            | .brk => Q .next s₃
            | .ret v => Q (.ret v) s₃) (fun _ _ => False) s₂
        else Q .next s₂) (fun _ _ => False) s)
    (n : Nat) (h : I n s) : wpAny (model prog w) A (exec (.While test body [] pos) env) Q (fun _ _ => False) s := by
  refine wpAny_While (codeAny_whileLoop I (fun n s hI => ?_) n h)
  refine wpAny_mono (turn n s hI) (fun b s₂ h₂ => ?_) fun _ _ q => q.elim
  cases b with
  | true =>
    refine wpAny_mono h₂ (fun f s₃ h₃ => ?_) fun _ _ q => q.elim
    cases f <;> exact h₃
  | false => exact wpAny_execs_nil h₂

theorem Fr.pin {g h : Heap} {L : Addr} {m : Str → Option Value} (F : Fr g L h m) {x : Str} {v : Value} (e : m x = some v) : Fr g L h (fun y => if y = x then some v else m y) := by
  have : (fun y => if y = x then some v else m y) = m := by funext y; by_cases q : y = x <;> simp [q, e]
  rw [this]; exact F

theorem Fr.pins {g h : Heap} {L : Addr} {m : Str → Option Value} (F : Fr g L h m) (bs : List (Str × Value)) (e : ∀ p ∈ bs, m p.1 = some p.2) : Fr g L h (fun y => (List.lookup y bs).or (m y)) := by
  have : (fun y => (List.lookup y bs).or (m y)) = m := by
    funext y
    induction bs with
    | nil => rfl
    | cons p r ih =>
      rw [List.lookup_cons]
      by_cases q : (y == p.1) = true
      · rw [q, beq_iff_eq.mp q, e p (.head _)]; rfl
      · rw [show (y == p.1) = false by simpa using q]; exact ih fun p hp => e p (.tail _ hp)
  rw [this]; exact F

theorem set_rule {A : Around} {E : Value → Shared → Prop} {s : Shared} {g : Heap} {L l : Addr} {m : Str → Option Value} {vs : List Value} {n : Nat} {k : Int} {u : Tok} {v : Value} {Q : Unit → Shared → Prop}
    (i : Nat) (F : Fr g L s.heap m) (hl : s.heap.get? l = some (W.listOf vs.toArray n)) (hL : l ≠ L) (hg : g.get? l = none) (hk : k = (i : Int)) (hi : i < vs.length) (hfit : i < 2 ^ 62)
    (h : ∀ h', Fr g L h' m → h'.get? l = some (W.listOf (vs.set i v).toArray n) → Heap.SameBut l s.heap h' → Q () { s with heap := h' }) :
    wpAny (model prog w) A (setItem (.ref l) (.int k u) v) Q E s := by
  subst hk
  have hsb : Heap.SameBut l s.heap (s.heap.update l (Obj.mapSeq (·.setIfInBounds (i : Int).toNat v))) := Heap.SameBut.update ..
  refine ki_setAt hl (by lia) (by lia) (by simp; lia) (h _ (F.change hsb hL hg) ?_ hsb)
  rw [Heap.get?_update_self _ hl (by rfl)]
  simp [Obj.mapSeq, W.listOf]

/-- there is room for d calls, one in the other -/
structure Room (A : Around) (d : Nat) : Prop where
  hd : A.handled = none
  depth : A.depth + d < recursionLimit
  units : A.units + 20 * d < cLine

theorem Room.fits {A : Around} {d : Nat} (r : Room A d) : A.depth < recursionLimit := Nat.lt_of_le_of_lt (Nat.le_add_right _ _) r.depth
/-- the trees at which the steps stop -/
inductive Halt : ∀ {α : Type}, Sem α → Prop
  | h1 {a b c d e} : Halt (exec (.While a b c d) e)
  | h2 {a b c d e f} : Halt (exec (.For a b c d e) f)
  | h3 {a b c d} : Halt (subscriptTail a b c d)
  | h4 {a b c} : Halt (setItem a b c)
  | h5 {a b c} : Halt (getAttr (.ref a) b c)
  | h6 {a b c} : Halt (setAttr (.ref a) b c)
  | h7 {a} : Halt (pyIter a)
  | h8 {a} : Halt (pyNext a)
  | h9 {a b} : Halt (call (.type "reversed") a b)
  | h10 {a b} : Halt (call (.builtin "list.remove") a b)
  | h11 {a b} : Halt (call (.builtin "min") a b)
  | h12 {a b} : Halt (call (.builtin "sorted") a b)
  | h13 {a b} : Halt (compareOp .NotIn a b)
  | h14 {a b c} : Halt (call (.ref a) b c)
  | h15 {a b c d e f g} : Halt (exec (.Assign a (.ListComp b c d e) f) g)
  | h16 {a b c d e} : Halt (eval (.ListComp a b c d) e)
  | h17 {a b} : Halt (compareOp .NotEq (.ref a) (.ref b))
  | h18 {a b} : Halt (compareOp .Eq (.ref a) (.ref b))
  | h19 {p a b c d e} : Halt (eval (.Name (Str.ofString "bare") p) (envOfC a b c d e))
  | h20 {p a b c d} : Halt (eval (.Name (Str.ofString "bare") p) (compEnvC a b c d))
/-- a look at the tree ahead -/
theorem halts {α : Type} {M : Model} {A : Around} {t : Sem α} {Q : α → Shared → Prop} {E : Value → Shared → Prop} {s : Shared} (_ : Halt t) (h : wpAny M A t Q E s) : wpAny M A t Q E s := h
theorem Room.deeper {A : Around} {d : Nat} (r : Room A (d + 1)) (env : Env) : Room (A.deeper env) d :=
  ⟨r.hd, by have := r.depth; show A.depth + 1 + d < _; lia, by have := r.units; show A.units + 3 + 20 * d < _; lia⟩
theorem Room.mono {A : Around} {d d' : Nat} (r : Room A d) (h : d' ≤ d) : Room A d' := ⟨r.hd, by have := r.depth; lia, by have := r.units; lia⟩
theorem Room.in1 {A : Around} {d : Nat} (r : Room A (d + 1)) : Room A.in1 d := ⟨r.hd, by have := r.depth; show A.depth + d < _; lia, by have := r.units; show A.units + 1 + 20 * d < _; lia⟩

theorem par_eq {k : Nat} (h : 0 < k) : ((k : Int) - 1).fdiv (2 ^ Int.toNat 1) = (((k - 1) / 2 : Nat) : Int) := by
  have e : ((k : Int) - 1) = ((k - 1 : Nat) : Int) := by lia
  rw [e]
  show ((k - 1 : Nat) : Int).fdiv 2 = _
  rw [Int.fdiv_eq_ediv_of_nonneg _ (by decide)]
  rfl

theorem News.one {g h : Heap} {L l : Addr} {o : Obj} (hl : h.get? l = some o) (hL : l ≠ L) (hg : g.get? l = none) : News g L h [(l, o)] := by
  intro p hp; rcases List.mem_singleton.mp hp with rfl; exact ⟨hl, hL, hg⟩


theorem len_rule {A : Around} {E : Value → Shared → Prop} {s : Shared} {l : Addr} {vs : List Value} {n : Nat} {Q : Value → Shared → Prop} (hl : s.heap.get? l = some (W.listOf vs.toArray n)) (hz : vs.length < 2 ^ 62)
    (h : Q (.int (vs.length : Int) (s.toks + 1)) { s with toks := s.toks + 1 + 1 }) : wpAny (model prog w) A (call (.builtin "len") [.ref l]) Q E s := by
  have hL : s.heap.IsList l vs.toArray := PySem.IsL.isList (n := n) hl
  exact PyProof.Rows.len_list hL (by simp only [List.size_toArray]; lia) (by simpa only [List.size_toArray] using h)

def HasInt (m : Str → Option Value) (x : Str) (i : Int) : Prop := ∃ t, m x = some (.int i t)
theorem HasInt.of {m : Str → Option Value} {x : Str} {i j : Int} {t : Tok} (h : m x = some (.int j t)) (e : j = i) : HasInt m x i := ⟨t, e ▸ h⟩

theorem pop_rule {A : Around} {E : Value → Shared → Prop} {s : Shared} {g : Heap} {L l : Addr} {m : Str → Option Value} {p : List Value} {y : Value} {n : Nat} {Q : Value → Shared → Prop}
    (F : Fr g L s.heap m) (hl : s.heap.get? l = some (W.listOf (p ++ [y]).toArray n)) (hL : l ≠ L) (hg : g.get? l = none) (hz : p.length < 1000)
    (h : ∀ h', Fr g L h' m → h'.get? l = some (W.listOf p.toArray (n + 1)) → Q y { s with heap := h' }) :
    wpAny (model prog w) A (call (.builtin "list.pop") [.ref l]) Q E s := by
  refine kl_pop (its := (p ++ [y]).toArray) (p := p) (y := y) F (News.one hl hL hg) (by simpa using kpa_last y p) (Upd.head (by simp)) (by rw [sizeLine_eq]; simp; lia) fun h' F' N' => h h' F' (N' _ (.head _)).1

theorem Fr.kp {g h h' : Heap} {L : Addr} {m : Str → Option Value} {S : List Addr} (F : Fr g L h m) (k : Kp S h h') (hL : L ∉ S) (hg : ∀ a ∈ S, g.get? a = none) : Fr g L h' m := by
  obtain ⟨o, es, ep, ho, r⟩ := F.ns
  exact ⟨⟨o, es, ep, k _ _ hL ho, r⟩, fun b o e => k _ _ (fun q => by rw [hg _ q] at e; cases e) (F.keep b o e), F.above⟩

/-- what a for's loop has to show -/
def LoopG (prog : Program) (w : World) (A : Around) (target : PySem.Expr) (body : List Stmt) (env : Env) (Q : Flow → Shared → Prop) (it : Value) (s : Shared) : Prop :=
  codeAny (model prog w) A (.forLoop target it body [] env) (fun r s' => match r with | .ok f => Q f s' | .error _ => False) s

theorem for_head {A : Around} {s : Shared} {target iter : PySem.Expr} {body : List Stmt} {pos : Pos} {env : Env} {Q : Flow → Shared → Prop}
    (h : wpAny (model prog w) A (eval iter env) (fun x s₁ => wpAny (model prog w) A (pyIter x) (fun it s₂ => LoopG prog w A target body env Q it s₂) (fun _ _ => False) s₁) (fun _ _ => False) s)
    (hs : ∀ x, foldedSetIterable iter env x = pure x := by intro _; rfl) :
    wpAny (model prog w) A (exec (.For target iter body [] pos) env) Q (fun _ _ => False) s := by
  refine wpAny_For (wpAny_mono h (fun x s₁ h₁ => wpAny_mono h₁ (fun it s₂ h₂ => ?_) fun _ _ q => q) fun _ _ q => q) hs
  exact codeAny_mono h₂ fun r s' hr => by
    cases r with
    | ok f => exact hr
    | error e => exact hr.elim

theorem for_loop {A : Around} {s : Shared} {target : PySem.Expr} {body : List Stmt} {env : Env} {Q : Flow → Shared → Prop} {it : Value} (I : Nat → Shared → Prop)
    (turn : ∀ n s, I n s → wpAny (model prog w) A (pyNext it) (fun r s₁ => match r with
      | none => Q .next s₁
      | some v => wpAny (model prog w) A (assign target env v) (fun _ s₂ => wpAny (model prog w) A (execs body env) (fun f s₃ => match f with
          | .next | .cont => ∃ m, m < n ∧ I m s₃
          | .brk => Q .next s₃
          | .ret v => Q (.ret v) s₃) (fun _ _ => False) s₂) (fun _ _ => False) s₁) (fun _ _ => False) s)
    (n : Nat) (h : I n s) (ht : ∀ v, letOwnedTupleGo target it v = pure () := by intro _; rfl) : LoopG prog w A target body env Q it s := by
  refine codeAny_forLoop I (fun n s hI => ?_) n h ht
  refine wpAny_mono (turn n s hI) (fun r s₁ h₁ => ?_) fun _ _ q => q.elim
  cases r with
  | none => exact wpAny_execs_nil h₁
  | some v =>
    refine wpAny_mono h₁ (fun _ s₂ h₂ => wpAny_mono h₂ (fun f s₃ h₃ => ?_) fun _ _ q => q.elim) fun _ _ q => q.elim
    cases f <;> exact h₃

theorem rev_meets (r : Addr) (a b c : Int) (t u v : Tok) (hc : ¬ (!(Builtin.Range.rangeFitsLong a && Builtin.Range.rangeFitsLong b && Builtin.Range.rangeFitsLong c && Builtin.Range.rangeFitsLong (-c) && Builtin.Range.rangeFitsLong (a - c) && Builtin.Range.rangeFitsLong (Builtin.Range.rangeSize a b c))) = true) :
    Meets (Builtin.«range.__reversed__» ⟨[.ref r], []⟩) (fun _ R s => s.heap.get? r = some { cls := .type "range", dict := none, data := .fields #[.int a t, .int b u, .int c v], slots := #[] } ∧
      R (.ok (.ret (Value.ref s.heap.objs.size))) { s with heap := s.heap.push { cls := Value.type (if (Builtin.Range.rangeFitsLong a && Builtin.Range.rangeFitsLong b && Builtin.Range.rangeFitsLong c && Builtin.Range.rangeFitsLong (-c) && Builtin.Range.rangeFitsLong (a - c) && Builtin.Range.rangeFitsLong (Builtin.Range.rangeSize a b c)) = true then "range_iterator" else "longrange_iterator"), data := .fields (List.toArray [rawInt (a + (Builtin.Range.rangeSize a b c - 1) * c), rawInt (Builtin.Range.rangeSize a b c), rawInt (-c)]) } }) :=
  .of_wp fun prog w A R s h => by obtain ⟨hp, g, d, tk, os⟩ := s; obtain ⟨hl, h⟩ := h; wp_walk; exact ⟨_, rfl, h⟩

theorem call_range_reversed {A : Around} {E : Value → Shared → Prop} {s : Shared} {r : Addr} {k : Nat} {t u v : Tok} {Q : Value → Shared → Prop} (hr : IsRange s.heap r 0 (k : Int) 1 t u v) (hk : k < 1000)
    (h : Q (.ref s.heap.objs.size) { s with heap := s.heap.push { cls := .type "range_iterator", data := .fields #[rawInt ((k : Int) - 1), rawInt (k : Int), rawInt (-1)] } }) :
    wpAny (model prog w) A (call (.builtin "range.__reversed__") [.ref r]) Q E s := by
  have hT : s.TypeIs (.ref r) "range" := ⟨_, hr, rfl⟩
  have hsz : Builtin.Range.rangeSize 0 (k : Int) 1 = (k : Int) := by unfold Builtin.Range.rangeSize; split <;> (try split) <;> lia
  have hf : ∀ i : Int, -1000 ≤ i → i ≤ 1000 → Builtin.Range.rangeFitsLong i = true := fun i h1 h2 => by
    unfold Builtin.Range.rangeFitsLong; simp only [Bool.and_eq_true, decide_eq_true_eq]; lia
  have hs : (Builtin.Range.rangeFitsLong 0 && Builtin.Range.rangeFitsLong (k : Int) && Builtin.Range.rangeFitsLong 1 && Builtin.Range.rangeFitsLong (-1) && Builtin.Range.rangeFitsLong (0 - 1) && Builtin.Range.rangeFitsLong (Builtin.Range.rangeSize 0 (k : Int) 1)) = true := by
    rw [hsz, hf 0 (by lia) (by lia), hf k (by lia) (by lia), hf 1 (by lia) (by lia), hf (-1) (by lia) (by lia), hf (0 - 1) (by lia) (by lia)]; rfl
  refine call_meets F.slot_range_reversed hT F.entry_range_reversed (F.args_range_reversed_1 _) (rev_meets r 0 (k : Int) 1 t u v (by rw [hs]; decide)) ⟨hr, ?_⟩
  rw [hs, hsz]
  simp only [if_true, Int.mul_one, Int.zero_add]
  exact h

theorem code_reversed_range {A : Around} {E : Value → Shared → Prop} {s : Shared} {r : Addr} {k : Nat} {t u v : Tok} {Q₁ : Value → Shared → Prop} (hr : IsRange s.heap r 0 (k : Int) 1 t u v) (hk : k < 1000)
    (h : Q₁ (.ref s.heap.objs.size) { s with heap := s.heap.push { cls := .type "range_iterator", data := .fields #[rawInt ((k : Int) - 1), rawInt (k : Int), rawInt (-1)] } }) :
    codeAny (model prog w) A (.call (.builtin "reversed.__new__") ⟨[.type "reversed", .ref r], []⟩) (wants Q₁ E) s := by
  have hT : s.TypeIs (.ref r) "range" := ⟨_, hr, rfl⟩
  refine codeAny_of_tree ?_
  show wpAny _ A.in1 (do checkBuiltinCall "reversed.__new__" ⟨[.type "reversed", .ref r], []⟩; again (.builtin "reversed.__new__" ⟨[.type "reversed", .ref r], []⟩)) _ _ s
  refine wpAny_bind (wpAny_of_eq (F.newCall_reversed_1 _) (wpAny_pure ⟨plainId_quiet F.plain_reversed_new _, codeAny_builtin F.entry_reversed_new ?_⟩))
  rw [Around.under_plainId F.plain_reversed_new _]
  unfold Builtin.«reversed.__new__»
  refine wpAny_bind (wpAny_of_eq (newClass_reversed _) ?_)
  try dsimp only
  refine wpAny_bind (wpAny_of_eq (a := ()) (by first | rfl | kernel_rfl) ?_)
  refine wpAny_bind (wpAny_of_eq (a := ()) (by first | rfl | kernel_rfl) ?_)
  try dsimp only
  refine wpAny_bind (wpAny_specialOf hT F.slot_range_reversed.lookup ?_)
  try dsimp only
  refine wpAny_bind (wpAny_of_eq (F.slot_range_reversed.bind _) ?_)
  try dsimp only
  rw [if_neg (show ¬ ((Value.builtin "range.__reversed__" == Value.none) = true) from Bool.false_ne_true)]
  refine wpAny_bind (wpAny_rule ?_)
  refine wpAny_bind (m := runValue (.call (.builtin "range.__reversed__") ⟨[.ref r], []⟩)) (show wpAny _ _ (call (.builtin "range.__reversed__") [.ref r]) _ _ _ from call_range_reversed hr hk ?_)
  first
  | exact wpAny_pure h
  | exact wpAny_bind (wpAny_pure (wpAny_pure h))

theorem sub_ri_reversed : isSubtype (.type "range_iterator") (.type "reversed") = pure false := by rw [isSubtype_type]; kernel_rfl

theorem reversed_range {A : Around} {E : Value → Shared → Prop} {s : Shared} {r : Addr} {k : Nat} {t u v : Tok} {Q : Value → Shared → Prop} (hr : IsRange s.heap r 0 (k : Int) 1 t u v) (hk : k < 1000)
    (h : Q (.ref s.heap.objs.size) { s with heap := s.heap.push { cls := .type "range_iterator", data := .fields #[rawInt ((k : Int) - 1), rawInt (k : Int), rawInt (-1)] } }) :
    wpAny (model prog w) A (call (.type "reversed") [.ref r]) Q E s := by
  refine callType_other (U := "range_iterator") (Q₁ := fun obj s₁ => obj = .ref s.heap.objs.size ∧ s₁ = { s with heap := s.heap.push { cls := .type "range_iterator", data := .fields #[rawInt ((k : Int) - 1), rawInt (k : Int), rawInt (-1)] } }) (by decide +kernel) F.create_reversed ⟨_, _, F.mro_reversed⟩ F.made_reversed sub_ri_reversed (F.typeCall_reversed_1 _) (code_reversed_range hr hk ⟨rfl, rfl⟩) ?_
  rintro obj s₁ ⟨rfl, rfl⟩
  exact ⟨⟨_, Heap.get?_push_size _ rfl, rfl⟩, h⟩

theorem pyIter_rangeIter {A : Around} {E : Value → Shared → Prop} {s : Shared} {it : Addr} {x left step : Int} {Q : Value → Shared → Prop} (hit : IsRangeIter s.heap it x left step) (h : Q (.ref it) s) : wpAny (model prog w) A (pyIter (.ref it)) Q E s := by
  have hT : s.TypeIs (.ref it) "range_iterator" := ⟨_, hit, rfl⟩
  refine wpAny_pyIter_slot hT F.slot_range_iterator_iter (wpAny_call_entry F.slot_range_iterator_iter hT F.entry_range_iterator_iter ?_ (F.args_range_iterator_iter_1 _))
  show wpAny _ _ (ret (.ref it)) _ _ s
  exact wpAny_pure ⟨_, rfl, "range_iterator", _, hT, F.slot_range_iterator_next.lookup, h⟩

theorem Fr.newAt {g h : Heap} {L : Addr} {m : Str → Option Value} (F : Fr g L h m) : g.get? h.objs.size = none ∧ h.objs.size ≠ L := by
  obtain ⟨o, es, ep, ho, _⟩ := F.ns
  refine ⟨?_, Nat.ne_of_gt (Heap.lt_size ho)⟩
  cases q : g.get? h.objs.size with
  | none => rfl
  | some o => exact absurd (Heap.lt_size (F.keep _ _ q)) (Nat.lt_irrefl _)

theorem News.two {g h : Heap} {L a b : Addr} {o o' : Obj} (h1 : h.get? a = some o) (h2 : a ≠ L ∧ g.get? a = none) (h3 : h.get? b = some o') (h4 : b ≠ L ∧ g.get? b = none) : News g L h [(a, o), (b, o')] := by
  intro p hp
  rcases List.mem_cons.mp hp with rfl | hp
  · exact ⟨h1, h2⟩
  · rcases List.mem_singleton.mp hp with rfl
    exact ⟨h3, h4⟩

theorem apart {h : Heap} {a b : Addr} {o o' : Obj} (h1 : h.get? a = some o) (h2 : h.get? b = some o') (hc : o.cls ≠ o'.cls) : a ≠ b := by
  rintro rfl
  rw [h1] at h2
  exact hc (congrArg Obj.cls (Option.some.inj h2))
theorem ne_ls {l : Addr} {h : Heap} {vs : Array Value} {n : Nat} {a C d : Addr} (hl : h.get? l = some (W.listOf vs n)) (ha : h.get? a = some (instObj C d)) : a ≠ l := apart ha hl (by show Value.ref C ≠ Value.type "list"; intro e; cases e)
theorem ne_ld {l : Addr} {h : Heap} {vs : Array Value} {n k : Nat} {d : Addr} {es : List DictEntry} (hl : h.get? l = some (W.listOf vs n)) (ha : h.get? d = some (dictOf es k)) : d ≠ l := apart ha hl (by show Value.type "dict" ≠ Value.type "list"; decide)
theorem ne_lt {l : Addr} {h : Heap} {vs us : Array Value} {n : Nat} {t : Addr} (hl : h.get? l = some (W.listOf vs n)) (ha : h.get? t = some { cls := .type "tuple", data := .seq us }) : t ≠ l := apart ha hl (by show Value.type "tuple" ≠ Value.type "list"; decide)
theorem ne_td {h : Heap} {us : Array Value} {k : Nat} {t d : Addr} {es : List DictEntry} (ha : h.get? t = some { cls := .type "tuple", data := .seq us }) (hd : h.get? d = some (dictOf es k)) : t ≠ d := apart ha hd (by show Value.type "tuple" ≠ Value.type "dict"; decide)
theorem ne_id {h : Heap} {k : Nat} {a C d d' : Addr} {es : List DictEntry} (ha : h.get? a = some (instObj C d)) (hd : h.get? d' = some (dictOf es k)) : a ≠ d' := apart ha hd (by show Value.ref C ≠ Value.type "dict"; intro e; cases e)

end
local macro_rules | `(tactic| walk_at "my enter") => `(tactic| ((case kho => k_is); (case kcd => k_is); (case kroom => exact Room.fits (by assumption)); (case kbind => exact BindsTo.of_eq rfl); (case kloc => exact locs rfl); (case kcell => decide); all_goals try rfl))
local macro_rules | `(tactic| walk_at "my go") => `(tactic| ((with_reducible first | show wpAny _ _ _ _ _ _ | show ite _ _ _); (fail_if_success with_reducible refine halts (by constructor) ?_); (with_reducible first | show wpAny _ _ (compareOp .Lt (.int _ _) (.int _ _)) _ _ _ | fail_if_success show wpAny _ _ (compareOp .Lt _ _) _ _ _)))
local macro_rules | `(tactic| walk_at "my steps") => `(tactic| repeat' (first | (k_unfold; (try dsimp only)) | (walk_at "my go"; first | walk1 | (dsimp only; walk1)) | ((with_reducible show And (Frag.In _ _) _); refine ⟨Frag.In.keeps (by assumption) (Fr.keep (by assumption)), ?_⟩) | ((fail_if_success with_reducible show wpAny _ _ _ _ _ _); (fail_if_success with_reducible show Exists _); dsimp only)))
local macro_rules | `(tactic| walk_at "call builtin:len") => `(tactic| ((with_reducible show wpAny _ _ (call (.builtin "len") [.ref _]) _ _ _); refine len_rule (News.get (by assumption) (by k_mem)) (by lia) ?_))

section
/-- a < b of two items, by a key -/
def Cmp (w : World) (P : Heap → Prop) (ok : Value → Prop) (key : Value → Int) : Prop :=
  ∀ (A : Around) (s : Shared) (a b : Value) (Q : Value → Shared → Prop) (E : Value → Shared → Prop), P s.heap → ok a → ok b → Room A 4 →
   (∀ h' tk', (∀ x o, s.heap.get? x = some o → h'.get? x = some o) → Q (.bool (decide (key a < key b))) { s with heap := h', toks := tk' }) →
   wpAny (model rw_nb0130_01.row.prog w) A (compareOp .Lt a b) Q E s

theorem siftdown_spec {A : Around} {s : Shared} {base : Heap} {l : Addr} {xs : List Value} {n : Nat} {st ps : Nat} {t1 t2 : Tok} {Q E : Value → Shared → Prop} {P : Heap → Prop} {ok : Value → Prop} {key : Value → Int}
    (b : Bs w mean mg mb base) (hst : ∀ a o, base.get? a = some o → s.heap.get? a = some o) (hl0 : base.get? l = none)
    (hl : s.heap.get? l = some (W.listOf xs.toArray n)) (hp : ps < xs.length) (hr : Room A 6) (hz : xs.length < 1000)
    (C : Cmp w P ok key) (hP : P s.heap) (hPk : ∀ h h', P h → Kp [l] h h' → P h') (hok : ∀ v ∈ xs, ok v)
    (h : ∀ h' tk', h'.get? l = some (W.listOf (siftdownF key xs st ps).toArray n) → Kp [l] s.heap h' → Q .none { s with heap := h', toks := tk' }) :
    wpAny (model rw_nb0130_01.row.prog w) A (call (.ref 56) [.ref l, .int st t1, .int ps t2]) Q E s := by
  refine' enter (binds := [(Str.ofString "heap", .ref l), (Str.ofString "startpos", .int st t1), (Str.ofString "pos", .int ps t2)]) [l] b hst (by simpa using hl0) ?kho ?kcd ?kroom ?kbind ?kloc ?_ ?kco ?kgen ?kk ?kcell
  walk_at "my enter"
  intro g L' h' F' b' hbg hkg hg0 hh
  have hLl : l ≠ L' := (hh _ _ hl).2
  have hgl : g.get? l = none := hg0 _ (by simp)
  have N' : News g L' h' [(l, W.listOf xs.toArray n)] := by
    intro p hp; rcases List.mem_singleton.mp hp with rfl; exact ⟨(hh _ _ hl).1, hLl, hgl⟩
  have X' := b'.X
  have T' := b'.T
  obtain ⟨x, hx⟩ : ∃ x, xs[ps]? = some x := ⟨_, List.getElem?_eq_getElem hp⟩
  (try dsimp only)
  w_on
  (try k_fold)
  walk_at "my steps"
  refine item_rule ps (by exact (N' _ (.head _)).1) rfl (by lia) hx ?_
  walk_at "my steps"
  refine while_rule (fun k s' => ∃ h' tk m' ys t, s' = { s with heap := h', toks := tk } ∧ Fr g L' h' m' ∧ News g L' h' [(l, W.listOf (List.toArray ys) n)] ∧ m' (Str.ofString "heap") = some (.ref l) ∧
    m' (Str.ofString "startpos") = some (.int st t1) ∧ m' (Str.ofString "newitem") = some x ∧ m' (Str.ofString "pos") = some (.int k t) ∧ ys.length = xs.length ∧ k < xs.length ∧ (∀ v ∈ ys, ok v) ∧
    siftdownF key xs st ps = sdF key x st k ys k) ?_ ps ?_
  rotate_left
  · refine ⟨_, _, _, xs, t2, rfl, by assumption, by assumption, rfl, rfl, rfl, rfl, rfl, hp, hok, ?_⟩
    unfold siftdownF; rw [hx]
  · rintro k s' ⟨h₁, tk, m₁, ys, t, rfl, F₁, N₁, e1, e2, e3, e4, hlen, hkx, hoky, hval⟩
    have F₂ := Fr.pins F₁ [(Str.ofString "heap", .ref l), (Str.ofString "startpos", .int st t1), (Str.ofString "newitem", x), (Str.ofString "pos", .int k t)] (by simp [e1, e2, e3, e4])
    clear F₁ e1 e2 e3 e4
    rename_i F9 N9
    clear F9 N9
    walk_at "my steps"
    · have hk0 : 0 < k := by lia
      obtain ⟨p, hp'⟩ : ∃ p, ys[(k - 1) / 2]? = some p := ⟨_, List.getElem?_eq_getElem (by lia)⟩
      refine item_rule ((k - 1) / 2) (News.get (by assumption) (.head _)) (par_eq hk0) (by lia) hp' ?_
      walk_at "my steps"
      refine C _ _ _ _ _ _ (hPk _ _ hP (hkg.trans fun b o _ e => Fr.keep (by assumption) b o e)) (hok _ (List.mem_of_getElem? hx)) (hoky _ (List.mem_of_getElem? hp')) (Room.mono (Room.deeper hr _) (by decide)) ?_
      intro h₅ tk₅ hk₅
      rename_i h₃ F₃ N₃
      have F₅ := Fr.grownK F₃ hk₅
      have N₅ := News.grown N₃ hk₅
      clear F₃ N₃
      walk_at "my steps"
      · refine set_rule k F₅ (News.get N₅ (.head _)) hLl hgl rfl (by lia) (by lia) ?_
        intro h₆ F₆ hl₆ hs₆
        have N₆ := News.one hl₆ hLl hgl
        clear F₅ N₅
        walk_at "my steps"
        refine ⟨(k - 1) / 2, by lia, _, _, _, ys.set k p, _, rfl, by assumption, by assumption, rfl, rfl, rfl, by rw [← par_eq hk0]; rfl, by simpa using hlen, by lia, ?_, ?_⟩
        · intro v hv
          rcases List.mem_or_eq_of_mem_set hv with q | rfl
          · exact hoky v q
          · exact hoky _ (List.mem_of_getElem? hp')
        · rw [hval]; exact sdF_step _ _ _ _ _ (by lia) hp' (by assumption)
      · refine set_rule k F₅ (News.get N₅ (.head _)) hLl hgl rfl (by lia) (by lia) ?_
        intro h₆ F₆ hl₆ hs₆
        have N₆ := News.one hl₆ hLl hgl
        clear F₅ N₅
        walk_at "my steps"
        refine h _ _ ?_ (hkg.trans fun b o _ e => Fr.keep F₆ b o e)
        rw [hval, sdF_stop _ _ _ _ _ (fun _ p' e => by rw [hp'] at e; cases e; assumption)]; exact hl₆
    · rename_i F₅ N₅ hc
      refine set_rule k F₂ (News.get N₁ (.head _)) hLl hgl rfl (by lia) (by lia) ?_
      intro h₆ F₆ hl₆ hs₆
      have N₆ := News.one hl₆ hLl hgl
      clear F₂ N₁
      walk_at "my steps"
      refine h _ _ ?_ (hkg.trans fun b o _ e => Fr.keep F₆ b o e)
      rw [hval, sdF_stop _ _ _ _ _ (fun e => absurd e (by lia))]; exact hl₆


end
section
theorem siftup_spec {A : Around} {s : Shared} {base : Heap} {l : Addr} {xs : List Value} {n : Nat} {ps : Nat} {t2 : Tok} {Q E : Value → Shared → Prop} {P : Heap → Prop} {ok : Value → Prop} {key : Value → Int}
    (b : Bs w mean mg mb base) (hst : ∀ a o, base.get? a = some o → s.heap.get? a = some o) (hl0 : base.get? l = none)
    (hl : s.heap.get? l = some (W.listOf xs.toArray n)) (hp : ps < xs.length) (hr : Room A 7) (hz : xs.length < 1000)
    (C : Cmp w P ok key) (hP : P s.heap) (hPk : ∀ h h', P h → Kp [l] h h' → P h') (hok : ∀ v ∈ xs, ok v)
    (h : ∀ h' tk', h'.get? l = some (W.listOf (siftupF key xs ps).toArray n) → Kp [l] s.heap h' → Q .none { s with heap := h', toks := tk' }) :
    wpAny (model rw_nb0130_01.row.prog w) A (call (.ref 63) [.ref l, .int ps t2]) Q E s := by
  refine' enter (binds := [(Str.ofString "heap", .ref l), (Str.ofString "pos", .int ps t2)]) [l] b hst (by simpa using hl0) ?kho ?kcd ?kroom ?kbind ?kloc ?_ ?kco ?kgen ?kk ?kcell
  walk_at "my enter"
  intro g L' h' F' b' hbg hkg hg0 hh
  have hLl : l ≠ L' := (hh _ _ hl).2
  have hgl : g.get? l = none := hg0 _ (by simp)
  have N' := News.one (hh _ _ hl).1 hLl hgl
  have X' := b'.X
  have T' := b'.T
  obtain ⟨x, hx⟩ : ∃ x, xs[ps]? = some x := ⟨_, List.getElem?_eq_getElem hp⟩
  (try dsimp only)
  w_on
  (try k_fold)
  walk_at "my steps"
  refine item_rule ps (News.get (by assumption) (.head _)) rfl (by lia) hx ?_
  walk_at "my steps"
  refine while_rule (fun q s' => ∃ h' tk m' ys k, s' = { s with heap := h', toks := tk } ∧ Fr g L' h' m' ∧ News g L' h' [(l, W.listOf (List.toArray ys) n)] ∧ m' (Str.ofString "heap") = some (.ref l) ∧
    HasInt m' (Str.ofString "endpos") (xs.length : Int) ∧ HasInt m' (Str.ofString "startpos") ps ∧ m' (Str.ofString "newitem") = some x ∧ HasInt m' (Str.ofString "pos") ((k : Nat) : Int) ∧
    HasInt m' (Str.ofString "childpos") (2 * (k : Int) + 1) ∧ ys.length = xs.length ∧ k < xs.length ∧ q + k = xs.length ∧ (∀ v ∈ ys, ok v) ∧
    suF key xs.length xs ps = suF key ys.length ys k) ?_ (xs.length - ps) ?_
  rotate_left
  · refine ⟨_, _, _, xs, ps, rfl, by assumption, by assumption, rfl, ⟨_, rfl⟩, ⟨_, rfl⟩, rfl, ⟨_, rfl⟩, ⟨_, rfl⟩, rfl, hp, by lia, hok, rfl⟩
  · rintro q s' ⟨h₁, tk, m₁, ys, k, rfl, F₁, N₁, e1, ⟨te, e2⟩, ⟨ts, e3⟩, e4, ⟨tk2, e5⟩, ⟨tc, e6⟩, hlen, hkx, hq, hoky, hval⟩
    have F₂ := Fr.pins F₁ [(Str.ofString "heap", .ref l), (Str.ofString "endpos", .int (xs.length : Int) te), (Str.ofString "startpos", .int ps ts), (Str.ofString "newitem", x), (Str.ofString "pos", .int (k : Int) tk2), (Str.ofString "childpos", .int (2 * (k : Int) + 1) tc)] (by simp [e1, e2, e3, e4, e5, e6])
    clear F₁ e1 e2 e3 e4 e5 e6
    rename_i F9 N9
    clear F9 N9
    walk_at "my steps"
    · obtain ⟨a, ha⟩ : ∃ a, ys[2 * k + 1]? = some a := ⟨_, List.getElem?_eq_getElem (by lia)⟩
      obtain ⟨b, hb⟩ : ∃ b, ys[2 * k + 1 + 1]? = some b := ⟨_, List.getElem?_eq_getElem (by lia)⟩
      refine item_rule (2 * k + 1) (News.get (by assumption) (.head _)) (by lia) (by lia) ha ?_
      walk_at "my steps"
      refine item_rule (2 * k + 1 + 1) (News.get (by assumption) (.head _)) (by lia) (by lia) hb ?_
      walk_at "my steps"
      refine C _ _ _ _ _ _ (hPk _ _ hP (hkg.trans fun b o _ e => Fr.keep (by assumption) b o e)) (hoky _ (List.mem_of_getElem? ha)) (hoky _ (List.mem_of_getElem? hb)) (Room.mono (Room.deeper hr _) (by decide)) ?_
      intro h₅ tk₅ hk₅
      rename Fr _ _ _ _ => F₃
      rename News _ _ _ _ => N₃
      have F₅ := Fr.grownK F₃ hk₅
      have N₅ := News.grown N₃ hk₅
      clear F₃ N₃
      walk_at "my steps"
      · refine item_rule (2 * k + 1) (News.get (by assumption) (.head _)) (by lia) (by lia) ha ?_
        walk_at "my steps"
        refine set_rule k (by assumption) (News.get (by assumption) (.head _)) hLl hgl rfl (by lia) (by lia) ?_
        intro h₆ F₆ hl₆ hs₆
        have N₆ := News.one hl₆ hLl hgl
        walk_at "my steps"
        refine ⟨xs.length - (2 * k + 1), by lia, _, _, _, _, 2 * k + 1, rfl, by assumption, by assumption, rfl, ⟨_, rfl⟩, ⟨_, rfl⟩, rfl, HasInt.of rfl (by lia), HasInt.of rfl (by lia), by simpa using hlen, by lia, by lia, ?_, ?_⟩
        · intro v hv
          rcases List.mem_or_eq_of_mem_set hv with q | rfl
          · exact hoky v q
          · exact hoky _ (List.mem_of_getElem? ha)
        · rw [hval]; exact suF_step _ _ _ _ (by unfold childF; rw [ha, hb]; exact if_pos (by assumption)) ha
      · refine item_rule (2 * k + 1 + 1) (News.get (by assumption) (.head _)) (by lia) (by lia) hb ?_
        walk_at "my steps"
        refine set_rule k (by assumption) (News.get (by assumption) (.head _)) hLl hgl rfl (by lia) (by lia) ?_
        intro h₆ F₆ hl₆ hs₆
        have N₆ := News.one hl₆ hLl hgl
        walk_at "my steps"
        refine ⟨xs.length - (2 * k + 1 + 1), by lia, _, _, _, _, 2 * k + 1 + 1, rfl, by assumption, by assumption, rfl, ⟨_, rfl⟩, ⟨_, rfl⟩, rfl, HasInt.of rfl (by lia), HasInt.of rfl (by lia), by simpa using hlen, by lia, by lia, ?_, ?_⟩
        · intro v hv
          rcases List.mem_or_eq_of_mem_set hv with q | rfl
          · exact hoky v q
          · exact hoky _ (List.mem_of_getElem? hb)
        · rw [hval]; exact suF_step _ _ _ _ (by unfold childF; rw [ha, hb]; exact if_neg (by assumption)) hb
    · obtain ⟨a, ha⟩ : ∃ a, ys[2 * k + 1]? = some a := ⟨_, List.getElem?_eq_getElem (by lia)⟩
      · refine item_rule (2 * k + 1) (News.get (by assumption) (.head _)) (by lia) (by lia) ha ?_
        walk_at "my steps"
        refine set_rule k (by assumption) (News.get (by assumption) (.head _)) hLl hgl rfl (by lia) (by lia) ?_
        intro h₆ F₆ hl₆ hs₆
        have N₆ := News.one hl₆ hLl hgl
        walk_at "my steps"
        refine ⟨xs.length - (2 * k + 1), by lia, _, _, _, _, 2 * k + 1, rfl, by assumption, by assumption, rfl, ⟨_, rfl⟩, ⟨_, rfl⟩, rfl, HasInt.of rfl (by lia), HasInt.of rfl (by lia), by simpa using hlen, by lia, by lia, ?_, ?_⟩
        · intro v hv
          rcases List.mem_or_eq_of_mem_set hv with q | rfl
          · exact hoky v q
          · exact hoky _ (List.mem_of_getElem? ha)
        · rw [hval]; exact suF_step _ _ _ _ (by unfold childF; rw [ha, List.getElem?_eq_none (by lia)]) ha
    · refine set_rule k (by assumption) (News.get (by assumption) (.head _)) hLl hgl rfl (by lia) (by lia) ?_
      intro h₆ F₆ hl₆ hs₆
      have N₆ := News.one hl₆ hLl hgl
      walk_at "my steps"
      refine siftdown_spec b (fun a o e => Fr.keep F₆ a o (hbg a o e)) hl0 hl₆ (by simp; lia) (Room.mono (Room.deeper hr _) (by decide)) (by simp; lia) C (hPk _ _ hP (hkg.trans fun b o _ e => Fr.keep F₆ b o e)) hPk ?_ ?_
      · intro v hv
        rcases List.mem_or_eq_of_mem_set hv with q | rfl
        · exact hoky v q
        · exact hok _ (List.mem_of_getElem? hx)
      · intro h₇ tk₇ hl₇ hk₇
        have hk₇' : Kp [l] s.heap h₇ := (hkg.trans fun b o _ e => Fr.keep F₆ b o e).trans hk₇
        walk_at "my steps"
        refine h _ _ ?_ hk₇'
        have e : suF key xs.length xs ps = (ys, k) := by rw [hval]; exact suF_stop _ _ _ _ (by lia)
        unfold siftupF; rw [hx]; simp only [e]; exact hl₇

end
section
theorem heappush_spec {A : Around} {s : Shared} {base : Heap} {l : Addr} {xs : List Value} {n : Nat} {x : Value} {Q E : Value → Shared → Prop} {P : Heap → Prop} {ok : Value → Prop} {key : Value → Int}
    (b : Bs w mean mg mb base) (hst : ∀ a o, base.get? a = some o → s.heap.get? a = some o) (hl0 : base.get? l = none)
    (hl : s.heap.get? l = some (W.listOf xs.toArray n)) (hr : Room A 8) (hz : xs.length < 900)
    (C : Cmp w P ok key) (hP : P s.heap) (hPk : ∀ h h', P h → Kp [l] h h' → P h') (hok : ∀ v ∈ xs, ok v) (hx : ok x)
    (h : ∀ h' tk' n', h'.get? l = some (W.listOf (pushF key xs x).toArray n') → Kp [l] s.heap h' → Q .none { s with heap := h', toks := tk' }) :
    wpAny (model rw_nb0130_01.row.prog w) A (call (.ref 21) [.ref l, x]) Q E s := by
  refine' enter (binds := [(Str.ofString "heap", .ref l), (Str.ofString "item", x)]) [l] b hst (by simpa using hl0) ?kho ?kcd ?kroom ?kbind ?kloc ?_ ?kco ?kgen ?kk ?kcell
  walk_at "my enter"
  intro g L' h' F' b' hbg hkg hg0 hh
  have hLl : l ≠ L' := (hh _ _ hl).2
  have hgl : g.get? l = none := hg0 _ (by simp)
  have N' := News.one (hh _ _ hl).1 hLl hgl
  have X' := b'.X
  have T' := b'.T
  have hz' : (xs ++ [x]).length < 1000 := by simp; lia
  have hz'' : (xs ++ [x]).length = xs.length + 1 := by simp
  (try dsimp only)
  w_on
  (try k_fold)
  walk_at "my steps"
  rename Fr _ _ _ _ => F₂
  rename News _ _ _ _ => N₂
  rw [show (((xs ++ [x]).length : Nat) : Int) - 1 = ((xs.length : Nat) : Int) by lia]
  refine siftdown_spec (st := 0) (ps := xs.length) b (fun a o e => Fr.keep F₂ a o (hbg a o e)) hl0 (News.get N₂ (.head _)) (by simp) (Room.mono (Room.deeper hr _) (by decide)) hz' C (hPk _ _ hP (hkg.trans fun b o _ e => Fr.keep F₂ b o e)) hPk ?_ ?_
  · intro v hv
    rcases List.mem_append.mp hv with q | q
    · exact hok v q
    · rw [List.mem_singleton.mp q]; exact hx
  · intro h₇ tk₇ hl₇ hk₇
    have hk₇' : Kp [l] s.heap h₇ := (hkg.trans fun b o _ e => Fr.keep F₂ b o e).trans hk₇
    walk_at "my steps"
    exact h _ _ _ hl₇ hk₇'

theorem heappop_spec {A : Around} {s : Shared} {base : Heap} {l : Addr} {xs : List Value} {n : Nat} {Q E : Value → Shared → Prop} {P : Heap → Prop} {ok : Value → Prop} {key : Value → Int} {x : Value}
    (b : Bs w mean mg mb base) (hst : ∀ a o, base.get? a = some o → s.heap.get? a = some o) (hl0 : base.get? l = none)
    (hl : s.heap.get? l = some (W.listOf (x :: xs).toArray n)) (hr : Room A 8) (hz : xs.length < 900)
    (C : Cmp w P ok key) (hP : P s.heap) (hPk : ∀ h h', P h → Kp [l] h h' → P h') (hok : ∀ v ∈ x :: xs, ok v)
    (h : ∀ h' tk' n', h'.get? l = some (W.listOf (popF key (x :: xs)).toArray n') → Kp [l] s.heap h' → Q x { s with heap := h', toks := tk' }) :
    wpAny (model rw_nb0130_01.row.prog w) A (call (.ref 28) [.ref l]) Q E s := by
  refine' enter (binds := [(Str.ofString "heap", .ref l)]) [l] b hst (by simpa using hl0) ?kho ?kcd ?kroom ?kbind ?kloc ?_ ?kco ?kgen ?kk ?kcell
  walk_at "my enter"
  intro g L' h' F' b' hbg hkg hg0 hh
  have hLl : l ≠ L' := (hh _ _ hl).2
  have hgl : g.get? l = none := hg0 _ (by simp)
  have N' := News.one (hh _ _ hl).1 hLl hgl
  have X' := b'.X
  have T' := b'.T
  (try dsimp only)
  w_on
  (try k_fold)
  walk_at "my steps"
  obtain ⟨p, y, hpy⟩ : ∃ p y, x :: xs = p ++ [y] := ⟨_, _, (List.dropLast_concat_getLast (List.cons_ne_nil x xs)).symm⟩
  have hlen : p.length = xs.length := by have := congrArg List.length hpy; simp at this; lia
  refine pop_rule (p := p) (y := y) (by assumption) (by rw [← hpy]; exact News.get (by assumption) (.head _)) hLl hgl (by lia) ?_
  intro h₂ F₂ hl₂
  have N₂ := News.one hl₂ hLl hgl
  walk_at "my steps"
  · rename Fr _ _ _ _ => F₃
    rename News _ _ _ _ => N₃
    have hp0 : p = [] := List.isEmpty_iff.mp (by assumption)
    subst hp0
    simp only [List.nil_append, List.cons.injEq] at hpy
    obtain ⟨rfl, rfl⟩ := hpy
    exact h _ _ _ (News.get N₃ (.head _)) (hkg.trans fun b o _ e => Fr.keep F₃ b o e)
  · rename Fr _ _ _ _ => F₃
    rename News _ _ _ _ => N₃
    obtain ⟨r, rfl⟩ : ∃ r, p = x :: r := by
      cases p with
      | nil => simp at *
      | cons a r => simp only [List.cons_append, List.cons.injEq] at hpy; exact ⟨r, by rw [hpy.1]⟩
    refine item_rule 0 (News.get N₃ (.head _)) rfl (by lia) (v := x) rfl ?_
    walk_at "my steps"
    refine set_rule 0 (by assumption) (News.get (by assumption) (.head _)) hLl hgl rfl (by simp) (by lia) ?_
    intro h₆ F₆ hl₆ hs₆
    have N₆ := News.one hl₆ hLl hgl
    walk_at "my steps"
    refine siftup_spec (ps := 0) b (fun a o e => Fr.keep F₆ a o (hbg a o e)) hl0 hl₆ (by simp) (Room.mono (Room.deeper hr _) (by decide)) (by simp at hlen ⊢; lia) C (hPk _ _ hP (hkg.trans fun b o _ e => Fr.keep F₆ b o e)) hPk ?_ ?_
    · intro v hv
      rcases List.mem_or_eq_of_mem_set hv with q | rfl
      · exact hok v (by rw [hpy]; exact List.mem_append_left _ q)
      · exact hok _ (by rw [hpy]; exact List.mem_append_right _ (.head _))
    · intro h₇ tk₇ hl₇ hk₇
      have hk₇' : Kp [l] s.heap h₇ := (hkg.trans fun b o _ e => Fr.keep F₆ b o e).trans hk₇
      have F₇ := Fr.kp F₆ hk₇ (by simpa using Ne.symm hLl) hg0
      have N₇ := News.one hl₇ hLl hgl
      walk_at "my steps"
      refine h _ _ (n + 1) ?_ hk₇'
      have e : popF key (x :: xs) = siftupF key (y :: r) 0 := by
        rw [hpy]; exact popF_concat ..
      rw [e]; exact hl₇

theorem heapreplace_spec {A : Around} {s : Shared} {base : Heap} {l : Addr} {xs : List Value} {n : Nat} {Q E : Value → Shared → Prop} {P : Heap → Prop} {ok : Value → Prop} {key : Value → Int} {x y : Value}
    (b : Bs w mean mg mb base) (hst : ∀ a o, base.get? a = some o → s.heap.get? a = some o) (hl0 : base.get? l = none)
    (hl : s.heap.get? l = some (W.listOf (x :: xs).toArray n)) (hr : Room A 8) (hz : xs.length < 900)
    (C : Cmp w P ok key) (hP : P s.heap) (hPk : ∀ h h', P h → Kp [l] h h' → P h') (hok : ∀ v ∈ x :: xs, ok v) (hy : ok y)
    (h : ∀ h' tk', h'.get? l = some (W.listOf (replaceF key (x :: xs) y).toArray n) → Kp [l] s.heap h' → Q x { s with heap := h', toks := tk' }) :
    wpAny (model rw_nb0130_01.row.prog w) A (call (.ref 35) [.ref l, y]) Q E s := by
  refine' enter (binds := [(Str.ofString "heap", .ref l), (Str.ofString "item", y)]) [l] b hst (by simpa using hl0) ?kho ?kcd ?kroom ?kbind ?kloc ?_ ?kco ?kgen ?kk ?kcell
  walk_at "my enter"
  intro g L' h' F' b' hbg hkg hg0 hh
  have hLl : l ≠ L' := (hh _ _ hl).2
  have hgl : g.get? l = none := hg0 _ (by simp)
  have N' := News.one (hh _ _ hl).1 hLl hgl
  have X' := b'.X
  have T' := b'.T
  (try dsimp only)
  w_on
  (try k_fold)
  walk_at "my steps"
  refine item_rule 0 (News.get (by assumption) (.head _)) rfl (by lia) (v := x) rfl ?_
  walk_at "my steps"
  refine set_rule 0 (by assumption) (News.get (by assumption) (.head _)) hLl hgl rfl (by simp) (by lia) ?_
  intro h₆ F₆ hl₆ hs₆
  have N₆ := News.one hl₆ hLl hgl
  walk_at "my steps"
  refine siftup_spec (ps := 0) b (fun a o e => Fr.keep F₆ a o (hbg a o e)) hl0 hl₆ (by simp) (Room.mono (Room.deeper hr _) (by decide)) (by simp; lia) C (hPk _ _ hP (hkg.trans fun b o _ e => Fr.keep F₆ b o e)) hPk ?_ ?_
  · intro v hv
    rcases List.mem_or_eq_of_mem_set hv with q | rfl
    · exact hok v q
    · exact hy
  · intro h₇ tk₇ hl₇ hk₇
    have hk₇' : Kp [l] s.heap h₇ := (hkg.trans fun b o _ e => Fr.keep F₆ b o e).trans hk₇
    have F₇ := Fr.kp F₆ hk₇ (by simpa using Ne.symm hLl) hg0
    have N₇ := News.one hl₇ hLl hgl
    walk_at "my steps"
    exact h _ _ hl₇ hk₇'

theorem heappushpop_spec {A : Around} {s : Shared} {base : Heap} {l : Addr} {xs : List Value} {n : Nat} {Q E : Value → Shared → Prop} {P : Heap → Prop} {ok : Value → Prop} {key : Value → Int} {y : Value}
    (b : Bs w mean mg mb base) (hst : ∀ a o, base.get? a = some o → s.heap.get? a = some o) (hl0 : base.get? l = none)
    (hl : s.heap.get? l = some (W.listOf xs.toArray n)) (hr : Room A 8) (hz : xs.length < 900)
    (C : Cmp w P ok key) (hP : P s.heap) (hPk : ∀ h h', P h → Kp [l] h h' → P h') (hok : ∀ v ∈ xs, ok v) (hy : ok y)
    (h : ∀ h' tk', h'.get? l = some (W.listOf (pushpopF key xs y).2.toArray n) → Kp [l] s.heap h' → Q (pushpopF key xs y).1 { s with heap := h', toks := tk' }) :
    wpAny (model rw_nb0130_01.row.prog w) A (call (.ref 42) [.ref l, y]) Q E s := by
  obtain ⟨ha, dp, fr, gd, un⟩ := A
  obtain rfl : ha = none := Room.hd hr
  refine' enter (binds := [(Str.ofString "heap", .ref l), (Str.ofString "item", y)]) [l] b hst (by simpa using hl0) ?kho ?kcd ?kroom ?kbind ?kloc ?_ ?kco ?kgen ?kk ?kcell
  walk_at "my enter"
  intro g L' h' F' b' hbg hkg hg0 hh
  have hLl : l ≠ L' := (hh _ _ hl).2
  have hgl : g.get? l = none := hg0 _ (by simp)
  have N' := News.one (hh _ _ hl).1 hLl hgl
  have X' := b'.X
  have T' := b'.T
  (try dsimp only)
  w_on
  (try k_fold)
  walk_at "my steps"
  · have hp0 : xs = [] := List.isEmpty_iff.mp (by assumption)
    subst hp0
    exact h _ _ (News.get N' (.head _)) (hkg.trans fun b o _ e => Fr.keep F' b o e)
  · obtain ⟨x, r, rfl⟩ : ∃ x r, xs = x :: r := by
      cases xs with
      | nil => simp at *
      | cons a r => exact ⟨a, r, rfl⟩
    refine item_rule 0 (News.get (by assumption) (.head _)) rfl (by lia) (v := x) rfl ?_
    walk_at "my steps"
    refine C _ _ _ _ _ _ (hPk _ _ hP (hkg.trans fun b o _ e => Fr.keep (by assumption) b o e)) (hok _ (.head _)) hy (Room.mono (Room.deeper hr _) (by decide)) ?_
    intro h₅ tk₅ hk₅
    rename Fr _ _ _ _ => F₃
    rename News _ _ _ _ => N₃
    have F₅ := Fr.grownK F₃ hk₅
    have N₅ := News.grown N₃ hk₅
    clear F₃ N₃
    walk_at "my steps"
    · refine item_rule 0 (News.get (by assumption) (.head _)) rfl (by lia) (v := x) rfl ?_
      walk_at "my steps"
      dsimp only
      rename Fr _ _ _ _ => F₄
      rename News _ _ _ _ => N₄
      refine set_rule 0 F₄ (vs := x :: r) (n := n) (News.get N₄ (.tail _ (.head _))) hLl hgl rfl (by simp) (by lia) ?_
      intro h₆ F₆ hl₆ hs₆
      have N₆ := News.one hl₆ hLl hgl
      dsimp only
      clear N₄ F₄
      walk_at "my steps"
      refine siftup_spec (ps := 0) b (fun a o e => Fr.keep F₆ a o (hbg a o e)) hl0 hl₆ (by simp) (Room.mono (Room.deeper hr _) (by decide)) (by simp at hz ⊢; lia) C (hPk _ _ hP (hkg.trans fun b o _ e => Fr.keep F₆ b o e)) hPk ?_ ?_
      · intro v hv
        rcases List.mem_or_eq_of_mem_set hv with q | rfl
        · exact hok v q
        · exact hy
      · intro h₇ tk₇ hl₇ hk₇
        have hk₇' : Kp [l] s.heap h₇ := (hkg.trans fun b o _ e => Fr.keep F₆ b o e).trans hk₇
        have F₇ := Fr.kp F₆ hk₇ (by simpa using Ne.symm hLl) hg0
        have N₇ := News.one hl₇ hLl hgl
        clear F₆ N₆
        walk_at "my steps"
        have e : pushpopF key (x :: r) y = (x, siftupF key (y :: r) 0) := by unfold pushpopF; exact if_pos (by assumption)
        rw [e] at h
        exact h _ _ hl₇ hk₇'
    · have e : pushpopF key (x :: r) y = (y, x :: r) := by unfold pushpopF; exact if_neg (by assumption)
      rw [e] at h
      exact h _ _ (News.get N₅ (.head _)) (hkg.trans fun b o _ e => Fr.keep F₅ b o e)

end
section
theorem heapify_spec {A : Around} {s : Shared} {base : Heap} {l : Addr} {xs : List Value} {n : Nat} {Q E : Value → Shared → Prop} {P : Heap → Prop} {ok : Value → Prop} {key : Value → Int}
    (b : Bs w mean mg mb base) (hst : ∀ a o, base.get? a = some o → s.heap.get? a = some o) (hl0 : base.get? l = none)
    (hl : s.heap.get? l = some (W.listOf xs.toArray n)) (hr : Room A 9) (hz : xs.length < 900)
    (C : Cmp w P ok key) (hP : P s.heap) (hPk : ∀ h h', P h → Kp [l] h h' → P h') (hok : ∀ v ∈ xs, ok v)
    (h : ∀ h' tk', h'.get? l = some (W.listOf (heapifyF key (xs.length / 2) xs).toArray n) → Kp [l] s.heap h' → Q .none { s with heap := h', toks := tk' }) :
    wpAny (model rw_nb0130_01.row.prog w) A (call (.ref 49) [.ref l]) Q E s := by
  obtain ⟨ha, dp, fr, gd, un⟩ := A
  obtain rfl : ha = none := Room.hd hr
  refine' enter (binds := [(Str.ofString "x", .ref l)]) [l] b hst (by simpa using hl0) ?kho ?kcd ?kroom ?kbind ?kloc ?_ ?kco ?kgen ?kk ?kcell
  walk_at "my enter"
  intro g L' h' F' b' hbg hkg hg0 hh
  have hLl : l ≠ L' := (hh _ _ hl).2
  have hgl : g.get? l = none := hg0 _ (by simp)
  have N' := News.one (hh _ _ hl).1 hLl hgl
  have X' := b'.X
  have T' := b'.T
  (try dsimp only)
  w_on
  (try k_fold)
  walk_at "my steps"
  refine for_head ?_
  walk_at "my steps"
  rename IsRange _ _ _ _ _ _ _ _ => R₁
  rename Fr _ _ _ _ => F₁
  rename News _ _ _ _ => N₁
  have hk : (xs.length : Int).fdiv 2 = ((xs.length / 2 : Nat) : Int) := by
    rw [Int.fdiv_eq_ediv_of_nonneg _ (by decide)]; rfl
  rw [hk] at R₁
  refine reversed_range R₁ (by lia) ?_
  refine pyIter_rangeIter (Heap.get?_push_size _ rfl) ?_
  rename_i h₁ _ _ _ _ _
  have hnew := Fr.newAt F₁
  have hil : l ≠ h₁.objs.size := Nat.ne_of_lt (Heap.lt_size (News.get N₁ (.head _)))
  have F₂ := F₁.push { cls := .type "range_iterator", data := .fields #[rawInt (((xs.length / 2 : Nat) : Int) - 1), rawInt ((xs.length / 2 : Nat) : Int), rawInt (-1)] }
  have I₂ : IsRangeIter (h₁.push { cls := .type "range_iterator", data := .fields #[rawInt (((xs.length / 2 : Nat) : Int) - 1), rawInt ((xs.length / 2 : Nat) : Int), rawInt (-1)] }) h₁.objs.size (((xs.length / 2 : Nat) : Int) - 1) ((xs.length / 2 : Nat) : Int) (-1) := Heap.get?_push_size _ rfl
  have L₂ := Heap.get?_push_of_some { cls := .type "range_iterator", data := .fields #[rawInt (((xs.length / 2 : Nat) : Int) - 1), rawInt ((xs.length / 2 : Nat) : Int), rawInt (-1)] } (News.get N₁ (.head _))
  dsimp only
  generalize h₁.objs.size = it at hnew hil I₂ ⊢
  refine for_loop (fun k s' => ∃ h' tk m' ys, s' = { s with heap := h', toks := tk } ∧ Fr g L' h' m' ∧ h'.get? l = some (W.listOf (List.toArray ys) n) ∧ IsRangeIter h' it ((k : Int) - 1) (k : Int) (-1) ∧
    m' (Str.ofString "x") = some (.ref l) ∧ ys.length = xs.length ∧ (∀ v ∈ ys, ok v) ∧ heapifyF key (xs.length / 2) xs = heapifyF key k ys ∧ k ≤ xs.length / 2) ?_ (xs.length / 2) ⟨_, _, _, xs, rfl, F₂, L₂, I₂, rfl, rfl, hok, rfl, Nat.le_refl _⟩
  clear F₂ L₂ I₂ F₁ N₁ R₁
  rintro k s' ⟨h₃, tk, m₃, ys, rfl, F₃, L₃, I₃, e1, hlen, hoky, hval, hkl⟩
  cases k with
  | zero =>
    refine wpAny_pyNext_range_end rfl I₃ (by simp) ?_
    intro h₄ hx
    have F₄ := Fr.kp (S := [it]) F₃ (fun b o n e => hx b o (by simpa using n) e) (by simpa using Ne.symm hnew.2) (by simpa using hnew.1)
    have L₄ := hx l _ hil L₃
    dsimp only
    walk_at "my steps"
    exact h _ _ (by rw [hval]; exact L₄) (hkg.trans fun b o _ e => Fr.keep F₄ b o e)
  | succ k =>
    refine wpAny_pyNext_range_item I₃ (by lia) ?_
    intro h₄ I₄ hs₄
    have F₄ := Fr.kp (S := [it]) F₃ (fun b o n e => hs₄.extBut b o (by simpa using n) e) (by simpa using Ne.symm hnew.2) (by simpa using hnew.1)
    have L₄ := hs₄.extBut l _ hil L₃
    have F₅ := Fr.pins F₄ [(Str.ofString "x", .ref l)] (by simp [e1])
    have N₅ : News g L' h₄ [(l, W.listOf ys.toArray n), (it, { cls := .type "range_iterator", dict := none, data := .fields #[rawInt (((k : Nat) : Int) - 1), rawInt ((k : Nat) : Int), rawInt (-1)], slots := #[] })] := by
      intro p hp
      rcases List.mem_cons.mp hp with rfl | hp
      · exact ⟨L₄, hLl, hgl⟩
      · rcases List.mem_singleton.mp hp with rfl
        refine ⟨?_, hnew.2, hnew.1⟩
        have e1 : (((k + 1 : Nat) : Int) - 1 + -1) = ((k : Nat) : Int) - 1 := by lia
        have e2 : (((k + 1 : Nat) : Int) - 1) = ((k : Nat) : Int) := by lia
        rw [e1, e2] at I₄
        exact I₄
    clear F₃ L₃ I₃ F₄
    dsimp only
    refine wpAny_assign_Name ?_
    walk_at "my steps"
    rename Fr _ _ _ _ => F₆
    rename News _ _ _ _ => N₆
    rw [show (((k + 1 : Nat) : Int) - 1) = ((k : Nat) : Int) by lia]
    refine siftup_spec (ps := k) b (fun a o e => Fr.keep F₆ a o (hbg a o e)) hl0 (News.get N₆ (.head _)) (by lia) (Room.mono (Room.deeper hr _) (by decide)) (by lia) C (hPk _ _ hP (hkg.trans fun b o _ e => Fr.keep F₆ b o e)) hPk hoky ?_
    intro h₇ tk₇ hl₇ hk₇
    have F₇ := Fr.kp F₆ hk₇ (by simpa using Ne.symm hLl) hg0
    have I₇ := hk₇ _ _ (by simpa using Ne.symm hil) (News.get N₆ (.tail _ (.head _)))
    clear F₆ N₆
    walk_at "my steps"
    refine ⟨k, by lia, _, _, _, siftupF key ys k, rfl, F₇, hl₇, I₇, rfl, by rw [siftupF_length]; exact hlen, ?_, hval, by lia⟩
    intro v hv
    exact hoky v (siftupF_mem _ _ _ _ hv)

end
section
theorem entry_hasattr : entryFor table "hasattr" = some Builtin.«hasattr» := entryFor_of_fast (by kernel_rfl)
theorem kind_hasattr : builtinKind "hasattr" = none := by decide +kernel
theorem plain_hasattr : plainId "hasattr" = true := by decide +kernel
theorem args_hasattr (a b : Value) : argsOk "hasattr" ⟨[a, b], []⟩ := by
  unfold argsOk; kernel_rfl

theorem getBy_value {prog : Program} {A : Around} {E : Value → Shared → Prop} {s : Shared} {K : Frag} {x C : Addr} {ox : Obj} {od : Option Obj} {name : Str} {fill : Bool} {t : Tok} {Q : Value → Shared → Prop} {v : Value}
    (X : K.In s.heap) (I : W.InstAt s.heap x ox C od) (hga : findIn K (.ref C) "__getattribute__" = some (some (.builtin "object.__getattribute__")))
    (hf : findObj K C od name = some (.value v)) (hh : handedIn v = true) (h : Q v s) : wpAny (model prog w) A (getAttrBy (.ref x) (.str name t) fill) Q E s := by
  obtain ⟨hh', g, d, tk, os⟩ := s
  have L0 := I.type (M := model prog w)
  have L1 := looks_findIn (M := model prog w) X hga
  have L2 := looks_find (M := model prog w) X I hf
  unfold getAttrBy
  refine wpAny_holding (wpAny_bind (L0.at (wpAny_bind (L1.at ?_))))
  show wpAny _ _ (getAttrEveryday _ _ _) _ _ _
  refine wpAny_bind (wpAny_onRaise (wpAny_runValue (codeAny_builtin F.plainObj_entry_getattr_hooked ?_)))
  refine wpAny_bind (wpAny_pure (wpAny_bind (L0.at (wpAny_bind (L2.at ?_)))))
  refine wpAny_pure ?_
  show wpAny _ _ (handedOut v) _ _ _
  rw [handedOut_of hh]; exact wpAny_pure h

theorem hasattr_rule {prog : Program} {A : Around} {E : Value → Shared → Prop} {s : Shared} {K : Frag} {x C : Addr} {ox : Obj} {od : Option Obj} {name : Str} {t : Tok} {Q : Value → Shared → Prop} {v : Value}
    (X : K.In s.heap) (I : W.InstAt s.heap x ox C od) (hga : findIn K (.ref C) "__getattribute__" = some (some (.builtin "object.__getattribute__")))
    (hm : mroIn K C (.type "module") = some false)
    (hf : findObj K C od name = some (.value v)) (hh : handedIn v = true) (h : Q (.bool true) s) : wpAny (model prog w) A (call (.builtin "hasattr") [.ref x, .str name t]) Q E s := by
  refine Calls.call_function_entry kind_hasattr plain_hasattr entry_hasattr (args_hasattr _ _) ?_
  unfold Builtin.«hasattr»
  refine wpAny_bind (wpAny_of_eq (a := [.ref x, .str name t]) (by rfl) ?_)
  dsimp only
  refine wpAny_bind (wpAny_of_eq (a := ()) (by rfl) ?_)
  rw [if_neg (by intro e; cases e)]
  have L0 := I.type (M := model prog w)
  refine wpAny_bind (L0.here ?_)
  dsimp only
  refine wpAny_bind ?_
  have Lm : Looks (model prog w) s.heap (isInstance (.ref x) (.type "module")) false := L0.andThen (looks_mroIn X hm)
  refine wpAny_bind (m := isInstance (.ref x) (.type "module")) (Lm.here ?_)
  refine wpAny_pure ?_
  rw [if_neg (by decide)]
  refine wpAny_bind ?_
  unfold getAttrBy?
  refine wpAny_bind (wpAny_attempt (getBy_value X I hga hf hh ?_))
  refine wpAny_pure ?_
  rw [if_neg (by simp)]
  exact wpAny_pure ⟨_, rfl, h⟩

theorem gt_bind (self : Value) : bindSpecial (.builtin "object.__gt__") self = pure (.builtin "object.__gt__", [self]) :=
  (Slot.of (T := "object") (name := "__gt__") (owner := "object") (n := "__gt__") (by rw [typeLookup_type, builtinLookup_eq_fast]; kernel_rfl) (by decide +kernel) (by decide +kernel) (by decide +kernel)
    (.inl (by decide +kernel)) (by rw [isSubtype_type]; kernel_rfl)).bind self
theorem entry_gt : entryFor table "object.__gt__" = some Builtin.«object.__gt__» := entryFor_of_tree (by kernel_rfl)
theorem gt_plain : plainId "object.__gt__" = true := by decide +kernel
theorem gt_kind : builtinKind "object.__gt__" = some .slot := by decide +kernel
theorem gt_split : splitId "object.__gt__" = some ("object", "__gt__") := by decide +kernel
theorem gt_args (a b : Value) : argsOk "object.__gt__" ⟨[a, b], []⟩ := by unfold argsOk; kernel_rfl
theorem gt_run (a b : Value) : Builtin.«object.__gt__» ⟨[a, b], []⟩ = pure (.done (.ret .notImplemented)) := by kernel_rfl

theorem cmp_right {prog : Program} {A : Around} {E : Value → Shared → Prop} {s : Shared} {K : Frag} {x y C D f : Addr} {ox oy : Obj} {od od' : Option Obj} {Q : Value → Shared → Prop}
    (hu : A.units < cLine) (X : K.In s.heap) (I : W.InstAt s.heap x ox C od) (J : W.InstAt s.heap y oy D od') (hne : (Value.ref C != Value.ref D) = true) (hsub : subIn K (.ref D) (.ref C) = some true)
    (hgt : findIn K (.ref D) "__gt__" = some (some (.builtin "object.__gt__"))) (hob : mroIn K D (.type "object") = some true)
    (hs : findIn K (.ref C) "__lt__" = some (some (.ref f))) (hf : isFn K (.ref f) = true)
    (h : wpAny (model prog w) A (call (.ref f) [.ref x, .ref y]) (W.CmpBack Q) E s) : wpAny (model prog w) A (richCompare .Lt (.ref x) (.ref y)) Q E s := by
  have one : wpAny (model prog w) A (tryCompare (.ref x) "__lt__" (.ref y)) (fun r s' => ∃ v, r = some v ∧ Q v s') E s := by
    unfold tryCompare
    refine wpAny_bind (ifBound_K X I hs hf (wpAny_mono h (fun v s' hv => ?_) fun _ _ e => e))
    cases v <;> first | exact hv.elim | exact wpAny_pure ⟨_, rfl, hv⟩
  have two : ∀ {Q' : Option Value → Shared → Prop}, Q' none s → wpAny (model prog w) A (tryCompare (.ref y) "__gt__" (.ref x)) Q' E s := by
    intro Q' hq
    unfold tryCompare
    refine wpAny_bind ?_
    simp only [callSpecialIfBound?, bindSpecialIfBound?]
    refine wpAny_holding (wpAny_bind (wpAny_bind (wpAny_bind (J.type.here ((looks_findIn X hgt).here ?_)))))
    refine wpAny_bind (wpAny_askSetting (wpAny_ite ?_))
    have fin : wpAny (model prog w) A (call (.builtin "object.__gt__") ([.ref y] ++ [.ref x]) >>= fun v => pure (some v)) (fun r s' => wpAny (model prog w) A (match r with | some .notImplemented | none => pure none | some v => pure (some v)) Q' E s') E s := by
      refine wpAny_bind (wpAny_call (codeAny_call_builtin gt_plain entry_gt (@check_slot (model prog w) _ _ _ "object.__gt__" "object" "__gt__" (.ref y) [.ref x] [] _ gt_kind gt_split (J.type.andThen (looks_mroIn X hob)) (gt_args _ _) ?_)))
      show wpAny _ _ (Builtin.«object.__gt__» ⟨[.ref y, .ref x], []⟩) _ _ _
      rw [gt_run]
      exact wpAny_pure (wpAny_pure (wpAny_pure hq))
    split
    · exact wpAny_bind (wpAny_of_eq (gt_bind _) (wpAny_pure (by exact fin)))
    · exact wpAny_tryCatch (wpAny_bind (wpAny_of_eq (gt_bind _) (wpAny_pure (by exact fin))))
  unfold richCompare
  simp only [oneThing_ref]
  refine wpAny_holding (wpAny_bind (wpAny_cRoomFor hu ?_))
  refine wpAny_bind (I.type.here (wpAny_bind (J.type.here ?_)))
  rw [if_pos hne]
  refine wpAny_bind ((looks_subIn X hsub).here ?_)
  simp only [if_true]
  refine wpAny_bind (two ?_)
  dsimp only
  refine wpAny_bind (wpAny_mono one (fun r s' z => ?_) fun _ _ e => e)
  obtain ⟨v, rfl, hq⟩ := z
  exact wpAny_pure hq

end
section
/-- every other object of h that the frame's base does not hold -/
def others (g h : Heap) (L d : Addr) : List (Addr × Obj) := (List.range h.objs.size).filterMap fun b => if b = d ∨ b = L then none else (match g.get? b with
  | some _ => none
  | none => (h.get? b).map fun o => (b, o))
theorem others_mem {g h : Heap} {L d b : Addr} {o : Obj} : (b, o) ∈ others g h L d ↔ (b ≠ d ∧ b ≠ L ∧ g.get? b = none ∧ h.get? b = some o) := by
  unfold others
  rw [List.mem_filterMap]
  constructor
  · rintro ⟨c, hc, e⟩
    split at e
    · cases e
    · rename_i q
      split at e
      · cases e
      · rename_i q2
        obtain ⟨o', ho, e2⟩ := Option.map_eq_some_iff.mp e
        cases e2
        exact ⟨fun z => q (.inl z), fun z => q (.inr z), q2, ho⟩
  · rintro ⟨h1, h2, h3, h4⟩
    refine ⟨b, List.mem_range.mpr (Heap.lt_size h4), ?_⟩
    rw [if_neg (by intro z; rcases z with z | z <;> contradiction), h3, h4]; rfl
theorem others_news {g h : Heap} {L d : Addr} : News g L h (others g h L d) := fun p hp => by
  obtain ⟨b, o⟩ := p
  obtain ⟨h1, h2, h3, h4⟩ := others_mem.mp hp
  exact ⟨h4, h2, h3⟩

def clsOrder (C : Addr) : Int := if C = 115 then 1000 else 500

structure HDict (C : Addr) (es : List DictEntry) (o m : Int) : Prop where
  par : ∃ t, getL (Str.ofString "parent") es = some (some (.int m t))
  ord : (∃ t, getL (Str.ofString "handler_order") es = some (some (.int o t)) ∧ es.length ≤ 2) ∨ (getL (Str.ofString "handler_order") es = some none ∧ o = clsOrder C ∧ es.length ≤ 1)

/-- a handler: its instance at a, its dict at d, its class C, its order o, its parent m -/
structure HdAt (h : Heap) (a d C : Addr) (o m : Int) : Prop where
  cls : C = 94 ∨ C = 115
  obj : h.get? a = some (instObj C d)
  dict : ∃ es n, h.get? d = some (dictOf es n) ∧ HDict C es o m

theorem HdAt.keeps {h h' : Heap} {a d C : Addr} {o m : Int} (H : HdAt h a d C o m) (k1 : ∀ x, h.get? a = some x → h'.get? a = some x) (k2 : ∀ x, h.get? d = some x → h'.get? d = some x) : HdAt h' a d C o m :=
  ⟨H.cls, k1 _ H.obj, let ⟨es, n, e, r⟩ := H.dict; ⟨es, n, k2 _ e, r⟩⟩

theorem order_found {C : Addr} {es : List DictEntry} {n : Nat} {o m : Int} (hC : C = 94 ∨ C = 115) (H : HDict C es o m) :
    ∃ t, findObj (hd.heap_39 w.params) C (some (dictOf es n)) (Str.ofString "handler_order") = some (.value (.int o t)) := by
  rcases H.ord with ⟨t, e, _⟩ | ⟨e, rfl, _⟩
  · refine ⟨t, ?_⟩
    rcases hC with rfl | rfl
    · exact findObj_own (attr := some (.int 500 271)) (by k_is) (by k_is) (by k_is) (by rw [lookIn_dict]; exact e)
    · exact findObj_own (attr := some (.int 1000 317)) (by k_is) (by k_is) (by k_is) (by rw [lookIn_dict]; exact e)
  · rcases hC with rfl | rfl
    · exact ⟨271, findObj_cls (by k_is) (by k_is) (by k_is) rfl (by decide) (by rw [lookIn_dict]; exact e)⟩
    · exact ⟨317, findObj_cls (by k_is) (by k_is) (by k_is) rfl (by decide) (by rw [lookIn_dict]; exact e)⟩
theorem parent_found {C : Addr} {es : List DictEntry} {n : Nat} {o m : Int} (hC : C = 94 ∨ C = 115) (H : HDict C es o m) :
    ∃ t, findObj (hd.heap_39 w.params) C (some (dictOf es n)) (Str.ofString "parent") = some (.value (.int m t)) := by
  obtain ⟨t, e⟩ := H.par
  refine ⟨t, ?_⟩
  rcases hC with rfl | rfl
  · exact findObj_own (attr := none) (by k_is) (by k_is) (by k_is) (by rw [lookIn_dict]; exact e)
  · exact findObj_own (attr := none) (by k_is) (by k_is) (by k_is) (by rw [lookIn_dict]; exact e)
theorem plain_ga {C : Addr} (hC : C = 94 ∨ C = 115) : findIn (hd.heap_39 w.params) (.ref C) "__getattribute__" = some (some (.builtin "object.__getattribute__")) := by
  rcases hC with rfl | rfl
  · k_is
  · k_is

theorem get_order {A : Around} {E : Value → Shared → Prop} {s : Shared} {a d C : Addr} {o m : Int} {expr : Bool} {Q : Value → Shared → Prop} (X : (hd.heap_39 w.params).In s.heap) (H : HdAt s.heap a d C o m)
    (h : ∀ t, Q (.int o t) { s with toks := s.toks + 1 }) : wpAny (model rw_nb0130_01.row.prog w) A (getAttr (.ref a) (Str.ofString "handler_order") expr) Q E s := by
  obtain ⟨es, n, hd, D⟩ := H.dict
  obtain ⟨t, hf⟩ := order_found (w := w) (n := n) H.cls D
  exact get_value X ⟨H.obj, rfl, rfl, hd⟩ (plain_ga H.cls) hf rfl (h t)
theorem get_parent {A : Around} {E : Value → Shared → Prop} {s : Shared} {a d C : Addr} {o m : Int} {expr : Bool} {Q : Value → Shared → Prop} (X : (hd.heap_39 w.params).In s.heap) (H : HdAt s.heap a d C o m)
    (h : ∀ t, Q (.int m t) { s with toks := s.toks + 1 }) : wpAny (model rw_nb0130_01.row.prog w) A (getAttr (.ref a) (Str.ofString "parent") expr) Q E s := by
  obtain ⟨es, n, hd, D⟩ := H.dict
  obtain ⟨t, hf⟩ := parent_found (w := w) (n := n) H.cls D
  exact get_value X ⟨H.obj, rfl, rfl, hd⟩ (plain_ga H.cls) hf rfl (h t)
theorem has_order {A : Around} {E : Value → Shared → Prop} {s : Shared} {a d C : Addr} {o m : Int} {tk : Tok} {Q : Value → Shared → Prop} (X : (hd.heap_39 w.params).In s.heap) (H : HdAt s.heap a d C o m)
    (h : Q (.bool true) s) : wpAny (model rw_nb0130_01.row.prog w) A (call (.builtin "hasattr") [.ref a, .str (Str.ofString "handler_order") tk]) Q E s := by
  obtain ⟨es, n, hd, D⟩ := H.dict
  obtain ⟨t, hf⟩ := order_found (w := w) (n := n) H.cls D
  exact hasattr_rule X ⟨H.obj, rfl, rfl, hd⟩ (plain_ga H.cls) (by rcases H.cls with rfl | rfl <;> k_is) hf rfl h

theorem getL_put (name : Str) (hsh : Int) (t : Tok) (v : Value) : ∀ es : List DictEntry, getL name (putL name hsh (.str name t) v es) = some (some v)
  | [] => by
    have : (Value.str name t).isStr name = true := by simp [Value.isStr]
    simp [putL, getL, this]
  | e :: r => by
    unfold putL
    split
    · rename_i q; simp [getL, q]
    · rename_i q
      have ih := getL_put name hsh t v r
      unfold getL at ih ⊢
      rw [List.find?_cons]
      simp only [q]
      split at ih
      · rename_i e' he; rw [he]; exact ih
      · split at ih <;> simp at ih
theorem find_put_ne {name name' : Str} (hne : name ≠ name') (hsh : Int) (t : Tok) (v : Value) : ∀ es : List DictEntry, (putL name' hsh (.str name' t) v es).find? (·.key.isStr name) = es.find? (·.key.isStr name)
  | [] => by
    have : (Value.str name' t).isStr name = false := by simp [Value.isStr]; exact fun q => hne q.symm
    simp [putL, this]
  | e :: r => by
    unfold putL
    split
    · rename_i q
      have : e.key.isStr name = false := by
        cases z : e.key.isStr name with
        | false => rfl
        | true => exact absurd (Value.isStr_inj _ _ _ z q) hne
      simp only [List.find?_cons, this]
    · have ih := find_put_ne hne hsh t v r
      rw [List.find?_cons, List.find?_cons, ih]
theorem any_put {name' : Str} (hsh : Int) (t : Tok) (v : Value) : ∀ es : List DictEntry, (putL name' hsh (.str name' t) v es).any (·.refKey) = es.any (·.refKey)
  | [] => by simp [putL, DictEntry.refKey]
  | e :: r => by
    unfold putL
    split
    · simp only [List.any_cons]; rfl
    · have ih := any_put (name' := name') hsh t v r
      simp only [List.any_cons, ih]
theorem getL_put_ne {name name' : Str} (hne : name ≠ name') (hsh : Int) (t : Tok) (v : Value) (es : List DictEntry) : getL name (putL name' hsh (.str name' t) v es) = getL name es := by
  unfold getL
  rw [find_put_ne hne, any_put]
theorem putL_length (name : Str) (hsh : Int) (k v : Value) : ∀ es : List DictEntry, (putL name hsh k v es).length ≤ es.length + 1
  | [] => by simp [putL]
  | e :: r => by
    unfold putL
    split
    · simp
    · have := putL_length name hsh k v r; simp; lia
theorem putL_length_in (name : Str) (hsh : Int) (k v : Value) : ∀ es : List DictEntry, (∃ x, getL name es = some (some x)) → (putL name hsh k v es).length = es.length
  | [], h => by obtain ⟨x, e⟩ := h; simp [getL] at e
  | e :: r, h => by
    unfold putL
    split
    · simp
    · rename_i q
      have := putL_length_in name hsh k v r (by
        obtain ⟨x, z⟩ := h
        refine ⟨x, ?_⟩
        unfold getL at z ⊢
        rw [List.find?_cons] at z
        simp only [q] at z
        split at z
        · rename_i y hy; rw [hy]; exact z
        · split at z <;> simp at z)
      simp [this]

theorem set_attr_rule {A : Around} {E : Value → Shared → Prop} {s : Shared} {g : Heap} {L a d C : Addr} {mm : Str → Option Value} {es : List DictEntry} {n : Nat} {name : Str} {v : Value} {Q : Unit → Shared → Prop}
    (F : Fr g L s.heap mm) (X : (hd.heap_39 w.params).In g) (hC : C = 94 ∨ C = 115) (obj : s.heap.get? a = some (instObj C d)) (hdd : s.heap.get? d = some (dictOf es n)) (hg : g.get? d = none) (hdL : d ≠ L)
    (hl : (getL name es).isSome = true) (hz : es.length ≤ 100) (ht : takerIn (hd.heap_39 w.params) C name = some none)
    (h : ∀ h' n', Fr g L h' mm → h'.get? d = some (dictOf (putL name (PyData.keyHash w.params name) (.str name (s.toks + 1)) v es) n') → Kp [d, L] s.heap h' → Q () { s with heap := h', toks := s.toks + 2 }) :
    wpAny (model rw_nb0130_01.row.prog w) A (setAttr (.ref a) name v) Q E s := by
  refine W.set_dict (news := (d, dictOf es n) :: others g s.heap L d) (es' := putL name (PyData.keyHash w.params name) (.str name (s.toks + 1)) v es) (n' := putN name es n) F X ?_ ⟨obj, rfl, rfl, hdd⟩ rfl
    (by rcases hC with rfl | rfl <;> k_is) (by rcases hC with rfl | rfl <;> k_is) ht (by rcases hC with rfl | rfl <;> k_is) hl rfl (Upd.head ?_) (Nat.le_trans (putL_length ..) (by lia)) ?_
  · intro p hp
    rcases List.mem_cons.mp hp with rfl | hp
    · exact ⟨hdd, hdL, hg⟩
    · exact others_news p hp
  · intro p hp
    obtain ⟨b, o⟩ := p
    exact (others_mem.mp hp).1
  · intro h' F' N'
    refine h h' _ F' (N' _ (.head _)).1 fun b o hb e => ?_
    simp only [List.mem_cons, List.not_mem_nil, or_false, not_or] at hb
    cases q : g.get? b with
    | some o' =>
      have := F'.keep _ _ q
      rw [F.keep _ _ q] at e
      rw [this, ← e]
    | none => exact (N' (b, o) (.tail _ (others_mem.mpr ⟨hb.1, hb.2, q, e⟩))).1

theorem set_order_rule {A : Around} {E : Value → Shared → Prop} {s : Shared} {g : Heap} {L a d C : Addr} {mm : Str → Option Value} {o m o' : Int} {t : Tok} {Q : Unit → Shared → Prop}
    (F : Fr g L s.heap mm) (X : (hd.heap_39 w.params).In g) (H : HdAt s.heap a d C o m) (hg : g.get? d = none) (hdL : d ≠ L) (haL : a ≠ L) (had : a ≠ d)
    (h : ∀ h', Fr g L h' mm → HdAt h' a d C o' m → Kp [d, L] s.heap h' → Q () { s with heap := h', toks := s.toks + 2 }) :
    wpAny (model rw_nb0130_01.row.prog w) A (setAttr (.ref a) (Str.ofString "handler_order") (.int o' t)) Q E s := by
  obtain ⟨es, n, hdd, D⟩ := H.dict
  refine set_attr_rule F X H.cls H.obj hdd hg hdL (by rcases D.ord with ⟨t, e, _⟩ | ⟨e, _⟩ <;> rw [e] <;> rfl) (by rcases D.ord with ⟨t, e, _⟩ | ⟨e, _⟩ <;> lia) (by rcases H.cls with rfl | rfl <;> k_is) ?_
  intro h' n' F' hd' hk
  refine h h' F' ⟨H.cls, hk a _ (by simp [had, haL]) H.obj, _, _, hd', ?_, .inl ⟨t, getL_put .., ?_⟩⟩ hk
  · obtain ⟨t', e⟩ := D.par
    exact ⟨t', by rw [getL_put_ne (by decide)]; exact e⟩
  · rcases D.ord with ⟨t, e, hlen⟩ | ⟨e, _, hlen⟩
    · rw [putL_length_in _ _ _ _ _ ⟨_, e⟩]; exact hlen
    · exact Nat.le_trans (putL_length ..) (by lia)

end
section
theorem cmp_left {prog : Program} {A : Around} {E : Value → Shared → Prop} {s : Shared} {K : Frag} {x y C D f : Addr} {ox oy : Obj} {od od' : Option Obj} {Q : Value → Shared → Prop}
    (hu : A.units < cLine) (X : K.In s.heap) (I : W.InstAt s.heap x ox C od) (J : W.InstAt s.heap y oy D od') (hn : notFirst K C (.ref D) = true)
    (hs : findIn K (.ref C) "__lt__" = some (some (.ref f))) (hf : isFn K (.ref f) = true)
    (h : wpAny (model prog w) A (call (.ref f) [.ref x, .ref y]) (W.CmpBack Q) E s) : wpAny (model prog w) A (richCompare .Lt (.ref x) (.ref y)) Q E s := by
  have one : wpAny (model prog w) A (tryCompare (.ref x) "__lt__" (.ref y)) (fun r s' => ∃ v, r = some v ∧ Q v s') E s := by
    unfold tryCompare
    refine wpAny_bind (ifBound_K X I hs hf (wpAny_mono h (fun v s' hv => ?_) fun _ _ e => e))
    cases v <;> first | exact hv.elim | exact wpAny_pure ⟨_, rfl, hv⟩
  unfold richCompare
  simp only [oneThing_ref]
  refine wpAny_holding (wpAny_bind (wpAny_cRoomFor hu ?_))
  refine wpAny_bind (I.type.here (wpAny_bind (J.type.here ?_)))
  split
  · rename_i q
    have e : subIn K (.ref D) (.ref C) = some false := by
      rcases Bool.or_eq_true_iff.mp hn with e | e
      · rw [beq_iff_eq.mp e] at q; simp at q
      · exact beq_iff_eq.mp e
    refine wpAny_bind ((looks_subIn X e).here ?_)
    simp only [Bool.false_eq_true, if_false]
    refine wpAny_bind (wpAny_mono one (fun r s' z => ?_) fun _ _ e => e)
    obtain ⟨v, rfl, hq⟩ := z
    exact wpAny_pure hq
  · refine wpAny_bind (wpAny_pure ?_)
    simp only [Bool.false_eq_true, if_false]
    refine wpAny_bind (wpAny_mono one (fun r s' z => ?_) fun _ _ e => e)
    obtain ⟨v, rfl, hq⟩ := z
    exact wpAny_pure hq

theorem lt_spec {A : Around} {s : Shared} {base : Heap} {a d C a' d' C' : Addr} {o m o' m' : Int} {Q E : Value → Shared → Prop}
    (b : Bs w mean mg mb base) (hst : ∀ a o, base.get? a = some o → s.heap.get? a = some o) (H : HdAt s.heap a d C o m) (H' : HdAt s.heap a' d' C' o' m') (hr : Room A 2)
    (h : ∀ h' tk', Kp [] s.heap h' → Q (.bool (decide (o < o'))) { s with heap := h', toks := tk' }) :
    wpAny (model rw_nb0130_01.row.prog w) A (call (.ref 91) [.ref a, .ref a']) Q E s := by
  obtain ⟨ha, dp, fr, gd, un⟩ := A
  obtain rfl : ha = none := Room.hd hr
  refine' enter (binds := [(Str.ofString "self", .ref a), (Str.ofString "other", .ref a')]) [] b hst (by simp) ?kho ?kcd ?kroom ?kbind ?kloc ?_ ?kco ?kgen ?kk ?kcell
  walk_at "my enter"
  intro g L' h' F' b' hbg hkg hg0 hh
  have N' : News g L' h' [] := News.nil
  have X' := b'.X
  have T' := b'.T
  have G : HdAt g a d C o m := H.keeps (fun x e => hkg a x (by simp) e) (fun x e => hkg d x (by simp) e)
  have G' : HdAt g a' d' C' o' m' := H'.keeps (fun x e => hkg a' x (by simp) e) (fun x e => hkg d' x (by simp) e)
  clear H H'
  (try dsimp only)
  w_on
  (try k_fold)
  walk_at "my steps"
  refine has_order (X'.keeps (Fr.keep (by assumption))) (G'.keeps (fun x e => Fr.keep (by assumption) _ _ e) (fun x e => Fr.keep (by assumption) _ _ e)) ?_
  walk_at "my steps"
  refine get_order (X'.keeps (Fr.keep (by assumption))) (G.keeps (fun x e => Fr.keep (by assumption) _ _ e) (fun x e => Fr.keep (by assumption) _ _ e)) ?_
  intro t₁
  walk_at "my steps"
  refine get_order (X'.keeps (Fr.keep (by assumption))) (G'.keeps (fun x e => Fr.keep (by assumption) _ _ e) (fun x e => Fr.keep (by assumption) _ _ e)) ?_
  intro t₂
  walk_at "my steps"
  exact h _ _ (hkg.trans fun b o _ e => Fr.keep F' b o e)

/-- the record of a handler -/
structure HRec where
  a : Addr
  d : Addr
  C : Addr
  o : Int
  m : Int
def HRec.At (r : HRec) (h : Heap) : Prop := HdAt h r.a r.d r.C r.o r.m

def keyI (v : Value) : Int := match v with
  | .int i _ => i
  | _ => 0
def okI (v : Value) : Prop := ∃ i t, v = .int i t
theorem cmp_ints : Cmp w (fun _ => True) okI keyI := by
  rintro A s a b Q E _ ⟨i, t, rfl⟩ ⟨j, u, rfl⟩ _ h
  exact PyProof.Rows.lt_int (h s.heap s.toks fun _ _ e => e)

def keyH (R : List HRec) (v : Value) : Int := match v with
  | .ref a => (match R.find? (fun r => r.a == a) with | some r => r.o | none => 0)
  | _ => 0
def okH (R : List HRec) (v : Value) : Prop := ∃ r ∈ R, v = .ref r.a
def PH (base : Heap) (R : List HRec) (h : Heap) : Prop := (∀ b o, base.get? b = some o → h.get? b = some o) ∧ ∀ r ∈ R, r.At h
theorem PH.kp {base h h' : Heap} {R : List HRec} {l : Addr} (p : PH base R h) (hl : base.get? l = none) (hn : ∀ r ∈ R, r.a ≠ l ∧ r.d ≠ l) (k : Kp [l] h h') : PH base R h' :=
  ⟨fun b o e => k _ _ (by intro q; rw [List.mem_singleton.mp q, hl] at e; cases e) (p.1 b o e),
   fun r hr => HdAt.keeps (p.2 r hr) (fun x e => k _ _ (by simpa using (hn r hr).1) e) (fun x e => k _ _ (by simpa using (hn r hr).2) e)⟩
theorem keyH_of {R : List HRec} (nd : (R.map (·.a)).Nodup) {r : HRec} (hr : r ∈ R) : keyH R (.ref r.a) = r.o := by
  have : R.find? (fun q => q.a == r.a) = some r := by
    induction R with
    | nil => cases hr
    | cons q R ih =>
      rw [List.map_cons, List.nodup_cons] at nd
      rw [List.find?_cons]
      rcases List.mem_cons.mp hr with rfl | hr
      · simp
      · have : (q.a == r.a) = false := by
          cases z : q.a == r.a with
          | false => rfl
          | true => exact absurd (List.mem_map.mpr ⟨r, hr, (beq_iff_eq.mp z).symm⟩) nd.1
        rw [this]; exact ih nd.2 hr
  unfold keyH
  simp only [this]

theorem cmp_hds {base : Heap} {R : List HRec} (b : Bs w mean mg mb base) (nd : (R.map (·.a)).Nodup) : Cmp w (PH base R) (okH R) (keyH R) := by
  rintro A s x y Q E ⟨hst, hAt⟩ ⟨r, hr, rfl⟩ ⟨q, hq, rfl⟩ room h
  rw [keyH_of nd hr, keyH_of nd hq] at h
  have H := hAt r hr
  have H' := hAt q hq
  have X := b.X.keeps hst
  obtain ⟨es, n, hd, D⟩ := H.dict
  obtain ⟨es', n', hd', D'⟩ := H'.dict
  have hu : A.units < cLine := by have := room.units; lia
  have call : wpAny (model rw_nb0130_01.row.prog w) A (call (.ref 91) [.ref r.a, .ref q.a]) (W.CmpBack Q) E s :=
    lt_spec b hst H H' (room.mono (by lia)) fun h' tk' k => h h' tk' fun x o e => k x o (by simp) e
  refine cmp_ofLt ?_
  have I : W.InstAt s.heap r.a (instObj r.C r.d) r.C (some (dictOf es n)) := ⟨H.obj, rfl, rfl, hd⟩
  have J : W.InstAt s.heap q.a (instObj q.C q.d) q.C (some (dictOf es' n')) := ⟨H'.obj, rfl, rfl, hd'⟩
  have c1 := H.cls
  have c2 := H'.cls
  generalize r.C = c at c1 I
  generalize q.C = c' at c2 J
  rcases c1 with rfl | rfl <;> rcases c2 with rfl | rfl
  · exact cmp_left hu X I J (by k_is) (by k_is) (by k_is) call
  · exact cmp_right hu X I J (by decide) (by k_is) (by k_is) (by k_is) (by k_is) (by k_is) call
  · exact cmp_left hu X I J (by k_is) (by k_is) (by k_is) call
  · exact cmp_left hu X I J (by k_is) (by k_is) (by k_is) call

end
section
def orderF (x : Int) : Int := if (x.fdiv 6).fmod 3 = 0 then 500 else if (x.fdiv 6).fmod 3 = 1 then 1000 else (x.fdiv 18).fmod 4 * 500

theorem fmod3_cases (y : Int) : y.fmod 3 = 0 ∨ y.fmod 3 = 1 ∨ y.fmod 3 = 2 := by
  have h1 := Int.fmod_nonneg_of_pos y (b := 3) (by decide)
  have h2 := Int.fmod_lt_of_pos y (b := 3) (by decide)
  lia

theorem order_spec {A : Around} {s : Shared} {base : Heap} {x : Int} {t : Tok} {Q E : Value → Shared → Prop}
    (b : Bs w mean mg mb base) (hst : ∀ a o, base.get? a = some o → s.heap.get? a = some o) (hr : Room A 2)
    (h : ∀ h' tk' t', Kp [] s.heap h' → Q (.int (orderF x) t') { s with heap := h', toks := tk' }) :
    wpAny (model rw_nb0130_01.row.prog w) A (call (.ref 124) [.int x t]) Q E s := by
  obtain ⟨ha, dp, fr, gd, un⟩ := A
  obtain rfl : ha = none := Room.hd hr
  refine' enter (binds := [(Str.ofString "x", .int x t)]) [] b hst (by simp) ?kho ?kcd ?kroom ?kbind ?kloc ?_ ?kco ?kgen ?kk ?kcell
  walk_at "my enter"
  intro g L' h' F' b' hbg hkg hg0 hh
  have N' : News g L' h' [] := News.nil
  have X' := b'.X
  have T' := b'.T
  (try dsimp only)
  w_on
  (try k_fold)
  walk_at "my steps"
  rcases fmod3_cases (x.fdiv 6) with e | e | e
  · rw [show orderF x = 500 by unfold orderF; rw [if_pos e]] at h
    refine item_rule 0 (News.get (by assumption) (.head _)) (by rw [e]; rfl) (by lia) rfl ?_
    walk_at "my steps"
    exact h _ _ _ (hkg.trans fun b o _ e => Fr.keep (by assumption) b o e)
  · rw [show orderF x = 1000 by unfold orderF; rw [if_neg (by lia), if_pos e]] at h
    refine item_rule 1 (News.get (by assumption) (.head _)) (by rw [e]; rfl) (by lia) rfl ?_
    walk_at "my steps"
    exact h _ _ _ (hkg.trans fun b o _ e => Fr.keep (by assumption) b o e)
  · rw [show orderF x = (x.fdiv 18).fmod 4 * 500 by unfold orderF; rw [if_neg (by lia), if_neg (by lia)]] at h
    refine item_rule 2 (News.get (by assumption) (.head _)) (by rw [e]; rfl) (by lia) rfl ?_
    walk_at "my steps"
    exact h _ _ _ (hkg.trans fun b o _ e => Fr.keep (by assumption) b o e)

theorem add_parent_spec {A : Around} {s : Shared} {base : Heap} {a d C : Addr} {es : List DictEntry} {n : Nat} {m : Int} {t : Tok} {Q E : Value → Shared → Prop}
    (b : Bs w mean mg mb base) (hst : ∀ a o, base.get? a = some o → s.heap.get? a = some o) (hC : C = 94 ∨ C = 115) (obj : s.heap.get? a = some (instObj C d)) (hdd : s.heap.get? d = some (dictOf es n)) (hb : base.get? d = none)
    (hl : (getL (Str.ofString "parent") es).isSome = true) (hz : es.length ≤ 100) (hr : Room A 3)
    (h : ∀ h' tk' hsh t' n', h'.get? d = some (dictOf (putL (Str.ofString "parent") hsh (.str (Str.ofString "parent") t') (.int m t) es) n') → Kp [d] s.heap h' → Q .none { s with heap := h', toks := tk' }) :
    wpAny (model rw_nb0130_01.row.prog w) A (call (.ref 77) [.ref a, .int m t]) Q E s := by
  obtain ⟨ha, dp, fr, gd, un⟩ := A
  obtain rfl : ha = none := Room.hd hr
  refine' enter (binds := [(Str.ofString "self", .ref a), (Str.ofString "parent", .int m t)]) [d] b hst (by simpa using hb) ?kho ?kcd ?kroom ?kbind ?kloc ?_ ?kco ?kgen ?kk ?kcell
  walk_at "my enter"
  intro g L' h' F' b' hbg hkg hg0 hh
  have N' : News g L' h' [] := News.nil
  have X' := b'.X
  have T' := b'.T
  (try dsimp only)
  w_on
  (try k_fold)
  walk_at "my steps"
  refine set_attr_rule (by assumption) X' hC (hh _ _ obj).1 (hh _ _ hdd).1 (hg0 _ (by simp)) (hh _ _ hdd).2 hl hz (by rcases hC with rfl | rfl <;> k_is) ?_
  intro h₁ n₁ F₁ hd₁ hk₁
  have N₁ : News g L' h₁ [] := News.nil
  walk_at "my steps"
  exact h _ _ _ _ _ hd₁ (hkg.trans fun b o _ e => Fr.keep F₁ b o e)

theorem handler_spec {A : Around} {s : Shared} {base : Heap} {x m : Int} {t t' : Tok} {Q E : Value → Shared → Prop}
    (b : Bs w mean mg mb base) (hst : ∀ a o, base.get? a = some o → s.heap.get? a = some o) (hr : Room A 5)
    (h : ∀ h' tk' a d C, HdAt h' a d C (orderF x) m → s.heap.get? a = none → s.heap.get? d = none → Kp [] s.heap h' → Q (.ref a) { s with heap := h', toks := tk' }) :
    wpAny (model rw_nb0130_01.row.prog w) A (call (.ref 131) [.int x t, .int m t']) Q E s := by
  obtain ⟨ha, dp, fr, gd, un⟩ := A
  obtain rfl : ha = none := Room.hd hr
  refine' enter (binds := [(Str.ofString "x", .int x t), (Str.ofString "mark", .int m t')]) [] b hst (by simp) ?kho ?kcd ?kroom ?kbind ?kloc ?_ ?kco ?kgen ?kk ?kcell
  walk_at "my enter"
  intro g L' h' F' b' hbg hkg hg0 hh
  have N' : News g L' h' [] := News.nil
  have X' := b'.X
  have T' := b'.T
  (try dsimp only)
  w_on
  (try k_fold)
  walk_at "my steps"
  · refine W.call_cls0 F' X' N' (by k_is) (by k_is) ?_
    intro x₁ d₁ h₁ F₁ N₁ _ hdx
    clear N'
    walk_at "my steps"
    · exfalso; lia
    ·
      rename Fr _ _ _ _ => F₃
      rename News _ _ _ _ => N₃
      refine add_parent_spec b (fun a o e => Fr.keep F₃ a o (hbg a o e)) (.inr rfl) (News.get N₃ (.head _)) (News.get N₃ (.tail _ (.head _))) ?_ (by rfl) (by simp) (Room.mono (Room.deeper hr _) (by decide)) ?_
      · cases q : base.get? d₁ with
        | none => rfl
        | some o => have := hbg _ _ q; rw [(N₃ _ (.tail _ (.head _))).2.2] at this; cases this
      intro h₅ tk₅ hsh t₅ n₅ hd₅ hk₅
      have F₅ := Fr.kp F₃ hk₅ (by simpa using Ne.symm (N₃ _ (.tail _ (.head _))).2.1) (by simpa using (N₃ _ (.tail _ (.head _))).2.2)
      have N₅ : News g L' h₅ [] := News.nil
      have ne : x₁ ≠ d₁ := Nat.ne_of_gt hdx
      have ob₅ := hk₅ _ _ (by simpa using ne) (News.get N₃ (.head _))
      have fa : s.heap.get? x₁ = none := by
        cases q : s.heap.get? x₁ with
        | none => rfl
        | some o => have := hkg _ _ (by simp) q; rw [(N₃ _ (.head _)).2.2] at this; cases this
      have fd : s.heap.get? d₁ = none := by
        cases q : s.heap.get? d₁ with
        | none => rfl
        | some o => have := hkg _ _ (by simp) q; rw [(N₃ _ (.tail _ (.head _))).2.2] at this; cases this
      clear F₃ N₃
      walk_at "my steps"
      refine h _ _ x₁ d₁ 115 ⟨.inr rfl, ob₅, _, _, hd₅, ⟨_, getL_put ..⟩, ?_⟩ fa fd (hkg.trans fun b o _ e => Fr.keep F₅ b o e)
      refine .inr ⟨by rw [getL_put_ne (by decide)]; rfl, ?_, Nat.le_trans (putL_length ..) (by simp)⟩
      unfold orderF; rw [if_neg (by lia), if_pos (by assumption)]; rfl
  · refine W.call_cls0 F' X' N' (by k_is) (by k_is) ?_
    intro x₁ d₁ h₁ F₁ N₁ _ hdx
    clear N'
    walk_at "my steps"
    ·
      rename Fr _ _ _ _ => F₆
      rename News _ _ _ _ => N₆
      refine set_attr_rule F₆ X' (.inl rfl) (News.get N₆ (.head _)) (News.get N₆ (.tail _ (.head _))) (N₆ _ (.tail _ (.head _))).2.2 (N₆ _ (.tail _ (.head _))).2.1 (by rfl) (by decide) (by k_is) ?_
      intro h₇ n₇ F₇ hd₇ hk₇
      have N₇ := News.two (hk₇ _ _ (by simp only [List.mem_cons, List.not_mem_nil, or_false, not_or]; exact ⟨Nat.ne_of_gt hdx, (N₆ _ (.head _)).2.1⟩) (N₆ _ (.head _)).1) (N₆ _ (.head _)).2 hd₇ (N₆ _ (.tail _ (.head _))).2
      dsimp only [putL] at N₇
      clear F₆ N₆
      walk_at "my steps"
      rename Fr _ _ _ _ => F₃
      rename News _ _ _ _ => N₃
      refine add_parent_spec b (fun a o e => Fr.keep F₃ a o (hbg a o e)) (.inl rfl) (News.get N₃ (.head _)) (News.get N₃ (.tail _ (.head _))) ?_ (by rfl) (by simp) (Room.mono (Room.deeper hr _) (by decide)) ?_
      · cases q : base.get? d₁ with
        | none => rfl
        | some o => have := hbg _ _ q; rw [(N₃ _ (.tail _ (.head _))).2.2] at this; cases this
      intro h₅ tk₅ hsh t₅ n₅ hd₅ hk₅
      have F₅ := Fr.kp F₃ hk₅ (by simpa using Ne.symm (N₃ _ (.tail _ (.head _))).2.1) (by simpa using (N₃ _ (.tail _ (.head _))).2.2)
      have N₅ : News g L' h₅ [] := News.nil
      have ne : x₁ ≠ d₁ := Nat.ne_of_gt hdx
      have ob₅ := hk₅ _ _ (by simpa using ne) (News.get N₃ (.head _))
      have fa : s.heap.get? x₁ = none := by
        cases q : s.heap.get? x₁ with
        | none => rfl
        | some o => have := hkg _ _ (by simp) q; rw [(N₃ _ (.head _)).2.2] at this; cases this
      have fd : s.heap.get? d₁ = none := by
        cases q : s.heap.get? d₁ with
        | none => rfl
        | some o => have := hkg _ _ (by simp) q; rw [(N₃ _ (.tail _ (.head _))).2.2] at this; cases this
      clear F₃ N₃
      walk_at "my steps"
      refine h _ _ x₁ d₁ 94 ⟨.inl rfl, ob₅, _, _, hd₅, ⟨_, getL_put ..⟩, ?_⟩ fa fd (hkg.trans fun b o _ e => Fr.keep F₅ b o e)
      rw [show orderF x = (x.fdiv 18).fmod 4 * 500 by unfold orderF; rw [if_neg (by lia), if_neg (by lia)]]
      refine .inl ⟨_, by rw [getL_put_ne (by decide)]; rfl, Nat.le_trans (putL_length ..) (by simp)⟩
    ·
      rename Fr _ _ _ _ => F₃
      rename News _ _ _ _ => N₃
      refine add_parent_spec b (fun a o e => Fr.keep F₃ a o (hbg a o e)) (.inl rfl) (News.get N₃ (.head _)) (News.get N₃ (.tail _ (.head _))) ?_ (by rfl) (by simp) (Room.mono (Room.deeper hr _) (by decide)) ?_
      · cases q : base.get? d₁ with
        | none => rfl
        | some o => have := hbg _ _ q; rw [(N₃ _ (.tail _ (.head _))).2.2] at this; cases this
      intro h₅ tk₅ hsh t₅ n₅ hd₅ hk₅
      have F₅ := Fr.kp F₃ hk₅ (by simpa using Ne.symm (N₃ _ (.tail _ (.head _))).2.1) (by simpa using (N₃ _ (.tail _ (.head _))).2.2)
      have N₅ : News g L' h₅ [] := News.nil
      have ne : x₁ ≠ d₁ := Nat.ne_of_gt hdx
      have ob₅ := hk₅ _ _ (by simpa using ne) (News.get N₃ (.head _))
      have fa : s.heap.get? x₁ = none := by
        cases q : s.heap.get? x₁ with
        | none => rfl
        | some o => have := hkg _ _ (by simp) q; rw [(N₃ _ (.head _)).2.2] at this; cases this
      have fd : s.heap.get? d₁ = none := by
        cases q : s.heap.get? d₁ with
        | none => rfl
        | some o => have := hkg _ _ (by simp) q; rw [(N₃ _ (.tail _ (.head _))).2.2] at this; cases this
      clear F₃ N₃
      walk_at "my steps"
      refine h _ _ x₁ d₁ 94 ⟨.inl rfl, ob₅, _, _, hd₅, ⟨_, getL_put ..⟩, ?_⟩ fa fd (hkg.trans fun b o _ e => Fr.keep F₅ b o e)
      refine .inr ⟨by rw [getL_put_ne (by decide)]; rfl, ?_, Nat.le_trans (putL_length ..) (by simp)⟩
      have := fmod3_cases (x.fdiv 6); unfold orderF; rw [if_pos (by lia)]; rfl

end
section
open PySem.SeqAt (EqAt RcAt)
open PySem.MeetsSeq (EqGives)
open PySem.AutoSeq1 (wpAny_loadPart')

/-- a pair of ints -/
def TAt (h : Heap) (t : Addr) (o m : Int) : Prop := ∃ a b, h.get? t = some { cls := .type "tuple", data := .seq #[.int o a, .int m b] }
theorem TAt.isTuple {h : Heap} {t : Addr} {o m : Int} (T : TAt h t o m) : ∃ a b, h.IsTuple t #[.int o a, .int m b] := let ⟨a, b, e⟩ := T; ⟨a, b, _, e, rfl, 0, rfl⟩
theorem TAt.keeps {h h' : Heap} {t : Addr} {o m : Int} (T : TAt h t o m) (k : ∀ x, h.get? t = some x → h'.get? t = some x) : TAt h' t o m := let ⟨a, b, e⟩ := T; ⟨a, b, k _ e⟩

/-- the record of a pair -/
structure TRec where
  t : Addr
  o : Int
  m : Int
def TRec.At (r : TRec) (h : Heap) : Prop := TAt h r.t r.o r.m

theorem eqAt_tup {A : Around} {s : Shared} {t u : Addr} {o m o' m' : Int} (T : TAt s.heap t o m) (U : TAt s.heap u o' m') (hu : A.units < cLine) : EqAt A s (.ref t) (.ref u) (decide (o = o' ∧ m = m')) := by
  by_cases e : t = u
  · subst e
    obtain ⟨a, b, h1⟩ := T
    obtain ⟨a', b', h2⟩ := U
    rw [h1] at h2
    have : o = o' ∧ m = m' := by injection h2 with h2; injection h2 with _ _ h2; injection h2 with h2; simp at h2; exact ⟨h2.1.1, h2.2.1⟩
    rw [decide_eq_true this]
    exact EqAt.same _
  · obtain ⟨a, b, h1⟩ := T.isTuple
    obtain ⟨a', b', h2⟩ := U.isTuple
    have := RcAt.tuples (A := A) (e := fun j => if j = 0 then (o == o') else (m == m')) h1 h2 hu (fun j j1 j2 => by
      have : j = 0 ∨ j = 1 := by simp at j1; lia
      rcases this with rfl | rfl
      · exact (EqGives.int o o' a a').at _ _
      · exact (EqGives.int m m' b b').at _ _)
    have e2 : ((List.range (min (#[Value.int o a, Value.int m b] : Array Value).size (#[Value.int o' a', Value.int m' b'] : Array Value).size)).all (fun j => if j = 0 then (o == o') else (m == m')) && (#[Value.int o a, Value.int m b] : Array Value).size == (#[Value.int o' a', Value.int m' b'] : Array Value).size) = decide (o = o' ∧ m = m') := by
      show ((List.range 2).all (fun j => if j = 0 then (o == o') else (m == m')) && true) = _
      simp [List.range_succ, Bool.decide_and]
      rfl
    rw [e2] at this
    exact EqAt.of_refs e this

theorem remove_loop_at {A : Around} (l : Addr) (items : List Value) (n : Nat) (x : Value) (j : Nat) (hs1 : items.length < 1000) (e : Nat → Bool) (hj : j < items.length) (hit : e j = true) (hno : ∀ i, i < j → e i = false) (k : Nat) :
    ∀ (i : Nat) (prog : Program) (w : World) (R : Result → Shared → Prop) (s : Shared), j - i = k → i ≤ j → s.heap.get? l = some (W.listOf items.toArray n) → (∀ i v, items[i]? = some v → EqAt A.in1 s v x (e i)) →
      R (.ok (.ret .none)) { s with heap := s.heap.update l (Obj.mapSeq fun xs => xs.eraseIdxIfInBounds j) } →
      codeAny (model prog w) A (.builtin "list.remove.loop" ⟨[.ref l, x, rawInt i], []⟩) R s := by
  induction k with
  | zero =>
    intro i prog w R s hk hij hl he h
    obtain ⟨hp, g, d, tk, os⟩ := s
    have hij' : i = j := by lia
    subst hij'
    refine codeAny_builtin PySem.MeetsSeq.entry_remove_loop ?_
    rw [Around.under_plainId PySem.MeetsSeq.plain_remove_loop _]
    wp_walk using wpAny_loadPart' hl
    have hi : items.toArray[((i : Nat) : Int).toNat]? = some items[i] := by simp [hj]
    rw [hi]
    refine wpAny_bind (he i _ (List.getElem?_eq_getElem hj) prog w _ _ ?_)
    rw [hit]
    have hs2 : items.toArray.size ≤ sizeLine := by rw [sizeLine_eq]; simp; lia
    have hz' : (items.toArray.eraseIdxIfInBounds i).size ≤ sizeLine + 1 := Nat.le_trans (PySem.MeetsSeq.size_erased items.toArray _) (Nat.le_succ_of_le hs2)
    wp_walk using (wpAny_updateSeq hl rfl (hz := hs2) (_hz' := hz')), wpAny_loadPart' hl
    simpa using h
  | succ k ih =>
    intro i prog w R s hk hij hl he h
    obtain ⟨hp, g, d, tk, os⟩ := s
    have hlt : i < items.length := by lia
    refine codeAny_builtin PySem.MeetsSeq.entry_remove_loop ?_
    rw [Around.under_plainId PySem.MeetsSeq.plain_remove_loop _]
    wp_walk using wpAny_loadPart' hl
    have hi : items.toArray[((i : Nat) : Int).toNat]? = some items[i] := by simp [hlt]
    have hc : ((i : Int) + 1) = ((i + 1 : Nat) : Int) := by lia
    rw [hi]
    refine wpAny_bind (he i _ (List.getElem?_eq_getElem hlt) prog w _ _ ?_)
    rw [hno i (by lia)]
    wp_walk
    rw [hc]
    exact ⟨plainId_quiet PySem.MeetsSeq.plain_remove_loop _, ih (i + 1) prog w R _ (by lia) (by lia) hl he h⟩

theorem map_eraseIdx {α β : Type} (f : α → β) : ∀ (l : List α) (j : Nat), (l.map f).eraseIdx j = (l.eraseIdx j).map f
  | [], _ => rfl
  | _ :: _, 0 => rfl
  | x :: l, j + 1 => by simp [List.eraseIdx_cons_succ, map_eraseIdx f l j]

theorem remove_meets (l : Addr) (items : List Value) (n : Nat) (x : Value) (j : Nat) (hs1 : items.length < 1000) (e : Nat → Bool) (hj : j < items.length) (hit : e j = true) (hno : ∀ i, i < j → e i = false) :
    Meets (Builtin.«list.remove» ⟨[.ref l, x], []⟩)
      (fun A R s => s.heap.get? l = some (W.listOf items.toArray n) ∧ (∀ i v, items[i]? = some v → EqAt A.in1 s v x (e i)) ∧ R (.ok (.ret .none)) { s with heap := s.heap.update l (Obj.mapSeq fun xs => xs.eraseIdxIfInBounds j) }) := by
  intro prog w A R s h
  obtain ⟨hp, g, d, tk, os⟩ := s; obtain ⟨hl, he, h⟩ := h
  wp_walk using wpAny_loadPart' hl
  exact ⟨plainId_quiet PySem.MeetsSeq.plain_remove_loop _, remove_loop_at l items n x j hs1 e hj hit hno _ 0 prog w R _ rfl (Nat.zero_le _) hl he h⟩

/-- inside.remove(pair): the first equal one goes -/
theorem remove_rule {prog : Program} {A : Around} {E : Value → Shared → Prop} {s : Shared} {l t : Addr} {o m : Int} {T : List TRec} {n : Nat} {Q : Value → Shared → Prop} (j : Nat)
    (hl : s.heap.get? l = some (W.listOf (T.map fun r => Value.ref r.t).toArray n)) (hT : ∀ r ∈ T, r.At s.heap) (ht : TAt s.heap t o m) (hz : T.length < 1000) (hu : A.units + 20 < cLine)
    (hj : j < T.length) (hit : ∀ r, T[j]? = some r → r.o = o ∧ r.m = m) (hno : ∀ i r, i < j → T[i]? = some r → ¬ (r.o = o ∧ r.m = m))
    (h : ∀ h', h'.get? l = some (W.listOf ((T.eraseIdx j).map fun r => Value.ref r.t).toArray (n + 1)) → Heap.SameBut l s.heap h' → Q .none { s with heap := h' }) :
    wpAny (model prog w) A (call (.builtin "list.remove") [.ref l, .ref t]) Q E s := by
  have hTy : s.TypeIs (.ref l) "list" := ⟨_, hl, rfl⟩
  refine call_meets F.slot_list_remove hTy F.entry_list_remove (F.args_list_remove_2 _ _) (remove_meets l (T.map fun r => Value.ref r.t) n (.ref t) j (by simpa using hz)
    (fun i => match T[i]? with | some r => decide (r.o = o ∧ r.m = m) | none => false) (by simpa using hj) ?_ ?_) ⟨hl, ?_, ?_⟩
  · have := List.getElem?_eq_getElem hj
    rw [this]
    exact decide_eq_true (hit _ this)
  · intro i hi
    have := List.getElem?_eq_getElem (show i < T.length by lia)
    rw [this]
    exact decide_eq_false (hno i _ hi this)
  · intro i v hv
    rw [List.getElem?_map] at hv
    cases q : T[i]? with
    | none => rw [q] at hv; cases hv
    | some r =>
      rw [q] at hv; cases hv
      exact eqAt_tup (hT r (List.mem_of_getElem? q)) ht (by show A.units + 1 < cLine; lia)
  · refine h _ ?_ (Heap.SameBut.update ..)
    rw [Heap.get?_update_self _ hl (by rfl)]
    have e : ((T.map fun r => Value.ref r.t).toArray).eraseIdxIfInBounds j = ((T.eraseIdx j).map fun r => Value.ref r.t).toArray := by
      apply Array.toList_inj.mp
      simp [map_eraseIdx]
    have e2 : (((T.eraseIdx j).map fun r => Value.ref r.t).toArray.size == (T.map fun r => Value.ref r.t).toArray.size) = false := by
      simp [List.length_eraseIdx, hj]; lia
    show some (Obj.mapSeq _ (W.listOf _ n)) = _
    simp only [Obj.mapSeq, W.listOf, e, e2, Bool.false_eq_true, if_false]

end
section
open PySem.SeqAt (EqAt RcAt)
open PySem.MeetsSeq (EqGives)
open PySem.AutoSeq1 (wpAny_loadPart')

def lexB (o m o' m' : Int) : Bool := if o = o' then decide (m < m') else decide (o < o')

theorem rc_lt_int {prog : Program} {A : Around} {E : Value → Shared → Prop} {s : Shared} {a b : Int} {t u : Tok} {Q : Value → Shared → Prop} (h : Q (.bool (decide (a < b))) s) :
    wpAny (model prog w) A (richCompare .Lt (.int a t) (.int b u)) Q E s := show wpAny (model prog w) A (compareOp .Lt (.int a t) (.int b u)) Q E s from wpAny_lt_int h

theorem lt_meets (t u : Addr) (o m o' m' : Int) (a b a' b' : Tok) :
    Meets (Builtin.«tuple.__lt__» ⟨[.ref t, .ref u], []⟩)
      (fun A R s => s.heap.get? t = some { cls := .type "tuple", dict := none, data := .seq #[.int o a, .int m b] 0, slots := #[] } ∧ s.heap.get? u = some { cls := .type "tuple", dict := none, data := .seq #[.int o' a', .int m' b'] 0, slots := #[] } ∧
        R (.ok (.ret (.bool (lexB o m o' m')))) s) :=
  .of_wp fun prog w A R s h => by
    obtain ⟨hp, g, d, tk, os⟩ := s; obtain ⟨hl, hb, h⟩ := h
    have f2 := PySem.AutoSeq1.sub_tuple_tuple
    wp_walk using wpAny_loadPart' hl, wpAny_loadPart' hb, wpAny_eqBool_int
    by_cases e : o = o'
    · subst e
      simp only [beq_self_eq_true, Bool.not_true, Bool.false_eq_true, if_false]
      wp_walk using wpAny_eqBool_int
      by_cases e : m = m'
      · subst e
        simp only [beq_self_eq_true, Bool.not_true, Bool.false_eq_true, if_false]
        wp_walk
        refine ⟨_, rfl, ?_⟩
        simpa [lexB, Builtin.Tuple.tupleCompareSizes] using h
      · rw [show (m == m') = false by simpa using e]
        simp only [Bool.not_false, if_true]
        wp_walk using rc_lt_int
        refine ⟨_, rfl, ?_⟩
        simpa [lexB] using h
    · rw [show (o == o') = false by simpa using e]
      simp only [Bool.not_false, if_true]
      wp_walk using rc_lt_int
      refine ⟨_, rfl, ?_⟩
      simpa [lexB, e] using h

theorem lt_tup {prog : Program} {A : Around} {E : Value → Shared → Prop} {s : Shared} {t u : Addr} {o m o' m' : Int} {Q : Value → Shared → Prop} (T : TAt s.heap t o m) (U : TAt s.heap u o' m') (hu : A.units < cLine)
    (h : Q (.bool (lexB o m o' m')) s) : wpAny (model prog w) A (richCompare .Lt (.ref t) (.ref u)) Q E s := by
  obtain ⟨a, b, h1⟩ := T
  obtain ⟨a', b', h2⟩ := U
  exact richCompare_meets_room (op := .Lt) ⟨_, h1, rfl⟩ ⟨_, h2, rfl⟩ F.slot_tuple_lt F.entry_tuple_lt (F.args_tuple_lt_2 _ _) (lt_meets t u o m o' m' a b a' b')
    ⟨h1, h2, show Value.bool (lexB o m o' m') ≠ Value.notImplemented ∧ Q (.bool (lexB o m o' m')) s from ⟨(fun x => nomatch x), h⟩⟩ hu

end
section
def lexLt (a b : TRec) : Bool := lexB a.o a.m b.o b.m
noncomputable def minF (c : TRec) : List TRec → TRec
  | [] => c
  | r :: rs => minF (if lexLt r c then r else c) rs

theorem min_loop {prog : Program} {A : Around} {R : Result → Shared → Prop} {l I S : Addr} {T : List TRec} {n : Nat} (hh : A.handled = none) (hu : A.units + 20 < cLine) (hIl : I ≠ l) (hSl : S ≠ l) (hSI : S ≠ I) (hTI : ∀ r ∈ T, r.t ≠ I) (hTS : ∀ r ∈ T, r.t ≠ S) :
    ∀ (rs : List TRec) (i : Nat) (s : Shared) (c : TRec) (cn : Nat), T.drop i = rs → s.heap.IsListIter I l i → s.heap.get? l = some (W.listOf (T.map fun r => Value.ref r.t).toArray n) → (∀ r ∈ T, r.At s.heap) → c ∈ T →
    s.heap.get? S = some (W.listOf #[.ref c.t, .ref c.t] cn) →
    (∀ h' tk, Kp [I, S] s.heap h' → R (.ok (.ret (.ref (minF c rs).t))) { s with heap := h', toks := tk }) →
    codeAny (model prog w) A (.builtin "min.loop" ⟨[.ref I, .none, .ref S], []⟩) R s := by
  have hname : (toString "min" ++ toString ".loop" : String) = "min.loop" := by decide
  intro rs
  induction rs with
  | nil =>
    intro i s c cn hd hit hl hT hc hS hR
    have hlen : T.length ≤ i := by simpa using hd
    refine codeAny_builtin PySem.F.entry_min_loop ?_
    rw [Around.under_plainId PySem.F.plain_min_loop _]
    show wpAny _ A.in1 (seqItems? (.ref S) >>= _) _ _ s
    refine wpAny_bind (wpAny_seqItems hS rfl ?_)
    show wpAny _ A.in1 (tryCatch (pyNext (.ref I)) _ >>= _) _ _ s
    refine wpAny_bind (wpAny_tryCatch (wpAny_pyNext_list_end hh hit (PySem.IsL.isList (n := n) hl) (by simpa using hlen) fun h' he => ?_))
    have hS' := he S _ hSI hS
    show wpAny _ A.in1 (updateSeq S (fun _ => #[]) >>= _) _ _ _
    refine wpAny_bind ?_
    refine wpAny_updateSeq hS' rfl (wpAny_bind (wpAny_letGo (wpAny_pure ?_)))
    refine hR _ _ fun b o hb e => ?_
    simp only [List.mem_cons, List.not_mem_nil, or_false, not_or] at hb
    exact (Heap.get?_update_other _ _ (Ne.symm hb.2)).trans (he b o hb.1 e)
  | cons r rs ih =>
    intro i s c cn hd hit hl hT hc hS hR
    have hi : T[i]? = some r := by
      have := congrArg (·[0]?) hd
      simpa using this
    have hd' : T.drop (i + 1) = rs := by
      have := congrArg (·.drop 1) hd
      simpa [List.drop_drop] using this
    have hr := List.mem_of_getElem? hi
    refine codeAny_builtin PySem.F.entry_min_loop ?_
    rw [Around.under_plainId PySem.F.plain_min_loop _]
    show wpAny _ A.in1 (seqItems? (.ref S) >>= _) _ _ s
    refine wpAny_bind (wpAny_seqItems hS rfl ?_)
    show wpAny _ A.in1 (tryCatch (pyNext (.ref I)) _ >>= _) _ _ s
    refine wpAny_bind (wpAny_tryCatch (wpAny_pyNext_list_item hit (PySem.IsL.isList (n := n) hl) (x := .ref r.t) (by simp [hi]) fun h' hit' hs' => ?_))
    have hS' := hs'.extBut S _ hSI hS
    have hl' := hs'.extBut l _ (Ne.symm hIl) hl
    have hT' : ∀ q ∈ T, q.At h' := fun q hq => TAt.keeps (hT q hq) fun x e => hs'.extBut _ _ (hTI q hq) e
    show wpAny _ A.in1 (tryCatch (holding [.ref r.t, .ref r.t] (richCompare .Lt (.ref r.t) (.ref c.t) >>= _)) _ >>= _) _ _ _
    refine wpAny_bind (wpAny_tryCatch (wpAny_holding (wpAny_bind (lt_tup (hT' r hr) (hT' c hc) (by show A.units + 1 < cLine; lia) ?_))))
    refine wpAny_bind (wpAny_holding (wpAny_truthy_bool ?_))
    refine wpAny_bind (wpAny_letGo (wpAny_pure ?_))
    have em : minF c (r :: rs) = minF (if lexLt r c then r else c) rs := rfl
    cases hb : lexB r.o r.m c.o c.m with
    | true =>
      rw [em, show lexLt r c = true from hb] at hR
      simp only [if_true]
      refine wpAny_bind ?_
      refine wpAny_updateSeq hS' rfl (wpAny_bind (wpAny_letGo ?_))
      rw [hname]
      have sb : Heap.SameBut S h' (h'.update S (Obj.mapSeq fun _ => #[Value.ref r.t, Value.ref r.t])) := Heap.SameBut.update ..
      refine wpAny_pure ⟨plainId_quiet PySem.F.plain_min_loop _, ih (i + 1) _ r _ hd' (hit'.extBut sb.extBut (Ne.symm hSI)) (sb.extBut _ _ (Ne.symm hSl) hl') (fun q hq => TAt.keeps (hT' q hq) fun x e => sb.extBut _ _ (hTS q hq) e) hr (Heap.get?_update_self _ hS' rfl)
        fun h'' tk'' k => ?_⟩
      refine hR h'' tk'' fun b o hb e => k b o hb ?_
      simp only [List.mem_cons, List.not_mem_nil, or_false, not_or] at hb
      exact sb.extBut b o hb.2 (hs'.extBut b o hb.1 e)
    | false =>
      rw [em, show lexLt r c = false from hb] at hR
      simp only [Bool.false_eq_true, if_false] at hR ⊢
      refine wpAny_bind (wpAny_letGo ?_)
      rw [hname]
      refine wpAny_pure ⟨plainId_quiet PySem.F.plain_min_loop _, ih (i + 1) _ c cn hd' hit' hl' hT' hc hS' fun h'' tk'' k => ?_⟩
      refine hR h'' tk'' fun b o hb e => k b o hb ?_
      simp only [List.mem_cons, List.not_mem_nil, or_false, not_or] at hb
      exact hs'.extBut b o hb.1 e

theorem min_rule {prog : Program} {A : Around} {E : Value → Shared → Prop} {s : Shared} {l : Addr} {r : TRec} {rs : List TRec} {n : Nat} {Q : Value → Shared → Prop} (hh : A.handled = none) (hu : A.units + 30 < cLine)
    (hl : s.heap.get? l = some (W.listOf ((r :: rs).map fun r => Value.ref r.t).toArray n)) (hT : ∀ q ∈ r :: rs, q.At s.heap)
    (h : ∀ h' tk, Kp [] s.heap h' → Q (.ref (minF r rs).t) { s with heap := h', toks := tk }) :
    wpAny (model prog w) A (call (.builtin "min") [.ref l]) Q E s := by
  have hname : (toString "min" ++ toString ".loop" : String) = "min.loop" := by decide
  refine call_function_tree PySem.F.kind_min PySem.F.plain_min PySem.F.entry_min (PySem.F.args_min1 _) ?_
  show wpAny _ A.in1 (Builtin.Builtins.bindParams "min" ["key", "default"] 0 ⟨[], []⟩ >>= _) _ _ s
  refine wpAny_bind (wpAny_of_eq (show Builtin.Builtins.bindParams "min" ["key", "default"] 0 ⟨[], []⟩ = pure [none, none] from rfl) ?_)
  refine wpAny_bind (wpAny_pure ?_)
  refine wpAny_bind (wpAny_pyIter_list (PySem.IsL.isList (n := n) hl) ?_)
  refine wpAny_bind (wpAny_newObj_type ?_)
  rw [hname]
  refine wpAny_pure ⟨plainId_quiet PySem.F.plain_min_loop _, ?_⟩
  -- the first turn
  obtain ⟨h₁, hh₁⟩ : ∃ h₁, h₁ = s.heap.push { cls := .type "list_iterator", data := .fields #[.ref l, .int 0 0] } := ⟨_, rfl⟩
  have hsz : h₁.objs.size = s.heap.objs.size + 1 := by rw [hh₁]; simp
  have hx : ∀ b o, s.heap.get? b = some o → (h₁.push { cls := .type "list", data := .seq #[] }).get? b = some o := fun b o e => Heap.get?_push_of_some _ (by rw [hh₁]; exact Heap.get?_push_of_some _ e)
  have hlt : ∀ {b : Nat} {o : Obj}, s.heap.get? b = some o → @LT.lt Nat _ b s.heap.objs.size := fun e => Heap.lt_size e
  have hI : (h₁.push { cls := .type "list", data := .seq #[] }).IsListIter s.heap.objs.size l 0 := ⟨_, Heap.get?_push_of_some _ (by rw [hh₁]; exact Heap.get?_push_size _ rfl), rfl, rfl⟩
  have hS : (h₁.push { cls := .type "list", data := .seq #[] }).get? h₁.objs.size = some (W.listOf #[] 0) := Heap.get?_push_size _ rfl
  have l1 : @LT.lt Nat _ l s.heap.objs.size := hlt hl
  have hTl : ∀ q ∈ r :: rs, @LT.lt Nat _ q.t s.heap.objs.size := fun q hq => by obtain ⟨a, b, e⟩ := hT q hq; exact hlt e
  have hSI : h₁.objs.size ≠ s.heap.objs.size := by lia
  refine codeAny_builtin PySem.F.entry_min_loop ?_
  rw [Around.under_plainId PySem.F.plain_min_loop _]
  rw [← hh₁]
  show wpAny _ A.in1 (seqItems? (.ref h₁.objs.size) >>= _) _ _ _
  refine wpAny_bind (wpAny_seqItems hS rfl ?_)
  show wpAny _ A.in1 (tryCatch (pyNext (.ref s.heap.objs.size)) _ >>= _) _ _ _
  refine wpAny_bind (wpAny_tryCatch (wpAny_pyNext_list_item hI (PySem.IsL.isList (n := n) (hx _ _ hl)) (x := .ref r.t) (by simp) fun h' hit' hs' => ?_))
  have hS' := hs'.extBut _ _ hSI hS
  show wpAny _ A.in1 (updateSeq h₁.objs.size (fun _ => #[Value.ref r.t, Value.ref r.t]) >>= _) _ _ _
  refine wpAny_bind ?_
  refine wpAny_updateSeq hS' rfl ?_
  rw [hname]
  have sb : Heap.SameBut h₁.objs.size h' (h'.update h₁.objs.size (Obj.mapSeq fun _ => #[Value.ref r.t, Value.ref r.t])) := Heap.SameBut.update ..
  have kk : ∀ b o, s.heap.get? b = some o → (h'.update h₁.objs.size (Obj.mapSeq fun _ => #[Value.ref r.t, Value.ref r.t])).get? b = some o := fun b o e => by
    have := hlt e
    exact sb.extBut b o (show @Ne Nat b _ by lia) (hs'.extBut b o (show @Ne Nat b _ by lia) (hx b o e))
  refine wpAny_pure ⟨plainId_quiet PySem.F.plain_min_loop _, min_loop (T := r :: rs) (n := n) hh (by lia) (show @Ne Nat _ l by lia) (show @Ne Nat _ l by lia) hSI (fun q hq => Nat.ne_of_lt (hTl q hq)) (fun q hq => by have := hTl q hq; show @Ne Nat _ _; lia) rs 1 _ r _ rfl (hit'.extBut sb.extBut (Ne.symm hSI)) (kk _ _ hl) (fun q hq => TAt.keeps (hT q hq) fun x e => kk _ _ e) (.head _) (Heap.get?_update_self _ hS' rfl) fun h'' tk'' k => ?_⟩
  refine h h'' tk'' fun b o _ e => k b o ?_ (kk b o e)
  have := hlt e
  simp only [List.mem_cons, List.not_mem_nil, or_false, not_or]
  exact ⟨show @Ne Nat b _ by lia, show @Ne Nat b _ by lia⟩

end
section
open PySem.SeqAt (EqAt RcAt)
theorem notin_rule {prog : Program} {A : Around} {E : Value → Shared → Prop} {s : Shared} {l t : Addr} {o m : Int} {T : List TRec} {n : Nat} {Q : Value → Shared → Prop}
    (hl : s.heap.get? l = some (W.listOf (T.map fun r => Value.ref r.t).toArray n)) (hT : ∀ r ∈ T, r.At s.heap) (ht : TAt s.heap t o m) (hu : A.units + 20 < cLine)
    (hin : ∃ r ∈ T, r.o = o ∧ r.m = m) (h : Q (.bool false) s) : wpAny (model prog w) A (compareOp .NotIn (.ref t) (.ref l)) Q E s := by
  have hL : s.heap.IsList l (T.map fun r => Value.ref r.t).toArray := PySem.IsL.isList (n := n) hl
  refine PySem.SeqAt.notIn_listAt (fun v => T.any fun r => decide (v = .ref r.t) && decide (r.o = o ∧ r.m = m)) hL ?_ ?_
  · intro y hy
    obtain ⟨r, hr, rfl⟩ : ∃ r ∈ T, Value.ref r.t = y := by simpa using hy
    have e : (T.any fun q => decide (Value.ref r.t = .ref q.t) && decide (q.o = o ∧ q.m = m)) = decide (r.o = o ∧ r.m = m) := by
      by_cases c : r.o = o ∧ r.m = m
      · rw [decide_eq_true c]
        exact List.any_eq_true.mpr ⟨r, hr, by simp [c]⟩
      · rw [decide_eq_false c]
        refine List.any_eq_false.mpr fun q hq => ?_
        by_cases et : r.t = q.t
        · obtain ⟨a, b, e1⟩ := hT r hr
          obtain ⟨a', b', e2⟩ := hT q hq
          rw [et, e2] at e1
          have : r.o = q.o ∧ r.m = q.m := by injection e1 with e1; injection e1 with _ _ e1; injection e1 with e1; simp at e1; exact ⟨e1.1.1.symm, e1.2.1.symm⟩
          simp only [et, decide_true, Bool.true_and, decide_eq_true_eq]
          rw [← this.1, ← this.2]; exact c
        · simp [et]
    rw [e]
    exact eqAt_tup (hT r hr) ht (by show A.units + 1 < cLine; lia)
  · obtain ⟨r, hr, c⟩ := hin
    have e : ((T.map fun r => Value.ref r.t).toArray.any fun v => T.any fun r => decide (v = .ref r.t) && decide (r.o = o ∧ r.m = m)) = true := by
      rw [List.any_toArray, List.any_eq_true]
      exact ⟨.ref r.t, List.mem_map.mpr ⟨r, hr, rfl⟩, List.any_eq_true.mpr ⟨r, hr, by simp [c]⟩⟩
    rw [e]; exact h

theorem tup_item0 {prog : Program} {A : Around} {E : Value → Shared → Prop} {s : Shared} {value slice : PySem.Expr} {t : Addr} {o m : Int} {u : Tok} {Q : Value → Shared → Prop} (T : TAt s.heap t o m) (h : ∀ a, Q (.int o a) s)
    (hs : subscripted slice false (.ref t) (.int 0 u) = operate [.ref t, .int 0 u] (getItem (.ref t) (.int 0 u)) := by with_unfolding_all rfl) :
    wpAny (model prog w) A (subscriptTail value slice (.ref t) (.int 0 u)) Q E s := by
  obtain ⟨a, b, e⟩ := T
  exact item_tupleT ⟨_, e, rfl, 0, rfl⟩ (by decide) (by decide) rfl rfl (h a) hs

theorem tup_item1 {prog : Program} {A : Around} {E : Value → Shared → Prop} {s : Shared} {value slice : PySem.Expr} {t : Addr} {o m : Int} {u : Tok} {Q : Value → Shared → Prop} (T : TAt s.heap t o m) (h : ∀ a, Q (.int m a) s)
    (hs : subscripted slice false (.ref t) (.int 1 u) = operate [.ref t, .int 1 u] (getItem (.ref t) (.int 1 u)) := by with_unfolding_all rfl) :
    wpAny (model prog w) A (subscriptTail value slice (.ref t) (.int 1 u)) Q E s := by
  obtain ⟨a, b, e⟩ := T
  exact item_tupleT ⟨_, e, rfl, 0, rfl⟩ (by decide) (by decide) rfl rfl (h b) hs

theorem lexB_le {a b : TRec} (h : lexB a.o a.m b.o b.m = true) : a.o ≤ b.o := by
  unfold lexB at h
  split at h
  · lia
  · have := of_decide_eq_true h; lia
theorem lexB_ge {a b : TRec} (h : lexB a.o a.m b.o b.m = false) : b.o ≤ a.o := by
  unfold lexB at h
  split at h
  · lia
  · have := of_decide_eq_false h; lia
theorem minF_spec : ∀ (rs : List TRec) (c : TRec), (minF c rs ∈ c :: rs) ∧ (∀ q ∈ c :: rs, (minF c rs).o ≤ q.o)
  | [], c => ⟨.head _, fun q hq => by rcases List.mem_singleton.mp hq with rfl; exact Int.le_refl _⟩
  | r :: rs, c => by
    have em : minF c (r :: rs) = minF (if lexLt r c then r else c) rs := rfl
    cases hb : lexLt r c with
    | true =>
      rw [em, hb, if_pos rfl]
      obtain ⟨h1, h2⟩ := minF_spec rs r
      refine ⟨List.mem_cons_of_mem _ h1, fun q hq => ?_⟩
      rcases List.mem_cons.mp hq with rfl | hq
      · exact Int.le_trans (h2 r (.head _)) (lexB_le hb)
      · exact h2 q hq
    | false =>
      rw [em, hb, if_neg (by decide)]
      obtain ⟨h1, h2⟩ := minF_spec rs c
      refine ⟨?_, fun q hq => ?_⟩
      · rcases List.mem_cons.mp h1 with e | h1
        · rw [e]; exact .head _
        · exact .tail _ (.tail _ h1)
      · rcases List.mem_cons.mp hq with rfl | hq
        · exact h2 _ (.head _)
        · rcases List.mem_cons.mp hq with rfl | hq
          · exact Int.le_trans (h2 c (.head _)) (lexB_ge hb)
          · exact h2 q (.tail _ hq)

theorem first_at {T : List TRec} {o m : Int} (h : ∃ r ∈ T, r.o = o ∧ r.m = m) : ∃ j, j < T.length ∧ (∀ r, T[j]? = some r → r.o = o ∧ r.m = m) ∧ ∀ i r, i < j → T[i]? = some r → ¬ (r.o = o ∧ r.m = m) := by
  induction T with
  | nil => obtain ⟨r, hr, _⟩ := h; cases hr
  | cons q T ih =>
    by_cases c : q.o = o ∧ q.m = m
    · exact ⟨0, by simp, fun r e => by simp at e; rw [← e]; exact c, fun i r hi => absurd hi (Nat.not_lt_zero _)⟩
    · obtain ⟨r, hr, hc⟩ := h
      rcases List.mem_cons.mp hr with rfl | hr
      · exact absurd hc c
      · obtain ⟨j, h1, h2, h3⟩ := ih ⟨r, hr, hc⟩
        refine ⟨j + 1, by simp; lia, fun r e => h2 r (by simpa using e), fun i r hi e => ?_⟩
        cases i with
        | zero => simp at e; rw [← e]; exact c
        | succ i => exact h3 i r (by lia) (by simpa using e)

theorem out_spec {A : Around} {s : Shared} {base : Heap} {a d C li : Addr} {o m : Int} {t : Tok} {T : List TRec} {n : Nat} {Q E : Value → Shared → Prop}
    (b : Bs w mean mg mb base) (hst : ∀ a o, base.get? a = some o → s.heap.get? a = some o) (hl0 : base.get? li = none) (H : HdAt s.heap a d C o m)
    (hl : s.heap.get? li = some (W.listOf (T.map fun r => Value.ref r.t).toArray n)) (hT : ∀ r ∈ T, r.At s.heap) (hz : T.length < 900) (hin : ∃ r ∈ T, r.o = o ∧ r.m = m) (hmin : ∀ r ∈ T, o ≤ r.o) (hr : Room A 6)
    (h : ∀ h' tk' j n', j < T.length → (∀ r, T[j]? = some r → r.o = o ∧ r.m = m) → h'.get? li = some (W.listOf ((T.eraseIdx j).map fun r => Value.ref r.t).toArray n') → Kp [li] s.heap h' → Q (.bool true) { s with heap := h', toks := tk' }) :
    wpAny (model rw_nb0130_01.row.prog w) A (call (.ref 152) [.ref a, .int o t, .ref li]) Q E s := by
  obtain ⟨ha, dp, fr, gd, un⟩ := A
  obtain rfl : ha = none := Room.hd hr
  refine' enter (binds := [(Str.ofString "got", .ref a), (Str.ofString "due", .int o t), (Str.ofString "inside", .ref li)]) [li] b hst (by simpa using hl0) ?kho ?kcd ?kroom ?kbind ?kloc ?_ ?kco ?kgen ?kk ?kcell
  walk_at "my enter"
  intro g L' h' F' b' hbg hkg hg0 hh
  have hLl : li ≠ L' := (hh _ _ hl).2
  have hgl : g.get? li = none := hg0 _ (by simp)
  have N' := News.one (hh _ _ hl).1 hLl hgl
  have X' := b'.X
  have T' := b'.T
  have hali : a ≠ li := ne_ls hl H.obj
  have hdli : d ≠ li := let ⟨_, _, e, _⟩ := H.dict; ne_ld hl e
  have G : HdAt g a d C o m := H.keeps (fun x e => hkg a x (by simpa using hali) e) (fun x e => hkg d x (by simpa using hdli) e)
  have GT : ∀ r ∈ T, r.At g := fun r hr => TAt.keeps (hT r hr) fun x e => hkg _ x (by obtain ⟨u, v, e'⟩ := hT r hr; simpa using ne_lt hl e') e
  (try dsimp only)
  w_on
  (try k_fold)
  walk_at "my steps"
  refine get_order (X'.keeps (Fr.keep (by assumption))) (G.keeps (fun x e => Fr.keep (by assumption) _ _ e) (fun x e => Fr.keep (by assumption) _ _ e)) ?_
  intro t₁
  walk_at "my steps"
  refine get_parent (X'.keeps (Fr.keep (by assumption))) (G.keeps (fun x e => Fr.keep (by assumption) _ _ e) (fun x e => Fr.keep (by assumption) _ _ e)) ?_
  intro t₂
  walk_at "my steps"
  rename Fr _ _ _ _ => F₁
  rename News _ _ _ _ => N₁
  have TD : TAt _ _ o m := ⟨_, _, News.get N₁ (.head _)⟩
  have kT : ∀ {h₂ : Heap} {m₂ : Str → Option Value}, Fr g L' h₂ m₂ → ∀ r ∈ T, r.At h₂ := fun F r hr => TAt.keeps (GT r hr) fun x e => F.keep _ _ e
  have hun : ∀ env, (Around.deeper { depth := dp, frames := fr, guards := gd, units := un } env).units + 80 < cLine := fun env => by have := (Room.deeper hr env).units; lia
  refine notin_rule (News.get N₁ (.tail _ (.head _))) (kT F₁) TD (Nat.lt_of_le_of_lt (Nat.add_le_add_left (by decide) _) (hun _)) hin ?_
  walk_at "my steps"
  refine tup_item0 TD ?_
  intro t₃
  walk_at "my steps"
  · exfalso; lia
  obtain ⟨r₀, rs, rfl⟩ : ∃ r rs, T = r :: rs := by
    obtain ⟨r, hr', _⟩ := hin
    cases T with
    | nil => cases hr'
    | cons q T => exact ⟨q, T, rfl⟩
  refine min_rule rfl (Nat.lt_of_le_of_lt (Nat.add_le_add_left (by decide) _) (hun _)) (News.get N₁ (.tail _ (.head _))) (kT F₁) ?_
  intro h₂ tk₂ k₂
  have F₂ := Fr.grownK F₁ (fun b o e => k₂ b o (by simp) e)
  have N₂ := News.grown N₁ (fun b o e => k₂ b o (by simp) e)
  have TD₂ : TAt h₂ _ o m := TAt.keeps TD fun x e => k₂ _ _ (by simp) e
  obtain ⟨hm1, hm2⟩ := minF_spec rs r₀
  have Tm := kT F₂ _ hm1
  have em : (minF r₀ rs).o = o := by
    have h1 := hmin _ hm1
    obtain ⟨q, hq, e1, _⟩ := hin
    have h2 := hm2 q hq
    lia
  clear F₁ N₁ TD
  walk_at "my steps"
  refine tup_item0 Tm ?_
  intro t₄
  walk_at "my steps"
  · exfalso; lia
  obtain ⟨j, hj1, hj2, hj3⟩ := first_at hin
  refine remove_rule j (News.get N₂ (.tail _ (.head _))) (kT F₂) TD₂ (by lia) (Nat.lt_of_le_of_lt (Nat.add_le_add_left (by decide) _) (hun _)) hj1 hj2 hj3 ?_
  intro h₃ hl₃ hs₃
  have F₃ := Fr.kp (S := [li]) F₂ (fun b o n e => hs₃.extBut b o (by simpa using n) e) (by simpa using Ne.symm hLl) hg0
  have N₃ := News.one hl₃ hLl hgl
  clear F₂ N₂
  walk_at "my steps"
  exact h _ _ j _ hj1 hj2 hl₃ (hkg.trans fun b o _ e => Fr.keep F₃ b o e)

end
section
--PURE
section nat
variable {α β : Type} (f : α → β) (kb : β → Int) (ka : α → Int)

theorem sdF_map (x : α) (st : Nat) (hx : kb (f x) = ka x) : ∀ (n : Nat) (xs : List α) (pos : Nat), (∀ a ∈ xs, kb (f a) = ka a) → sdF kb (f x) st n (xs.map f) pos = (sdF ka x st n xs pos).map f
  | 0, xs, pos, _ => by simp [sdF, List.map_set]
  | n + 1, xs, pos, h => by
    simp only [sdF]
    split
    · rw [List.getElem?_map]
      cases q : xs[(pos - 1) / 2]? with
      | none => simp [List.map_set]
      | some p =>
        simp only [Option.map_some]
        have hp := List.mem_of_getElem? q
        rw [hx, h p hp]
        split
        · rw [← List.map_set]
          exact sdF_map x st hx n _ _ fun a ha => by
            rcases List.mem_or_eq_of_mem_set ha with z | rfl
            · exact h a z
            · exact h _ hp
        · simp [List.map_set]
    · simp [List.map_set]
theorem siftdownF_map (xs : List α) (st pos : Nat) (h : ∀ a ∈ xs, kb (f a) = ka a) : siftdownF kb (xs.map f) st pos = (siftdownF ka xs st pos).map f := by
  unfold siftdownF
  rw [List.getElem?_map]
  cases q : xs[pos]? with
  | none => rfl
  | some x => exact sdF_map f kb ka x st (h x (List.mem_of_getElem? q)) _ _ _ h
theorem childF_map (xs : List α) (c : Nat) (h : ∀ a ∈ xs, kb (f a) = ka a) : childF kb (xs.map f) c = childF ka xs c := by
  unfold childF
  rw [List.getElem?_map, List.getElem?_map]
  cases q : xs[c]? with
  | none => rfl
  | some a =>
    cases q2 : xs[c + 1]? with
    | none => rfl
    | some b => simp only [Option.map_some]; rw [h a (List.mem_of_getElem? q), h b (List.mem_of_getElem? q2)]
theorem suF_map : ∀ (n : Nat) (xs : List α) (pos : Nat), (∀ a ∈ xs, kb (f a) = ka a) → suF kb n (xs.map f) pos = ((suF ka n xs pos).1.map f, (suF ka n xs pos).2)
  | 0, xs, pos, _ => rfl
  | n + 1, xs, pos, h => by
    simp only [suF]
    rw [childF_map f kb ka xs _ h, List.getElem?_map]
    cases q : xs[childF ka xs (2 * pos + 1)]? with
    | none => rfl
    | some c =>
      simp only [Option.map_some]
      rw [← List.map_set]
      exact suF_map n _ _ fun a ha => by
        rcases List.mem_or_eq_of_mem_set ha with z | rfl
        · exact h a z
        · exact h _ (List.mem_of_getElem? q)
theorem siftupF_map (xs : List α) (pos : Nat) (h : ∀ a ∈ xs, kb (f a) = ka a) : siftupF kb (xs.map f) pos = (siftupF ka xs pos).map f := by
  unfold siftupF
  rw [List.getElem?_map]
  cases q : xs[pos]? with
  | none => rfl
  | some x =>
    simp only [Option.map_some, List.length_map]
    rw [suF_map f kb ka _ _ _ h]
    simp only
    rw [← List.map_set]
    refine siftdownF_map f kb ka _ _ _ fun a ha => ?_
    rcases List.mem_or_eq_of_mem_set ha with z | rfl
    · exact h a (suF_mem ka _ _ _ _ z)
    · exact h _ (List.mem_of_getElem? q)
theorem pushF_map (xs : List α) (x : α) (h : ∀ a ∈ xs, kb (f a) = ka a) (hx : kb (f x) = ka x) : pushF kb (xs.map f) (f x) = (pushF ka xs x).map f := by
  unfold pushF
  rw [show xs.map f ++ [f x] = (xs ++ [x]).map f by simp, List.length_map]
  refine siftdownF_map f kb ka _ _ _ fun a ha => ?_
  rcases List.mem_append.mp ha with z | z
  · exact h a z
  · rw [List.mem_singleton.mp z]; exact hx
theorem popF_map (xs : List α) (h : ∀ a ∈ xs, kb (f a) = ka a) : popF kb (xs.map f) = (popF ka xs).map f := by
  unfold popF
  rw [List.getLast?_map]
  cases q : xs.getLast? with
  | none => rfl
  | some y =>
    simp only [Option.map_some]
    rw [← List.map_dropLast]
    cases q2 : xs.dropLast with
    | nil => rfl
    | cons a r =>
      simp only [List.map_cons]
      rw [show f y :: r.map f = (y :: r).map f from rfl]
      refine siftupF_map f kb ka _ _ fun z hz => ?_
      rcases List.mem_cons.mp hz with rfl | hz
      · exact h _ (List.mem_of_getLast? q)
      · exact h z (List.dropLast_subset _ (by rw [q2]; exact .tail _ hz))
theorem replaceF_map (xs : List α) (x : α) (h : ∀ a ∈ xs, kb (f a) = ka a) (hx : kb (f x) = ka x) : replaceF kb (xs.map f) (f x) = (replaceF ka xs x).map f := by
  unfold replaceF
  rw [← List.map_set]
  refine siftupF_map f kb ka _ _ fun a ha => ?_
  rcases List.mem_or_eq_of_mem_set ha with z | rfl
  · exact h a z
  · exact hx
theorem pushpopF_map (xs : List α) (x : α) (h : ∀ a ∈ xs, kb (f a) = ka a) (hx : kb (f x) = ka x) : pushpopF kb (xs.map f) (f x) = (f (pushpopF ka xs x).1, (pushpopF ka xs x).2.map f) := by
  cases xs with
  | nil => rfl
  | cons a r =>
    simp only [pushpopF, List.map_cons]
    rw [h a (.head _), hx]
    split
    · rw [show f x :: r.map f = (x :: r).map f from rfl, siftupF_map f kb ka _ _ fun z hz => ?_]
      rcases List.mem_cons.mp hz with rfl | hz
      · exact hx
      · exact h z (.tail _ hz)
    · rfl
theorem heapifyF_map : ∀ (n : Nat) (xs : List α), (∀ a ∈ xs, kb (f a) = ka a) → heapifyF kb n (xs.map f) = (heapifyF ka n xs).map f
  | 0, _, _ => rfl
  | n + 1, xs, h => by
    simp only [heapifyF]
    rw [siftupF_map f kb ka _ _ h]
    exact heapifyF_map n _ fun a ha => h a (siftupF_mem ka _ _ _ ha)
end nat

end
section
--PURE
section heap
variable {α : Type} (key : α → Int)

/-- the key at a place -/
def kv (xs : List α) (i : Nat) : Int := ((xs[i]?).map key).getD 0
theorem kv_some {xs : List α} {i : Nat} {a : α} (h : xs[i]? = some a) : kv key xs i = key a := by unfold kv; rw [h]; rfl
theorem kv_set (xs : List α) (p : Nat) (x : α) (hp : p < xs.length) (i : Nat) : kv key (xs.set p x) i = if i = p then key x else kv key xs i := by
  unfold kv
  rw [List.getElem?_set]
  by_cases e : p = i
  · subst e; simp [hp]
  · rw [if_neg e, if_neg (fun q => e q.symm)]

def HeapFrom (lo : Nat) (xs : List α) : Prop := ∀ k, 1 ≤ k → k < xs.length → lo ≤ (k - 1) / 2 → kv key xs ((k - 1) / 2) ≤ kv key xs k

inductive Desc (st : Nat) : Nat → Prop
  | refl : Desc st st
  | left {p : Nat} : Desc st p → Desc st (2 * p + 1)
  | right {p : Nat} : Desc st p → Desc st (2 * p + 2)
theorem Desc.le {st p : Nat} (h : Desc st p) : st ≤ p := by induction h <;> lia
theorem Desc.up {st p : Nat} (h : Desc st p) (hne : p ≠ st) : Desc st ((p - 1) / 2) ∧ st < p := by
  cases h with
  | refl => exact absurd rfl hne
  | @left p q => have := q.le; exact ⟨by rw [show (2 * p + 1 - 1) / 2 = p from by lia]; exact q, by lia⟩
  | @right p q => have := q.le; exact ⟨by rw [show (2 * p + 2 - 1) / 2 = p from by lia]; exact q, by lia⟩
theorem Desc.zero (p : Nat) : Desc 0 p := by
  induction p using Nat.strongRecOn with
  | ind p ih =>
    by_cases e : p = 0
    · subst e; exact .refl
    · have := ih ((p - 1) / 2) (by lia)
      by_cases o : p = 2 * ((p - 1) / 2) + 1
      · rw [o]; exact .left this
      · rw [show p = 2 * ((p - 1) / 2) + 2 by lia]; exact .right this

/-- sifting up from a hole at pos: what holds of the rest -/
structure Hole (lo st : Nat) (xs : List α) (x : α) (pos : Nat) : Prop where
  h1 : ∀ k, 1 ≤ k → k < xs.length → lo ≤ (k - 1) / 2 → k ≠ pos → (k - 1) / 2 ≠ pos → kv key xs ((k - 1) / 2) ≤ kv key xs k
  h2 : ∀ k, 1 ≤ k → k < xs.length → (k - 1) / 2 = pos → 1 ≤ pos → lo ≤ (pos - 1) / 2 → kv key xs ((pos - 1) / 2) ≤ kv key xs k
  h4 : 1 ≤ st → lo ≤ (st - 1) / 2 → kv key xs ((st - 1) / 2) ≤ key x

theorem sdF_heap (x : α) (st lo : Nat) (hlo : lo ≤ st) (pos : Nat) : ∀ (xs : List α), pos < xs.length → Desc st pos → Hole key lo st xs x pos →
    (∀ k, 1 ≤ k → k < xs.length → (k - 1) / 2 = pos → key x ≤ kv key xs k) → HeapFrom key lo (sdF key x st pos xs pos) := by
  induction pos using Nat.strongRecOn with
  | ind pos ih =>
    intro xs hp D H h3
    by_cases go : st < pos ∧ ∃ p, xs[(pos - 1) / 2]? = some p ∧ key x < key p
    · obtain ⟨hst, p, hpp, hlt⟩ := go
      rw [sdF_step key x st xs pos hst hpp hlt]
      obtain ⟨D', _⟩ := D.up (by lia)
      have hD' := D'.le
      have hkp := kv_some key hpp
      have e : ∀ i, kv key (xs.set pos p) i = if i = pos then key p else kv key xs i := kv_set key xs pos p hp
      have lt1 : (pos - 1) / 2 < pos := by lia
      refine ih _ lt1 _ (by simp; lia) D' ⟨?_, ?_, ?_⟩ ?_
      · intro k k1 k2 k3 k4 k5
        simp only [List.length_set] at k2
        have k6 : k ≠ pos := by rintro rfl; exact k5 rfl
        rw [e, e, if_neg k6]
        by_cases q : (k - 1) / 2 = pos
        · rw [if_pos q, ← hkp]; exact H.h2 k k1 k2 q (by lia) (by lia)
        · rw [if_neg q]; exact H.h1 k k1 k2 k3 k6 q
      · intro k k1 k2 k3 k4 k5
        simp only [List.length_set] at k2
        rw [e, e, if_neg (by lia)]
        have up := H.h1 ((pos - 1) / 2) (by lia) (by lia) k5 (by lia) (by lia)
        by_cases q : k = pos
        · rw [if_pos q, ← hkp]; exact up
        · rw [if_neg q]
          have := H.h1 k k1 k2 (by lia) q (by lia)
          rw [k3] at this
          lia
      · intro s1 s2
        rw [e, if_neg (by lia)]; exact H.h4 s1 s2
      · intro k k1 k2 k3
        simp only [List.length_set] at k2
        rw [e]
        by_cases q : k = pos
        · rw [if_pos q]; lia
        · rw [if_neg q]
          have := H.h1 k k1 k2 (by lia) q (by lia)
          rw [k3] at this
          lia
    · have hstop : st < pos → ∀ p, xs[(pos - 1) / 2]? = some p → ¬ key x < key p := fun h1 p h2 h3 => go ⟨h1, p, h2, h3⟩
      rw [sdF_stop key x st xs pos hstop]
      have e : ∀ i, kv key (xs.set pos x) i = if i = pos then key x else kv key xs i := kv_set key xs pos x hp
      intro k k1 k2 k3
      simp only [List.length_set] at k2
      rw [e, e]
      by_cases q : k = pos
      · subst q
        rw [if_neg (by lia), if_pos rfl]
        by_cases r : k = st
        · subst r; exact H.h4 k1 k3
        · have := D.up r
          have z : xs[(k - 1) / 2]? = some xs[(k - 1) / 2] := List.getElem?_eq_getElem (by lia)
          have := hstop this.2 _ z
          rw [kv_some key z]; lia
      · rw [if_neg q]
        by_cases r : (k - 1) / 2 = pos
        · rw [if_pos r]; exact h3 k k1 k2 r
        · rw [if_neg r]; exact H.h1 k k1 k2 k3 q r

theorem childF_spec (xs : List α) (p : Nat) (h : 2 * p + 1 < xs.length) : (childF key xs (2 * p + 1) = 2 * p + 1 ∨ childF key xs (2 * p + 1) = 2 * p + 2) ∧ childF key xs (2 * p + 1) < xs.length ∧
    ∀ k, 1 ≤ k → k < xs.length → (k - 1) / 2 = p → kv key xs (childF key xs (2 * p + 1)) ≤ kv key xs k := by
  have z1 : xs[2 * p + 1]? = some xs[2 * p + 1] := List.getElem?_eq_getElem h
  by_cases h2 : 2 * p + 1 + 1 < xs.length
  · have z2 : xs[2 * p + 1 + 1]? = some xs[2 * p + 1 + 1] := List.getElem?_eq_getElem h2
    by_cases c : key xs[2 * p + 1] < key xs[2 * p + 1 + 1]
    · have e : childF key xs (2 * p + 1) = 2 * p + 1 := by unfold childF; rw [z1, z2]; exact if_pos c
      rw [e]
      refine ⟨.inl rfl, h, fun k k1 k2 k3 => ?_⟩
      by_cases q : k = 2 * p + 1
      · rw [q]; exact Int.le_refl _
      · rw [show k = 2 * p + 1 + 1 by lia, kv_some key z1, kv_some key z2]; lia
    · have e : childF key xs (2 * p + 1) = 2 * p + 1 + 1 := by unfold childF; rw [z1, z2]; exact if_neg c
      rw [e]
      refine ⟨.inr rfl, h2, fun k k1 k2 k3 => ?_⟩
      by_cases q : k = 2 * p + 1
      · rw [q, kv_some key z1, kv_some key z2]; lia
      · rw [show k = 2 * p + 1 + 1 by lia]; exact Int.le_refl _
  · have e : childF key xs (2 * p + 1) = 2 * p + 1 := by unfold childF; rw [z1, List.getElem?_eq_none (by lia)]
    rw [e]
    refine ⟨.inl rfl, h, fun k k1 k2 k3 => ?_⟩
    rw [show k = 2 * p + 1 by lia]; exact Int.le_refl _

theorem suF_hole (x : α) (st lo : Nat) (hlo : lo ≤ st) : ∀ (f : Nat) (xs : List α) (p : Nat), xs.length - p ≤ f → p < xs.length → Desc st p → Hole key lo st xs x p →
    (suF key f xs p).2 < xs.length ∧ xs.length ≤ 2 * (suF key f xs p).2 + 1 ∧ Desc st (suF key f xs p).2 ∧ Hole key lo st (suF key f xs p).1 x (suF key f xs p).2
  | 0, xs, p, hf, hp, _, _ => by lia
  | f + 1, xs, p, hf, hp, D, H => by
    by_cases h : 2 * p + 1 < xs.length
    · obtain ⟨c1, c2, c3⟩ := childF_spec key xs p h
      have z : xs[childF key xs (2 * p + 1)]? = some xs[childF key xs (2 * p + 1)] := List.getElem?_eq_getElem c2
      have hs : suF key (f + 1) xs p = suF key f (xs.set p xs[childF key xs (2 * p + 1)]) (childF key xs (2 * p + 1)) := by simp only [suF, z]
      rw [hs]
      generalize childF key xs (2 * p + 1) = c at *
      have hk := kv_some key z
      have e : ∀ i, kv key (xs.set p xs[c]) i = if i = p then key xs[c] else kv key xs i := kv_set key xs p _ hp
      have hD := D.le
      have D' : Desc st c := by rcases c1 with rfl | rfl; exact .left D; exact .right D
      have pc : (c - 1) / 2 = p := by lia
      have := suF_hole x st lo hlo f (xs.set p xs[c]) c (by simp; lia) (by simpa using c2) D' ⟨?_, ?_, ?_⟩
      · simpa using this
      · intro k k1 k2 k3 k4 k5
        simp only [List.length_set] at k2
        rw [e, e]
        by_cases q : k = p
        · rw [if_neg (by lia), if_pos q, ← hk, q]
          exact H.h2 c (by lia) c2 pc (by lia) (by lia)
        · rw [if_neg q]
          by_cases r : (k - 1) / 2 = p
          · rw [if_pos r, ← hk]; exact c3 k k1 k2 r
          · rw [if_neg r]; exact H.h1 k k1 k2 k3 q r
      · intro k k1 k2 k3 k4 k5
        simp only [List.length_set] at k2
        rw [pc, e, e, if_pos rfl, if_neg (by lia), ← hk]
        have := H.h1 k k1 k2 (by lia) (by lia) (by lia)
        rw [k3] at this; exact this
      · intro s1 s2
        rw [e, if_neg (by lia)]; exact H.h4 s1 s2
    · have hs : suF key (f + 1) xs p = (xs, p) := suF_stop key _ xs p (by lia)
      rw [hs]
      exact ⟨hp, by simp only; lia, D, H⟩

theorem siftupF_heap (xs : List α) (pos lo : Nat) (hlo : lo ≤ pos) {x : α} (hx : xs[pos]? = some x) (H : Hole key lo pos xs x pos) : HeapFrom key lo (siftupF key xs pos) := by
  have hp : pos < xs.length := (List.getElem?_eq_some_iff.mp hx).1
  obtain ⟨a1, a2, a3, a4⟩ := suF_hole key x pos lo hlo xs.length xs pos (by lia) hp .refl H
  have hl := suF_length key xs.length xs pos
  unfold siftupF
  rw [hx]
  simp only
  generalize suF key xs.length xs pos = r at *
  have hp2 : r.2 < r.1.length := by lia
  have hg : (r.1.set r.2 x)[r.2]? = some x := by simp [hp2]
  unfold siftdownF
  rw [hg]
  simp only
  have e : ∀ i, kv key (r.1.set r.2 x) i = if i = r.2 then key x else kv key r.1 i := kv_set key r.1 r.2 x hp2
  refine sdF_heap key x pos lo hlo r.2 _ (by simpa using hp2) a3 ⟨?_, ?_, ?_⟩ ?_
  · intro k k1 k2 k3 k4 k5
    rw [e, e, if_neg k4, if_neg k5]; exact a4.h1 k k1 (by simpa using k2) k3 k4 k5
  · intro k k1 k2 k3
    simp only [List.length_set] at k2
    lia
  · intro s1 s2
    have := a3.le
    rw [e, if_neg (by lia)]; exact a4.h4 s1 s2
  · intro k k1 k2 k3
    simp only [List.length_set] at k2
    lia
end heap

end
section
--PURE
section ops
variable {α : Type} (key : α → Int)

theorem kv_append_left (xs ys : List α) (i : Nat) (h : i < xs.length) : kv key (xs ++ ys) i = kv key xs i := by
  unfold kv; rw [List.getElem?_append_left h]

theorem pushF_heap (xs : List α) (x : α) (h : HeapFrom key 0 xs) : HeapFrom key 0 (pushF key xs x) := by
  unfold pushF siftdownF
  have hx : (xs ++ [x])[xs.length]? = some x := by simp
  rw [hx]
  refine sdF_heap key x 0 0 (Nat.le_refl _) _ _ (by simp) (Desc.zero _) ⟨?_, ?_, ?_⟩ ?_
  · intro k k1 k2 k3 k4 k5
    have k6 : k < xs.length := by simp at k2; lia
    rw [kv_append_left key _ _ _ (by lia), kv_append_left key _ _ _ k6]
    exact h k k1 k6 k3
  · intro k k1 k2 k3; simp at k2; lia
  · intro k1; lia
  · intro k k1 k2 k3; simp at k2; lia

theorem top_hole (x y : α) (r s : List α) (h : HeapFrom key 0 (x :: (r ++ s))) : Hole key 0 0 (y :: r) y 0 := by
  refine ⟨?_, ?_, ?_⟩
  · intro k k1 k2 k3 k4 k5
    have e : ∀ i, i ≠ 0 → i < (y :: r).length → kv key (y :: r) i = kv key (x :: (r ++ s)) i := fun i hi hl => by
      obtain ⟨j, rfl⟩ : ∃ j, i = j + 1 := ⟨i - 1, by lia⟩
      unfold kv
      simp only [List.getElem?_cons_succ]
      rw [List.getElem?_append_left (by simp at hl; lia)]
    rw [e _ k5 (by lia), e _ k4 k2]
    exact h k k1 (by simp at k2 ⊢; lia) (by lia)
  · intro k _ _ _ k4; lia
  · intro k1; lia
theorem popF_heap (xs : List α) (h : HeapFrom key 0 xs) : HeapFrom key 0 (popF key xs) := by
  rcases List.eq_nil_or_concat xs with rfl | ⟨p, y, rfl⟩
  · intro k _ k2; simp [popF] at k2
  · simp only [List.concat_eq_append] at h ⊢
    cases p with
    | nil => intro k _ k2; simp [popF] at k2
    | cons x r =>
      rw [popF_concat]
      exact siftupF_heap key _ 0 0 (Nat.le_refl _) rfl (top_hole key x y r [y] h)
theorem replaceF_heap (x y : α) (r : List α) (h : HeapFrom key 0 (x :: r)) : HeapFrom key 0 (siftupF key (y :: r) 0) :=
  siftupF_heap key _ 0 0 (Nat.le_refl _) rfl (top_hole key x y r [] (by simpa using h))
theorem pushpopF_heap (xs : List α) (y : α) (h : HeapFrom key 0 xs) : HeapFrom key 0 (pushpopF key xs y).2 := by
  cases xs with
  | nil => intro k _ k2; simp [pushpopF] at k2
  | cons x r =>
    simp only [pushpopF]
    split
    · exact replaceF_heap key x y r h
    · exact h
theorem heapifyF_heap : ∀ (n : Nat) (xs : List α), HeapFrom key n xs → n ≤ xs.length → HeapFrom key 0 (heapifyF key n xs)
  | 0, _, h, _ => h
  | n + 1, xs, h, hl => by
    refine heapifyF_heap n _ ?_ (by rw [siftupF_length]; lia)
    have hx : xs[n]? = some xs[n] := List.getElem?_eq_getElem (by lia)
    refine siftupF_heap key xs n n (Nat.le_refl _) hx ⟨?_, ?_, ?_⟩
    · intro k k1 k2 k3 _ k5; exact h k k1 k2 (by lia)
    · intro k _ _ _ k4 k5; lia
    · intro k4 k5; lia
theorem heapify_heap (xs : List α) : HeapFrom key 0 (heapifyF key (xs.length / 2) xs) :=
  heapifyF_heap key _ _ (fun k k1 k2 k3 => by lia) (by lia)

theorem change_down (xs : List α) (p : Nat) {was : α} (hw : xs[p]? = some was) (x : α) (h : HeapFrom key 0 xs) (hlt : key x < key was) : HeapFrom key 0 (siftdownF key (xs.set p x) 0 p) := by
  have hp : p < xs.length := (List.getElem?_eq_some_iff.mp hw).1
  have hk := kv_some key hw
  have hx : (xs.set p x)[p]? = some x := by simp [hp]
  have e : ∀ i, kv key (xs.set p x) i = if i = p then key x else kv key xs i := kv_set key xs p x hp
  unfold siftdownF
  rw [hx]
  refine sdF_heap key x 0 0 (Nat.le_refl _) p _ (by simpa using hp) (Desc.zero _) ⟨?_, ?_, ?_⟩ ?_
  · intro k k1 k2 k3 k4 k5
    rw [e, e, if_neg k4, if_neg k5]; exact h k k1 (by simpa using k2) k3
  · intro k k1 k2 k3 k4 k5
    simp only [List.length_set] at k2
    rw [e, e, if_neg (by lia), if_neg (by lia)]
    have a := h p k4 hp k5
    have b := h k k1 k2 (by lia)
    rw [k3] at b; lia
  · intro k1; lia
  · intro k k1 k2 k3
    simp only [List.length_set] at k2
    rw [e, if_neg (by lia)]
    have b := h k k1 k2 (by lia)
    rw [k3, hk] at b; lia
theorem change_up (xs : List α) (p : Nat) {was : α} (hw : xs[p]? = some was) (x : α) (h : HeapFrom key 0 xs) (hge : ¬ key x < key was) : HeapFrom key 0 (siftupF key (xs.set p x) p) := by
  have hp : p < xs.length := (List.getElem?_eq_some_iff.mp hw).1
  have hk := kv_some key hw
  have hx : (xs.set p x)[p]? = some x := by simp [hp]
  have e : ∀ i, kv key (xs.set p x) i = if i = p then key x else kv key xs i := kv_set key xs p x hp
  refine siftupF_heap key _ p 0 (Nat.zero_le _) hx ⟨?_, ?_, ?_⟩
  · intro k k1 k2 k3 k4 k5
    rw [e, e, if_neg k4, if_neg k5]; exact h k k1 (by simpa using k2) k3
  · intro k k1 k2 k3 k4 k5
    simp only [List.length_set] at k2
    rw [e, e, if_neg (by lia), if_neg (by lia)]
    have a := h p k4 hp k5
    have b := h k k1 k2 (by lia)
    rw [k3] at b; lia
  · intro s1 s2
    rw [e, if_neg (by lia)]
    have a := h p s1 hp s2
    lia

/-! the items stay the same -/
theorem cons_set_perm : ∀ (xs : List α) (j : Nat) (p x : α), xs[j]? = some p → (p :: xs.set j x).Perm (x :: xs)
  | [], j, p, x, h => by simp at h
  | a :: xs, 0, p, x, h => by
    simp at h; subst h
    simp only [List.set_cons_zero]; exact List.Perm.swap ..
  | a :: xs, j + 1, p, x, h => by
    simp at h
    simp only [List.set_cons_succ]
    exact (List.Perm.swap ..).trans (((cons_set_perm xs j p x h).cons a).trans (List.Perm.swap ..))
theorem set_set_perm : ∀ (xs : List α) (i j : Nat) (p x : α), i ≠ j → i < xs.length → xs[j]? = some p → ((xs.set i p).set j x).Perm (xs.set i x)
  | [], i, j, p, x, _, h, _ => by simp at h
  | a :: xs, 0, 0, p, x, h, _, _ => absurd rfl h
  | a :: xs, 0, j + 1, p, x, _, _, h => by
    simp at h
    simp only [List.set_cons_zero, List.set_cons_succ]
    exact cons_set_perm xs j p x h
  | a :: xs, i + 1, 0, p, x, _, hi, h => by
    simp at h hi; subst h
    simp only [List.set_cons_zero, List.set_cons_succ]
    have := cons_set_perm (xs.set i a) i a x (by simp [hi])
    rw [List.set_set] at this
    exact this.symm
  | a :: xs, i + 1, j + 1, p, x, hne, hi, h => by
    simp at h hi
    simp only [List.set_cons_succ]
    exact (set_set_perm xs i j p x (by lia) hi h).cons a
theorem set_self : ∀ (xs : List α) (p : Nat) (x : α), xs[p]? = some x → xs.set p x = xs
  | [], _, _, _ => rfl
  | a :: xs, 0, x, h => by simp at h; subst h; rfl
  | a :: xs, p + 1, x, h => by simp at h; simp [set_self xs p x h]

theorem sdF_perm (x : α) (st : Nat) (pos : Nat) : ∀ (xs : List α), pos < xs.length → (sdF key x st pos xs pos).Perm (xs.set pos x) := by
  induction pos using Nat.strongRecOn with
  | ind pos ih =>
    intro xs hp
    by_cases go : st < pos ∧ ∃ p, xs[(pos - 1) / 2]? = some p ∧ key x < key p
    · obtain ⟨hst, p, hpp, hlt⟩ := go
      rw [sdF_step key x st xs pos hst hpp hlt]
      exact (ih _ (by lia) (xs.set pos p) (by simp; lia)).trans (set_set_perm xs pos _ p x (by lia) hp hpp)
    · rw [sdF_stop key x st xs pos fun h1 p h2 h3 => go ⟨h1, p, h2, h3⟩]
theorem siftdownF_perm (xs : List α) (st pos : Nat) : (siftdownF key xs st pos).Perm xs := by
  unfold siftdownF
  split
  · rename_i x hx
    have := sdF_perm key x st pos xs (List.getElem?_eq_some_iff.mp hx).1
    rw [set_self xs pos x hx] at this; exact this
  · exact List.Perm.refl _
theorem suF_perm (x : α) : ∀ (f : Nat) (xs : List α) (p : Nat), p < xs.length → (suF key f xs p).2 < xs.length ∧ ((suF key f xs p).1.set (suF key f xs p).2 x).Perm (xs.set p x)
  | 0, xs, p, h => ⟨h, List.Perm.refl _⟩
  | f + 1, xs, p, h => by
    unfold suF
    split
    · rename_i c hc
      have hlt := (List.getElem?_eq_some_iff.mp hc).1
      have hne : p ≠ childF key xs (2 * p + 1) := by rcases childF_cases key xs (2 * p + 1) with e | ⟨e, _⟩ <;> lia
      have := suF_perm x f (xs.set p c) (childF key xs (2 * p + 1)) (by simpa using hlt)
      exact ⟨by simpa using this.1, this.2.trans (set_set_perm xs p _ c x hne h hc)⟩
    · exact ⟨h, List.Perm.refl _⟩
theorem siftupF_perm (xs : List α) (pos : Nat) : (siftupF key xs pos).Perm xs := by
  unfold siftupF
  split
  · rename_i x hx
    simp only
    have := (suF_perm key x xs.length xs pos (List.getElem?_eq_some_iff.mp hx).1).2
    rw [set_self xs pos x hx] at this
    exact (siftdownF_perm key _ _ _).trans this
  · exact List.Perm.refl _
theorem pushF_perm (xs : List α) (x : α) : (pushF key xs x).Perm (x :: xs) := (siftdownF_perm key _ _ _).trans (List.perm_append_singleton _ _)
theorem popF_perm (x : α) (r : List α) : (x :: popF key (x :: r)).Perm (x :: r) := by
  rcases List.eq_nil_or_concat r with rfl | ⟨p, y, rfl⟩
  · simp [popF]
  · simp only [List.concat_eq_append]
    have := popF_concat key x y p
    rw [List.cons_append] at this
    rw [this]
    exact ((siftupF_perm key _ _).trans (List.perm_append_singleton ..).symm).cons x
theorem replaceF_perm (x y : α) (r : List α) : (x :: replaceF key (x :: r) y).Perm (y :: x :: r) := by
  unfold replaceF
  exact ((siftupF_perm key _ _).cons x).trans (List.Perm.swap ..)
theorem pushpopF_perm (xs : List α) (y : α) : ((pushpopF key xs y).1 :: (pushpopF key xs y).2).Perm (y :: xs) := by
  cases xs with
  | nil => exact List.Perm.refl _
  | cons x r =>
    simp only [pushpopF]
    split
    · exact ((siftupF_perm key (y :: r) 0).cons x).trans (List.Perm.swap y x r)
    · exact List.Perm.refl _
theorem heapifyF_perm : ∀ (n : Nat) (xs : List α), (heapifyF key n xs).Perm xs
  | 0, _ => List.Perm.refl _
  | n + 1, xs => (heapifyF_perm n _).trans (siftupF_perm key xs n)

/-- the top is the least -/
theorem heap_top (xs : List α) {x : α} (hx : xs[0]? = some x) (h : HeapFrom key 0 xs) : ∀ a ∈ xs, key x ≤ key a := by
  have hk := kv_some key hx
  have all : ∀ i, i < xs.length → key x ≤ kv key xs i := by
    intro i
    induction i using Nat.strongRecOn with
    | ind i ih =>
      intro hi
      by_cases e : i = 0
      · subst e; lia
      · have a := h i (by lia) hi (by lia)
        have b := ih ((i - 1) / 2) (by lia) (by lia)
        lia
  intro a ha
  obtain ⟨i, hi, e⟩ := List.mem_iff_getElem.mp ha
  have := all i hi
  rw [kv_some key (show xs[i]? = some a by rw [List.getElem?_eq_getElem hi, e])] at this
  exact this
end ops

end
section
def LH (h : Heap) (lh : Addr) (R : List HRec) : Prop := ∃ n, h.get? lh = some (W.listOf (R.map fun r => Value.ref r.a).toArray n)
def LB (h : Heap) (lb : Addr) (os : List Int) : Prop := ∃ n bs, h.get? lb = some (W.listOf (List.toArray bs) n) ∧ (∀ v ∈ bs, okI v) ∧ bs.map keyI = os
def LI (h : Heap) (li : Addr) (T : List TRec) : Prop := ∃ n, h.get? li = some (W.listOf (T.map fun r => Value.ref r.t).toArray n)

/-- the whole state: the three lists, all handlers at hand (U), those in the heap (R), the bare numbers, the pairs -/
structure St (base h : Heap) (lh lb li : Addr) (U R : List HRec) (os : List Int) (T : List TRec) : Prop where
  st : ∀ a o, base.get? a = some o → h.get? a = some o
  n0 : base.get? lh = none
  n1 : base.get? lb = none
  n2 : base.get? li = none
  ne1 : lh ≠ lb
  ne2 : lh ≠ li
  ne3 : lb ≠ li
  hlh : LH h lh R
  hlb : LB h lb os
  hli : LI h li T
  sub : ∀ r ∈ R, r ∈ U
  hd : ∀ r ∈ U, r.At h ∧ base.get? r.d = none
  nda : (U.map (·.a)).Nodup
  ndd : (U.map (·.d)).Nodup
  tu : ∀ t ∈ T, t.At h

section
variable {base h h' : Heap} {lh lb li : Addr} {U R R' : List HRec} {os os' : List Int} {T T' : List TRec}

theorem off_list {l : Addr} {vs : Array Value} {n : Nat} (hl : h.get? l = some (W.listOf vs n)) {r : HRec} (hr : r.At h) : r.a ≠ l ∧ r.d ≠ l :=
  ⟨ne_ls hl hr.obj, let ⟨_, _, e, _⟩ := hr.dict; ne_ld hl e⟩
theorem off_listT {l : Addr} {vs : Array Value} {n : Nat} (hl : h.get? l = some (W.listOf vs n)) {t : TRec} (ht : t.At h) : t.t ≠ l := let ⟨_, _, e⟩ := ht; ne_lt hl e
theorem St.offh (S : St base h lh lb li U R os T) : ∀ r ∈ U, r.a ≠ lh ∧ r.d ≠ lh := fun r hr => let ⟨_, e⟩ := S.hlh; off_list e (S.hd r hr).1
theorem St.offb (S : St base h lh lb li U R os T) : ∀ r ∈ U, r.a ≠ lb ∧ r.d ≠ lb := fun r hr => let ⟨_, _, e, _⟩ := S.hlb; off_list e (S.hd r hr).1
theorem St.offi (S : St base h lh lb li U R os T) : ∀ r ∈ U, r.a ≠ li ∧ r.d ≠ li := fun r hr => let ⟨_, e⟩ := S.hli; off_list e (S.hd r hr).1

theorem kp_one {l b : Addr} {o : Obj} (k : Kp [l] h h') (hb : b ≠ l) (e : h.get? b = some o) : h'.get? b = some o := k b o (by simpa using hb) e

theorem St.set_lh (S : St base h lh lb li U R os T) (k : Kp [lh] h h') (l : LH h' lh R') (hs : ∀ r ∈ R', r ∈ U) : St base h' lh lb li U R' os T where
  st a o e := kp_one k (by rintro rfl; rw [S.n0] at e; cases e) (S.st a o e)
  n0 := S.n0
  n1 := S.n1
  n2 := S.n2
  ne1 := S.ne1
  ne2 := S.ne2
  ne3 := S.ne3
  hlh := l
  hlb := let ⟨n, bs, e, r⟩ := S.hlb; ⟨n, bs, kp_one k (Ne.symm S.ne1) e, r⟩
  hli := let ⟨n, e⟩ := S.hli; ⟨n, kp_one k (Ne.symm S.ne2) e⟩
  sub := hs
  hd r hr := ⟨HdAt.keeps (S.hd r hr).1 (fun x e => kp_one k (S.offh r hr).1 e) (fun x e => kp_one k (S.offh r hr).2 e), (S.hd r hr).2⟩
  nda := S.nda
  ndd := S.ndd
  tu t ht := TAt.keeps (S.tu t ht) fun x e => kp_one k (let ⟨_, e⟩ := S.hlh; off_listT e (S.tu t ht)) e
theorem St.set_lb (S : St base h lh lb li U R os T) (k : Kp [lb] h h') (l : LB h' lb os') : St base h' lh lb li U R os' T where
  st a o e := kp_one k (by rintro rfl; rw [S.n1] at e; cases e) (S.st a o e)
  n0 := S.n0
  n1 := S.n1
  n2 := S.n2
  ne1 := S.ne1
  ne2 := S.ne2
  ne3 := S.ne3
  hlh := let ⟨n, e⟩ := S.hlh; ⟨n, kp_one k S.ne1 e⟩
  hlb := l
  hli := let ⟨n, e⟩ := S.hli; ⟨n, kp_one k (Ne.symm S.ne3) e⟩
  sub := S.sub
  hd r hr := ⟨HdAt.keeps (S.hd r hr).1 (fun x e => kp_one k (S.offb r hr).1 e) (fun x e => kp_one k (S.offb r hr).2 e), (S.hd r hr).2⟩
  nda := S.nda
  ndd := S.ndd
  tu t ht := TAt.keeps (S.tu t ht) fun x e => kp_one k (let ⟨_, _, e, _⟩ := S.hlb; off_listT e (S.tu t ht)) e
theorem St.set_li (S : St base h lh lb li U R os T) (k : Kp [li] h h') (l : LI h' li T') (ht : ∀ t ∈ T', t.At h') : St base h' lh lb li U R os T' where
  st a o e := kp_one k (by rintro rfl; rw [S.n2] at e; cases e) (S.st a o e)
  n0 := S.n0
  n1 := S.n1
  n2 := S.n2
  ne1 := S.ne1
  ne2 := S.ne2
  ne3 := S.ne3
  hlh := let ⟨n, e⟩ := S.hlh; ⟨n, kp_one k S.ne2 e⟩
  hlb := let ⟨n, bs, e, r⟩ := S.hlb; ⟨n, bs, kp_one k S.ne3 e, r⟩
  hli := l
  sub := S.sub
  hd r hr := ⟨HdAt.keeps (S.hd r hr).1 (fun x e => kp_one k (S.offi r hr).1 e) (fun x e => kp_one k (S.offi r hr).2 e), (S.hd r hr).2⟩
  nda := S.nda
  ndd := S.ndd
  tu := ht
theorem St.grow (S : St base h lh lb li U R os T) (k : ∀ b o, h.get? b = some o → h'.get? b = some o) : St base h' lh lb li U R os T where
  st a o e := k _ _ (S.st a o e)
  n0 := S.n0
  n1 := S.n1
  n2 := S.n2
  ne1 := S.ne1
  ne2 := S.ne2
  ne3 := S.ne3
  hlh := let ⟨n, e⟩ := S.hlh; ⟨n, k _ _ e⟩
  hlb := let ⟨n, bs, e, r⟩ := S.hlb; ⟨n, bs, k _ _ e, r⟩
  hli := let ⟨n, e⟩ := S.hli; ⟨n, k _ _ e⟩
  sub := S.sub
  hd r hr := ⟨HdAt.keeps (S.hd r hr).1 (fun x e => k _ _ e) (fun x e => k _ _ e), (S.hd r hr).2⟩
  nda := S.nda
  ndd := S.ndd
  tu t ht := TAt.keeps (S.tu t ht) fun x e => k _ _ e
theorem St.weaken {g : Heap} (S : St base h lh lb li U R os T) (k : ∀ b o, g.get? b = some o → base.get? b = some o) : St g h lh lb li U R os T :=
  have no : ∀ {a : Addr}, base.get? a = none → g.get? a = none := fun {a} e => by
    cases q : g.get? a with
    | none => rfl
    | some o => rw [k _ _ q] at e; cases e
  ⟨fun a o e => S.st a o (k _ _ e), no S.n0, no S.n1, no S.n2, S.ne1, S.ne2, S.ne3, S.hlh, S.hlb, S.hli, S.sub, fun r hr => ⟨(S.hd r hr).1, no (S.hd r hr).2⟩, S.nda, S.ndd, S.tu⟩

/-- a new handler joins those at hand -/
theorem St.addH (S : St base h lh lb li U R os T) (k : Kp [] h h') {q : HRec} (hq : q.At h') (fa : h.get? q.a = none) (fd : h.get? q.d = none) : St base h' lh lb li (q :: U) R os T :=
  have S' := S.grow fun b o e => k b o (by simp) e
  { S' with
    sub := fun r hr => .tail _ (S.sub r hr)
    hd := fun r hr => by
      rcases List.mem_cons.mp hr with rfl | hr
      · refine ⟨hq, ?_⟩
        cases z : base.get? r.d with
        | none => rfl
        | some o => rw [S.st _ _ z] at fd; cases fd
      · exact S'.hd r hr
    nda := by
      rw [List.map_cons, List.nodup_cons]
      refine ⟨fun z => ?_, S.nda⟩
      obtain ⟨r, hr, e⟩ := List.mem_map.mp z
      have := (S.hd r hr).1.obj
      rw [e, fa] at this; cases this
    ndd := by
      rw [List.map_cons, List.nodup_cons]
      refine ⟨fun z => ?_, S.ndd⟩
      obtain ⟨r, hr, e⟩ := List.mem_map.mp z
      obtain ⟨es, n, e', _⟩ := (S.hd r hr).1.dict
      rw [e, fd] at e'; cases e' }
/-- fewer at hand -/
theorem St.restrict {U' : List HRec} (S : St base h lh lb li U R os T) (hs : ∀ r ∈ R, r ∈ U') (hu : ∀ r ∈ U', r ∈ U) (ha : (U'.map (·.a)).Nodup) (hd : (U'.map (·.d)).Nodup) : St base h lh lb li U' R os T :=
  { S with sub := hs, hd := fun r hr => S.hd r (hu r hr), nda := ha, ndd := hd }

theorem St.ph (S : St base h lh lb li U R os T) : PH base U h := ⟨S.st, fun r hr => (S.hd r hr).1⟩
theorem St.oks (S : St base h lh lb li U R os T) : ∀ v ∈ R.map (fun r => Value.ref r.a), okH U v := fun v hv => by
  obtain ⟨r, hr, rfl⟩ := List.mem_map.mp hv; exact ⟨r, S.sub r hr, rfl⟩
theorem St.keyOf (S : St base h lh lb li U R os T) : ∀ r ∈ R, keyH U (.ref r.a) = r.o := fun r hr => keyH_of S.nda (S.sub r hr)
end

end
section
theorem okI_perm {xs ys : List Value} (p : xs.Perm ys) (h : ∀ v ∈ ys, okI v) : ∀ v ∈ xs, okI v := fun v hv => h v (p.mem_iff.mp hv)
theorem okI_val {v : Value} (h : okI v) : ∃ t, v = .int (keyI v) t := by obtain ⟨i, t, rfl⟩ := h; exact ⟨t, rfl⟩
section
variable {A : Around} {s : Shared} {base : Heap} {lh lb li : Addr} {U R : List HRec} {os : List Int} {T : List TRec} {Q E : Value → Shared → Prop}
theorem siftdown_h {st ps : Nat} {t1 t2 : Tok} (b : Bs w mean mg mb base) (S : St base s.heap lh lb li U R os T) (hr : Room A 9) (hz : R.length < 800) (hp : ps < R.length)
    (h : ∀ h' tk', St base h' lh lb li U (siftdownF (·.o) R st ps) os T → Kp [lh] s.heap h' → Q .none { s with heap := h', toks := tk' }) :
    wpAny (model rw_nb0130_01.row.prog w) A (call (.ref 56) [.ref lh, .int st t1, .int ps t2]) Q E s := by
  obtain ⟨n, e⟩ := S.hlh
  refine siftdown_spec (key := keyH U) b S.st S.n0 e (by simpa using hp) (hr.mono (by decide)) (by simp; lia) (cmp_hds b S.nda) S.ph (fun _ _ p k => p.kp S.n0 S.offh k) S.oks ?_
  intro h' tk' hl k
  have m := siftdownF_map (fun r : HRec => Value.ref r.a) (keyH U) (·.o) R st ps S.keyOf
  refine h h' tk' (S.set_lh k ⟨_, by rw [← m]; exact hl⟩ ?_) k
  intro r hr'
  exact S.sub r (siftdownF_mem _ _ _ _ _ hr')

theorem siftup_h {ps : Nat} {t2 : Tok} (b : Bs w mean mg mb base) (S : St base s.heap lh lb li U R os T) (hr : Room A 9) (hz : R.length < 800) (hp : ps < R.length)
    (h : ∀ h' tk', St base h' lh lb li U (siftupF (·.o) R ps) os T → Kp [lh] s.heap h' → Q .none { s with heap := h', toks := tk' }) :
    wpAny (model rw_nb0130_01.row.prog w) A (call (.ref 63) [.ref lh, .int ps t2]) Q E s := by
  obtain ⟨n, e⟩ := S.hlh
  refine siftup_spec (key := keyH U) b S.st S.n0 e (by simpa using hp) (hr.mono (by decide)) (by simp; lia) (cmp_hds b S.nda) S.ph (fun _ _ p k => p.kp S.n0 S.offh k) S.oks ?_
  intro h' tk' hl k
  have m := siftupF_map (fun r : HRec => Value.ref r.a) (keyH U) (·.o) R ps S.keyOf
  refine h h' tk' (S.set_lh k ⟨_, by rw [← m]; exact hl⟩ ?_) k
  intro r hr'
  exact S.sub r (siftupF_mem _ _ _ _ hr')

theorem heapify_h (b : Bs w mean mg mb base) (S : St base s.heap lh lb li U R os T) (hr : Room A 9) (hz : R.length < 800) 
    (h : ∀ h' tk', St base h' lh lb li U (heapifyF (·.o) (R.length / 2) R) os T → Kp [lh] s.heap h' → Q .none { s with heap := h', toks := tk' }) :
    wpAny (model rw_nb0130_01.row.prog w) A (call (.ref 49) [.ref lh]) Q E s := by
  obtain ⟨n, e⟩ := S.hlh
  refine heapify_spec (key := keyH U) b S.st S.n0 e (hr.mono (by decide)) (by simp; lia) (cmp_hds b S.nda) S.ph (fun _ _ p k => p.kp S.n0 S.offh k) S.oks ?_
  intro h' tk' hl k
  have m := heapifyF_map (fun r : HRec => Value.ref r.a) (keyH U) (·.o) (R.length / 2) R S.keyOf
  rw [List.length_map] at hl
  refine h h' tk' (S.set_lh k ⟨_, by rw [← m]; exact hl⟩ ?_) k
  intro r hr'
  exact S.sub r ((heapifyF_perm _ _ _).mem_iff.mp hr')

theorem push_h {q : HRec} (b : Bs w mean mg mb base) (S : St base s.heap lh lb li U R os T) (hr : Room A 9) (hz : R.length < 800) (hq : q ∈ U)
    (h : ∀ h' tk', St base h' lh lb li U (pushF (·.o) R q) os T → Kp [lh] s.heap h' → Q .none { s with heap := h', toks := tk' }) :
    wpAny (model rw_nb0130_01.row.prog w) A (call (.ref 21) [.ref lh, .ref q.a]) Q E s := by
  obtain ⟨n, e⟩ := S.hlh
  refine heappush_spec (key := keyH U) b S.st S.n0 e (hr.mono (by decide)) (by simp; lia) (cmp_hds b S.nda) S.ph (fun _ _ p k => p.kp S.n0 S.offh k) S.oks ⟨q, hq, rfl⟩ ?_
  intro h' tk' n' hl k
  have m := pushF_map (fun r : HRec => Value.ref r.a) (keyH U) (·.o) R q S.keyOf (keyH_of S.nda hq)
  refine h h' tk' (S.set_lh k ⟨_, by rw [← m]; exact hl⟩ ?_) k
  intro r hr'
  rcases List.mem_cons.mp ((pushF_perm _ _ _).mem_iff.mp hr') with rfl | z
  · exact hq
  · exact S.sub r z

theorem pop_h {r₀ : HRec} (b : Bs w mean mg mb base) (S : St base s.heap lh lb li U (r₀ :: R) os T) (hr : Room A 9) (hz : R.length < 800) 
    (h : ∀ h' tk', St base h' lh lb li U (popF (·.o) (r₀ :: R)) os T → Kp [lh] s.heap h' → Q (.ref r₀.a) { s with heap := h', toks := tk' }) :
    wpAny (model rw_nb0130_01.row.prog w) A (call (.ref 28) [.ref lh]) Q E s := by
  obtain ⟨n, e⟩ := S.hlh
  refine heappop_spec (key := keyH U) b S.st S.n0 e (hr.mono (by decide)) (by simp; lia) (cmp_hds b S.nda) S.ph (fun _ _ p k => p.kp S.n0 S.offh k) S.oks ?_
  intro h' tk' n' hl k
  have m := popF_map (fun r : HRec => Value.ref r.a) (keyH U) (·.o) (r₀ :: R) S.keyOf
  refine h h' tk' (S.set_lh k ⟨_, by rw [← m]; exact hl⟩ ?_) k
  intro r hr'
  exact S.sub r ((popF_perm _ r₀ R).mem_iff.mp (.tail _ hr'))

theorem replace_h {r₀ q : HRec} (b : Bs w mean mg mb base) (S : St base s.heap lh lb li U (r₀ :: R) os T) (hr : Room A 9) (hz : R.length < 800) (hq : q ∈ U)
    (h : ∀ h' tk', St base h' lh lb li U (replaceF (·.o) (r₀ :: R) q) os T → Kp [lh] s.heap h' → Q (.ref r₀.a) { s with heap := h', toks := tk' }) :
    wpAny (model rw_nb0130_01.row.prog w) A (call (.ref 35) [.ref lh, .ref q.a]) Q E s := by
  obtain ⟨n, e⟩ := S.hlh
  refine heapreplace_spec (key := keyH U) b S.st S.n0 e (hr.mono (by decide)) (by simp; lia) (cmp_hds b S.nda) S.ph (fun _ _ p k => p.kp S.n0 S.offh k) S.oks ⟨q, hq, rfl⟩ ?_
  intro h' tk' hl k
  have m := replaceF_map (fun r : HRec => Value.ref r.a) (keyH U) (·.o) (r₀ :: R) q S.keyOf (keyH_of S.nda hq)
  refine h h' tk' (S.set_lh k ⟨_, by rw [← m]; exact hl⟩ ?_) k
  intro r hr'
  rcases List.mem_cons.mp ((replaceF_perm _ r₀ q R).mem_iff.mp (.tail _ hr')) with rfl | z
  · exact hq
  · exact S.sub r z

theorem pushpop_h {q : HRec} (b : Bs w mean mg mb base) (S : St base s.heap lh lb li U R os T) (hr : Room A 9) (hz : R.length < 800) (hq : q ∈ U)
    (h : ∀ h' tk', St base h' lh lb li U (pushpopF (·.o) R q).2 os T → Kp [lh] s.heap h' → Q (.ref (pushpopF (·.o) R q).1.a) { s with heap := h', toks := tk' }) :
    wpAny (model rw_nb0130_01.row.prog w) A (call (.ref 42) [.ref lh, .ref q.a]) Q E s := by
  obtain ⟨n, e⟩ := S.hlh
  refine heappushpop_spec (key := keyH U) b S.st S.n0 e (hr.mono (by decide)) (by simp; lia) (cmp_hds b S.nda) S.ph (fun _ _ p k => p.kp S.n0 S.offh k) S.oks ⟨q, hq, rfl⟩ ?_
  have m := pushpopF_map (fun r : HRec => Value.ref r.a) (keyH U) (·.o) R q S.keyOf (keyH_of S.nda hq)
  rw [m]
  intro h' tk' hl k
  refine h h' tk' (S.set_lh k ⟨_, hl⟩ ?_) k
  intro r hr'
  rcases List.mem_cons.mp ((pushpopF_perm _ R q).mem_iff.mp (.tail _ hr')) with rfl | z
  · exact hq
  · exact S.sub r z

theorem siftdown_b {st ps : Nat} {t1 t2 : Tok} (b : Bs w mean mg mb base) (S : St base s.heap lh lb li U R os T) (hr : Room A 9) (hz : os.length < 800) (hp : ps < os.length)
    (h : ∀ h' tk', St base h' lh lb li U R (siftdownF id os st ps) T → Kp [lb] s.heap h' → Q .none { s with heap := h', toks := tk' }) :
    wpAny (model rw_nb0130_01.row.prog w) A (call (.ref 56) [.ref lb, .int st t1, .int ps t2]) Q E s := by
  obtain ⟨n, bs, e, hb, rfl⟩ := S.hlb
  rw [List.length_map] at hz
  refine siftdown_spec (key := keyI) b S.st S.n1 e (by simpa using hp) (hr.mono (by decide)) (by lia) cmp_ints trivial (fun _ _ _ _ => trivial) hb ?_
  intro h' tk' hl k
  have m := siftdownF_map keyI id keyI bs st ps (fun _ _ => rfl)
  exact h h' tk' (S.set_lb k ⟨_, _, hl, okI_perm (siftdownF_perm _ _ _ _) hb, m.symm⟩) k

theorem siftup_b {ps : Nat} {t2 : Tok} (b : Bs w mean mg mb base) (S : St base s.heap lh lb li U R os T) (hr : Room A 9) (hz : os.length < 800) (hp : ps < os.length)
    (h : ∀ h' tk', St base h' lh lb li U R (siftupF id os ps) T → Kp [lb] s.heap h' → Q .none { s with heap := h', toks := tk' }) :
    wpAny (model rw_nb0130_01.row.prog w) A (call (.ref 63) [.ref lb, .int ps t2]) Q E s := by
  obtain ⟨n, bs, e, hb, rfl⟩ := S.hlb
  rw [List.length_map] at hz
  refine siftup_spec (key := keyI) b S.st S.n1 e (by simpa using hp) (hr.mono (by decide)) (by lia) cmp_ints trivial (fun _ _ _ _ => trivial) hb ?_
  intro h' tk' hl k
  have m := siftupF_map keyI id keyI bs ps (fun _ _ => rfl)
  exact h h' tk' (S.set_lb k ⟨_, _, hl, okI_perm (siftupF_perm _ _ _) hb, m.symm⟩) k

theorem heapify_b (b : Bs w mean mg mb base) (S : St base s.heap lh lb li U R os T) (hr : Room A 9) (hz : os.length < 800) 
    (h : ∀ h' tk', St base h' lh lb li U R (heapifyF id (os.length / 2) os) T → Kp [lb] s.heap h' → Q .none { s with heap := h', toks := tk' }) :
    wpAny (model rw_nb0130_01.row.prog w) A (call (.ref 49) [.ref lb]) Q E s := by
  obtain ⟨n, bs, e, hb, rfl⟩ := S.hlb
  rw [List.length_map] at hz
  refine heapify_spec (key := keyI) b S.st S.n1 e (hr.mono (by decide)) (by lia) cmp_ints trivial (fun _ _ _ _ => trivial) hb ?_
  intro h' tk' hl k
  have m := heapifyF_map keyI id keyI (bs.length / 2) bs (fun _ _ => rfl)
  rw [List.length_map] at h
  exact h h' tk' (S.set_lb k ⟨_, _, hl, okI_perm (heapifyF_perm _ _ _) hb, m.symm⟩) k

theorem push_b {i : Int} {t1 : Tok} (b : Bs w mean mg mb base) (S : St base s.heap lh lb li U R os T) (hr : Room A 9) (hz : os.length < 800) 
    (h : ∀ h' tk', St base h' lh lb li U R (pushF id os i) T → Kp [lb] s.heap h' → Q .none { s with heap := h', toks := tk' }) :
    wpAny (model rw_nb0130_01.row.prog w) A (call (.ref 21) [.ref lb, .int i t1]) Q E s := by
  obtain ⟨n, bs, e, hb, rfl⟩ := S.hlb
  rw [List.length_map] at hz
  refine heappush_spec (key := keyI) b S.st S.n1 e (hr.mono (by decide)) (by lia) cmp_ints trivial (fun _ _ _ _ => trivial) hb ⟨i, t1, rfl⟩ ?_
  intro h' tk' n' hl k
  have m := pushF_map keyI id keyI bs (.int i t1) (fun _ _ => rfl) rfl
  refine h h' tk' (S.set_lb k ⟨_, _, hl, ?_, m.symm⟩) k
  refine okI_perm (pushF_perm _ _ _) fun v hv => ?_
  rcases List.mem_cons.mp hv with rfl | z
  · exact ⟨i, t1, rfl⟩
  · exact hb v z

theorem pop_b {i₀ : Int} (b : Bs w mean mg mb base) (S : St base s.heap lh lb li U R (i₀ :: os) T) (hr : Room A 9) (hz : os.length < 800) 
    (h : ∀ h' tk' t, St base h' lh lb li U R (popF id (i₀ :: os)) T → Kp [lb] s.heap h' → Q (.int i₀ t) { s with heap := h', toks := tk' }) :
    wpAny (model rw_nb0130_01.row.prog w) A (call (.ref 28) [.ref lb]) Q E s := by
  obtain ⟨n, bs, e, hb, hbe⟩ := S.hlb
  obtain ⟨v₀, bs, rfl⟩ : ∃ v r, bs = v :: r := by
    cases bs with
    | nil => cases hbe
    | cons v r => exact ⟨v, r, rfl⟩
  simp only [List.map_cons, List.cons.injEq] at hbe
  obtain ⟨rfl, rfl⟩ := hbe
  rw [List.length_map] at hz
  obtain ⟨t, ev⟩ := okI_val (hb v₀ (.head _))
  refine heappop_spec (key := keyI) b S.st S.n1 e (hr.mono (by decide)) (by lia) cmp_ints trivial (fun _ _ _ _ => trivial) hb ?_
  intro h' tk' n' hl k
  have m := popF_map keyI id keyI (v₀ :: bs) (fun _ _ => rfl)
  rw [ev]
  exact h h' tk' t (S.set_lb k ⟨_, _, hl, fun v hv => okI_perm (popF_perm _ v₀ bs) hb v (.tail _ hv), m.symm⟩) k

theorem replace_b {i₀ i : Int} {t1 : Tok} (b : Bs w mean mg mb base) (S : St base s.heap lh lb li U R (i₀ :: os) T) (hr : Room A 9) (hz : os.length < 800) 
    (h : ∀ h' tk' t, St base h' lh lb li U R (replaceF id (i₀ :: os) i) T → Kp [lb] s.heap h' → Q (.int i₀ t) { s with heap := h', toks := tk' }) :
    wpAny (model rw_nb0130_01.row.prog w) A (call (.ref 35) [.ref lb, .int i t1]) Q E s := by
  obtain ⟨n, bs, e, hb, hbe⟩ := S.hlb
  obtain ⟨v₀, bs, rfl⟩ : ∃ v r, bs = v :: r := by
    cases bs with
    | nil => cases hbe
    | cons v r => exact ⟨v, r, rfl⟩
  simp only [List.map_cons, List.cons.injEq] at hbe
  obtain ⟨rfl, rfl⟩ := hbe
  rw [List.length_map] at hz
  obtain ⟨t, ev⟩ := okI_val (hb v₀ (.head _))
  refine heapreplace_spec (key := keyI) b S.st S.n1 e (hr.mono (by decide)) (by lia) cmp_ints trivial (fun _ _ _ _ => trivial) hb ⟨i, t1, rfl⟩ ?_
  intro h' tk' hl k
  have m := replaceF_map keyI id keyI (v₀ :: bs) (.int i t1) (fun _ _ => rfl) rfl
  rw [ev]
  refine h h' tk' t (S.set_lb k ⟨_, _, hl, fun v hv => ?_, m.symm⟩) k
  rcases List.mem_cons.mp ((replaceF_perm _ v₀ (.int i t1) bs).mem_iff.mp (.tail _ hv)) with rfl | z
  · exact ⟨i, t1, rfl⟩
  · exact hb v z

theorem pushpop_b {i : Int} {t1 : Tok} (b : Bs w mean mg mb base) (S : St base s.heap lh lb li U R os T) (hr : Room A 9) (hz : os.length < 800)
    (h : ∀ h' tk' t, St base h' lh lb li U R (pushpopF id os i).2 T → Kp [lb] s.heap h' → Q (.int (pushpopF id os i).1 t) { s with heap := h', toks := tk' }) :
    wpAny (model rw_nb0130_01.row.prog w) A (call (.ref 42) [.ref lb, .int i t1]) Q E s := by
  obtain ⟨n, bs, e, hb, rfl⟩ := S.hlb
  rw [List.length_map] at hz
  refine heappushpop_spec (key := keyI) b S.st S.n1 e (hr.mono (by decide)) (by lia) cmp_ints trivial (fun _ _ _ _ => trivial) hb ⟨i, t1, rfl⟩ ?_
  have m := pushpopF_map keyI id keyI bs (.int i t1) (fun _ _ => rfl) rfl
  have m1 := congrArg Prod.fst m
  have m2 := congrArg Prod.snd m
  simp only at m1 m2
  have ok : ∀ v ∈ (pushpopF keyI bs (.int i t1)).1 :: (pushpopF keyI bs (.int i t1)).2, okI v := okI_perm (pushpopF_perm _ _ _) fun v hv => by
    rcases List.mem_cons.mp hv with rfl | z
    · exact ⟨i, t1, rfl⟩
    · exact hb v z
  obtain ⟨t, ev⟩ := okI_val (ok _ (.head _))
  intro h' tk' hl k
  rw [ev, ← m1]
  exact h h' tk' t (S.set_lb k ⟨_, _, hl, fun v hv => ok v (.tail _ hv), m2.symm⟩) k

end

end
section
def pairH (r : HRec) : Int × Int := (r.o, r.m)
def pairT (t : TRec) : Int × Int := (t.o, t.m)

/-- what the law asks between the calls -/
structure Good (R : List HRec) (T : List TRec) : Prop where
  heap : HeapFrom (fun r : HRec => r.o) 0 R
  perm : (R.map pairH).Perm (T.map pairT)
  marks : ∀ t ∈ T, 0 ≤ t.m ∧ t.m < 100

structure Inv (base h : Heap) (lh lb li : Addr) (R : List HRec) (T : List TRec) : Prop where
  S : St base h lh lb li R R (R.map (·.o)) T
  G : Good R T

theorem Good.len {R : List HRec} {T : List TRec} (G : Good R T) : T.length = R.length := by
  have := G.perm.length_eq; simpa using this.symm
theorem Good.has {R : List HRec} {T : List TRec} (G : Good R T) {r : HRec} (hr : r ∈ R) : ∃ t ∈ T, t.o = r.o ∧ t.m = r.m := by
  have := G.perm.mem_iff.mp (List.mem_map.mpr ⟨r, hr, rfl⟩)
  obtain ⟨t, ht, e⟩ := List.mem_map.mp this
  exact ⟨t, ht, congrArg Prod.fst e, congrArg Prod.snd e⟩
theorem Good.has' {R : List HRec} {T : List TRec} (G : Good R T) {t : TRec} (ht : t ∈ T) : ∃ r ∈ R, r.o = t.o ∧ r.m = t.m := by
  have := G.perm.mem_iff.mpr (List.mem_map.mpr ⟨t, ht, rfl⟩)
  obtain ⟨r, hr, e⟩ := List.mem_map.mp this
  exact ⟨r, hr, congrArg Prod.fst e, congrArg Prod.snd e⟩

section
variable {base g h h₁ : Heap} {lh lb li L : Addr} {U R : List HRec} {os : List Int} {T : List TRec} {m : Str → Option Value}

theorem St.inner (S : St base h lh lb li U R os T) (k : ∀ b o, h.get? b = some o → h₁.get? b = some o) (F : Fr g L h₁ m) (hg0 : ∀ a ∈ lh :: lb :: li :: U.map (·.d), g.get? a = none) : St g h₁ lh lb li U R os T :=
  { S.grow k with
    st := F.keep
    n0 := hg0 _ (by simp)
    n1 := hg0 _ (by simp)
    n2 := hg0 _ (by simp)
    hd := fun r hr => ⟨((S.grow k).hd r hr).1, hg0 _ (by simp only [List.mem_cons, List.mem_map]; exact .inr (.inr (.inr ⟨r, hr, rfl⟩)))⟩ }

/-- the frame's own dict is none of the state's objects -/
structure Off (L lh lb li : Addr) (U : List HRec) (T : List TRec) : Prop where
  h : lh ≠ L
  b : lb ≠ L
  i : li ≠ L
  d : ∀ r ∈ U, r.d ≠ L
  a : ∀ r ∈ U, r.a ≠ L
  t : ∀ r ∈ T, r.t ≠ L

theorem St.off (S : St base h lh lb li U R os T) (k : ∀ b o, h.get? b = some o → b ≠ L) : Off L lh lb li U T :=
  ⟨let ⟨_, e⟩ := S.hlh; k _ _ e, let ⟨_, _, e, _⟩ := S.hlb; k _ _ e, let ⟨_, e⟩ := S.hli; k _ _ e, fun r hr => let ⟨_, _, e, _⟩ := (S.hd r hr).1.dict; k _ _ e, fun r hr => k _ _ (S.hd r hr).1.obj, fun r hr => let ⟨_, _, e⟩ := S.tu r hr; k _ _ e⟩

theorem St.news (S : St g h lh lb li U R os T) (O : Off L lh lb li U T) : ∃ n1 n2 n3 bs, News g L h [(lh, W.listOf (R.map fun r => Value.ref r.a).toArray n1), (lb, W.listOf (List.toArray bs) n2), (li, W.listOf (T.map fun r => Value.ref r.t).toArray n3)] ∧ (∀ v ∈ bs, okI v) ∧ bs.map keyI = os := by
  obtain ⟨n1, e1⟩ := S.hlh
  obtain ⟨n2, bs, e2, r⟩ := S.hlb
  obtain ⟨n3, e3⟩ := S.hli
  refine ⟨n1, n2, n3, bs, ?_, r⟩
  intro p hp
  simp only [List.mem_cons, List.not_mem_nil, or_false] at hp
  rcases hp with rfl | rfl | rfl
  · exact ⟨e1, O.h, S.n0⟩
  · exact ⟨e2, O.b, S.n1⟩
  · exact ⟨e3, O.i, S.n2⟩
theorem base_none (hS : St base h lh lb li U R os T) : ∀ a ∈ lh :: lb :: li :: U.map (·.d), base.get? a = none := by
  intro a ha
  simp only [List.mem_cons, List.mem_map] at ha
  rcases ha with rfl | rfl | rfl | ⟨r, hr, rfl⟩
  · exact hS.n0
  · exact hS.n1
  · exact hS.n2
  · exact (hS.hd r hr).2
end

section
variable {g h h₁ : Heap} {lh lb li L : Addr} {U R : List HRec} {os : List Int} {T : List TRec} {m₁ : Str → Option Value}

theorem kp_of_all (F : ∀ b o, g.get? b = some o → h.get? b = some o) (F₁ : Fr g L h₁ m₁) (N : ∀ p ∈ others g h L L, h₁.get? p.1 = some p.2) : Kp [L] h h₁ := by
  intro b o hb e
  have hbL : b ≠ L := by simpa using hb
  cases q : g.get? b with
  | some o' =>
    rw [F _ _ q] at e
    rw [← e]; exact F₁.keep _ _ q
  | none => exact N (b, o) (others_mem.mpr ⟨hbL, hbL, q, e⟩)
theorem St.kpL (S : St g h lh lb li U R os T) (O : Off L lh lb li U T) (k : Kp [L] h h₁) (hk : ∀ b o, g.get? b = some o → h₁.get? b = some o) : St g h₁ lh lb li U R os T :=
  { S with
    st := hk
    hlh := let ⟨n, e⟩ := S.hlh; ⟨n, kp_one k O.h e⟩
    hlb := let ⟨n, bs, e, r⟩ := S.hlb; ⟨n, bs, kp_one k O.b e, r⟩
    hli := let ⟨n, e⟩ := S.hli; ⟨n, kp_one k O.i e⟩
    hd := fun r hr => ⟨HdAt.keeps (S.hd r hr).1 (fun x e => kp_one k (O.a r hr) e) (fun x e => kp_one k (O.d r hr) e), (S.hd r hr).2⟩
    tu := fun t ht => TAt.keeps (S.tu t ht) fun x e => kp_one k (O.t t ht) e }

/-- the ledger that knows all -/
theorem St.full (S : St g h lh lb li U R os T) (O : Off L lh lb li U T) : ∃ n1 n2 n3 bs, News g L h ((lh, W.listOf (R.map fun r => Value.ref r.a).toArray n1) :: (lb, W.listOf (List.toArray bs) n2) :: (li, W.listOf (T.map fun r => Value.ref r.t).toArray n3) :: others g h L L) ∧ (∀ v ∈ bs, okI v) ∧ bs.map keyI = os := by
  obtain ⟨n1, n2, n3, bs, N, r⟩ := S.news O
  refine ⟨n1, n2, n3, bs, ?_, r⟩
  intro p hp
  rcases List.mem_cons.mp hp with rfl | hp
  · exact N _ (.head _)
  rcases List.mem_cons.mp hp with rfl | hp
  · exact N _ (.tail _ (.head _))
  rcases List.mem_cons.mp hp with rfl | hp
  · exact N _ (.tail _ (.tail _ (.head _)))
  · exact others_news p hp
/-- after steps that change the frame's dict alone and make new things -/
theorem St.step {news : List (Addr × Obj)} (S : St g h lh lb li U R os T) (O : Off L lh lb li U T) (F₁ : Fr g L h₁ m₁) (N : News g L h₁ news) (hs : ∀ p ∈ others g h L L, p ∈ news) : Kp [L] h h₁ ∧ St g h₁ lh lb li U R os T :=
  have k := kp_of_all S.st F₁ fun p hp => (N p (hs p hp)).1
  ⟨k, S.kpL O k F₁.keep⟩
end

section
variable {g h h₁ : Heap} {lh lb li L : Addr} {U R : List HRec} {os : List Int} {T : List TRec}

theorem nodup_set {α β : Type} (f : α → β) : ∀ (R : List α) (p : Nat) (r r' q : α), (R.map f).Nodup → R[p]? = some r → f r' = f r → q ∈ R.set p r' → q = r' ∨ (q ∈ R ∧ f q ≠ f r)
  | [], p, r, r', q, _, h, _, _ => by simp at h
  | a :: R, 0, r, r', q, nd, h, _, hq => by
    simp at h; subst h
    rw [List.map_cons, List.nodup_cons] at nd
    simp only [List.set_cons_zero] at hq
    rcases List.mem_cons.mp hq with rfl | hq
    · exact .inl rfl
    · exact .inr ⟨.tail _ hq, fun e => nd.1 (List.mem_map.mpr ⟨q, hq, e⟩)⟩
  | a :: R, p + 1, r, r', q, nd, h, he, hq => by
    simp at h
    rw [List.map_cons, List.nodup_cons] at nd
    simp only [List.set_cons_succ] at hq
    rcases List.mem_cons.mp hq with rfl | hq
    · exact .inr ⟨.head _, fun e => nd.1 (by rw [e]; exact List.mem_map.mpr ⟨r, List.mem_of_getElem? h, rfl⟩)⟩
    · rcases nodup_set f R p r r' q nd.2 h he hq with e | ⟨e1, e2⟩
      · exact .inl e
      · exact .inr ⟨.tail _ e1, e2⟩
theorem map_set_same {α β : Type} (f : α → β) (R : List α) (p : Nat) (r r' : α) (h : R[p]? = some r) (he : f r' = f r) : (R.set p r').map f = R.map f := by
  rw [List.map_set, he]
  exact set_self _ _ _ (by rw [List.getElem?_map, h]; rfl)

/-- one handler gets another order -/
theorem St.setOrder {p : Nat} {r r' : HRec} (S : St g h lh lb li R R os T) (O : Off L lh lb li R T) (hp : R[p]? = some r) (ha : r'.a = r.a) (hd : r'.d = r.d) (H : r'.At h₁) (k : Kp [r.d, L] h h₁) (hk : ∀ b o, g.get? b = some o → h₁.get? b = some o) :
    St g h₁ lh lb li (R.set p r') (R.set p r') os T ∧ Off L lh lb li (R.set p r') T := by
  have hr := List.mem_of_getElem? hp
  have k' : ∀ {b : Addr} {o : Obj}, b ≠ r.d → b ≠ L → h.get? b = some o → h₁.get? b = some o := fun h1 h2 e => k _ _ (by simp [h1, h2]) e
  obtain ⟨es, n, ed, _⟩ := (S.hd r hr).1.dict
  have mem : ∀ q ∈ R.set p r', q = r' ∨ (q ∈ R ∧ q.d ≠ r.d) := fun q hq => nodup_set (·.d) R p r r' q S.ndd hp hd hq
  refine ⟨⟨hk, S.n0, S.n1, S.n2, S.ne1, S.ne2, S.ne3, ?_, ?_, ?_, fun _ hq => hq, ?_, ?_, ?_, ?_⟩, ⟨O.h, O.b, O.i, ?_, ?_, O.t⟩⟩
  · obtain ⟨n, e⟩ := S.hlh
    exact ⟨n, by rw [map_set_same (fun r : HRec => Value.ref r.a) R p r r' hp (by simp [ha])]; exact k' (Ne.symm (ne_ld e ed)) O.h e⟩
  · obtain ⟨n, bs, e, z⟩ := S.hlb
    exact ⟨n, bs, k' (Ne.symm (ne_ld e ed)) O.b e, z⟩
  · obtain ⟨n, e⟩ := S.hli
    exact ⟨n, k' (Ne.symm (ne_ld e ed)) O.i e⟩
  · intro q hq
    rcases mem q hq with rfl | ⟨q1, q2⟩
    · exact ⟨H, by rw [hd]; exact (S.hd r hr).2⟩
    · exact ⟨HdAt.keeps (S.hd q q1).1 (fun x e => k' (ne_id (S.hd q q1).1.obj ed) (O.a q q1) e) (fun x e => k' q2 (O.d q q1) e), (S.hd q q1).2⟩
  · rw [map_set_same (·.a) R p r r' hp ha]; exact S.nda
  · rw [map_set_same (·.d) R p r r' hp hd]; exact S.ndd
  · intro t ht
    refine TAt.keeps (S.tu t ht) fun x e => k' ?_ (O.t t ht) e
    obtain ⟨a, b, et⟩ := S.tu t ht
    exact ne_td et ed
  · intro q hq
    rcases mem q hq with rfl | ⟨q1, q2⟩
    · rw [hd]; exact O.d r hr
    · exact O.d q q1
  · intro q hq
    rcases mem q hq with rfl | ⟨q1, q2⟩
    · rw [ha]; exact O.a r hr
    · exact O.a q q1

theorem mem_eraseIdx {α : Type} {T : List α} {j : Nat} {t : α} (h : t ∈ T.eraseIdx j) : t ∈ T := List.mem_of_mem_eraseIdx h
theorem perm_eraseIdx {α : Type} : ∀ (T : List α) (j : Nat) (t : α), T[j]? = some t → T.Perm (t :: T.eraseIdx j)
  | [], _, _, h => by simp at h
  | a :: T, 0, t, h => by simp at h; subst h; exact List.Perm.refl _
  | a :: T, j + 1, t, h => by
    simp at h
    simp only [List.eraseIdx_cons_succ]
    exact ((perm_eraseIdx T j t h).cons a).trans (List.Perm.swap ..)

/-- inside loses its place j -/
theorem St.eraseT {j : Nat} (S : St g h lh lb li U R os T) (O : Off L lh lb li U T) (hs : Heap.SameBut li h h₁) {n : Nat} (hl : h₁.get? li = some (W.listOf ((T.eraseIdx j).map fun r => Value.ref r.t).toArray n)) :
    St g h₁ lh lb li U R os (T.eraseIdx j) ∧ Off L lh lb li U (T.eraseIdx j) ∧ Kp [li] h h₁ := by
  have k : Kp [li] h h₁ := fun b o nb e => hs.extBut b o (by simpa using nb) e
  refine ⟨S.set_li k ⟨n, hl⟩ fun t ht => ?_, { O with t := fun t ht => O.t t (mem_eraseIdx ht) }, k⟩
  obtain ⟨n', e'⟩ := S.hli
  exact TAt.keeps (S.tu t (mem_eraseIdx ht)) fun x e => kp_one k (off_listT e' (S.tu t (mem_eraseIdx ht))) e
/-- inside gets one more -/
theorem St.addT {q : TRec} (S : St g h lh lb li U R os T) (O : Off L lh lb li U T) (hq : q.At h) (hqL : q.t ≠ L) (hs : Heap.SameBut li h h₁) {n : Nat} (hl : h₁.get? li = some (W.listOf ((T ++ [q]).map fun r => Value.ref r.t).toArray n)) :
    St g h₁ lh lb li U R os (T ++ [q]) ∧ Off L lh lb li U (T ++ [q]) ∧ Kp [li] h h₁ := by
  have k : Kp [li] h h₁ := fun b o nb e => hs.extBut b o (by simpa using nb) e
  obtain ⟨n', e'⟩ := S.hli
  have at' : ∀ t ∈ T ++ [q], t.At h := fun t ht => by
    rcases List.mem_append.mp ht with z | z
    · exact S.tu t z
    · rw [List.mem_singleton.mp z]; exact hq
  refine ⟨S.set_li k ⟨n, hl⟩ fun t ht => TAt.keeps (at' t ht) fun x e => kp_one k (off_listT e' (at' t ht)) e, { O with t := fun t ht => ?_ }, k⟩
  rcases List.mem_append.mp ht with z | z
  · exact O.t t z
  · rw [List.mem_singleton.mp z]; exact hqL
end

end
section
theorem Inv.mk2 {base g h : Heap} {lh lb li : Addr} {U R : List HRec} {os : List Int} {T : List TRec} (S : St g h lh lb li U R os T) (hbg : ∀ b o, base.get? b = some o → g.get? b = some o) (p : R.Perm U) (ho : os = R.map (·.o)) (G : Good R T) : Inv base h lh lb li R T :=
  ⟨ho ▸ ((S.weaken hbg).restrict (fun _ h => h) (fun r hr => p.mem_iff.mp hr) ((p.map _).nodup_iff.mpr S.nda) ((p.map _).nodup_iff.mpr S.ndd)), G⟩

theorem change_perm {R R'' : List HRec} {T : List TRec} {p j : Nat} {r r' : HRec} {tj q : TRec} (G : (R.map pairH).Perm (T.map pairT)) (hp : R[p]? = some r) (hj : T[j]? = some tj) (hjr : pairT tj = pairH r) (hq : pairT q = pairH r') (hR : R''.Perm (R.set p r')) :
    (R''.map pairH).Perm ((T.eraseIdx j ++ [q]).map pairT) := by
  have a : (pairH r :: (R.set p r').map pairH).Perm (pairH r' :: R.map pairH) := (cons_set_perm R p r r' hp).map pairH
  have b : (T.map pairT).Perm (pairT tj :: (T.eraseIdx j).map pairT) := (perm_eraseIdx T j tj hj).map pairT
  have c : (pairH r :: (R.set p r').map pairH).Perm (pairH r :: pairH r' :: (T.eraseIdx j).map pairT) :=
    a.trans (((G.trans b).cons _).trans (by rw [hjr]; exact List.Perm.swap ..))
  have d := (List.perm_cons _).mp c
  refine (hR.map pairH).trans (d.trans ?_)
  rw [List.map_append, ← hq]
  exact (List.perm_append_singleton _ _).symm

theorem mkT {h : Heap} {D : Addr} {o m : Int} (T : TAt h D o m) : ∃ q : TRec, q.t = D ∧ q.o = o ∧ q.m = m ∧ q.At h := ⟨⟨D, o, m⟩, rfl, rfl, rfl, T⟩

theorem fmod_place {x : Int} {n : Nat} (hn : 0 < n) : ∃ p : Nat, x.fmod (n : Int) = (p : Int) ∧ p < n := by
  have h1 := Int.fmod_nonneg_of_pos x (b := (n : Int)) (by lia)
  have h2 := Int.fmod_lt_of_pos x (b := (n : Int)) (by lia)
  exact ⟨(x.fmod n).toNat, by lia, by lia⟩

theorem change_spec {A : Around} {s : Shared} {base : Heap} {lh lb li : Addr} {R : List HRec} {T : List TRec} {x : Int} {t : Tok} {Q E : Value → Shared → Prop}
    (b : Bs w mean mg mb base) (I : Inv base s.heap lh lb li R T) (hne : 0 < R.length) (hz : R.length < 500) (hr : Room A 12)
    (h : ∀ h' tk' R' T', Inv base h' lh lb li R' T' → R'.length = R.length → Q (.bool true) { s with heap := h', toks := tk' }) :
    wpAny (model rw_nb0130_01.row.prog w) A (call (.ref 138) [.int x t, .ref lh, .ref lb, .ref li]) Q E s := by
  obtain ⟨ha, dp, fr, gd, un⟩ := A
  obtain rfl : ha = none := Room.hd hr
  refine' enter (binds := [(Str.ofString "x", .int x t), (Str.ofString "heap", .ref lh), (Str.ofString "bare", .ref lb), (Str.ofString "inside", .ref li)]) (lh :: lb :: li :: R.map (·.d)) b I.S.st (base_none I.S) ?kho ?kcd ?kroom ?kbind ?kloc ?_ ?kco ?kgen ?kk ?kcell
  walk_at "my enter"
  intro g L' h' F' b' hbg hkg hg0 hh
  have O : Off L' lh lb li R T := I.S.off fun b o e => (hh b o e).2
  have S₀ : St g h' lh lb li R R (R.map (·.o)) T := I.S.inner (fun b o e => (hh b o e).1) F' hg0
  obtain ⟨n1, n2, n3, bs, N', hbs, hbe⟩ := S₀.full O
  have X' := b'.X
  have T' := b'.T
  have hlen : (R.map fun r => Value.ref r.a).length = R.length := by simp
  obtain ⟨p, hp, hpl⟩ := fmod_place (x := x.fdiv 6) hne
  obtain ⟨r, hrp⟩ : ∃ r, R[p]? = some r := ⟨_, List.getElem?_eq_getElem hpl⟩
  have hrm : r ∈ R := List.mem_of_getElem? hrp
  (try dsimp only)
  w_on
  (try k_fold)
  walk_at "my steps"
  rename Fr _ _ _ _ => F₁
  rename News _ _ _ _ => N₁
  refine item_rule p (News.get N₁ (.head _)) (by rw [hlen]; exact hp) (by lia) (v := .ref r.a) (by simp [hrp]) ?_
  walk_at "my steps"
  rename Fr _ _ _ _ => F₂
  rename News _ _ _ _ => N₂
  obtain ⟨k₂, S₂⟩ := S₀.step O F₂ N₂ (fun p hp => .tail _ (.tail _ (.tail _ hp)))
  refine get_order (X'.keeps F₂.keep) (S₂.hd r hrm).1 ?_
  intro t₁
  walk_at "my steps"
  rename Fr _ _ _ _ => F₃
  rename News _ _ _ _ => N₃
  obtain ⟨k₃, S₃⟩ := S₀.step O F₃ N₃ (fun p hp => .tail _ (.tail _ (.tail _ hp)))
  refine get_parent (X'.keeps F₃.keep) (S₃.hd r hrm).1 ?_
  intro t₂
  walk_at "my steps"
  rename Fr _ _ _ _ => F₄
  rename News _ _ _ _ => N₄
  obtain ⟨k₄, S₄⟩ := S₀.step O F₄ N₄ (fun p hp => .tail _ (.tail _ (.tail _ (.tail _ hp))))
  have hun : ∀ env, (Around.deeper { depth := dp, frames := fr, guards := gd, units := un } env).units + 150 < cLine := fun env => by have := (Room.deeper hr env).units; lia
  have hTl := I.G.len
  obtain ⟨j, hj1, hj2, hj3⟩ := first_at (I.G.has hrm)
  refine remove_rule (T := T) j (News.get N₄ (.tail _ (.tail _ (.tail _ (.head _))))) S₄.tu ⟨_, _, News.get N₄ (.head _)⟩ (by lia) (Nat.lt_of_le_of_lt (Nat.add_le_add_left (by decide) _) (hun _)) hj1 hj2 hj3 ?_
  intro h₅ hl₅ hs₅
  obtain ⟨S₅, O₅, k₅⟩ := S₄.eraseT O hs₅ hl₅
  have F₅ := Fr.kp F₄ k₅ (by simpa using Ne.symm O.i) (by simpa using S₀.n2)
  obtain ⟨n1, n2, n3, bs, N₅, hbs, hbe⟩ := S₅.full O₅
  clear F₄ N₄ S₄
  walk_at "my steps"
  rename Fr _ _ _ _ => F₆
  rename News _ _ _ _ => N₆
  obtain ⟨k₆, S₆⟩ := S₅.step O₅ F₆ N₆ (fun p hp => .tail _ (.tail _ (.tail _ hp)))
  refine get_parent (X'.keeps F₆.keep) (S₆.hd r hrm).1 ?_
  intro t₃
  walk_at "my steps"
  rename Fr _ _ _ _ => F₇
  rename News _ _ _ _ => N₇
  obtain ⟨k₇, S₇⟩ := S₅.step O₅ F₇ N₇ (fun p hp => .tail _ (.tail _ (.tail _ (.tail _ hp))))
  have TD : TAt _ _ ((x.fdiv 18).fmod 4 * 500) r.m := ⟨_, _, News.get N₇ (.head _)⟩
  have TL := (N₇ _ (.head _)).2.1
  refine append_at (News.get N₇ (.tail _ (.tail _ (.tail _ (.head _))))) (hsz := by rw [sizeLine_eq]; simp [List.length_eraseIdx]; split <;> lia) ?_
  intro h₈ hs₈ hl₈
  obtain ⟨q, qt, qo, qm, qAt⟩ := mkT TD
  obtain ⟨S₈, O₈, k₈⟩ := S₇.addT (q := q) O₅ qAt (by rw [qt]; exact TL) hs₈ (by rw [← qt] at hl₈; simpa using hl₈)
  have F₈ := Fr.kp F₇ k₈ (by simpa using Ne.symm O.i) (by simpa using S₀.n2)
  obtain ⟨n1, n2, n3, bs, N₈, hbs, hbe⟩ := S₈.full O₈
  clear F₇ N₇ S₇
  walk_at "my steps"
  rename Fr _ _ _ _ => F₉
  rename News _ _ _ _ => N₉
  obtain ⟨k₉, S₉⟩ := S₈.step O₈ F₉ N₉ (fun p hp => .tail _ (.tail _ (.tail _ hp)))
  refine set_order_rule F₉ X' (S₉.hd r hrm).1 (S₉.hd r hrm).2 (O.d r hrm) (O.a r hrm) (let ⟨_, _, e, _⟩ := (S₉.hd r hrm).1.dict; ne_id (S₉.hd r hrm).1.obj e) ?_
  intro h₁₀ F₁₀ H₁₀ k₁₀
  obtain ⟨r', hr'⟩ : ∃ r' : HRec, r' = { r with o := (x.fdiv 18).fmod 4 * 500 } := ⟨_, rfl⟩
  obtain ⟨S₁₀, O₁₀⟩ := S₉.setOrder (r' := r') O₈ hrp (by rw [hr']) (by rw [hr']) (by rw [hr']; exact H₁₀) k₁₀ F₁₀.keep
  have ro : r'.o = (x.fdiv 18).fmod 4 * 500 := by rw [hr']
  have rm : r'.m = r.m := by rw [hr']
  obtain ⟨n1, n2, n3, bs, N₁₀, hbs, hbe⟩ := S₁₀.full O₁₀
  clear F₉ N₉ S₉
  walk_at "my steps"
  rename Fr _ _ _ _ => F₁₁
  rename News _ _ _ _ => N₁₁
  obtain ⟨k₁₁, S₁₁⟩ := S₁₀.step O₁₀ F₁₁ N₁₁ (fun p hp => .tail _ (.tail _ (.tail _ hp)))
  have hbl : bs.length = R.length := by have := congrArg List.length hbe; simpa using this
  refine set_rule p F₁₁ (News.get N₁₁ (.tail _ (.head _))) O.b S₀.n1 (by rw [hlen]; exact hp) (by lia) (by lia) ?_
  intro h₁₂ F₁₂ hl₁₂ hs₁₂
  have kb : Kp [lb] _ h₁₂ := fun b o nb e => hs₁₂.extBut b o (by simpa using nb) e
  have S₁₂ := S₁₁.set_lb (os' := (R.set p r').map (·.o)) kb ⟨_, _, hl₁₂, (fun v hv => by
    rcases List.mem_or_eq_of_mem_set hv with z | rfl
    · exact hbs v z
    · exact ⟨_, _, rfl⟩), (by rw [List.map_set, hbe, List.map_set, ro]; rfl)⟩
  obtain ⟨n1, n2, n3, bs', N₁₂, hbs', hbe'⟩ := S₁₂.full O₁₀
  clear F₁₁ N₁₁ S₁₁
  walk_at "my steps"
  · have hpi : (x.fdiv 6).fmod ((List.map (fun r : HRec => Value.ref r.a) R).length : Int) = (p : Int) := by rw [hlen]; exact hp
    rw [hpi]
    rename Fr _ _ _ _ => F₁₃
    rename News _ _ _ _ => N₁₃
    refine siftdown_h (st := 0) (ps := p) b' S₁₂ (Room.mono (Room.deeper hr _) (by decide)) (by simp; lia) (by simp; lia) ?_
    intro h₁₄ tk₁₄ S₁₄ k₁₄
    have F₁₄ := Fr.kp F₁₃ k₁₄ (by simpa using Ne.symm O.h) (by simpa using S₀.n0)
    obtain ⟨n1, n2, n3, bs₁₄, N₁₄, _, _⟩ := S₁₄.full O₁₀
    clear F₁₃ N₁₃
    walk_at "my steps"
    rw [hpi]
    rename Fr _ _ _ _ => F₁₅
    rename News _ _ _ _ => N₁₅
    refine siftdown_b (st := 0) (ps := p) b' S₁₄ (Room.mono (Room.deeper hr _) (by decide)) (by simp; lia) (by simp; lia) ?_
    intro h₁₆ tk₁₆ S₁₆ k₁₆
    have F₁₆ := Fr.kp F₁₅ k₁₆ (by simpa using Ne.symm O.b) (by simpa using S₀.n1)
    obtain ⟨n1, n2, n3, bs₁₆, N₁₆, _, _⟩ := S₁₆.full O₁₀
    clear F₁₅ N₁₅
    walk_at "my steps"
    have pm := siftdownF_perm (·.o) (R.set p r') 0 p
    have tj : T[j]? = some T[j] := List.getElem?_eq_getElem hj1
    refine h _ _ _ _ (Inv.mk2 S₁₆ hbg pm (siftdownF_map (·.o) id (·.o) (R.set p r') 0 p (fun _ _ => rfl)) ⟨change_down _ R p hrp r' I.G.heap (by rw [ro]; assumption), change_perm I.G.perm hrp tj (by unfold pairT pairH; rw [(hj2 _ tj).1, (hj2 _ tj).2]) (by unfold pairT pairH; rw [qo, qm, ro, rm]) pm, ?_⟩) ?_
    · intro t' ht'
      rcases List.mem_append.mp ht' with z | z
      · exact I.G.marks t' (mem_eraseIdx z)
      · rw [List.mem_singleton.mp z, qm, ← (hj2 _ tj).2]
        exact I.G.marks _ (List.mem_of_getElem? tj)
    · have := pm.length_eq; simpa using this
  · have hpi : (x.fdiv 6).fmod ((List.map (fun r : HRec => Value.ref r.a) R).length : Int) = (p : Int) := by rw [hlen]; exact hp
    rw [hpi]
    rename Fr _ _ _ _ => F₁₃
    rename News _ _ _ _ => N₁₃
    refine siftup_h (ps := p) b' S₁₂ (Room.mono (Room.deeper hr _) (by decide)) (by simp; lia) (by simp; lia) ?_
    intro h₁₄ tk₁₄ S₁₄ k₁₄
    have F₁₄ := Fr.kp F₁₃ k₁₄ (by simpa using Ne.symm O.h) (by simpa using S₀.n0)
    obtain ⟨n1, n2, n3, bs₁₄, N₁₄, _, _⟩ := S₁₄.full O₁₀
    clear F₁₃ N₁₃
    walk_at "my steps"
    rw [hpi]
    rename Fr _ _ _ _ => F₁₅
    rename News _ _ _ _ => N₁₅
    refine siftup_b (ps := p) b' S₁₄ (Room.mono (Room.deeper hr _) (by decide)) (by simp; lia) (by simp; lia) ?_
    intro h₁₆ tk₁₆ S₁₆ k₁₆
    have F₁₆ := Fr.kp F₁₅ k₁₆ (by simpa using Ne.symm O.b) (by simpa using S₀.n1)
    obtain ⟨n1, n2, n3, bs₁₆, N₁₆, _, _⟩ := S₁₆.full O₁₀
    clear F₁₅ N₁₅
    walk_at "my steps"
    have pm := siftupF_perm (·.o) (R.set p r') p
    have tj : T[j]? = some T[j] := List.getElem?_eq_getElem hj1
    refine h _ _ _ _ (Inv.mk2 S₁₆ hbg pm (siftupF_map (·.o) id (·.o) (R.set p r') p (fun _ _ => rfl)) ⟨change_up _ R p hrp r' I.G.heap (by rw [ro]; assumption), change_perm I.G.perm hrp tj (by unfold pairT pairH; rw [(hj2 _ tj).1, (hj2 _ tj).2]) (by unfold pairT pairH; rw [qo, qm, ro, rm]) pm, ?_⟩) ?_
    · intro t' ht'
      rcases List.mem_append.mp ht' with z | z
      · exact I.G.marks t' (mem_eraseIdx z)
      · rw [List.mem_singleton.mp z, qm, ← (hj2 _ tj).2]
        exact I.G.marks _ (List.mem_of_getElem? tj)
    · have := pm.length_eq; simpa using this

end
section
def upTo {α : Type} (f : α → α) (R : List α) (i : Nat) : List α := (R.take i).map f ++ R.drop i
theorem upTo_zero {α : Type} (f : α → α) (R : List α) : upTo f R 0 = R := by simp [upTo]
theorem upTo_all {α : Type} (f : α → α) (R : List α) : upTo f R R.length = R.map f := by simp [upTo]
theorem upTo_length {α : Type} (f : α → α) (R : List α) (i : Nat) : (upTo f R i).length = R.length := by simp [upTo]; lia
theorem upTo_at {α : Type} (f : α → α) (R : List α) (i : Nat) {r : α} (h : R[i]? = some r) : (upTo f R i)[i]? = some r := by
  have hi : i < R.length := (List.getElem?_eq_some_iff.mp h).1
  unfold upTo
  rw [List.getElem?_append_right (by simp; lia)]
  simp [Nat.min_eq_left (Nat.le_of_lt hi), h]
theorem upTo_succ {α : Type} (f : α → α) (R : List α) (i : Nat) {r : α} (h : R[i]? = some r) : (upTo f R i).set i (f r) = upTo f R (i + 1) := by
  have hi : i < R.length := (List.getElem?_eq_some_iff.mp h).1
  apply List.ext_getElem?
  intro k
  rw [List.getElem?_set]
  have hl : (upTo f R i).length = R.length := upTo_length f R i
  unfold upTo at hl ⊢
  by_cases e : i = k
  · subst e
    rw [if_pos rfl, hl, if_pos hi, List.getElem?_append_left (by simp; lia)]
    simp [List.getElem?_take, h]
  · rw [if_neg e]
    by_cases k1 : k < i
    · rw [List.getElem?_append_left (by simp; lia), List.getElem?_append_left (by simp; lia)]
      simp [List.getElem?_take, k1, show k < i + 1 by lia]
    · rw [List.getElem?_append_right (by simp; lia), List.getElem?_append_right (by simp; lia)]
      simp only [List.length_map, List.length_take, List.getElem?_drop, Nat.min_eq_left (Nat.le_of_lt hi), Nat.min_eq_left (show i + 1 ≤ R.length by lia)]
      congr 1; lia

theorem iter_keep {h h' : Heap} {it l i : Nat} (hit : h.IsListIter it l i) (k : ∀ o, h.get? it = some o → h'.get? it = some o) : h'.IsListIter it l i := let ⟨o, e, r⟩ := hit; ⟨o, k o e, r⟩

section
variable {A : Around} {E : Value → Shared → Prop} {s : Shared} {g : Heap} {lh lb li L : Addr} {U R : List HRec} {os : List Int} {T : List TRec} {m : Str → Option Value} {Q : Value → Shared → Prop}
theorem iter_start {l : Addr} {items : Array Value} (S : St g s.heap lh lb li U R os T) (F : Fr g L s.heap m) (hl : s.heap.IsList l items)
    (h : ∀ it h₁, Fr g L h₁ m → St g h₁ lh lb li U R os T → Off it lh lb li U T → g.get? it = none → it ≠ L → h₁.IsListIter it l 0 → Q (.ref it) { s with heap := h₁ }) :
    wpAny (model rw_nb0130_01.row.prog w) A (pyIter (.ref l)) Q E s := by
  refine wpAny_pyIter_list hl ?_
  have hnew := Fr.newAt F
  exact h _ _ (F.push _) (S.grow fun b o e => Heap.get?_push_of_some _ e) (S.off fun b o e => Nat.ne_of_lt (Heap.lt_size e)) hnew.1 hnew.2 ⟨_, Heap.get?_push_size _ rfl, rfl, rfl⟩
theorem range_start {r : Addr} {n : Nat} {t u v : Tok} (S : St g s.heap lh lb li U R os T) (F : Fr g L s.heap m) (hr : IsRange s.heap r 0 (n : Int) 1 t u v) (hn : n < 1000)
    (h : ∀ it h₁, Fr g L h₁ m → St g h₁ lh lb li U R os T → Off it lh lb li U T → g.get? it = none → it ≠ L → IsRangeIter h₁ it 0 (n : Int) 1 → Q (.ref it) { s with heap := h₁ }) :
    wpAny (model rw_nb0130_01.row.prog w) A (pyIter (.ref r)) Q E s := by
  have hsz : Builtin.Range.rangeSize 0 (n : Int) 1 = (n : Int) := by unfold Builtin.Range.rangeSize; split <;> (try split) <;> lia
  have hf : ∀ i : Int, -2000 ≤ i → i ≤ 2000 → Builtin.Range.rangeFitsLong i = true := fun i h1 h2 => by
    unfold Builtin.Range.rangeFitsLong; simp only [Bool.and_eq_true, decide_eq_true_eq]; lia
  refine wpAny_pyIter_range hr ?_ ?_
  · unfold Builtin.Range.small
    rw [hsz, hf 0 (by lia) (by lia), hf n (by lia) (by lia), hf 1 (by lia) (by lia), if_pos (by decide), hf ((n : Int) + (1 - 1)) (by lia) (by lia)]
    simp
  · have hnew := Fr.newAt F
    refine h _ _ (F.push _) (S.grow fun b o e => Heap.get?_push_of_some _ e) (S.off fun b o e => Nat.ne_of_lt (Heap.lt_size e)) hnew.1 hnew.2 ?_
    rw [hsz]; exact Heap.get?_push_size _ rfl
end

theorem Off.setH {x lh lb li : Addr} {U : List HRec} {T : List TRec} {p : Nat} {r r' : HRec} (P : Off x lh lb li U T) (hp : U[p]? = some r) (ha : r'.a = r.a) (hd : r'.d = r.d) : Off x lh lb li (U.set p r') T :=
  { P with
    d := fun q hq => by rcases List.mem_or_eq_of_mem_set hq with z | rfl; exact P.d q z; rw [hd]; exact P.d r (List.mem_of_getElem? hp)
    a := fun q hq => by rcases List.mem_or_eq_of_mem_set hq with z | rfl; exact P.a q z; rw [ha]; exact P.a r (List.mem_of_getElem? hp) }

theorem bare_at {bs : List Value} {os : List Int} (hbs : ∀ v ∈ bs, okI v) (hbe : bs.map keyI = os) {i : Nat} {o : Int} (h : os[i]? = some o) : ∃ t, bs[i]? = some (.int o t) := by
  rw [← hbe, List.getElem?_map] at h
  cases q : bs[i]? with
  | none => rw [q] at h; cases h
  | some v =>
    rw [q] at h
    obtain ⟨j, t, rfl⟩ := hbs v (List.mem_of_getElem? q)
    cases h
    exact ⟨t, rfl⟩

/-- inside gets another pair at a place -/
theorem St.setT {g h h₁ : Heap} {lh lb li : Addr} {U R : List HRec} {os : List Int} {T : List TRec} {q : TRec} {i n : Nat} (S : St g h lh lb li U R os T) (hq : q.At h) (hs : Heap.SameBut li h h₁) (hl : h₁.get? li = some (W.listOf ((T.map fun r => Value.ref r.t).set i (.ref q.t)).toArray n)) :
    St g h₁ lh lb li U R os (T.set i q) ∧ Kp [li] h h₁ := by
  have k : Kp [li] h h₁ := fun b o nb e => hs.extBut b o (by simpa using nb) e
  obtain ⟨n', e'⟩ := S.hli
  refine ⟨S.set_li k ⟨n, by rw [List.map_set]; exact hl⟩ fun t ht => ?_, k⟩
  have : t.At h := by
    rcases List.mem_or_eq_of_mem_set ht with z | rfl
    · exact S.tu t z
    · exact hq
  exact TAt.keeps this fun x e => kp_one k (off_listT e' this) e
theorem Off.setT {x lh lb li : Addr} {U : List HRec} {T : List TRec} {i : Nat} {q : TRec} (P : Off x lh lb li U T) (hq : q.t ≠ x) : Off x lh lb li U (T.set i q) :=
  { P with t := fun t ht => by rcases List.mem_or_eq_of_mem_set ht with z | rfl; exact P.t t z; exact hq }
def upP (mo : Int) (p : Int × Int) : Int × Int := ((p.1 + mo).fmod 2000, p.2)

def upH (mo : Int) (r : HRec) : HRec := { r with o := (r.o + mo).fmod 2000 }

def upO (mo : Int) (o : Int) : Int := (o + mo).fmod 2000

theorem turn_spec {A : Around} {s : Shared} {base : Heap} {lh lb li : Addr} {R : List HRec} {T : List TRec} {x : Int} {t : Tok} {Q E : Value → Shared → Prop}
    (b : Bs w mean mg mb base) (I : Inv base s.heap lh lb li R T) (hz : R.length < 500) (hr : Room A 12)
    (h : ∀ h' tk' R' T', Inv base h' lh lb li R' T' → R'.length = R.length → Q (.bool true) { s with heap := h', toks := tk' }) :
    wpAny (model rw_nb0130_01.row.prog w) A (call (.ref 145) [.int x t, .ref lh, .ref lb, .ref li]) Q E s := by
  obtain ⟨ha, dp, fr, gd, un⟩ := A
  obtain rfl : ha = none := Room.hd hr
  refine' enter (binds := [(Str.ofString "x", .int x t), (Str.ofString "heap", .ref lh), (Str.ofString "bare", .ref lb), (Str.ofString "inside", .ref li)]) (lh :: lb :: li :: R.map (·.d)) b I.S.st (base_none I.S) ?kho ?kcd ?kroom ?kbind ?kloc ?_ ?kco ?kgen ?kk ?kcell
  walk_at "my enter"
  intro g L' h' F' b' hbg hkg hg0 hh
  have O : Off L' lh lb li R T := I.S.off fun b o e => (hh b o e).2
  have S₀ : St g h' lh lb li R R (R.map (·.o)) T := I.S.inner (fun b o e => (hh b o e).1) F' hg0
  obtain ⟨n1, n2, n3, bs, N', hbs, hbe⟩ := S₀.full O
  have X' := b'.X
  have T' := b'.T
  obtain ⟨mo, hmo⟩ : ∃ mo : Int, mo = (x.fdiv 18).fmod 3 * 500 + 500 := ⟨_, rfl⟩
  (try dsimp only)
  w_on
  (try k_fold)
  walk_at "my steps"
  rename Fr _ _ _ _ => F₁
  rename News _ _ _ _ => N₁
  obtain ⟨k₁, S₁⟩ := S₀.step O F₁ N₁ (fun p hp => .tail _ (.tail _ (.tail _ hp)))
  rw [← hmo] at F₁
  refine for_head ?_
  walk_at "my steps"
  refine iter_start S₁ F₁ (News.isList N₁ (.head _)) ?_
  intro it h₂ F₂ S₂ O₂ hit0 hitL I₂
  refine for_loop (fun k s' => ∃ h tk m' i, s' = { s with heap := h, toks := tk } ∧ k + i = R.length ∧ Fr g L' h m' ∧ St g h lh lb li (upTo (upH mo) R i) (upTo (upH mo) R i) (R.map (·.o)) T ∧ Off L' lh lb li (upTo (upH mo) R i) T ∧ Off it lh lb li (upTo (upH mo) R i) T ∧
    h.IsListIter it lh i ∧ m' (Str.ofString "heap") = some (.ref lh) ∧ m' (Str.ofString "bare") = some (.ref lb) ∧ m' (Str.ofString "inside") = some (.ref li) ∧ HasInt m' (Str.ofString "more") mo) ?_ R.length ?_
  rotate_left
  · refine ⟨_, _, _, 0, rfl, rfl, F₂, ?_, ?_, ?_, I₂, rfl, rfl, rfl, ⟨_, rfl⟩⟩
    · rw [upTo_zero]; exact S₂
    · rw [upTo_zero]; exact O
    · rw [upTo_zero]; exact O₂
  clear S₂ O₂ I₂ F₂ F₁ N₁ S₁
  rintro k s' ⟨h₃, tk, m₃, i, rfl, hki, F₃, S₃, O₃, P₃, I₃, e1, e2, e3, ⟨tm, e4⟩⟩
  have F₃' := Fr.pins F₃ [(Str.ofString "heap", .ref lh), (Str.ofString "bare", .ref lb), (Str.ofString "inside", .ref li), (Str.ofString "more", .int mo tm)] (by simp [e1, e2, e3, e4])
  clear F₃ e1 e2 e3 e4
  obtain ⟨n1', hl₃⟩ := S₃.hlh
  by_cases hi : i < R.length
  · obtain ⟨r, hri⟩ : ∃ r, R[i]? = some r := ⟨_, List.getElem?_eq_getElem hi⟩
    have hru := upTo_at (upH mo) R i hri
    have hrm := List.mem_of_getElem? hru
    refine wpAny_pyNext_list_item I₃ (PySem.IsL.isList hl₃) (x := .ref r.a) (by simp [hru]) ?_
    intro h₄ I₄ hs₄
    have k₄ : Kp [it] h₃ h₄ := fun b o nb e => hs₄.extBut b o (by simpa using nb) e
    have F₄ := Fr.kp F₃' k₄ (by simpa using Ne.symm hitL) (by simpa using hit0)
    have S₄ := S₃.kpL P₃ k₄ F₄.keep
    obtain ⟨n1, n2, n3, bs, N₄, hbs, hbe⟩ := S₄.full O₃
    have Iin : ∃ o, (it, o) ∈ others g h₄ L' L' ∧ h₄.get? it = some o := let ⟨o, e, _⟩ := I₄; ⟨o, others_mem.mpr ⟨hitL, hitL, hit0, e⟩, e⟩
    clear F₃' S₃ I₃
    dsimp only
    refine wpAny_assign_Name ?_
    walk_at "my steps"
    rename Fr _ _ _ _ => F₅
    rename News _ _ _ _ => N₅
    obtain ⟨k₅, S₅⟩ := S₄.step O₃ F₅ N₅ (fun p hp => .tail _ (.tail _ (.tail _ hp)))
    have I₅ := iter_keep I₄ (fun o e => kp_one k₅ hitL e)
    refine get_order (X'.keeps F₅.keep) (S₅.hd r hrm).1 ?_
    intro t₁
    walk_at "my steps"
    refine set_order_rule F₅ X' (S₅.hd r hrm).1 (S₅.hd r hrm).2 (O₃.d r hrm) (O₃.a r hrm) (let ⟨_, _, e, _⟩ := (S₅.hd r hrm).1.dict; ne_id (S₅.hd r hrm).1.obj e) ?_
    intro h₆ F₆ H₆ k₆
    obtain ⟨S₆, O₆⟩ := S₅.setOrder (r' := upH mo r) O₃ hru rfl rfl H₆ k₆ F₆.keep
    have P₆ := P₃.setH (r' := upH mo r) hru rfl rfl
    rw [upTo_succ (upH mo) R i hri] at S₆ O₆ P₆
    have I₆ := iter_keep I₅ (fun o e => k₆ _ _ (by simp only [List.mem_cons, List.not_mem_nil, or_false, not_or]; exact ⟨Ne.symm (P₃.d r hrm), hitL⟩) e)
    obtain ⟨n1, n2, n3, bs, N₆, _, _⟩ := S₆.full O₆
    clear F₅ N₅ S₅ I₅ S₄ I₄
    walk_at "my steps"
    exact ⟨k - 1, by lia, _, _, _, i + 1, rfl, by lia, F₆, S₆, O₆, P₆, I₆, rfl, rfl, rfl, ⟨_, rfl⟩⟩
  · have hik : i = R.length := by lia
    subst hik
    refine wpAny_pyNext_list_end rfl I₃ (PySem.IsL.isList hl₃) (by simp [upTo_length]) ?_
    intro h₄ hx₄
    have k₄ : Kp [it] h₃ h₄ := fun b o nb e => hx₄ b o (by simpa using nb) e
    have F₄ := Fr.kp F₃' k₄ (by simpa using Ne.symm hitL) (by simpa using hit0)
    have S₄ := S₃.kpL P₃ k₄ F₄.keep
    rw [upTo_all] at S₄ O₃
    clear F₃' S₃ I₃ P₃ hl₃ hi hki
    obtain ⟨n1, n2, n3, bs, N₄, hbs, hbe⟩ := S₄.full O₃
    dsimp only
    walk_at "my steps"
    have hbl : bs.length = R.length := by have := congrArg List.length hbe; simpa using this
    refine for_head ?_
    walk_at "my steps"
    rename IsRange _ _ _ _ _ _ _ _ => R₅
    rename Fr _ _ _ _ => F₅
    rename News _ _ _ _ => N₅
    obtain ⟨k₅, S₅⟩ := S₄.step O₃ F₅ N₅ (fun p hp => .tail _ (.tail _ (.tail _ hp)))
    rw [hbl] at R₅
    refine range_start S₅ F₅ R₅ (by lia) ?_
    intro it₂ h₅ F₅ S₅ P₅ hi₂0 hi₂L I₅
    refine for_loop (fun k s' => ∃ h tk m' i, s' = { s with heap := h, toks := tk } ∧ k + i = R.length ∧ Fr g L' h m' ∧ St g h lh lb li (R.map (upH mo)) (R.map (upH mo)) (upTo (upO mo) (R.map (·.o)) i) T ∧
      IsRangeIter h it₂ (i : Int) (k : Int) 1 ∧ m' (Str.ofString "heap") = some (.ref lh) ∧ m' (Str.ofString "bare") = some (.ref lb) ∧ m' (Str.ofString "inside") = some (.ref li) ∧ HasInt m' (Str.ofString "more") mo) ?_ R.length ?_
    rotate_left
    · exact ⟨_, _, _, 0, rfl, rfl, F₅, by rw [upTo_zero]; exact S₅, I₅, rfl, rfl, rfl, ⟨_, rfl⟩⟩
    clear S₅ I₅ F₅ S₄
    rintro k s' ⟨h₃, tk, m₃, i, rfl, hki, F₃, S₃, I₃, e1, e2, e3, ⟨tm, e4⟩⟩
    have F₃' := Fr.pins F₃ [(Str.ofString "heap", .ref lh), (Str.ofString "bare", .ref lb), (Str.ofString "inside", .ref li), (Str.ofString "more", .int mo tm)] (by simp [e1, e2, e3, e4])
    clear F₃ e1 e2 e3 e4
    by_cases hi : i < R.length
    · obtain ⟨o, hoi⟩ : ∃ o, (R.map (·.o))[i]? = some o := ⟨_, List.getElem?_eq_getElem (by simpa using hi)⟩
      have hou := upTo_at (upO mo) _ i hoi
      refine wpAny_pyNext_range_item I₃ (by lia) ?_
      intro h₄ I₄ hs₄
      have k₄ : Kp [it₂] h₃ h₄ := fun b o nb e => hs₄.extBut b o (by simpa using nb) e
      have F₄ := Fr.kp F₃' k₄ (by simpa using Ne.symm hi₂L) (by simpa using hi₂0)
      have S₄ := S₃.kpL P₅ k₄ F₄.keep
      obtain ⟨n1, n2, n3, bs, N₄, hbs, hbe⟩ := S₄.full O₃
      have hbl : bs.length = R.length := by have := congrArg List.length hbe; simpa [upTo_length] using this
      obtain ⟨tv, hbv⟩ := bare_at hbs hbe hou
      clear F₃' S₃ I₃
      dsimp only
      refine wpAny_assign_Name ?_
      walk_at "my steps"
      rename Fr _ _ _ _ => F₆
      rename News _ _ _ _ => N₆
      obtain ⟨k₆, S₆⟩ := S₄.step O₃ F₆ N₆ (fun p hp => .tail _ (.tail _ (.tail _ hp)))
      have I₆ := kp_one k₆ hi₂L I₄
      refine item_rule i (News.get N₆ (.tail _ (.head _))) rfl (by lia) hbv ?_
      walk_at "my steps"
      rename Fr _ _ _ _ => F₇
      rename News _ _ _ _ => N₇
      refine set_rule i F₇ (News.get N₇ (.tail _ (.head _))) O₃.b S₀.n1 rfl (by lia) (by lia) ?_
      intro h₈ F₈ hl₈ hs₈
      have k₈ : Kp [lb] _ h₈ := fun b o nb e => hs₈.extBut b o (by simpa using nb) e
      have S₈ := S₆.set_lb (os' := upTo (upO mo) (R.map (·.o)) (i + 1)) k₈ ⟨_, _, hl₈, (fun v hv => by
        rcases List.mem_or_eq_of_mem_set hv with z | rfl
        · exact hbs v z
        · exact ⟨_, _, rfl⟩), (by rw [List.map_set, hbe, ← upTo_succ (upO mo) _ i hoi]; rfl)⟩
      have I₈ := kp_one k₈ (Ne.symm P₅.b) I₆
      obtain ⟨n1, n2, n3, bs', N₈, _, _⟩ := S₈.full O₃
      clear S₆ I₆ S₄ I₄ F₇ N₇
      walk_at "my steps"
      refine ⟨k - 1, by lia, _, _, _, i + 1, rfl, by lia, F₈, S₈, ?_, rfl, rfl, rfl, ⟨_, rfl⟩⟩
      rw [show ((i + 1 : Nat) : Int) = (i : Int) + 1 by lia, show ((k - 1 : Nat) : Int) = (k : Int) - 1 by lia]
      exact I₈
    · have hik : i = R.length := by lia
      subst hik
      refine wpAny_pyNext_range_end rfl I₃ (by lia) ?_
      intro h₄ hx₄
      have k₄ : Kp [it₂] h₃ h₄ := fun b o nb e => hx₄ b o (by simpa using nb) e
      have F₄ := Fr.kp F₃' k₄ (by simpa using Ne.symm hi₂L) (by simpa using hi₂0)
      have S₄ := S₃.kpL P₅ k₄ F₄.keep
      have eo : upTo (upO mo) (R.map (·.o)) R.length = (R.map (upH mo)).map (·.o) := by
        have := upTo_all (upO mo) (R.map (·.o))
        rw [List.length_map] at this
        rw [this]; simp [upO, upH, Function.comp_def]
      rw [eo] at S₄
      clear F₃' S₃ I₃ hi hki
      obtain ⟨n1, n2, n3, bs, N₄, hbs, hbe⟩ := S₄.full O₃
      dsimp only
      walk_at "my steps"
      have hTl := I.G.len
      have hil : (T.map fun r => Value.ref r.t).length = R.length := by rw [List.length_map]; exact hTl
      refine for_head ?_
      walk_at "my steps"
      rename IsRange _ _ _ _ _ _ _ _ => R₅
      rename Fr _ _ _ _ => F₅
      rename News _ _ _ _ => N₅
      obtain ⟨k₅, S₅⟩ := S₄.step O₃ F₅ N₅ (fun p hp => .tail _ (.tail _ (.tail _ hp)))
      rw [hil] at R₅
      refine range_start S₅ F₅ R₅ (by lia) ?_
      intro it₃ h₅ F₅ S₅ P₅ hi₃0 hi₃L I₅
      refine for_loop (fun k s' => ∃ h tk m' i T', s' = { s with heap := h, toks := tk } ∧ k + i = R.length ∧ Fr g L' h m' ∧ St g h lh lb li (R.map (upH mo)) (R.map (upH mo)) ((R.map (upH mo)).map (·.o)) T' ∧ Off L' lh lb li (R.map (upH mo)) T' ∧ Off it₃ lh lb li (R.map (upH mo)) T' ∧
        T'.map pairT = upTo (upP mo) (T.map pairT) i ∧ IsRangeIter h it₃ (i : Int) (k : Int) 1 ∧ m' (Str.ofString "heap") = some (.ref lh) ∧ m' (Str.ofString "bare") = some (.ref lb) ∧ m' (Str.ofString "inside") = some (.ref li) ∧ HasInt m' (Str.ofString "more") mo) ?_ R.length ?_
      rotate_left
      · exact ⟨_, _, _, 0, T, rfl, rfl, F₅, S₅, O₃, P₅, by rw [upTo_zero], I₅, rfl, rfl, rfl, ⟨_, rfl⟩⟩
      clear S₅ I₅ F₅ S₄ O₃ P₅
      rintro k s' ⟨h₃, tk, m₃, i, T₃, rfl, hki, F₃, S₃, O₃, P₃, hpt, I₃, e1, e2, e3, ⟨tm, e4⟩⟩
      have F₃' := Fr.pins F₃ [(Str.ofString "heap", .ref lh), (Str.ofString "bare", .ref lb), (Str.ofString "inside", .ref li), (Str.ofString "more", .int mo tm)] (by simp [e1, e2, e3, e4])
      clear F₃ e1 e2 e3 e4
      have hT₃ : T₃.length = R.length := by have := congrArg List.length hpt; rw [List.length_map, upTo_length, List.length_map] at this; lia
      by_cases hi : i < R.length
      · obtain ⟨q, hqi⟩ : ∃ q, T₃[i]? = some q := ⟨_, List.getElem?_eq_getElem (by lia)⟩
        have hqm := List.mem_of_getElem? hqi
        obtain ⟨pr, hpr⟩ : ∃ pr, (T.map pairT)[i]? = some pr := ⟨_, List.getElem?_eq_getElem (by simp; lia)⟩
        have hqp : pairT q = pr := by
          have h1 := upTo_at (upP mo) _ i hpr
          rw [← hpt, List.getElem?_map, hqi] at h1
          exact Option.some.inj h1
        refine wpAny_pyNext_range_item I₃ (by lia) ?_
        intro h₄ I₄ hs₄
        have k₄ : Kp [it₃] h₃ h₄ := fun b o nb e => hs₄.extBut b o (by simpa using nb) e
        have F₄ := Fr.kp F₃' k₄ (by simpa using Ne.symm hi₃L) (by simpa using hi₃0)
        have S₄ := S₃.kpL P₃ k₄ F₄.keep
        obtain ⟨n1, n2, n3, bs, N₄, hbs, hbe⟩ := S₄.full O₃
        clear F₃' S₃ I₃
        dsimp only
        refine wpAny_assign_Name ?_
        walk_at "my steps"
        rename Fr _ _ _ _ => F₆
        rename News _ _ _ _ => N₆
        obtain ⟨k₆, S₆⟩ := S₄.step O₃ F₆ N₆ (fun p hp => .tail _ (.tail _ (.tail _ hp)))
        have I₆ := kp_one k₆ hi₃L I₄
        refine item_rule i (News.get N₆ (.tail _ (.tail _ (.head _)))) rfl (by lia) (v := .ref q.t) (by simp [hqi]) ?_
        walk_at "my steps"
        refine tup_item0 (S₆.tu q hqm) ?_
        intro t₁
        walk_at "my steps"
        refine item_rule i (News.get (by assumption) (.tail _ (.tail _ (.head _)))) rfl (by lia) (v := .ref q.t) (by simp [hqi]) ?_
        walk_at "my steps"
        refine tup_item1 (S₆.tu q hqm) ?_
        intro t₂
        walk_at "my steps"
        rename Fr _ _ _ _ => F₇
        rename News _ _ _ _ => N₇
        obtain ⟨k₇, S₇⟩ := S₄.step O₃ F₇ N₇ (fun p hp => .tail _ (.tail _ (.tail _ (.tail _ hp))))
        have I₇ := kp_one k₇ hi₃L I₄
        have TD : TAt _ _ ((q.o + mo).fmod 2000) q.m := ⟨_, _, News.get N₇ (.head _)⟩
        have TL := (N₇ _ (.head _)).2.1
        have TI := apart (News.get N₇ (.head _)) I₇ (by show Value.type "tuple" ≠ Value.type "range_iterator"; decide)
        obtain ⟨q', qt, qo, qm, qAt⟩ := mkT TD
        refine set_rule i F₇ (News.get N₇ (.tail _ (.tail _ (.tail _ (.head _))))) O₃.i S₀.n2 rfl (by simp; lia) (by lia) ?_
        intro h₈ F₈ hl₈ hs₈
        rw [← qt] at hl₈ TL TI
        obtain ⟨S₈, k₈⟩ := S₇.setT qAt hs₈ hl₈
        have O₈ := O₃.setT (i := i) TL
        have P₈ := P₃.setT (i := i) TI
        have I₈ := kp_one k₈ (Ne.symm P₃.i) I₇
        obtain ⟨n1, n2, n3, bs', N₈, _, _⟩ := S₈.full O₈
        clear S₆ I₆ S₄ I₄ F₇ N₇ S₇ I₇
        walk_at "my steps"
        refine ⟨k - 1, by lia, _, _, _, i + 1, T₃.set i q', rfl, by lia, F₈, S₈, O₈, P₈, ?_, ?_, rfl, rfl, rfl, ⟨_, rfl⟩⟩
        · rw [List.map_set, hpt, ← upTo_succ (upP mo) _ i hpr]
          congr 1
          rw [← hqp]
          unfold pairT upP
          rw [qo, qm]
        · rw [show ((i + 1 : Nat) : Int) = (i : Int) + 1 by lia, show ((k - 1 : Nat) : Int) = (k : Int) - 1 by lia]
          exact I₈
      · have hik : i = R.length := by lia
        subst hik
        refine wpAny_pyNext_range_end rfl I₃ (by lia) ?_
        intro h₄ hx₄
        have k₄ : Kp [it₃] h₃ h₄ := fun b o nb e => hx₄ b o (by simpa using nb) e
        have F₄ := Fr.kp F₃' k₄ (by simpa using Ne.symm hi₃L) (by simpa using hi₃0)
        have S₄ := S₃.kpL P₃ k₄ F₄.keep
        have ep : T₃.map pairT = (T.map pairT).map (upP mo) := by
          have := upTo_all (upP mo) (T.map pairT)
          rw [List.length_map, hTl] at this
          rw [hpt, this]
        clear F₃' S₃ I₃ hi hki
        obtain ⟨n1, n2, n3, bs, N₄, hbs, hbe⟩ := S₄.full O₃
        dsimp only
        walk_at "my steps"
        rename Fr _ _ _ _ => F₅
        rename News _ _ _ _ => N₅
        refine heapify_h b' S₄ (Room.mono (Room.deeper hr _) (by decide)) (by simp; lia) ?_
        intro h₆ tk₆ S₆ k₆
        have F₆ := Fr.kp F₅ k₆ (by simpa using Ne.symm O.h) (by simpa using S₀.n0)
        obtain ⟨n1, n2, n3, bs₆, N₆, _, _⟩ := S₆.full O₃
        clear F₅ N₅
        walk_at "my steps"
        rename Fr _ _ _ _ => F₇
        rename News _ _ _ _ => N₇
        refine heapify_b b' S₆ (Room.mono (Room.deeper hr _) (by decide)) (by simp; lia) ?_
        intro h₈ tk₈ S₈ k₈
        have F₈ := Fr.kp F₇ k₈ (by simpa using Ne.symm O.b) (by simpa using S₀.n1)
        obtain ⟨n1, n2, n3, bs₈, N₈, _, _⟩ := S₈.full O₃
        clear F₇ N₇
        walk_at "my steps"
        have pm := heapifyF_perm (fun r : HRec => r.o) ((R.map (upH mo)).length / 2) (R.map (upH mo))
        have hm : heapifyF id (((R.map (upH mo)).map (·.o)).length / 2) ((R.map (upH mo)).map (·.o)) = (heapifyF (·.o) ((R.map (upH mo)).length / 2) (R.map (upH mo))).map (·.o) := by
          rw [List.length_map]
          exact heapifyF_map (·.o) id (·.o) _ (R.map (upH mo)) (fun _ _ => rfl)
        refine h _ _ _ T₃ (Inv.mk2 S₈ hbg pm hm ⟨heapify_heap _ _, ?_, ?_⟩) ?_
        · refine (pm.map pairH).trans ?_
          rw [ep]
          have := I.G.perm.map (upP mo)
          simpa [List.map_map, Function.comp_def, pairH, upP, upH, pairT] using this
        · intro t' ht'
          have : pairT t' ∈ (T.map pairT).map (upP mo) := by rw [← ep]; exact List.mem_map.mpr ⟨t', ht', rfl⟩
          obtain ⟨pr, hpr, e⟩ := List.mem_map.mp this
          obtain ⟨t₀, ht₀, e₀⟩ := List.mem_map.mp hpr
          have em : t'.m = t₀.m := by
            have := congrArg Prod.snd e
            rw [← e₀] at this
            exact this.symm
          rw [em]; exact I.G.marks t₀ ht₀
        · have := pm.length_eq; simpa using this

end
section
/-- one comes in, one goes out -/
theorem inout_perm {R R' : List HRec} {T : List TRec} {r q : HRec} {j : Nat} {tj qT : TRec} (G : (R.map pairH).Perm (T.map pairT)) (hR : (r :: R').Perm (q :: R)) (hj : T[j]? = some tj) (e : tj.o = r.o ∧ tj.m = r.m) (eq : pairT qT = pairH q) :
    (R'.map pairH).Perm ((T.eraseIdx j ++ [qT]).map pairT) := by
  have b : (T.map pairT).Perm (pairT tj :: (T.eraseIdx j).map pairT) := (perm_eraseIdx T j tj hj).map pairT
  have a : (pairH r :: R'.map pairH).Perm (pairH r :: pairH q :: (T.eraseIdx j).map pairT) := by
    refine ((hR.map pairH).trans ((G.trans b).cons _)).trans ?_
    rw [show pairT tj = pairH r by unfold pairT pairH; rw [e.1, e.2]]
    exact List.Perm.swap ..
  refine ((List.perm_cons _).mp a).trans ?_
  rw [List.map_append, ← eq]
  exact (List.perm_append_singleton _ _).symm

theorem Off.addH {g h : Heap} {L lh lb li : Addr} {U : List HRec} {T : List TRec} {m : Str → Option Value} {q : HRec} (P : Off L lh lb li U T) (F : Fr g L h m) (fa : h.get? q.a = none) (fd : h.get? q.d = none) : Off L lh lb li (q :: U) T :=
  have ne : ∀ {b : Addr}, h.get? b = none → b ≠ L := fun {b} e => by
    rintro rfl
    obtain ⟨o, es, ep, ho, _⟩ := F.ns
    rw [ho] at e; cases e
  { P with
    d := fun r hr => by rcases List.mem_cons.mp hr with rfl | z; exact ne fd; exact P.d r z
    a := fun r hr => by rcases List.mem_cons.mp hr with rfl | z; exact ne fa; exact P.a r z }

theorem Inv.mk3 {base g h : Heap} {lh lb li : Addr} {U R : List HRec} {q : HRec} {os : List Int} {T : List TRec} (S : St g h lh lb li U R os T) (hbg : ∀ b o, base.get? b = some o → g.get? b = some o) (p : (q :: R).Perm U) (ho : os = R.map (·.o)) (G : Good R T) : Inv base h lh lb li R T :=
  ⟨ho ▸ ((S.weaken hbg).restrict (fun _ h => h) (fun r hr => p.mem_iff.mp (.tail _ hr)) (List.nodup_cons.mp ((p.map (fun r : HRec => r.a)).nodup_iff.mpr S.nda)).2 (List.nodup_cons.mp ((p.map (fun r : HRec => r.d)).nodup_iff.mpr S.ndd)).2), G⟩
/-- one goes out of both -/
theorem out_perm {R R' : List HRec} {T : List TRec} {q : HRec} {j : Nat} {tj : TRec} (G : (R.map pairH).Perm (T.map pairT)) (hR : (q :: R').Perm R) (hj : T[j]? = some tj) (e : tj.o = q.o ∧ tj.m = q.m) : (R'.map pairH).Perm ((T.eraseIdx j).map pairT) := by
  have b : (T.map pairT).Perm (pairT tj :: (T.eraseIdx j).map pairT) := (perm_eraseIdx T j tj hj).map pairT
  have a : (pairH q :: R'.map pairH).Perm (pairH q :: (T.eraseIdx j).map pairT) := by
    refine ((hR.map pairH).trans (G.trans b)).trans ?_
    rw [show pairT tj = pairH q by unfold pairT pairH; rw [e.1, e.2]]
  exact (List.perm_cons _).mp a
theorem Good.top {R : List HRec} {T : List TRec} {r : HRec} (G : Good (r :: R) T) : ∀ t ∈ T, r.o ≤ t.o := fun t ht => by
  obtain ⟨q, hq, e, _⟩ := G.has' ht
  rw [← e]; exact heap_top _ _ rfl G.heap q hq

theorem join_perm {R : List HRec} {T : List TRec} {q : HRec} {qT : TRec} (G : (R.map pairH).Perm (T.map pairT)) (eq : pairT qT = pairH q) : ((q :: R).map pairH).Perm ((T ++ [qT]).map pairT) := by
  rw [List.map_append, List.map_cons, ← eq]
  exact (G.cons _).trans (List.perm_append_singleton _ _).symm
theorem pushpopF_min {α : Type} (key : α → Int) (xs : List α) (x : α) (h : HeapFrom key 0 xs) : ∀ a ∈ x :: xs, key (pushpopF key xs x).1 ≤ key a := by
  intro a ha
  cases xs with
  | nil => rcases List.mem_singleton.mp ha with rfl; exact Int.le_refl _
  | cons y r =>
    have top := heap_top key (y :: r) rfl h
    simp only [pushpopF]
    split
    · rcases List.mem_cons.mp ha with rfl | z
      · show key y ≤ key a; lia
      · exact top a z
    · rcases List.mem_cons.mp ha with rfl | z
      · exact Int.le_refl _
      · have := top a z; show key x ≤ key a; lia

/-- one call of the law -/
theorem call_spec {A : Around} {s : Shared} {base : Heap} {lh lb li : Addr} {R : List HRec} {T : List TRec} {x mk : Int} {t t' : Tok} {Q E : Value → Shared → Prop}
    (b : Bs w mean mg mb base) (I : Inv base s.heap lh lb li R T) (hz : R.length < 400) (hmk : 0 ≤ mk ∧ mk < 100) (hr : Room A 14)
    (h : ∀ h' tk' R' T', Inv base h' lh lb li R' T' → R'.length ≤ R.length + 1 → Q (.bool true) { s with heap := h', toks := tk' }) :
    wpAny (model rw_nb0130_01.row.prog w) A (call (.ref 159) [.int x t, .int mk t', .ref lh, .ref lb, .ref li]) Q E s := by
  obtain ⟨ha, dp, fr, gd, un⟩ := A
  obtain rfl : ha = none := Room.hd hr
  refine' enter (binds := [(Str.ofString "x", .int x t), (Str.ofString "mark", .int mk t'), (Str.ofString "heap", .ref lh), (Str.ofString "bare", .ref lb), (Str.ofString "inside", .ref li)]) (lh :: lb :: li :: R.map (·.d)) b I.S.st (base_none I.S) ?kho ?kcd ?kroom ?kbind ?kloc ?_ ?kco ?kgen ?kk ?kcell
  walk_at "my enter"
  intro g L' h' F' b' hbg hkg hg0 hh
  have O : Off L' lh lb li R T := I.S.off fun b o e => (hh b o e).2
  have S₀ : St g h' lh lb li R R (R.map (·.o)) T := I.S.inner (fun b o e => (hh b o e).1) F' hg0
  obtain ⟨n1, n2, n3, bs, N', hbs, hbe⟩ := S₀.full O
  have X' := b'.X
  have T' := b'.T
  have hlen : (R.map fun r => Value.ref r.a).length = R.length := by simp
  (try dsimp only)
  w_on
  (try k_fold)
  repeat' (first | (k_unfold; (try dsimp only)) | ((fail_if_success with_reducible show wpAny _ _ (exec (.If _ _ _ _) _) _ _ _); walk_at "my go"; first | walk1 | (dsimp only; walk1)))
  refine wpAny_mono (Q := fun f s' => ∃ h tk c tc m', f = .next ∧ s' = { s with heap := h, toks := tk } ∧ Fr g L' h m' ∧ St g h lh lb li R R (R.map (·.o)) T ∧ m' (Str.ofString "call") = some (.int c tc) ∧ m' (Str.ofString "x") = some (.int x t) ∧ m' (Str.ofString "mark") = some (.int mk t') ∧
    m' (Str.ofString "heap") = some (.ref lh) ∧ m' (Str.ofString "bare") = some (.ref lb) ∧ m' (Str.ofString "inside") = some (.ref li) ∧ (R.length = 0 → c = 0 ∨ c = 4)) ?_ ?_ (fun _ _ q => q)
  · walk_at "my steps"
    all_goals (rename Fr _ _ _ _ => F₁)
    all_goals (rename News _ _ _ _ => N₁)
    all_goals exact ⟨_, _, _, _, _, rfl, rfl, F₁, (S₀.step O F₁ N₁ (fun p hp => .tail _ (.tail _ (.tail _ hp)))).2, rfl, rfl, rfl, rfl, rfl, rfl, fun _ => by lia⟩
  rename News _ _ _ _ => N₀
  rename Fr _ _ _ _ => F₀
  clear N₀ F₀
  rintro f s' ⟨h₁, tk₁, c, tc, m₁, rfl, rfl, F₀, S₁, e1, e2, e3, e4, e5, e6, hc⟩
  have F₁ := Fr.pins F₀ [(Str.ofString "call", .int c tc), (Str.ofString "x", .int x t), (Str.ofString "mark", .int mk t'), (Str.ofString "heap", .ref lh), (Str.ofString "bare", .ref lb), (Str.ofString "inside", .ref li)] (by simp [e1, e2, e3, e4, e5, e6])
  clear F₀ e1 e2 e3 e4 e5 e6
  obtain ⟨n1, n2, n3, bs, N₁, _, _⟩ := S₁.full O
  have I₁ : Inv g h₁ lh lb li R T := ⟨S₁, I.G⟩
  have split : R.length ≠ 0 → ∃ r R', R = r :: R' := fun e => by
    cases R with
    | nil => exact absurd rfl e
    | cons r R => exact ⟨r, R, rfl⟩
  dsimp only
  walk_at "my steps"
  all_goals try (exfalso; lia)
  · refine turn_spec b' I₁ (by lia) (Room.mono (Room.deeper hr _) (by decide)) ?_
    intro h₂ tk₂ R₂ T₂ I₂ hl₂
    exact h _ _ R₂ T₂ ⟨I₂.S.weaken hbg, I₂.G⟩ (by lia)
  · have hne : R.length ≠ 0 := fun e => by have := hc e; lia
    refine change_spec b' I₁ (by lia) (by lia) (Room.mono (Room.deeper hr _) (by decide)) ?_
    intro h₂ tk₂ R₂ T₂ I₂ hl₂
    exact h _ _ R₂ T₂ ⟨I₂.S.weaken hbg, I₂.G⟩ (by lia)
  · obtain ⟨r₀, R₀, rfl⟩ := split fun e => by have := hc e; lia
    refine pop_h b' S₁ (Room.mono (Room.deeper hr _) (by decide)) (by simp at hz; lia) ?_
    intro h₂ tk₂ S₂ k₂
    have F₂ := Fr.kp F₁ k₂ (by simpa using Ne.symm O.h) (by simpa using S₀.n0)
    obtain ⟨n1, n2, n3, bs₂, N₂, _, _⟩ := S₂.full O
    clear F₁ N₁
    walk_at "my steps"
    rename Fr _ _ _ _ => F₃
    rename News _ _ _ _ => N₃
    refine pop_b (i₀ := r₀.o) (os := R₀.map (·.o)) b' S₂ (Room.mono (Room.deeper hr _) (by decide)) (by simp at hz ⊢; lia) ?_
    intro h₄ tk₄ t₄ S₄ k₄
    have F₄ := Fr.kp F₃ k₄ (by simpa using Ne.symm O.b) (by simpa using S₀.n1)
    obtain ⟨n1, n2, n3, bs₄, N₄, _, _⟩ := S₄.full O
    clear F₃ N₃
    walk_at "my steps"
    rename Fr _ _ _ _ => F₅
    rename News _ _ _ _ => N₅
    have hTl := I.G.len
    refine out_spec b' S₄.st S₀.n2 (S₄.hd r₀ (.head _)).1 (News.get N₅ (.tail _ (.tail _ (.head _)))) S₄.tu (by simp at hz hTl; lia) (I.G.has (.head _)) I.G.top (Room.mono (Room.deeper hr _) (by decide)) ?_
    intro h₆ tk₆ j n₆ hj1 hj2 hl₆ k₆
    have S₆ := S₄.set_li k₆ ⟨_, hl₆⟩ fun t ht => TAt.keeps (S₄.tu t (mem_eraseIdx ht)) fun x e => kp_one k₆ (let ⟨_, e⟩ := S₄.hli; off_listT e (S₄.tu t (mem_eraseIdx ht))) e
    have pm := popF_perm (fun r : HRec => r.o) r₀ R₀
    have tj : T[j]? = some T[j] := List.getElem?_eq_getElem hj1
    refine h _ _ _ _ (Inv.mk3 S₆ hbg pm (popF_map (fun r : HRec => r.o) id (fun r : HRec => r.o) (r₀ :: R₀) (fun _ _ => rfl)) ⟨popF_heap _ _ I.G.heap, out_perm I.G.perm pm tj (hj2 _ tj), fun t ht => I.G.marks t (mem_eraseIdx ht)⟩) ?_
    have := pm.length_eq
    simp at this ⊢; lia
  · refine handler_spec b' S₁.st (Room.mono (Room.deeper hr _) (by decide)) ?_
    intro h₂ tk₂ a d C H₂ fa fd k₂
    obtain ⟨q, hq⟩ : ∃ q : HRec, q = ⟨a, d, C, orderF x, mk⟩ := ⟨_, rfl⟩
    have S₂ := S₁.addH (q := q) k₂ (by rw [hq]; exact H₂) (by rw [hq]; exact fa) (by rw [hq]; exact fd)
    have O₂ := O.addH (q := q) F₁ (by rw [hq]; exact fa) (by rw [hq]; exact fd)
    have F₂ := Fr.grownK F₁ (fun b o e => k₂ b o (by simp) e)
    obtain ⟨n1, n2, n3, bs₂, N₂, _, _⟩ := S₂.full O₂
    clear F₁ N₁
    walk_at "my steps"
    rename Fr _ _ _ _ => F₃
    rename News _ _ _ _ => N₃
    obtain ⟨k₃, S₃⟩ := S₂.step O₂ F₃ N₃ (fun p hp => .tail _ (.tail _ (.tail _ hp)))
    refine order_spec b' S₃.st (Room.mono (Room.deeper hr _) (by decide)) ?_
    intro h₄ tk₄ t₄ k₄
    have S₄ := S₃.grow fun b o e => k₄ b o (by simp) e
    have F₄ := Fr.grownK F₃ (fun b o e => k₄ b o (by simp) e)
    obtain ⟨n1, n2, n3, bs₄, N₄, _, _⟩ := S₄.full O₂
    clear F₃ N₃ S₃
    walk_at "my steps"
    all_goals try (exfalso; lia)
    · obtain ⟨r₀, R₀, rfl⟩ := split fun e => by have := hc e; lia
      subst hq
      rename Fr _ _ _ _ => F₅
      rename News _ _ _ _ => N₅
      obtain ⟨k₅, S₅⟩ := S₄.step O₂ F₅ N₅ (fun p hp => .tail _ (.tail _ (.tail _ hp)))
      refine replace_h (q := ⟨a, d, C, orderF x, mk⟩) b' S₅ (Room.mono (Room.deeper hr _) (by decide)) (by simp at hz; lia) (.head _) ?_
      intro h₆ tk₆ S₆ k₆
      have F₆ := Fr.kp F₅ k₆ (by simpa using Ne.symm O.h) (by simpa using S₀.n0)
      obtain ⟨n1, n2, n3, bs₆, N₆, _, _⟩ := S₆.full O₂
      clear F₅ N₅ S₄
      walk_at "my steps"
      rename Fr _ _ _ _ => F₇
      rename News _ _ _ _ => N₇
      refine replace_b (i₀ := r₀.o) (os := R₀.map (·.o)) b' S₆ (Room.mono (Room.deeper hr _) (by decide)) (by simp at hz ⊢; lia) ?_
      intro h₈ tk₈ t₈ S₈ k₈
      have F₈ := Fr.kp F₇ k₈ (by simpa using Ne.symm O.b) (by simpa using S₀.n1)
      obtain ⟨n1, n2, n3, bs₈, N₈, _, _⟩ := S₈.full O₂
      clear F₇ N₇ S₆
      walk_at "my steps"
      rename Fr _ _ _ _ => F₉
      rename News _ _ _ _ => N₉
      have hTl := I.G.len
      refine out_spec b' S₈.st S₀.n2 (S₈.hd r₀ (.tail _ (.head _))).1 (News.get N₉ (.tail _ (.tail _ (.head _)))) S₈.tu (by simp at hz hTl; lia) (I.G.has (.head _)) I.G.top (Room.mono (Room.deeper hr _) (by decide)) ?_
      intro h₁₀ tk₁₀ j n₁₀ hj1 hj2 hl₁₀ k₁₀
      have S₁₀ := S₈.set_li k₁₀ ⟨_, hl₁₀⟩ fun t ht => TAt.keeps (S₈.tu t (mem_eraseIdx ht)) fun x e => kp_one k₁₀ (let ⟨_, e⟩ := S₈.hli; off_listT e (S₈.tu t (mem_eraseIdx ht))) e
      have O₁₀ : Off L' lh lb li _ (T.eraseIdx j) := { O₂ with t := fun t ht => O₂.t t (mem_eraseIdx ht) }
      have F₁₀ := Fr.kp F₉ k₁₀ (by simpa using Ne.symm O.i) (by simpa using S₀.n2)
      obtain ⟨n1, n2, n3, bs₁₀, N₁₀, _, _⟩ := S₁₀.full O₁₀
      clear F₉ N₉ S₈
      walk_at "my steps"
      rename Fr _ _ _ _ => F₁₁
      rename News _ _ _ _ => N₁₁
      obtain ⟨k₁₁, S₁₁⟩ := S₁₀.step O₁₀ F₁₁ N₁₁ (fun p hp => .tail _ (.tail _ (.tail _ (.tail _ hp))))
      have TD : TAt _ _ (orderF x) mk := ⟨_, _, News.get N₁₁ (.head _)⟩
      have TL := (N₁₁ _ (.head _)).2.1
      refine append_at (News.get N₁₁ (.tail _ (.tail _ (.tail _ (.head _))))) (hsz := by rw [sizeLine_eq]; simp [List.length_eraseIdx]; simp at hz hTl; split <;> lia) ?_
      intro h₁₂ hs₁₂ hl₁₂
      obtain ⟨qT, qt, qo, qm, qAt⟩ := mkT TD
      obtain ⟨S₁₂, O₁₂, k₁₂⟩ := S₁₁.addT (q := qT) O₁₀ qAt (by rw [qt]; exact TL) hs₁₂ (by rw [← qt] at hl₁₂; simpa using hl₁₂)
      have F₁₂ := Fr.kp F₁₁ k₁₂ (by simpa using Ne.symm O.i) (by simpa using S₀.n2)
      obtain ⟨n1, n2, n3, bs₁₂, N₁₂, _, _⟩ := S₁₂.full O₁₂
      clear F₁₁ N₁₁ S₁₁
      walk_at "my steps"
      have pm := replaceF_perm (fun r : HRec => r.o) r₀ ⟨a, d, C, orderF x, mk⟩ R₀
      have tj : T[j]? = some T[j] := List.getElem?_eq_getElem hj1
      refine h _ _ _ _ (Inv.mk3 S₁₂ hbg pm (replaceF_map (fun r : HRec => r.o) id (fun r : HRec => r.o) (r₀ :: R₀) ⟨a, d, C, orderF x, mk⟩ (fun _ _ => rfl) rfl) ⟨replaceF_heap _ r₀ _ R₀ I.G.heap, inout_perm I.G.perm pm tj (hj2 _ tj) (by unfold pairT pairH; rw [qo, qm]), ?_⟩) ?_
      · intro t ht
        rcases List.mem_append.mp ht with z | z
        · exact I.G.marks t (mem_eraseIdx z)
        · rw [List.mem_singleton.mp z, qm]; exact hmk
      · have := pm.length_eq
        simp at this ⊢; lia
    · subst hq
      rename Fr _ _ _ _ => F₅
      rename News _ _ _ _ => N₅
      obtain ⟨k₅, S₅⟩ := S₄.step O₂ F₅ N₅ (fun p hp => .tail _ (.tail _ (.tail _ (.tail _ hp))))
      have hTl := I.G.len
      have TD : TAt _ _ (orderF x) mk := ⟨_, _, News.get N₅ (.head _)⟩
      have TL := (N₅ _ (.head _)).2.1
      refine append_at (News.get N₅ (.tail _ (.tail _ (.tail _ (.head _))))) (hsz := by rw [sizeLine_eq]; simp; lia) ?_
      intro h₆ hs₆ hl₆
      obtain ⟨qT, qt, qo, qm, qAt⟩ := mkT TD
      have eqT : pairT qT = pairH ⟨a, d, C, orderF x, mk⟩ := by unfold pairT pairH; rw [qo, qm]
      obtain ⟨S₆, O₆, k₆⟩ := S₅.addT (q := qT) O₂ qAt (by rw [qt]; exact TL) hs₆ (by rw [← qt] at hl₆; simpa using hl₆)
      have F₆ := Fr.kp F₅ k₆ (by simpa using Ne.symm O.i) (by simpa using S₀.n2)
      obtain ⟨n1, n2, n3, bs₆, N₆, _, _⟩ := S₆.full O₆
      have mks : ∀ t ∈ T ++ [qT], 0 ≤ t.m ∧ t.m < 100 := by
        intro t ht
        rcases List.mem_append.mp ht with z | z
        · exact I.G.marks t z
        · rw [List.mem_singleton.mp z, qm]; exact hmk
      clear F₅ N₅ S₅
      walk_at "my steps"
      all_goals try (exfalso; lia)
      · rename Fr _ _ _ _ => F₇
        rename News _ _ _ _ => N₇
        obtain ⟨k₇, S₇⟩ := S₆.step O₆ F₇ N₇ (fun p hp => .tail _ (.tail _ (.tail _ hp)))
        refine pushpop_h (q := ⟨a, d, C, orderF x, mk⟩) b' S₇ (Room.mono (Room.deeper hr _) (by decide)) (by lia) (.head _) ?_
        intro h₈ tk₈ S₈ k₈
        have F₈ := Fr.kp F₇ k₈ (by simpa using Ne.symm O.h) (by simpa using S₀.n0)
        obtain ⟨n1, n2, n3, bs₈, N₈, _, _⟩ := S₈.full O₆
        clear F₇ N₇ S₇
        walk_at "my steps"
        rename Fr _ _ _ _ => F₉
        rename News _ _ _ _ => N₉
        refine pushpop_b b' S₈ (Room.mono (Room.deeper hr _) (by decide)) (by simp; lia) ?_
        intro h₁₀ tk₁₀ t₁₀ S₁₀ k₁₀
        have pm := pushpopF_perm (fun r : HRec => r.o) R ⟨a, d, C, orderF x, mk⟩
        have pmin := pushpopF_min (fun r : HRec => r.o) R ⟨a, d, C, orderF x, mk⟩ I.G.heap
        have pmap := pushpopF_map (fun r : HRec => r.o) id (fun r : HRec => r.o) R ⟨a, d, C, orderF x, mk⟩ (fun _ _ => rfl) rfl
        have phs := pushpopF_heap (fun r : HRec => r.o) R ⟨a, d, C, orderF x, mk⟩ I.G.heap
        dsimp only at pmap
        rw [pmap] at S₁₀ ⊢
        generalize pushpopF (fun r : HRec => r.o) R ⟨a, d, C, orderF x, mk⟩ = pp at *
        obtain ⟨e, R'⟩ := pp
        dsimp only at pm pmin phs S₁₀ ⊢
        have jp := join_perm I.G.perm eqT
        have em : e ∈ (⟨a, d, C, orderF x, mk⟩ : HRec) :: R := pm.mem_iff.mp (.head _)
        have F₁₀ := Fr.kp F₉ k₁₀ (by simpa using Ne.symm O.b) (by simpa using S₀.n1)
        obtain ⟨n1, n2, n3, bs₁₀, N₁₀, _, _⟩ := S₁₀.full O₆
        clear F₉ N₉ S₈
        walk_at "my steps"
        rename Fr _ _ _ _ => F₁₁
        rename News _ _ _ _ => N₁₁
        have hin : ∃ t ∈ T ++ [qT], t.o = e.o ∧ t.m = e.m := by
          obtain ⟨t, ht, et⟩ := List.mem_map.mp (jp.mem_iff.mp (List.mem_map.mpr ⟨e, em, rfl⟩))
          exact ⟨t, ht, congrArg Prod.fst et, congrArg Prod.snd et⟩
        have hmin : ∀ t ∈ T ++ [qT], e.o ≤ t.o := by
          intro t ht
          obtain ⟨r, hr', er⟩ := List.mem_map.mp (jp.mem_iff.mpr (List.mem_map.mpr ⟨t, ht, rfl⟩))
          rw [← show r.o = t.o from congrArg Prod.fst er]; exact pmin r hr'
        refine out_spec b' S₁₀.st S₀.n2 (S₁₀.hd e em).1 (News.get N₁₁ (.tail _ (.tail _ (.head _)))) S₁₀.tu (by simp; lia) hin hmin (Room.mono (Room.deeper hr _) (by decide)) ?_
        intro h₁₂ tk₁₂ j n₁₂ hj1 hj2 hl₁₂ k₁₂
        have S₁₂ := S₁₀.set_li k₁₂ ⟨_, hl₁₂⟩ fun t ht => TAt.keeps (S₁₀.tu t (mem_eraseIdx ht)) fun x e => kp_one k₁₂ (let ⟨_, e⟩ := S₁₀.hli; off_listT e (S₁₀.tu t (mem_eraseIdx ht))) e
        have tj : (T ++ [qT])[j]? = some (T ++ [qT])[j] := List.getElem?_eq_getElem hj1
        refine h _ _ _ _ (Inv.mk3 S₁₂ hbg pm rfl ⟨phs, out_perm jp pm tj (hj2 _ tj), fun t ht => mks t (mem_eraseIdx ht)⟩) ?_
        have := pm.length_eq
        simp at this ⊢; lia
      · rename Fr _ _ _ _ => F₇
        rename News _ _ _ _ => N₇
        obtain ⟨k₇, S₇⟩ := S₆.step O₆ F₇ N₇ (fun p hp => .tail _ (.tail _ (.tail _ hp)))
        refine push_h (q := ⟨a, d, C, orderF x, mk⟩) b' S₇ (Room.mono (Room.deeper hr _) (by decide)) (by lia) (.head _) ?_
        intro h₈ tk₈ S₈ k₈
        have F₈ := Fr.kp F₇ k₈ (by simpa using Ne.symm O.h) (by simpa using S₀.n0)
        obtain ⟨n1, n2, n3, bs₈, N₈, _, _⟩ := S₈.full O₆
        clear F₇ N₇ S₇
        walk_at "my steps"
        rename Fr _ _ _ _ => F₉
        rename News _ _ _ _ => N₉
        refine push_b b' S₈ (Room.mono (Room.deeper hr _) (by decide)) (by simp; lia) ?_
        intro h₁₀ tk₁₀ S₁₀ k₁₀
        have F₁₀ := Fr.kp F₉ k₁₀ (by simpa using Ne.symm O.b) (by simpa using S₀.n1)
        obtain ⟨n1, n2, n3, bs₁₀, N₁₀, _, _⟩ := S₁₀.full O₆
        clear F₉ N₉ S₈
        walk_at "my steps"
        have pm := pushF_perm (fun r : HRec => r.o) R ⟨a, d, C, orderF x, mk⟩
        refine h _ _ _ _ (Inv.mk2 S₁₀ hbg pm (pushF_map (fun r : HRec => r.o) id (fun r : HRec => r.o) R ⟨a, d, C, orderF x, mk⟩ (fun _ _ => rfl) rfl) ⟨pushF_heap _ R _ I.G.heap, (pm.map pairH).trans (join_perm I.G.perm eqT), mks⟩) ?_
        have := pm.length_eq
        simp at this ⊢; lia

end
section
section srt
open PyProof.Rows (mirror bubble mirror_size bubble_size mirror_perm bubble_perm getElem?_mirror_all getElem?_bubble)

/-- the key at place i of the plan p -/
def kp (k : Nat → Int) (p : Array Nat) (i : Nat) : Int := k (p.getD i 0)
theorem getD_congr {p q : Array Nat} {i j : Nat} (h : p[i]? = q[j]?) : p.getD i 0 = q.getD j 0 := by
  rw [Array.getD_eq_getD_getElem?, Array.getD_eq_getD_getElem?, h]
theorem kp_mirror (k : Nat → Int) {p : Array Nat} {i j : Nat} (hj : j ≤ p.size) (x : Nat) :
    kp k (kas_rev p i j) x = if i ≤ x ∧ x < j then kp k p (i + j - 1 - x) else kp k p x := by
  have e := getElem?_mirror_all (i := i) hj x
  unfold kp kas_rev
  split
  · rename_i c; rw [if_pos c] at e; rw [getD_congr e]
  · rename_i c; rw [if_neg c] at e; rw [getD_congr e]
theorem kp_bubble (k : Nat → Int) {p : Array Nat} {src d : Nat} (hs : src < p.size) (hd : d ≤ src) (x : Nat) :
    kp k (bubble p src d) x = if x = src - d then kp k p src else if src - d < x ∧ x ≤ src then kp k p (x - 1) else kp k p x := by
  have e := getElem?_bubble hs d hd x
  unfold kp
  by_cases c : x = src - d
  · rw [if_pos c] at e ⊢; exact congrArg k (getD_congr e)
  · rw [if_neg c] at e ⊢
    by_cases c2 : src - d < x ∧ x ≤ src
    · rw [if_pos c2] at e ⊢; exact congrArg k (getD_congr e)
    · rw [if_neg c2] at e ⊢; exact congrArg k (getD_congr e)

/-- a plan: the numbers below n in some order -/
def Plan (n : Nat) (p : Array Nat) : Prop := p.Perm (List.range n).toArray
theorem Plan.size {n : Nat} {p : Array Nat} (h : Plan n p) : p.size = n := by have := Array.Perm.size_eq h; simpa using this
theorem Plan.rev {n : Nat} {p : Array Nat} (h : Plan n p) (i j : Nat) : Plan n (kas_rev p i j) := (mirror_perm p i j _).trans h
theorem Plan.bub {n : Nat} {p : Array Nat} (h : Plan n p) (i j : Nat) : Plan n (bubble p i j) := (bubble_perm p i j).trans h
theorem Plan.lt {n : Nat} {p : Array Nat} (h : Plan n p) (hn : 0 < n) (i : Nat) : p.getD i 0 < n := by
  rw [Array.getD_eq_getD_getElem?]
  cases e : p[i]? with
  | none => simpa using hn
  | some v =>
    have : v ∈ p := Array.mem_of_getElem? e
    have := (Array.Perm.mem_iff h).mp this
    simpa using this

def Asc (k : Nat → Int) (p : Array Nat) (n : Nat) : Prop := ∀ i j, i ≤ j → j < n → kp k p i ≤ kp k p j
def Dsc (k : Nat → Int) (p : Array Nat) (n : Nat) : Prop := ∀ i j, i ≤ j → j < n → kp k p j ≤ kp k p i

variable {cmp : Nat → Nat → (Bool → Shared → Prop) → Shared → Prop} {k : Nat → Int} {n : Nat}

theorem Asc.snoc {p : Array Nat} {a : Nat} (h : Asc k p a) (h1 : 1 ≤ a) (hle : kp k p (a - 1) ≤ kp k p a) : Asc k p (a + 1) := fun i j hij hj => by
  by_cases e : j = a
  · subst e
    by_cases e' : i = j
    · subst e'; exact Int.le_refl _
    · exact Int.le_trans (h i (j - 1) (by lia) (by lia)) hle
  · exact h i j hij (by lia)
theorem Dsc.snoc {p : Array Nat} {a : Nat} (h : Dsc k p a) (h1 : 1 ≤ a) (hle : kp k p a ≤ kp k p (a - 1)) : Dsc k p (a + 1) := fun i j hij hj => by
  by_cases e : j = a
  · subst e
    by_cases e' : i = j
    · subst e'; exact Int.le_refl _
    · exact Int.le_trans hle (h i (j - 1) (by lia) (by lia))
  · exact h i j hij (by lia)
theorem Dsc.congr {p q : Array Nat} {a : Nat} (h : Dsc k p a) (e : ∀ x, kp k q x = kp k p x) : Dsc k q a := fun i j hij hj => by rw [e, e]; exact h i j hij hj
theorem Dsc.rev {p : Array Nat} {a : Nat} (h : Dsc k p a) (ha : a ≤ p.size) : Asc k (kas_rev p 0 a) a := fun i j hij hj => by
  rw [kp_mirror k ha, kp_mirror k ha, if_pos (by lia), if_pos (by lia)]
  exact h _ _ (by lia) (by lia)
theorem rev_same {p : Array Nat} {i j : Nat} (hj : j ≤ p.size) (heq : ∀ x, i ≤ x → x < j → kp k p x = kp k p (j - 1)) (x : Nat) : kp k (kas_rev p i j) x = kp k p x := by
  rw [kp_mirror k hj]
  split
  · rw [heq _ (by lia) (by lia), heq x (by lia) (by lia)]
  · rfl

/-- what is asked is answered by the keys, and nothing changes -/
def Asks (cmp : Nat → Nat → (Bool → Shared → Prop) → Shared → Prop) (k : Nat → Int) (n : Nat) (s : Shared) : Prop := ∀ i j C, i < n → j < n → C (decide (k i < k j)) s → cmp i j C s

theorem ask_at {s : Shared} {p : Array Nat} (hc : Asks cmp k n s) (hp : Plan n p) (hn : 0 < n) {i j : Nat} {C : Bool → Shared → Prop} (h1 : kp k p i < kp k p j → C true s) (h2 : ¬ kp k p i < kp k p j → C false s) : cmp (p.getD i 0) (p.getD j 0) C s := by
  refine hc _ _ _ (hp.lt hn i) (hp.lt hn j) ?_
  by_cases c : kp k p i < kp k p j
  · rw [show decide (k (p.getD i 0) < k (p.getD j 0)) = true from decide_eq_true c]; exact h1 c
  · rw [show decide (k (p.getD i 0) < k (p.getD j 0)) = false from decide_eq_false c]; exact h2 c

theorem asc_wp {s : Shared} {p : Array Nat} (hc : Asks cmp k n s) (hp : Plan n p) (hn : 0 < n) {Q : Nat → Shared → Prop} : ∀ (f a : Nat), 1 ≤ a → a + f ≤ n → Asc k p a →
    (∀ b, a ≤ b → b ≤ a + f → Asc k p b → (b < a + f → kp k p b < kp k p (b - 1)) → Q b s) → (kas_asc p f a).kasWp cmp Q s
  | 0, a, h1, hf, hs, h => h a (Nat.le_refl _) (Nat.le_refl _) hs (fun q => absurd q (by lia))
  | f + 1, a, h1, hf, hs, h => by
    show cmp (p.getD a 0) (p.getD (a - 1) 0) _ s
    refine ask_at hc hp hn (fun c => ?_) (fun c => ?_)
    · exact h a (Nat.le_refl _) (by lia) hs (fun _ => c)
    · exact asc_wp hc hp hn f (a + 1) (by lia) (by lia) (hs.snoc h1 (by lia)) fun b hb1 hb2 hb3 hb4 => h b (by lia) (by lia) hb3 fun q => hb4 (by lia)

theorem desc_wp {s : Shared} (hc : Asks cmp k n s) (hn : 0 < n) {Q : Array Nat × Nat × Nat → Shared → Prop} : ∀ (f : Nat) (p : Array Nat) (a q : Nat), Plan n p → q + 1 ≤ a → a + f ≤ n → Dsc k p a → (∀ x, a - (q + 1) ≤ x → x < a → kp k p x = kp k p (a - 1)) →
    (∀ p' a' q', Plan n p' → a ≤ a' → a' ≤ a + f → q' + 1 ≤ a' → Dsc k p' a' → (∀ x, a' - (q' + 1) ≤ x → x < a' → kp k p' x = kp k p' (a' - 1)) → Q (p', a', q') s) → (kas_desc f p a q).kasWp cmp Q s
  | 0, p, a, q, hp, hq, hf, hd, he, h => h p a q hp (Nat.le_refl _) (Nat.le_refl _) hq hd he
  | f + 1, p, a, q, hp, hq, hf, hd, he, h => by
    have hsz := hp.size
    show cmp (p.getD a 0) (p.getD (a - 1) 0) _ s
    refine ask_at hc hp hn (fun c => ?_) (fun c => ?_)
    · show KasT.kasWp cmp (if q > 0 then kas_desc f (kas_rev p (a - (q + 1)) a) (a + 1) 0 else kas_desc f p (a + 1) 0) Q s
      split
      · have same := rev_same (k := k) (i := a - (q + 1)) (show a ≤ p.size by lia) he
        refine desc_wp hc hn f _ (a + 1) 0 (hp.rev _ _) (by lia) (by lia) ((hd.snoc (by lia) (by lia)).congr same) (fun x h1 h2 => by congr 1; lia) fun p' a' q' z1 z2 z3 z4 z5 z6 => h p' a' q' z1 (by lia) (by lia) z4 z5 z6
      · exact desc_wp hc hn f _ (a + 1) 0 hp (by lia) (by lia) (hd.snoc (by lia) (by lia)) (fun x h1 h2 => by congr 1; lia) fun p' a' q' z1 z2 z3 z4 z5 z6 => h p' a' q' z1 (by lia) (by lia) z4 z5 z6
    · show cmp (p.getD (a - 1) 0) (p.getD a 0) _ s
      refine ask_at hc hp hn (fun c2 => ?_) (fun c2 => ?_)
      · exact h p a q hp (Nat.le_refl _) (by lia) hq hd he
      · have e0 : kp k p a = kp k p (a - 1) := by lia
        refine desc_wp hc hn f p (a + 1) (q + 1) hp (by lia) (by lia) (hd.snoc (by lia) (by lia)) (fun x h1 h2 => ?_) fun p' a' q' z1 z2 z3 z4 z5 z6 => h p' a' q' z1 (by lia) (by lia) z4 z5 z6
        show kp k p x = kp k p (a + 1 - 1)
        rw [show a + 1 - 1 = a by lia]
        by_cases ex : x = a
        · rw [ex]
        · rw [he x (by lia) (by lia), e0]

theorem tail3_wp {s : Shared} {p : Array Nat} (hc : Asks cmp k n s) (hp : Plan n p) (hn : 0 < n) {Q : Nat × Array Nat → Shared → Prop} {a : Nat} (h1 : 1 ≤ a) (ha : a ≤ n) (hd : Dsc k p a)
    (h : ∀ b q, Plan n q → 1 ≤ b → b ≤ n → Asc k q b → Q (b, q) s) : (kas_tail3 a n p).kasWp cmp Q s := by
  unfold kas_tail3
  rw [KasT.kasWp_bind]
  have hsz := hp.size
  exact asc_wp hc (hp.rev 0 a) hn (n - a) a h1 (by lia) (hd.rev (by lia)) fun b hb1 hb2 hb3 _ => h b _ (hp.rev 0 a) (by lia) (by lia) hb3

theorem descPart_wp {s : Shared} {p : Array Nat} (hc : Asks cmp k n s) (hp : Plan n p) (hn : 0 < n) {Q : Nat × Array Nat → Shared → Prop} {a : Nat} (h1 : 1 ≤ a) (ha : a < n) (hd : Dsc k p (a + 1)) 
    (h : ∀ b q, Plan n q → 1 ≤ b → b ≤ n → Asc k q b → Q (b, q) s) : (kas_descPart a n p).kasWp cmp Q s := by
  unfold kas_descPart
  rw [KasT.kasWp_bind]
  refine desc_wp hc hn _ p (a + 1) 0 hp (by lia) (by lia) hd (fun x h1 h2 => by congr 1; lia) fun p' a' q' z1 z2 z3 z4 z5 z6 => ?_
  have hsz := z1.size
  dsimp only
  split
  · have same := rev_same (k := k) (i := a' - (q' + 1)) (show a' ≤ p'.size by lia) z6
    exact tail3_wp hc (z1.rev _ _) hn (by lia) (by lia) (z5.congr same) h
  · exact tail3_wp hc z1 hn (by lia) (by lia) z5 h

theorem count_wp {s : Shared} {p : Array Nat} (hc : Asks cmp k n s) (hp : Plan n p) (hn : 0 < n) {Q : Nat × Array Nat → Shared → Prop}
    (h : ∀ b q, Plan n q → 1 ≤ b → b ≤ n → Asc k q b → Q (b, q) s) : (kas_count n p).kasWp cmp Q s := by
  unfold kas_count
  rw [KasT.kasWp_bind]
  have hsz := hp.size
  refine asc_wp hc hp hn (n - 1) 1 (Nat.le_refl _) (by lia) (fun i j hij hj => by rw [show i = j by lia]; exact Int.le_refl _) fun b hb1 hb2 hb3 hb4 => ?_
  split
  · exact h b p hp hb1 (by lia) hb3
  · rename_i hne
    have hlt : b < n := by
      have : b ≠ n := by simpa using hne
      lia
    have hst := hb4 (by lia)
    split
    · show cmp (p.getD 0 0) (p.getD (b - 1) 0) _ s
      refine ask_at hc hp hn (fun c => ?_) (fun c => ?_)
      · exact h b p hp hb1 (by lia) hb3
      · have eqs : ∀ x, 0 ≤ x → x < b → kp k p x = kp k p (b - 1) := fun x _ hx => by
          have h1 := hb3 0 x (by lia) hx
          have h2 := hb3 x (b - 1) (by lia) (by lia)
          lia
        have same := rev_same (k := k) (i := 0) (show b ≤ p.size by lia) eqs
        refine descPart_wp hc (hp.rev 0 b) hn hb1 hlt ?_ h
        refine Dsc.congr (p := p) (Dsc.snoc (fun i j hij hj => ?_) hb1 (by lia)) same
        rw [eqs i (by lia) (by lia), eqs j (by lia) (by lia)]; exact Int.le_refl _
    · have e1 : b = 1 := by lia
      subst e1
      exact descPart_wp hc hp hn (Nat.le_refl _) hlt (Dsc.snoc (fun i j hij hj => by rw [show i = j by lia]; exact Int.le_refl _) (Nat.le_refl _) (by lia)) h

theorem place_wp {s : Shared} {p : Array Nat} (hc : Asks cmp k n s) (hp : Plan n p) (hn : 0 < n) {Q : Nat → Shared → Prop} {a : Nat} (hs : Asc k p a) : ∀ (f l r : Nat), r - l ≤ f → l ≤ r → r ≤ a →
    (∀ i, i < l → kp k p i ≤ kp k p a) → (∀ i, r ≤ i → i < a → kp k p a < kp k p i) →
    (∀ b, b ≤ a → (∀ i, i < b → kp k p i ≤ kp k p a) → (∀ i, b ≤ i → i < a → kp k p a < kp k p i) → Q b s) → (kas_place p a f l r).kasWp cmp Q s
  | 0, l, r, hf, hlr, hra, h1, h2, h => h l (by lia) h1 fun i hi => h2 i (by lia)
  | f + 1, l, r, hf, hlr, hra, h1, h2, h => by
    unfold kas_place
    split
    · exact h l (by lia) h1 fun i hi => h2 i (by lia)
    · show cmp (p.getD a 0) (p.getD ((l + r) / 2) 0) _ s
      refine ask_at hc hp hn (fun c => ?_) (fun c => ?_)
      · exact place_wp hc hp hn hs f l ((l + r) / 2) (by lia) (by lia) (by lia) h1 (fun i hi1 hi2 => Int.lt_of_lt_of_le c (hs _ _ hi1 hi2)) h
      · refine place_wp hc hp hn hs f ((l + r) / 2 + 1) r (by lia) (by lia) hra (fun i hi => ?_) h2 h
        have := hs i ((l + r) / 2) (by lia) (by lia)
        lia

theorem bin_wp {s : Shared} (hc : Asks cmp k n s) (hn : 0 < n) {Q : Array Nat → Shared → Prop} (h : ∀ q, Plan n q → Asc k q n → Q q s) : ∀ (f : Nat) (p : Array Nat) (a : Nat), Plan n p → a + f = n → Asc k p a → (kas_bin f p a).kasWp cmp Q s
  | 0, p, a, hp, hf, hs => h p hp (by rw [← hf]; exact hs)
  | f + 1, p, a, hp, hf, hs => by
    have hsz := hp.size
    unfold kas_bin
    rw [KasT.kasWp_bind]
    refine place_wp hc hp hn hs a 0 a (by lia) (by lia) (Nat.le_refl _) (fun i hi => absurd hi (by lia)) (fun i h1 h2 => absurd h2 (by lia)) fun b hb h1 h2 => ?_
    refine bin_wp hc hn h f _ (a + 1) (hp.bub _ _) (by lia) fun i j hij hj => ?_
    rw [kp_bubble k (by lia) (by lia), kp_bubble k (by lia) (by lia)]
    have hb' : a - (a - b) = b := by lia
    rw [hb']
    by_cases ei : i = b
    · rw [if_pos ei]
      by_cases ej : j = b
      · rw [if_pos ej]; exact Int.le_refl _
      · rw [if_neg ej, if_pos (by lia)]
        exact Int.le_of_lt (h2 (j - 1) (by lia) (by lia))
    · rw [if_neg ei]
      by_cases ei2 : b < i ∧ i ≤ a
      · rw [if_pos ei2, if_neg (by lia), if_pos (by lia)]
        exact hs _ _ (by lia) (by lia)
      · rw [if_neg ei2]
        by_cases ej : j = b
        · rw [if_pos ej]; exact h1 i (by lia)
        · rw [if_neg ej]
          split
          · exact hs _ _ (by lia) (by lia)
          · exact hs _ _ hij (by lia)

theorem sort_wp {s : Shared} (hc : Asks cmp k n s) (hn : 0 < n) {Q : Array Nat → Shared → Prop} (h : ∀ q, Plan n q → Asc k q n → Q q s) : (kas_sort n).kasWp cmp Q s := by
  unfold kas_sort
  rw [KasT.kasWp_bind]
  refine count_wp hc (Array.Perm.refl _) hn fun b q hq hb1 hb2 hb3 => ?_
  dsimp only
  split
  · rw [show max b 1 = b by lia]
    exact bin_wp hc hn h (n - b) q b hq (by lia) hb3
  · exact h q hq (by rw [show n = b by lia]; exact hb3)
end srt

end
section
section srt2
open PyProof.Rows PySem.Calls
def tkey (t : TRec) : Int := t.o * 100 + t.m
def InM (t : TRec) : Prop := 0 ≤ t.m ∧ t.m < 100
theorem lexB_key {a b : TRec} (ha : InM a) (hb : InM b) : lexB a.o a.m b.o b.m = decide (tkey a < tkey b) := by
  unfold InM at ha hb
  unfold lexB tkey
  split
  · by_cases c : a.m < b.m
    · rw [decide_eq_true c, decide_eq_true (by lia)]
    · rw [decide_eq_false c, decide_eq_false (by lia)]
  · by_cases c : a.o < b.o
    · rw [decide_eq_true c, decide_eq_true (by lia)]
    · rw [decide_eq_false c, decide_eq_false (by lia)]
theorem tkey_inj {a b : TRec} (ha : InM a) (hb : InM b) (e : tkey a = tkey b) : a.o = b.o ∧ a.m = b.m := by
  unfold InM at ha hb
  unfold tkey at e
  constructor <;> lia

theorem keyLt_tup {prog : Program} {A : Around} {E : Value → Shared → Prop} {s : Shared} {t u : Addr} {o m o' m' : Int} {Q : Bool → Shared → Prop} (T : TAt s.heap t o m) (U : TAt s.heap u o' m')
    (h : Q (lexB o m o' m') s) : wpAny (model prog w) A (keyLt' (tuples' true) (.ref t) (.ref u)) Q E s := by
  obtain ⟨a, b, h1⟩ := T
  obtain ⟨a', b', h2⟩ := U
  refine kat_lt (n := 0) (k := 0) h1 rfl h2 rfl ?_
  show KatLex prog w A true (decide (2 < 2)) Q [(.int o a, .int o' a'), (.int m b, .int m' b')] 0 s
  refine kat_cons (wpAny_eqBool_int ?_)
  refine kat_go (fun e => kat_yes ?_) (fun e => kat_no ?_)
  · refine kat_cons (wpAny_eqBool_int ?_)
    have e1 : o = o' := by simpa using e
    refine kat_go (fun e => kat_yes ?_) (fun e => kat_no ?_)
    · have e2 : m = m' := by simpa using e
      refine kat_nil ?_
      rw [show lexB o m o' m' = false by unfold lexB; rw [if_pos e1]; exact decide_eq_false (by lia)] at h
      exact h
    · show wpAny _ _ (oneLt' (true && (0 + 1 == 0)) _ _) _ _ _
      rw [show (true && (0 + 1 == 0)) = false from rfl]
      refine kat_one _ _ (wpAny_lt_int ?_)
      rw [show lexB o m o' m' = decide (m < m') by unfold lexB; rw [if_pos e1]] at h
      exact h
  · have e1 : o ≠ o' := by simpa using e
    show wpAny _ _ (oneLt' (true && (0 == 0)) _ _) _ _ _
    rw [show (true && (0 == 0)) = true from rfl]
    refine oneLt_int ?_
    rw [show lexB o m o' m' = decide (o < o') by unfold lexB; rw [if_neg e1]] at h
    exact h

def t0 : TRec := ⟨0, 0, 0⟩
theorem getD_ref (T : List TRec) {i : Nat} (hi : i < T.length) : (T.map fun r => Value.ref r.t).getD i Value.none = .ref (T.getD i t0).t := by
  simp [List.getD, hi]
theorem getD_memT (T : List TRec) {i : Nat} (hi : i < T.length) : T.getD i t0 ∈ T := by
  simp [List.getD, hi]
theorem katTups {h : Heap} : ∀ (T : List TRec), (∀ r ∈ T, r.At h) → ∃ fs, KatTups h (T.map fun r => Value.ref r.t) fs ∧ fs.length = T.length ∧ ∀ v ∈ fs, ∃ i t, v = .int i t
  | [], _ => ⟨[], KatTups.nil, rfl, fun _ h => nomatch h⟩
  | r :: T, H => by
    obtain ⟨fs, k, l, hv⟩ := katTups T fun q hq => H q (.tail _ hq)
    obtain ⟨a, b, e⟩ := H r (.head _)
    refine ⟨.int r.o a :: fs, KatTups.cons (n := 0) e rfl rfl rfl k, by simp [l], fun v hv' => ?_⟩
    rcases List.mem_cons.mp hv' with rfl | z
    · exact ⟨_, _, rfl⟩
    · exact hv v z
theorem map_range_getD (T : List TRec) : (List.range T.length).map (fun i => T.getD i t0) = T := by
  apply List.ext_getElem
  · simp
  · intro i h1 h2
    simp [List.getD, h2]

/-- the list that a plan makes -/
theorem plan_list {T : List TRec} {p : Array Nat} (hp : Plan T.length p) (hs : Asc (fun i => tkey (T.getD i t0)) p T.length) :
    ∃ T' : List TRec, p.toList.map (fun i => (T.map fun r => Value.ref r.t).getD i Value.none) = T'.map (fun r => Value.ref r.t) ∧ T'.Perm T ∧ T'.Pairwise (fun a b => tkey a ≤ tkey b) := by
  have hl : p.toList.Perm (List.range T.length) := Array.perm_iff_toList_perm.mp hp
  have hsz := hp.size
  refine ⟨p.toList.map fun i => T.getD i t0, ?_, ?_, ?_⟩
  · rw [List.map_map]
    refine List.map_congr_left fun i hi => ?_
    exact getD_ref T (by simpa using hl.mem_iff.mp hi)
  · have := hl.map fun i => T.getD i t0
    rwa [map_range_getD] at this
  · rw [List.pairwise_map, List.pairwise_iff_getElem]
    intro i j hi hj hij
    have := hs i j (by lia) (by simpa [hsz] using hj)
    unfold kp at this
    have e1 : p.getD i 0 = p.toList[i] := by simp at hi; simp [hi]
    have e2 : p.getD j 0 = p.toList[j] := by simp at hj; simp [hj]
    rw [e1, e2] at this
    exact this

variable {prog : Program} {A : Around} {E : Value → Shared → Prop} {s : Shared} {h₀ : Heap} {L : Addr} {m : Str → Option Value} {news : List (Addr × Obj)}

theorem sorted_two {l : Addr} {T : List TRec} {Q : Value → Shared → Prop} {n : Nat} (F : Fr h₀ L s.heap m) (N : News h₀ L s.heap news) (hl : s.heap.get? l = some (W.listOf (T.map fun r => Value.ref r.t).toArray n)) (h2 : 2 ≤ T.length) (h64 : T.length < 64)
    (hT : ∀ h', Fr h₀ L h' m → News h₀ L h' news → ∀ r ∈ T, r.At h') (hM : ∀ t ∈ T, InM t)
    (h : ∀ D (T' : List TRec) c h', Fr h₀ L h' m → News h₀ L h' ((D, W.listOf (T'.map fun r => Value.ref r.t).toArray c) :: news) → T'.Perm T → T'.Pairwise (fun a b => tkey a ≤ tkey b) → (∀ p ∈ news, p.1 ≠ D) → Q (.ref D) { s with heap := h' }) :
    wpAny (model prog w) A (call (.builtin "sorted") [.ref l]) Q E s := by
  refine kat_sorted (vs := T.map fun r => Value.ref r.t) F N (PySem.IsL.isList (n := n) hl) (by simpa using h2) (by simpa using h64) fun D e1 h' F' N' hD => ?_
  have N'' : News h₀ L h' news := fun p hp => N' p (.tail _ hp)
  have T' := hT h' F' N''
  obtain ⟨fs, kt, kl, kv⟩ := katTups T T'
  refine kat_kind (T := .type "int") kt (by lia) (fun v hv => ?_) (by decide) ?_
  · obtain ⟨i, t, rfl⟩ := kv v hv
    exact Looks.of_pure rfl
  · rw [show (Value.type "int" != Value.type "tuple") = true by decide]
    rw [List.length_map]
    refine sort_wp (k := fun i => tkey (T.getD i t0)) (fun i j C hi hj hC => ?_) (by lia) fun q hq hs => ?_
    · unfold kas_ask
      rw [getD_ref T hi, getD_ref T hj]
      refine keyLt_tup (T' _ (getD_memT T hi)) (T' _ (getD_memT T hj)) ?_
      rw [lexB_key (hM _ (getD_memT T hi)) (hM _ (getD_memT T hj))]
      exact hC
    · obtain ⟨Ts, e, pm, pw⟩ := plan_list hq hs
      rw [e]
      refine KasFin.intro F' N' (UpdF.head (fun p hp => Nat.ne_of_lt (hD p hp))) fun h'' c F'' N''' => ?_
      exact h D Ts c h'' F'' N''' pm pw fun p hp => Nat.ne_of_lt (hD p hp)

/-- list.sort of a list of one or none leaves it as it is -/
theorem sort_short {a : Addr} {vs : List Value} {n : Nat} {P : PySem.Fin → Shared → Prop} (ho : s.heap.get? a = some (seqObj "list" vs.toArray n)) (h2 : vs.length < 2)
    (h : ∀ c h', (∀ b o, b ≠ a → s.heap.get? b = some o → h'.get? b = some o) → h'.get? a = some (seqObj "list" vs.toArray c) → P (.done (.ret .none)) { s with heap := h' }) :
    wpAny (model prog w) A (Builtin.«list.sort» ⟨[.ref a], []⟩) P E s := by
  have s2 : vs.toArray.size < 2 := by simpa using h2
  obtain ⟨e1, ho1⟩ : ∃ e1, (s.heap.update a (Obj.mapSeq fun _ => (#[] : Array Value))).get? a = some (seqObj "list" #[] e1) := ⟨_, get?_update_seq ho fun _ => #[]⟩
  have keep1 : ∀ b o, b ≠ a → s.heap.get? b = some o → (s.heap.update a (Obj.mapSeq fun _ => (#[] : Array Value))).get? b = some o := fun b o hb e => (Heap.SameBut.update s.heap a _).extBut b o hb e
  rw [list_sort_plain]
  refine wpAny_bind (listItems_at ho rfl (wpAny_bind (listUpdate_at ho rfl ?_ (by rw [List.size_toArray, sizeLine_eq]; lia) (Nat.zero_le _))))
  refine wpAny_bind (seqEpoch_at ho1 rfl (wpAny_bind (wpAny_newTuple ?_ (by show vs.length ≤ _; rw [sizeLine_eq]; lia))))
  refine wpAny_bind (wpAny_newList (wpAny_holding ?_) (Nat.zero_le _))
  generalize hH : (((s.heap.update a (Obj.mapSeq fun _ => (#[] : Array Value))).push { cls := Value.type "tuple", data := Data.seq vs.toArray.toList.toArray }).push { cls := Value.type "list", data := Data.seq ([] : List Value).toArray }) = H
  have keep2 : ∀ b o, (s.heap.update a (Obj.mapSeq fun _ => (#[] : Array Value))).get? b = some o → H.get? b = some o := fun b o e => hH ▸ Heap.get?_push_of_some _ (Heap.get?_push_of_some _ e)
  have hoH := keep2 _ _ ho1
  dsimp only
  rw [if_pos s2, if_pos s2]
  refine wpAny_bind (wpAny_pure ?_)
  rw [StateT.run_pure]
  refine wpAny_bind (wpAny_pure ?_)
  dsimp only
  have hout : (arrOf (SortSt.mk' general' (vs.toArray.zip vs.toArray) #[] 7 none)).map (·.2) = vs.toArray := by
    show (vs.toArray.zip vs.toArray).map (·.2) = vs.toArray
    apply Array.toList_inj.mp
    simp [List.map_snd_zip]
  rw [hout]
  refine wpAny_bind (seqEpoch_at hoH rfl (wpAny_bind (listUpdate_at hoH rfl ?_ (Nat.zero_le _) (by rw [List.size_toArray, sizeLine_eq]; lia))))
  obtain ⟨c2, hc2⟩ : ∃ c2, (H.update a (Obj.mapSeq fun _ => vs.toArray)).get? a = some (seqObj "list" vs.toArray c2) := ⟨_, get?_update_seq hoH fun _ => vs.toArray⟩
  simp only [bne_self_eq_false, Bool.false_eq_true, if_false]
  exact wpAny_pure (h c2 _ (fun b o hb e => (Heap.SameBut.update H a _).extBut b o hb (keep2 b o (keep1 b o hb e))) hc2)

theorem sorted_short {l : Addr} {vs : List Value} {Q : Value → Shared → Prop} (F : Fr h₀ L s.heap m) (N : News h₀ L s.heap news) (hl : s.heap.IsList l vs.toArray) (h2 : vs.length < 2)
    (h : ∀ D c h', Fr h₀ L h' m → News h₀ L h' ((D, W.listOf vs.toArray c) :: news) → (∀ p ∈ news, p.1 ≠ D) → Q (.ref D) { s with heap := h' }) :
    wpAny (model prog w) A (call (.builtin "sorted") [.ref l]) Q E s := by
  refine Calls.call_function_entry kind_sorted plain_sorted entry_sorted (args_sorted1 _) ?_
  unfold Builtin.«sorted»
  refine wpAny_bind (m := checkCount "sorted" 1 1 _) (wpAny_pure ?_)
  refine wpAny_bind (collect_list hl ?_ (by rw [sizeLine_eq]; lia))
  have keep1 : ∀ b o, s.heap.get? b = some o → ((s.heap.push (seqObj "list" #[] 0)).update s.heap.objs.size (Obj.mapSeq (· ++ vs.toArray))).get? b = some o := fun b o e => by
    rw [Heap.get?_update_ne _ _ _ _ (Nat.ne_of_lt (Heap.lt_size e))]; exact Heap.get?_push_of_some _ e
  generalize (s.heap.push (seqObj "list" #[] 0)).update s.heap.objs.size (Obj.mapSeq (· ++ vs.toArray)) = H at keep1
  refine wpAny_bind (wpAny_newList ?_ (by rw [sizeLine_eq]; lia))
  have keep2 : ∀ b o, s.heap.get? b = some o → (H.push (seqObj "list" vs.toArray 0)).get? b = some o := fun b o e => Heap.get?_push_of_some _ (keep1 b o e)
  have ho : (H.push (seqObj "list" vs.toArray 0)).get? H.objs.size = some (seqObj "list" vs.toArray 0) := Heap.get?_push_size _ rfl
  have F1 : Fr h₀ L H m := F.kept keep1
  have hLt : L < H.objs.size := F1.ns.lt
  show wpAny _ _ _ _ _ { s with heap := H.push (seqObj "list" vs.toArray 0) }
  refine wpAny_bind (wpAny_holding (wpAny_call_entry slot_list_sort ⟨_, ho, rfl⟩ entry_list_sort ?body (args_list_sort _)))
  case body =>
    refine sort_short (s := { s with heap := H.push (seqObj "list" vs.toArray 0) }) ho h2 fun c h' hk hc => ?_
    refine ⟨_, rfl, wpAny_pure ⟨_, rfl, ?_⟩⟩
    have keep3 : ∀ b o, s.heap.get? b = some o → h'.get? b = some o := fun b o e => hk b o (Nat.ne_of_lt (Heap.lt_size (keep1 b o e))) (keep2 b o e)
    refine h H.objs.size c h' (F.kept keep3) (fun p hp => ?_) fun p hp => Nat.ne_of_lt (Heap.lt_size (keep1 _ _ (N p hp).1))
    rcases List.mem_cons.mp hp with rfl | hp
    · exact ⟨hc, Nat.ne_of_gt hLt, Heap.get?_none_of_le (Nat.le_trans F1.above (Nat.le_of_lt hLt))⟩
    · exact N.grown keep3 p hp

/-- sorted of a list of pairs: a rising list of the same -/
theorem sorted_rule {l : Addr} {T : List TRec} {Q : Value → Shared → Prop} {n : Nat} (F : Fr h₀ L s.heap m) (N : News h₀ L s.heap news) (hl : s.heap.get? l = some (W.listOf (T.map fun r => Value.ref r.t).toArray n)) (h64 : T.length < 64)
    (hT : ∀ h', Fr h₀ L h' m → News h₀ L h' news → ∀ r ∈ T, r.At h') (hM : ∀ t ∈ T, InM t)
    (h : ∀ D (T' : List TRec) c h', Fr h₀ L h' m → News h₀ L h' ((D, W.listOf (T'.map fun r => Value.ref r.t).toArray c) :: news) → T'.Perm T → T'.Pairwise (fun a b => tkey a ≤ tkey b) → (∀ p ∈ news, p.1 ≠ D) → Q (.ref D) { s with heap := h' }) :
    wpAny (model prog w) A (call (.builtin "sorted") [.ref l]) Q E s := by
  by_cases h2 : 2 ≤ T.length
  · exact sorted_two F N hl h2 h64 hT hM h
  · refine sorted_short F N (PySem.IsL.isList (n := n) hl) (by simp; lia) fun D c h' F' N' hD => ?_
    refine h D T c h' F' N' (List.Perm.refl _) ?_ hD
    match T, h2 with
    | [], _ => exact List.Pairwise.nil
    | [_], _ => exact List.pairwise_singleton _ _
    | _ :: _ :: _, h2 => simp at h2
end srt2

end
section
open PyProof.Rows PySem.Calls

/-- into a def that has a captured name -/
theorem enterC {A : Around} {s : Shared} {base : Heap} {name qual : Str} {params : Arguments} {body : List Stmt} {scope : Scope} {dV kV doc pm cdv ct oc : Value} {an od : Option Addr} {osl : Array (Option Value)} {f : Addr}
    {args : List Value} {binds : List (Str × Value)} {Q : Value → Shared → Prop} {E : Value → Shared → Prop}
    (b : Bs w mean mg mb base) (hst : ∀ a o, base.get? a = some o → s.heap.get? a = some o)
    (ho : (hd.heap_39 w.params).lookup f = some ⟨oc, od, .func (fnOf name qual params body scope dV kV doc pm an cdv ct), osl⟩) (hcd : codeIn (hd.heap_39 w.params) cdv qual = true) (hroom : A.depth < recursionLimit)
    (hbind : BindsTo s (fnOf name qual params body scope dV kV doc pm an cdv ct) ⟨args, []⟩ binds) (hkind : (binds.all fun y => scope.names.lookup y.1 == some .local || scope.names.lookup y.1 == some .cell) = true)
    (hnd : ((cellsFrom 0 scope.names []).map (·.1)).Nodup)
    (h : ∀ L' h₁ tk cells, Fr s.heap L' h₁ (bindL (envOfC qual scope L' f cdv).kindOf binds fun _ => none) → News s.heap L' h₁ cells →
      CellsAre (bindC (envOfC qual scope L' f cdv).kindOf binds fun _ => none) (cellsFrom (L' + 1) scope.names []) cells → Bs w mean mg mb s.heap →
      wpAny (model rw_nb0130_01.row.prog w) (A.deeper (envOfC qual scope L' f cdv)) (execs body (envOfC qual scope L' f cdv))
        (fun fl s' => Q (match fl with | .ret v => v | _ => .none) s') (fun _ _ => False)
        { s with heap := h₁, toks := tk })
    (hco : scope.isCoroutine = false := by rfl) (hgen : scope.isGenerator = false := by rfl) (hk : scope.kind = .function := by rfl) :
    wpAny (model rw_nb0130_01.row.prog w) A (call (.ref f) args) Q E s := by
  have X := b.X.keeps hst
  refine wpAny_call ?_
  refine codeAny_call_function hroom (X _ _ ho) rfl hco hgen rfl (codeRec_of X hcd) (hbind _ _ _ _ ?_)
  refine wpAny_newFunctionEnv_cells hk (kindsX hkind _) fun env' he s' x => ?_
  subst he
  refine ⟨(b.T.nolimit.keeps hst).keeps x.toInCall.keep, codeAny_func ?_⟩
  obtain ⟨h₁, tk, rfl, _⟩ := x.done
  have hk₁ := x.toInCall.keep
  obtain ⟨cells, NC, Y⟩ := Cl.news (h₀ := s.heap) (Nat.le_refl _) fun n c hm => ⟨x.cell n c (lookup_of_mem_nodup (cellsFrom_names scope.names 0 (s.heap.objs.size + 1) [] [] rfl ▸ hnd) hm), x.above n c hm⟩
  exact wpAny_mono (h s.heap.objs.size h₁ tk cells ⟨x.toInCall.ns, hk₁, Nat.le_refl _⟩ NC Y (b.keeps hst)) (fun _ _ q => q) fun _ _ q => q.elim

theorem ne_ints {A : Around} {E : Value → Shared → Prop} {s : Shared} {a c : Addr} {xs ys : List Value} {n k : Nat} {Q : Value → Shared → Prop} {prog : Program} (ha : s.heap.get? a = some (W.listOf xs.toArray n)) (hb : s.heap.get? c = some (W.listOf ys.toArray k))
    (hx : ∀ v ∈ xs, okI v) (hy : ∀ v ∈ ys, okI v) (e : xs.map keyI = ys.map keyI) (hu : A.units < cLine) (h : Q (.bool false) s) : wpAny (model prog w) A (compareOp .NotEq (.ref a) (.ref c)) Q E s := by
  have hl : xs.length = ys.length := by simpa using congrArg List.length e
  refine PySem.SeqAt.RcNeAt.lists (e := fun _ => true) (PySem.IsL.isList (n := n) ha) (PySem.IsL.isList (n := k) hb) (by simpa using hl) hu (fun j h1 h2 => ?_) prog w E Q ?_
  · have j1 : j < xs.length := by simpa using h1
    have j2 : j < ys.length := by simpa using h2
    obtain ⟨t, e1⟩ := okI_val (hx _ (List.getElem_mem j1))
    obtain ⟨u, e2⟩ := okI_val (hy _ (List.getElem_mem j2))
    have ek : keyI xs[j] = keyI ys[j] := by
      have := congrArg (·[j]?) e
      simpa [j1, j2] using this
    show PySem.SeqAt.EqAt _ _ xs[j] ys[j] true
    rw [e1, e2, ← ek, show true = (keyI xs[j] == keyI xs[j]) by simp]
    exact PySem.SeqAt.EqAt.int_int _ _ _ _
  · rw [show (!(List.range xs.toArray.size).all fun _ => true) = false by simp]
    exact h
theorem ne_tups {A : Around} {E : Value → Shared → Prop} {s : Shared} {a c : Addr} {T T' : List TRec} {n k : Nat} {Q : Value → Shared → Prop} {prog : Program} (ha : s.heap.get? a = some (W.listOf (T.map fun r => Value.ref r.t).toArray n)) (hb : s.heap.get? c = some (W.listOf (T'.map fun r => Value.ref r.t).toArray k))
    (hx : ∀ r ∈ T, r.At s.heap) (hy : ∀ r ∈ T', r.At s.heap) (e : T.map pairT = T'.map pairT) (hu : A.units + 10 < cLine) (h : Q (.bool false) s) : wpAny (model prog w) A (compareOp .NotEq (.ref a) (.ref c)) Q E s := by
  have hl : T.length = T'.length := by simpa using congrArg List.length e
  refine PySem.SeqAt.RcNeAt.lists (e := fun _ => true) (PySem.IsL.isList (n := n) ha) (PySem.IsL.isList (n := k) hb) (by simpa using hl) (by lia) (fun j h1 h2 => ?_) prog w E Q ?_
  · have j1 : j < T.length := by simpa using h1
    have j2 : j < T'.length := by simpa using h2
    have ek : pairT T[j] = pairT T'[j] := by
      have := congrArg (·[j]?) e
      simpa [j1, j2] using this
    have q := eqAt_tup (A := A.in1) (hx _ (List.getElem_mem j1)) (hy _ (List.getElem_mem j2)) (by show A.units + 1 < cLine; lia)
    rw [decide_eq_true ⟨congrArg Prod.fst ek, congrArg Prod.snd ek⟩] at q
    simpa using q
  · rw [show (!(List.range ((T.map fun r => Value.ref r.t).toArray).size).all fun _ => true) = false by simp]
    exact h
theorem eq_nils {A : Around} {E : Value → Shared → Prop} {s : Shared} {a c : Addr} {n k : Nat} {Q : Value → Shared → Prop} {prog : Program} (ha : s.heap.get? a = some (W.listOf #[] n)) (hb : s.heap.get? c = some (W.listOf #[] k))
    (hu : A.units < cLine) (h : Q (.bool true) s) : wpAny (model prog w) A (compareOp .Eq (.ref a) (.ref c)) Q E s :=
  PySem.SeqAt.eq_listAt (e := fun _ => true) (PySem.IsL.isList (n := n) ha) (PySem.IsL.isList (n := k) hb) rfl hu (fun j h1 _ => absurd h1 (by simp)) h

open LCg LCt in
theorem compRest_ind {prog : Program} {A : Around} {h₀ : Heap} {L : Addr} {m : Str → Option Value} {env : Env} {elt : PySem.Expr} {x : Str} {scope : Scope} {cl : List (Str × Addr)} {s : Shared} {S : List (Addr × Obj) → Prop} {P : Nat → Value → Prop} {Fin : List Value → List (Addr × Obj) → Prop} {n : Nat}
    (J : Nat → List Value → List (Addr × Obj) → Prop) (h0 : ∀ ys news, J n ys news → Fin ys news)
    (step : ∀ i ys news, i < n → J i ys news → ∀ v I oI C oC D m₂ h tk (E' : Value → Shared → Prop), P i v → NsObj oC m₂ → m₂ x = some v → Fr h₀ L h m → News h₀ L h ((I, oI) :: (C, oC) :: (D, lst ys) :: news) → Off3 I C D news →
      wpAny (model prog w) A (eval elt (compEnvC scope cl C env)) (fun y s₂ => ∃ h' tk' news', s₂ = { s with heap := h', toks := tk' } ∧ Fr h₀ L h' m ∧ News h₀ L h' ((I, oI) :: (C, oC) :: (D, lst ys) :: news') ∧ Off3 I C D news' ∧ S news' ∧ J (i + 1) (ys ++ [y]) news') E' { s with heap := h, toks := tk }) :
    ∀ (k i : Nat) (ys : List Value) (news : List (Addr × Obj)), i + k = n → J i ys news → CompRest prog w A h₀ L m env elt x scope cl s S P Fin k i ys news
  | 0, i, ys, news, e, j => CompRest.zero (h0 ys news (by rw [← e]; exact j))
  | k + 1, i, ys, news, e, j => CompRest.succ fun v I oI C oC D m₂ h tk E' hP hC hx F N off _ =>
    wpAny_mono (step i ys news (by lia) j v I oI C oC D m₂ h tk E' hP hC hx F N off) (fun y s₂ q => by
      obtain ⟨h', tk', news', e', F', N', off', hS, j'⟩ := q
      exact ⟨h', tk', news', e', F', N', off', hS, compRest_ind J h0 step k (i + 1) _ _ (by lia) j'⟩) fun _ _ q => q

open LCg LCt in
theorem compRestT_ind {prog : Program} {A : Around} {h₀ : Heap} {L : Addr} {m : Str → Option Value} {env : Env} {ct elt : PySem.Expr} {x : Str} {scope : Scope} {cl : List (Str × Addr)} {s : Shared} {S : List (Addr × Obj) → Prop} {P : Nat → Value → Prop} {Fin : List Value → List (Addr × Obj) → Prop} {n : Nat} {ys : List Value} {news : List (Addr × Obj)}
    (h0 : Fin ys news) (hS : S news)
    (step : ∀ i, i < n → ∀ v I oI C oC D m₂ h tk (E' : Value → Shared → Prop), P i v → NsObj oC m₂ → m₂ x = some v → Fr h₀ L h m → News h₀ L h ((I, oI) :: (C, oC) :: (D, lst ys) :: news) → Off3 I C D news →
      wpAny (model prog w) A (isTrue ct (compEnvC scope cl C env) (eval ct (compEnvC scope cl C env))) (fun ok s₂ => ok = false ∧ ∃ h' tk', s₂ = { s with heap := h', toks := tk' } ∧ Fr h₀ L h' m ∧ News h₀ L h' ((I, oI) :: (C, oC) :: (D, lst ys) :: news)) E' { s with heap := h, toks := tk }) :
    ∀ (k i : Nat), i + k = n → CompRestT prog w A h₀ L m env ct elt x scope cl s S P Fin k i ys news
  | 0, i, e => CompRestT.zero h0
  | k + 1, i, e => CompRestT.succ fun v I oI C oC D m₂ h tk E' hP hC hx F N off _ =>
    wpAny_mono (step i (by lia) v I oI C oC D m₂ h tk E' hP hC hx F N off) (fun ok s₂ q => by
      obtain ⟨rfl, h', tk', e', F', N'⟩ := q
      rw [if_neg (by decide)]
      exact ⟨h', tk', news, e', F', N', off, hS, compRestT_ind h0 hS step k (i + 1) (by lia)⟩) fun _ _ q => q

/-- two rising lists of the same pairs are one -/
theorem sorted_same {S₁ S₂ : List TRec} (pm : (S₁.map pairT).Perm (S₂.map pairT)) (w1 : S₁.Pairwise (fun a b => tkey a ≤ tkey b)) (w2 : S₂.Pairwise (fun a b => tkey a ≤ tkey b)) (m1 : ∀ t ∈ S₁, InM t) (m2 : ∀ t ∈ S₂, InM t) : S₁.map pairT = S₂.map pairT := by
  have ek : ∀ S : List TRec, S.map tkey = (S.map pairT).map fun p => p.1 * 100 + p.2 := fun S => by rw [List.map_map]; rfl
  have e : S₁.map tkey = S₂.map tkey := lks_uniq (by rw [ek, ek]; exact pm.map _) (List.pairwise_map.mpr w1) (List.pairwise_map.mpr w2)
  have hl : S₁.length = S₂.length := by simpa using congrArg List.length e
  refine List.ext_getElem (by simpa using hl) fun i h1 h2 => ?_
  have i1 : i < S₁.length := by simpa using h1
  have i2 : i < S₂.length := by simpa using h2
  have e' : tkey S₁[i] = tkey S₂[i] := by
    have := congrArg (·[i]?) e
    simpa [i1, i2] using this
  have q := tkey_inj (m1 _ (List.getElem_mem i1)) (m2 _ (List.getElem_mem i2)) e'
  simp only [List.getElem_map]
  unfold pairT
  rw [q.1, q.2]

theorem bs_at {bs : List Value} {R : List HRec} (hbs : ∀ v ∈ bs, okI v) (hbe : bs.map keyI = R.map (·.o)) {j : Nat} (hj : j < R.length) : ∃ t, bs[j]? = some (.int (kv (fun r : HRec => r.o) R j) t) := by
  have hl : bs.length = R.length := by simpa using congrArg List.length hbe
  have j1 : j < bs.length := by lia
  obtain ⟨t, e⟩ := okI_val (hbs _ (List.getElem_mem j1))
  have ek : keyI bs[j] = R[j].o := by
    have := congrArg (·[j]?) hbe
    simpa [j1, hj] using this
  refine ⟨t, ?_⟩
  rw [List.getElem?_eq_getElem j1, kv_some _ (List.getElem?_eq_getElem hj), ← ek]
  exact congrArg some e

theorem news_rot {g h : Heap} {L : Addr} {a b c d : Addr × Obj} {r : List (Addr × Obj)} (N : News g L h (d :: a :: b :: c :: r)) : News g L h (a :: b :: c :: d :: r) := fun p hp => N p (by
  simp only [List.mem_cons] at hp ⊢
  rcases hp with h | h | h | h | h <;> simp [h])

theorem sound_spec {A : Around} {s : Shared} {base : Heap} {lh lb li : Addr} {R : List HRec} {T : List TRec} {Q E : Value → Shared → Prop}
    (b : Bs w mean mg mb base) (I : Inv base s.heap lh lb li R T) (hz : R.length < 60) (hr : Room A 14)
    (h : ∀ h' tk', (∀ b o, s.heap.get? b = some o → h'.get? b = some o) → Q (.bool true) { s with heap := h', toks := tk' }) :
    wpAny (model rw_nb0130_01.row.prog w) A (call (.ref 164) [.ref lh, .ref lb, .ref li]) Q E s := by
  obtain ⟨ha, dp, fr, gd, un⟩ := A
  obtain rfl : ha = none := Room.hd hr
  refine' enterC (binds := [(Str.ofString "heap", .ref lh), (Str.ofString "bare", .ref lb), (Str.ofString "inside", .ref li)]) b I.S.st ?kho ?kcd ?kroom ?kbind ?kloc ?kD ?_ ?kco ?kgen ?kk
  (case kho => k_is)
  (case kcd => k_is)
  (case kroom => exact Nat.lt_of_le_of_lt (Nat.le_add_right _ _) (Room.depth (by assumption)))
  (case kbind => exact BindsTo.of_eq rfl)
  (case kloc => exact rfl)
  (case kD => decide +kernel)
  (case kco => exact rfl)
  (case kgen => exact rfl)
  (case kk => exact rfl)
  intro L' h' tk' cells' F' N' Y' b'
  obtain ⟨o', hE', d1'⟩ := PyProof.Rows.CellsAre.one Y'
  subst hE'
  clear Y'
  have d1 : o'.data = .cell (some (.ref lb)) := d1'
  clear d1'
  have X' := b'.X
  have T' := b'.T
  (try simp only [List.cons_append, List.nil_append] at N')
  (try dsimp only)
  w_on
  (try k_fold)
  walk_at "my steps"
  refine LCg.Assign_ListComp_U (F₀ := F') rfl (by with_unfolding_all rfl) (by with_unfolding_all rfl) (by decide) (by rfl) (by decide) (by rfl) (by rfl) (by rfl) ?_
  walk_at "my steps"
  obtain ⟨n1, e1⟩ := I.S.hlh
  obtain ⟨n2, bs, e2, hbs, hbe⟩ := I.S.hlb
  obtain ⟨n3, e3⟩ := I.S.hli
  have hIsL : s.heap.IsList lh (R.map fun r => Value.ref r.a).toArray := PySem.IsL.isList (n := n1) e1
  refine LCg.CompSrc.base rfl F' N' hIsL (by rw [sizeLine_eq]; simp; lia) fun gg => compRest_ind (n := R.length) (fun i ys news => ∃ Ts : List TRec, ys = Ts.map (fun r => Value.ref r.t) ∧ Ts.map pairT = (R.take i).map pairH ∧ (∀ t ∈ Ts, ∃ a b, (t.t, ({ cls := .type "tuple", data := .seq #[.int t.o a, .int t.m b] } : Obj)) ∈ news) ∧ (L' + 1, o') ∈ news) ?fin ?step _ 0 _ _ (by simp) ⟨[], rfl, rfl, (fun _ h => nomatch h), .head _⟩
  case step =>
    clear F' N'
    rintro i ys news hi ⟨Ts, rfl, hp, hm, hc⟩ v I₁ oI C₁ oC D₁ m₂ h₁ tk₁ E' hP hC hx F₁ N₁ off₁
    obtain ⟨r, hri⟩ : ∃ r, R[i]? = some r := ⟨_, List.getElem?_eq_getElem hi⟩
    have hrm : r ∈ R := List.mem_of_getElem? hri
    obtain rfl : v = .ref r.a := by
      have : (R.map fun r => Value.ref r.a).toArray[i]? = some v := hP
      simp [hri] at this
      exact this.symm
    walk_at "my steps"
    have G : HdAt s.heap r.a r.d r.C r.o r.m := (I.S.hd r hrm).1
    refine get_order (X'.keeps (Fr.keep (by assumption))) (G.keeps (fun x e => Fr.keep (by assumption) _ _ e) (fun x e => Fr.keep (by assumption) _ _ e)) ?_
    intro t₁
    walk_at "my steps"
    refine get_parent (X'.keeps (Fr.keep (by assumption))) (G.keeps (fun x e => Fr.keep (by assumption) _ _ e) (fun x e => Fr.keep (by assumption) _ _ e)) ?_
    intro t₂
    walk_at "my steps"
    rename Fr _ _ _ _ => F₂
    rename News _ _ _ _ => N₂
    rename_i D₂ h₂ l1
    refine ⟨_, _, (D₂, { cls := .type "tuple", data := .seq #[.int r.o t₁, .int r.m t₂] }) :: news, rfl, F₂, news_rot N₂, ⟨⟨Nat.ne_of_gt l1.1, Nat.ne_of_gt l1.2.1, Nat.ne_of_gt l1.2.2.1⟩, off₁⟩, .inl hIsL, Ts ++ [⟨D₂, r.o, r.m⟩], by simp, ?_, ?_, .tail _ hc⟩
    · rw [List.map_append, hp, List.take_succ, hri]; simp [pairT, pairH]
    · intro t ht
      rcases List.mem_append.mp ht with z | z
      · obtain ⟨a, b, q⟩ := hm t z
        exact ⟨a, b, .tail _ q⟩
      · rw [List.mem_singleton.mp z]; exact ⟨t₁, t₂, .head _⟩
  rintro ys news ⟨Ts, rfl, hp, hm, hc⟩
  rw [List.take_length] at hp
  intro D₁ h₁ tk₁ F₁ N₁ off₁
  clear F' N'
  have hTl : Ts.length = R.length := by simpa using congrArg List.length hp
  walk_at "my steps"
  refine LCg.ListComp_U (F₀ := F₁) (by with_unfolding_all rfl) (by decide) (by rfl) (by decide) (by rfl) ?_
  walk_at "my steps"
  refine LCg.CompSrc.ledger rfl F₁ N₁ (.head _) (by rw [sizeLine_eq]; simp; lia) fun gg => compRest_ind (n := Ts.length) (fun i ys news' => news' = (D₁, LCg.lst (Ts.map fun r => Value.ref r.t)) :: news ∧ (∀ v ∈ ys, okI v) ∧ ys.map keyI = (Ts.take i).map (·.o)) ?fin2 ?step2 _ 0 _ _ (by simp) ⟨rfl, (fun _ h => nomatch h), rfl⟩
  case step2 =>
    rintro i ys news' hi ⟨rfl, hok, hke⟩ v I₁ oI C₁ oC D₂ m₂ h₂ tk₂ E' hP hC hx F₂ N₂ off₂
    clear F₁ N₁
    obtain ⟨r, hri⟩ : ∃ r, Ts[i]? = some r := ⟨_, List.getElem?_eq_getElem hi⟩
    have hrm : r ∈ Ts := List.mem_of_getElem? hri
    obtain rfl : v = .ref r.t := by
      have : (Ts.map fun r => Value.ref r.t).toArray[i]? = some v := hP
      simp [hri] at this
      exact this.symm
    walk_at "my steps"
    obtain ⟨ta, tb, tq⟩ := hm r hrm
    refine tup_item0 (o := r.o) (m := r.m) ⟨ta, tb, News.get N₂ (.tail _ (.tail _ (.tail _ (.tail _ tq))))⟩ ?_
    intro t₁
    walk_at "my steps"
    refine ⟨_, _, _, rfl, F₂, N₂, off₂, .inr ⟨_, .head _, rfl, _, rfl⟩, rfl, ?_, ?_⟩
    · intro v hv
      rcases List.mem_append.mp hv with z | z
      · exact hok v z
      · rw [List.mem_singleton.mp z]; exact ⟨_, _, rfl⟩
    · rw [List.map_append, hke, List.take_succ, hri]; simp [keyI]
  rintro ys news' ⟨rfl, hok, hke⟩
  rw [List.take_length] at hke
  intro D₂ h₂ tk₂ F₂ N₂ off₂
  clear F₁ N₁ off₁
  walk_at "my steps"
  refine nameX_C (c := L' + 1) (o := o') N₂ rfl (.tail _ (.tail _ hc)) d1 ?_
  walk_at "my steps"
  have hun : ∀ env, (Around.deeper { depth := dp, frames := fr, guards := gd, units := un } env).units + 150 < cLine := fun env => by have := (Room.deeper hr env).units; lia
  have hpo : Ts.map (·.o) = R.map (·.o) := by
    have := congrArg (List.map Prod.fst) hp
    simpa [pairT, pairH, Function.comp_def] using this
  refine ne_ints (News.get N₂ (.head _)) (F₂.keep _ _ e2) hok hbs (by rw [hke, hpo, hbe]) (Nat.lt_of_le_of_lt (Nat.le_add_right _ _) (hun _)) ?_
  walk_at "my steps"
  have hTT := I.G.len
  have TsAt : ∀ {hh : Heap} {nn : List (Addr × Obj)}, News s.heap L' hh nn → (∀ p ∈ news, p ∈ nn) → ∀ r ∈ Ts, r.At hh := fun N sub r hr => by
    obtain ⟨a, b, q⟩ := hm r hr
    exact ⟨a, b, News.get N (sub _ q)⟩
  have TAts : ∀ {hh : Heap} {mm : Str → Option Value}, Fr s.heap L' hh mm → ∀ r ∈ T, r.At hh := fun F r hr => TAt.keeps (I.S.tu r hr) fun x e => F.keep _ _ e
  have pmm : (Ts.map pairT).Perm (T.map pairT) := hp ▸ I.G.perm
  have TsM : ∀ t ∈ Ts, InM t := fun t ht => by
    obtain ⟨q, hq, e⟩ := List.mem_map.mp (pmm.mem_iff.mp (List.mem_map.mpr ⟨t, ht, rfl⟩))
    have e' : q.m = t.m := congrArg Prod.snd e
    have := I.G.marks q hq
    unfold InM; lia
  refine sorted_rule (T := Ts) F₂ N₂ (News.get N₂ (.tail _ (.head _))) (by lia) (fun hh F N => TsAt N fun p hp => .tail _ (.tail _ hp)) TsM ?_
  intro D₃ S₁ c₃ h₃ F₃ N₃ pm₁ pw₁ _
  clear F₂ N₂
  walk_at "my steps"
  refine sorted_rule (T := T) F₃ N₃ (F₃.keep _ _ e3) (by lia) (fun hh F N => TAts F) I.G.marks ?_
  intro D₄ S₂ c₄ h₄ F₄ N₄ pm₂ pw₂ _
  clear F₃ N₃
  walk_at "my steps"
  have same : S₁.map pairT = S₂.map pairT := sorted_same ((pm₁.map pairT).trans (pmm.trans (pm₂.map pairT).symm)) pw₁ pw₂ (fun t ht => TsM t (pm₁.mem_iff.mp ht)) fun t ht => I.G.marks t (pm₂.mem_iff.mp ht)
  refine ne_tups (News.get N₄ (.tail _ (.head _))) (News.get N₄ (.head _)) (fun r hr => TsAt N₄ (fun p hp => .tail _ (.tail _ (.tail _ (.tail _ hp)))) r (pm₁.mem_iff.mp hr)) (fun r hr => TAts F₄ r (pm₂.mem_iff.mp hr)) same (Nat.lt_of_le_of_lt (Nat.add_le_add_left (by decide) _) (hun _)) ?_
  walk_at "my steps"
  refine LCt.ListComp_T (F₀ := F₄) (by with_unfolding_all rfl) (by decide) (by rfl) (by decide) (by rfl) ?_
  walk_at "my steps"
  refine nameX_C (c := L' + 1) (o := o') N₄ rfl (.tail _ (.tail _ (.tail _ (.tail _ hc)))) d1 ?_
  walk_at "my steps"
  refine len_rule (F₄.keep _ _ e2) (by have := congrArg List.length hbe; simp at this; lia) ?_
  walk_at "my steps"
  rename Fr _ _ _ _ => F₅
  rename News _ _ _ _ => N₅
  rename IsRange _ _ _ _ _ _ _ _ => hrg
  have hbl : bs.length = R.length := by have := congrArg List.length hbe; simpa using this
  refine LCt.CompSrcT.range (n := bs.length - 1) rfl F₅ N₅ hrg ?sm (by unfold Builtin.Range.rangeSize; split <;> (try split) <;> lia) (by rw [sizeLine_eq]; lia) fun gg => compRestT_ind (n := bs.length - 1) ?fin3 trivial ?step3 _ 0 (by simp)
  case sm =>
    have hf : ∀ i : Int, -2000 ≤ i → i ≤ 2000 → Builtin.Range.rangeFitsLong i = true := fun i h1 h2 => by
      unfold Builtin.Range.rangeFitsLong; simp only [Bool.and_eq_true, decide_eq_true_eq]; lia
    have hsz : Builtin.Range.rangeSize 1 (bs.length : Int) 1 = ((bs.length - 1 : Nat) : Int) := by unfold Builtin.Range.rangeSize; split <;> (try split) <;> lia
    unfold Builtin.Range.small
    rw [hsz, hf 1 (by lia) (by lia), hf bs.length (by lia) (by lia), if_pos (by decide), hf ((bs.length : Int) + (1 - 1)) (by lia) (by lia)]
    simp [hf ((bs.length - 1 : Nat) : Int) (by lia) (by lia)]
  case step3 =>
    intro i hi v I₁ oI C₁ oC D₅ m₂ h₆ tk₆ E' hP hC hx F₆ N₆ off₆
    clear F₅ N₅
    obtain ⟨tv, rfl⟩ := hP
    walk_at "my steps"
    have cm : ∀ {p : Addr × Obj}, p ∈ news → p ∈ (I₁, oI) :: (C₁, oC) :: (D₅, LCg.lst []) :: (D₄, W.listOf (List.map (fun r => Value.ref r.t) S₂).toArray c₄) :: (D₃, W.listOf (List.map (fun r => Value.ref r.t) S₁).toArray c₃) :: (D₂, LCg.lst ys) :: (D₁, LCg.lst (List.map (fun r => Value.ref r.t) Ts)) :: news := fun h => .tail _ (.tail _ (.tail _ (.tail _ (.tail _ (.tail _ (.tail _ h))))))
    obtain ⟨ta, ea⟩ := bs_at hbs hbe (show 1 + i < R.length by lia)
    obtain ⟨tb, eb⟩ := bs_at hbs hbe (show i / 2 < R.length by lia)
    have hheap := I.G.heap (1 + i) (by lia) (by lia) (Nat.zero_le _)
    rw [show (1 + i - 1) / 2 = i / 2 by congr 1; lia] at hheap
    first | refine lcf_cell (c := L' + 1) (o := o') N₆ rfl (cm hc) d1 ?_ rfl rfl | refine lcf_free (c := L' + 1) (o := o') N₆ rfl (cm hc) d1 ?_ rfl rfl
    walk_at "my steps"
    refine item_rule (1 + i) (F₆.keep _ _ e2) (by lia) (by lia) ea ?_
    walk_at "my steps"
    first | refine lcf_cell (c := L' + 1) (o := o') N₆ rfl (cm hc) d1 ?_ rfl rfl | refine lcf_free (c := L' + 1) (o := o') N₆ rfl (cm hc) d1 ?_ rfl rfl
    walk_at "my steps"
    refine item_rule (i / 2) (F₆.keep _ _ e2) (by rw [show (1 + (i : Int) - 1) = (i : Int) by lia, Int.fdiv_eq_ediv_of_nonneg _ (by decide)]; rfl) (by lia) eb ?_
    walk_at "my steps"
    exact ⟨decide_eq_false (by lia), _, _, rfl, F₆, N₆⟩
  intro D₅ h₆ tk₆ F₆ N₆ off₆
  clear F₅ N₅
  walk_at "my steps"
  rename Fr _ _ _ _ => F₇
  rename News _ _ _ _ => N₇
  refine eq_nils (News.get N₇ (.tail _ (.head _))) (News.get N₇ (.head _)) (Nat.lt_of_le_of_lt (Nat.le_add_right _ _) (hun _)) ?_
  walk_at "my steps"
  exact h _ _ fun b o e => Fr.keep F₇ b o e

end
section
/-- the heap less the state's own things that change -/
def restH (h : Heap) (lh lb li : Addr) (R : List HRec) : Heap := hideAll h (lh :: lb :: li :: R.map (·.d))
section
variable {g h h' g₂ : Heap} {lh lb li L x : Addr} {R U : List HRec} {T : List TRec} {os : List Int} {m : Str → Option Value} {o : Obj}
theorem Inv.rest (I : Inv g h lh lb li R T) : Inv (restH h lh lb li R) h lh lb li R T :=
  ⟨{ I.S with
      st := fun a o e => of_hideAll _ e
      n0 := hideAll_none _ (by simp)
      n1 := hideAll_none _ (by simp)
      n2 := hideAll_none _ (by simp)
      hd := fun r hr => ⟨(I.S.hd r hr).1, hideAll_none _ (by simp only [List.mem_cons, List.mem_map]; exact .inr (.inr (.inr ⟨r, hr, rfl⟩)))⟩ }, I.G⟩
theorem Inv.rest_base (I : Inv g h lh lb li R T) : ∀ b o, g.get? b = some o → (restH h lh lb li R).get? b = some o := fun b o e =>
  hideAll_get _ (I.S.st b o e) fun q => by rw [base_none I.S b q] at e; cases e
theorem Inv.rest_off (O : Off x lh lb li R T) (e : h.get? x = some o) : (restH h lh lb li R).get? x = some o :=
  hideAll_get _ e fun q => by
    simp only [List.mem_cons, List.mem_map] at q
    rcases q with q | q | q | ⟨r, hr, q⟩
    · exact O.h q.symm
    · exact O.b q.symm
    · exact O.i q.symm
    · exact O.d r hr q
/-- what lies in the base is none of the state's -/
theorem St.off_base (S : St g₂ h' lh lb li U R os T) (hx : g₂.get? x = some o) (h1 : o.data ≠ .plain) (h2 : ∀ a n, o.data ≠ .seq a n) : Off x lh lb li U T where
  h := by rintro rfl; rw [S.n0] at hx; cases hx
  b := by rintro rfl; rw [S.n1] at hx; cases hx
  i := by rintro rfl; rw [S.n2] at hx; cases hx
  d := fun r hr => by rintro rfl; rw [(S.hd r hr).2] at hx; cases hx
  a := fun r hr => by
    rintro rfl
    have := S.st _ _ hx
    rw [(S.hd r hr).1.obj] at this
    exact h1 (by rw [← Option.some.inj this])
  t := fun t ht => by
    rintro rfl
    obtain ⟨a, b, e⟩ := S.tu t ht
    have := S.st _ _ hx
    rw [e] at this
    exact h2 _ _ (by rw [← Option.some.inj this])
theorem Fr.over (F : Fr g L h m) (hL : ∀ o, h.get? L = some o → h'.get? L = some o) (hk : ∀ b o, g.get? b = some o → h'.get? b = some o) : Fr g L h' m := by
  obtain ⟨o, es, ep, ho, r⟩ := F.ns
  exact ⟨⟨o, es, ep, hL _ ho, r⟩, hk, F.above⟩
theorem Fr.dict (F : Fr g L h m) : ∃ o, h.get? L = some o ∧ o.data ≠ .plain ∧ ∀ a n, o.data ≠ .seq a n := by
  obtain ⟨o, es, ep, ho, hd, _⟩ := F.ns
  exact ⟨o, ho, by rw [hd]; exact (fun q => nomatch q), fun a n => by rw [hd]; exact (fun q => nomatch q)⟩
end

theorem iter_start2 {A : Around} {E : Value → Shared → Prop} {s : Shared} {g : Heap} {lh lb li L : Addr} {U R : List HRec} {os : List Int} {T : List TRec} {m : Str → Option Value} {Q : Value → Shared → Prop} {l : Addr} {items : Array Value} (S : St g s.heap lh lb li U R os T) (F : Fr g L s.heap m) (hl : s.heap.IsList l items)
    (h : ∀ it h₁, Fr g L h₁ m → St g h₁ lh lb li U R os T → Off it lh lb li U T → g.get? it = none → it ≠ L → h₁.IsListIter it l 0 → (∀ b o, s.heap.get? b = some o → h₁.get? b = some o) → Q (.ref it) { s with heap := h₁ }) :
    wpAny (model rw_nb0130_01.row.prog w) A (pyIter (.ref l)) Q E s := by
  refine wpAny_pyIter_list hl ?_
  have hnew := Fr.newAt F
  exact h _ _ (F.push _) (S.grow fun b o e => Heap.get?_push_of_some _ e) (S.off fun b o e => Nat.ne_of_lt (Heap.lt_size e)) hnew.1 hnew.2 ⟨_, Heap.get?_push_size _ rfl, rfl, rfl⟩ fun b o e => Heap.get?_push_of_some _ e

theorem run_spec {A : Around} {s : Shared} {base : Heap} {ln : Addr} {vs : List Value} {n : Nat} {Q E : Value → Shared → Prop}
    (b : Bs w mean mg mb base) (hst : ∀ a o, base.get? a = some o → s.heap.get? a = some o) (hl : s.heap.get? ln = some (W.listOf vs.toArray n)) (hok : ∀ v ∈ vs, okI v) (hz : vs.length < 50) (hr : Room A 16)
    (h : ∀ h' tk', (∀ b o, s.heap.get? b = some o → h'.get? b = some o) → Q (.bool true) { s with heap := h', toks := tk' }) :
    wpAny (model rw_nb0130_01.row.prog w) A (call (.ref 171) [.ref ln]) Q E s := by
  obtain ⟨ha, dp, fr, gd, un⟩ := A
  obtain rfl : ha = none := Room.hd hr
  refine' enter (binds := [(Str.ofString "numbers", .ref ln)]) [] b hst (by simp) ?kho ?kcd ?kroom ?kbind ?kloc ?_ ?kco ?kgen ?kk ?kcell
  walk_at "my enter"
  intro g L' h' F' b' hbg hkg hg0 hh
  have N' : News g L' h' [] := News.nil
  have X' := b'.X
  have T' := b'.T
  have hlg : g.get? ln = some (W.listOf vs.toArray n) := hkg _ _ (by simp) hl
  (try dsimp only)
  w_on
  (try k_fold)
  walk_at "my steps"
  rename Fr _ _ _ _ => F₁
  rename News _ _ _ _ => N₁
  rename_i tka lh ha1 la1 hb1 tkb lb hc1 la2 hd1 tkc li he1 la3 hf1
  have m1 := N₁ _ (.tail _ (.tail _ (.head _)))
  have m2 := N₁ _ (.tail _ (.head _))
  have m3 := N₁ _ (.head _)
  have O₁ : Off L' lh lb li [] [] := ⟨m1.2.1, m2.2.1, m3.2.1, (fun _ h => nomatch h), (fun _ h => nomatch h), (fun _ h => nomatch h)⟩
  have S₁ : St g hf1 lh lb li [] [] [] [] := ⟨F₁.keep, m1.2.2, m2.2.2, m3.2.2, Nat.ne_of_lt la2, Nat.ne_of_lt la3.2, Nat.ne_of_lt la3.1, ⟨0, m1.1⟩, ⟨0, [], m2.1, (fun _ h => nomatch h), rfl⟩, ⟨0, m3.1⟩, (fun _ h => nomatch h), (fun _ h => nomatch h), List.nodup_nil, List.nodup_nil, (fun _ h => nomatch h)⟩
  have G₁ : Good [] [] := ⟨fun k h1 h2 => absurd h2 (by simp), List.Perm.refl _, (fun _ h => nomatch h)⟩
  clear N₁ m1 m2 m3
  obtain ⟨n1, n2, n3, bs, N₂, _, _⟩ := S₁.full O₁
  refine for_head ?_
  walk_at "my steps"
  refine len_rule (F₁.keep _ _ hlg) (by lia) ?_
  walk_at "my steps"
  rename IsRange _ _ _ _ _ _ _ _ => R₃
  rename Fr _ _ _ _ => F₃
  rename News _ _ _ _ => N₃
  obtain ⟨k₃, S₃⟩ := S₁.step O₁ F₃ N₃ (fun p hp => .tail _ (.tail _ (.tail _ hp)))
  refine range_start S₃ F₃ R₃ (by lia) ?_
  intro it h₄ F₄ S₄ P₄ hi0 hiL I₄
  refine for_loop (fun k s' => ∃ h tk m' i R T, s' = { s with heap := h, toks := tk } ∧ k + i = vs.length ∧ Fr g L' h m' ∧ Inv g h lh lb li R T ∧ R.length ≤ i ∧ Off L' lh lb li R T ∧ Off it lh lb li R T ∧ IsRangeIter h it (i : Int) (k : Int) 1 ∧
    m' (Str.ofString "heap") = some (.ref lh) ∧ m' (Str.ofString "bare") = some (.ref lb) ∧ m' (Str.ofString "inside") = some (.ref li) ∧ m' (Str.ofString "numbers") = some (.ref ln)) ?_ vs.length ?_
  rotate_left
  · exact ⟨_, _, _, 0, [], [], rfl, rfl, F₄, ⟨S₄, G₁⟩, Nat.le_refl _, O₁, P₄, I₄, rfl, rfl, rfl, rfl⟩
  clear S₄ I₄ F₄ P₄ S₃ F₃ N₃ S₁ O₁
  rintro k s' ⟨h₅, tk₅, m₅, i, R, T, rfl, hki, F₅, J₅, hRi, O₅, P₅, I₅, e1, e2, e3, e4⟩
  have F₅' := Fr.pins F₅ [(Str.ofString "heap", .ref lh), (Str.ofString "bare", .ref lb), (Str.ofString "inside", .ref li), (Str.ofString "numbers", .ref ln)] (by simp [e1, e2, e3, e4])
  clear F₅ e1 e2 e3 e4
  by_cases hi : i < vs.length
  · obtain ⟨x, tx, hvx⟩ : ∃ x t, vs[i]? = some (.int x t) := by
      obtain ⟨x, t, e⟩ := hok _ (List.getElem_mem hi)
      exact ⟨x, t, by rw [List.getElem?_eq_getElem hi, e]⟩
    refine wpAny_pyNext_range_item I₅ (by lia) ?_
    intro h₆ I₆ hs₆
    have k₆ : Kp [it] h₅ h₆ := fun b o nb e => hs₆.extBut b o (by simpa using nb) e
    have F₆ := Fr.kp F₅' k₆ (by simpa using Ne.symm hiL) (by simpa using hi0)
    have S₆ := J₅.S.kpL P₅ k₆ F₆.keep
    obtain ⟨n1, n2, n3, bs, N₆, _, _⟩ := S₆.full O₅
    clear F₅' I₅
    dsimp only
    refine wpAny_assign_Name ?_
    walk_at "my steps"
    rename Fr _ _ _ _ => F₇
    rename News _ _ _ _ => N₇
    refine item_rule i (F₇.keep _ _ hlg) rfl (by lia) hvx ?_
    walk_at "my steps"
    rename Fr _ _ _ _ => F₈
    rename News _ _ _ _ => N₈
    obtain ⟨k₈, S₈⟩ := S₆.step O₅ F₈ N₈ (fun p hp => .tail _ (.tail _ (.tail _ hp)))
    have I₈ := kp_one k₈ hiL I₆
    have J₈ : Inv g _ lh lb li R T := ⟨S₈, J₅.G⟩
    obtain ⟨oL, hoL, dL1, dL2⟩ := Fr.dict F₈
    have hL₂ := Inv.rest_off O₅ hoL
    have hit₂ := Inv.rest_off P₅ I₈
    refine call_spec (b'.keeps J₈.rest_base) J₈.rest (by lia) ⟨by lia, by lia⟩ (Room.mono (Room.deeper hr _) (by decide)) ?_
    intro h₉ tk₉ R' T₉ J₉ hl₉
    have F₉ := Fr.over (h' := h₉) F₈ (fun o e => by rw [hoL] at e; cases e; exact J₉.S.st _ _ hL₂) (fun b o e => J₉.S.st _ _ (J₈.rest_base b o e))
    have O₉ := J₉.S.off_base hL₂ dL1 dL2
    have P₉ := J₉.S.off_base hit₂ (fun q => nomatch q) (fun _ _ q => nomatch q)
    have I₉ : IsRangeIter h₉ it _ _ 1 := J₉.S.st _ _ hit₂
    have K₉ : Inv g h₉ lh lb li R' T₉ := ⟨J₉.S.weaken J₈.rest_base, J₉.G⟩
    obtain ⟨n1, n2, n3, bs, N₉, _, _⟩ := K₉.S.full O₉
    clear F₈ N₈ S₈ J₉
    walk_at "my steps"
    rename Fr _ _ _ _ => F₁₀
    rename News _ _ _ _ => N₁₀
    obtain ⟨k₁₀, S₁₀⟩ := K₉.S.step O₉ F₁₀ N₁₀ (fun p hp => .tail _ (.tail _ (.tail _ hp)))
    have I₁₀ := kp_one k₁₀ hiL I₉
    have K₁₀ : Inv g _ lh lb li R' T₉ := ⟨S₁₀, K₉.G⟩
    refine sound_spec b' K₁₀ (by lia) (Room.mono (Room.deeper hr _) (by decide)) ?_
    intro h₁₁ tk₁₁ k₁₁
    have F₁₁ := Fr.grownK F₁₀ k₁₁
    have K₁₁ : Inv g h₁₁ lh lb li R' T₉ := ⟨S₁₀.grow k₁₁, K₉.G⟩
    have I₁₁ := k₁₁ _ _ I₁₀
    obtain ⟨n1, n2, n3, bs, N₁₁, _, _⟩ := K₁₁.S.full O₉
    clear F₁₀ N₁₀ S₁₀
    walk_at "my steps"
    refine ⟨k - 1, by lia, _, _, _, i + 1, R', T₉, rfl, by lia, F₁₁, K₁₁, by lia, O₉, P₉, ?_, rfl, rfl, rfl, rfl⟩
    rw [show ((i + 1 : Nat) : Int) = (i : Int) + 1 by lia, show ((k - 1 : Nat) : Int) = (k : Int) - 1 by lia]
    exact I₁₁
  · have hik : i = vs.length := by lia
    subst hik
    refine wpAny_pyNext_range_end rfl I₅ (by lia) ?_
    intro h₆ hx₆
    have k₆ : Kp [it] h₅ h₆ := fun b o nb e => hx₆ b o (by simpa using nb) e
    have F₆ := Fr.kp F₅' k₆ (by simpa using Ne.symm hiL) (by simpa using hi0)
    have S₆ := J₅.S.kpL P₅ k₆ F₆.keep
    have G₆ := J₅.G
    clear F₅' I₅ J₅ P₅ hi hki k₆ hx₆ hiL hi0
    obtain ⟨n1, n2, n3, bs, N₆, _, _⟩ := S₆.full O₅
    dsimp only
    walk_at "my steps"
    refine for_head ?_
    walk_at "my steps"
    rename Fr _ _ _ _ => F₇
    rename News _ _ _ _ => N₇
    have hTl := G₆.len
    refine sorted_rule (T := T) F₇ N₇ (News.get N₇ (.tail _ (.tail _ (.head _)))) (by lia) (fun hh F N => (S₆.step O₅ F N (fun p hp => .tail _ (.tail _ (.tail _ hp)))).2.tu) G₆.marks ?_
    intro D TS c₈ h₈ F₈ N₈ pm pw hDn
    obtain ⟨k₈, S₈⟩ := S₆.step O₅ F₈ N₈ (fun p hp => .tail _ (.tail _ (.tail _ (.tail _ hp))))
    have hD := N₈ _ (.head _)
    clear F₇ N₇ S₆
    walk_at "my steps"
    have hDh : D ≠ lh := Ne.symm (hDn _ (.head _))
    have hDb : D ≠ lb := Ne.symm (hDn _ (.tail _ (.head _)))
    have hDL : D ≠ L' := hD.2.1
    have hTSl : TS.length = R.length := by have := pm.length_eq; lia
    refine iter_start2 S₈ F₈ (PySem.IsL.isList hD.1) ?_
    intro it₂ h₉ F₉ S₉ P₉ hj0 hjL I₉ k₉
    have hD₉ : h₉.get? D = some (W.listOf (TS.map fun r => Value.ref r.t).toArray c₈) := k₉ _ _ hD.1
    refine for_loop (fun k s' => ∃ h tk m' i R', s' = { s with heap := h, toks := tk } ∧ k + i = TS.length ∧ Fr g L' h m' ∧ St g h lh lb li R R' (R'.map (·.o)) T ∧ HeapFrom (fun r : HRec => r.o) 0 R' ∧ (R'.map (·.o)).Perm ((TS.drop i).map (·.o)) ∧
      h.IsListIter it₂ D i ∧ h.get? D = some (W.listOf (TS.map fun r => Value.ref r.t).toArray c₈) ∧ m' (Str.ofString "heap") = some (.ref lh) ∧ m' (Str.ofString "bare") = some (.ref lb)) ?_ TS.length ?_
    rotate_left
    · refine ⟨_, _, _, 0, R, rfl, rfl, F₉, S₉, G₆.heap, ?_, I₉, hD₉, rfl, rfl⟩
      have p1 := (G₆.perm.map Prod.fst).trans ((pm.map pairT).map Prod.fst).symm
      simpa [List.map_map, Function.comp_def, pairH, pairT] using p1
    clear S₉ I₉ F₉ hD₉ S₈ F₈ N₈ hD hDn k₈
    rintro k s' ⟨h₃, tk₃, m₃, i, R₃, rfl, hki, F₃, S₃, H₃, pe₃, I₃, hD₃, e1, e2⟩
    have F₃' := Fr.pins F₃ [(Str.ofString "heap", .ref lh), (Str.ofString "bare", .ref lb)] (by simp [e1, e2])
    clear F₃ e1 e2
    have hDi : D ≠ it₂ := by
      obtain ⟨o, e, hc, _⟩ := I₃
      exact apart hD₃ e (by rw [hc]; show Value.type "list" ≠ Value.type "list_iterator"; decide)
    by_cases hi : i < TS.length
    · obtain ⟨q, hqi⟩ : ∃ q, TS[i]? = some q := ⟨_, List.getElem?_eq_getElem hi⟩
      have hqm : q ∈ T := pm.mem_iff.mp (List.mem_of_getElem? hqi)
      have hdrop : TS.drop i = q :: TS.drop (i + 1) := by
        rw [List.drop_eq_getElem_cons hi]
        congr 1
        rw [List.getElem?_eq_getElem hi] at hqi
        exact Option.some.inj hqi
      rw [hdrop, List.map_cons] at pe₃
      obtain ⟨r₀, R₀, rfl⟩ : ∃ r R', R₃ = r :: R' := by
        cases R₃ with
        | nil => have := pe₃.length_eq; simp at this
        | cons r R => exact ⟨r, R, rfl⟩
      have hr₀ : r₀ ∈ R := S₃.sub r₀ (.head _)
      have heq : q.o = r₀.o := by
        have a1 : q.o ∈ (r₀ :: R₀).map (·.o) := pe₃.mem_iff.mpr (.head _)
        obtain ⟨r, hr', er⟩ := List.mem_map.mp a1
        have a2 := heap_top _ _ rfl H₃ r hr'
        have a3 : r₀.o ∈ q.o :: (TS.drop (i + 1)).map (·.o) := pe₃.mem_iff.mp (List.mem_map.mpr ⟨r₀, .head _, rfl⟩)
        have a4 : q.o ≤ r₀.o := by
          rcases List.mem_cons.mp a3 with e | z
          · lia
          · obtain ⟨t, ht, et⟩ := List.mem_map.mp z
            have pd : (q :: TS.drop (i + 1)).Pairwise (fun a b => tkey a ≤ tkey b) := hdrop ▸ (List.Pairwise.sublist (List.drop_sublist i TS) pw)
            have key := (List.pairwise_cons.mp pd).1 t ht
            have m1 := G₆.marks q hqm
            have m2 := G₆.marks t (pm.mem_iff.mp (List.mem_of_mem_drop ht))
            unfold tkey at key
            lia
        have er' : r.o = q.o := er
        have a2' : r₀.o ≤ r.o := a2
        lia
      have hRl : R₀.length < 100 := by
        have := pe₃.length_eq
        simp at this
        lia
      refine wpAny_pyNext_list_item I₃ (PySem.IsL.isList hD₃) (x := .ref q.t) (by simp [hqi]) ?_
      intro h₄ I₄ hs₄
      have k₄ : Kp [it₂] h₃ h₄ := fun b o nb e => hs₄.extBut b o (by simpa using nb) e
      have F₄ := Fr.kp F₃' k₄ (by simpa using Ne.symm hjL) (by simpa using hj0)
      have S₄ := S₃.kpL P₉ k₄ F₄.keep
      have hD₄ := kp_one k₄ hDi hD₃
      obtain ⟨n1, n2, n3, bs, N₄, _, _⟩ := S₄.full O₅
      clear F₃' S₃ I₃ hD₃
      dsimp only
      refine wpAny_assign_Name ?_
      walk_at "my steps"
      rename Fr _ _ _ _ => F₅
      rename News _ _ _ _ => N₅
      obtain ⟨k₅, S₅⟩ := S₄.step O₅ F₅ N₅ (fun p hp => .tail _ (.tail _ (.tail _ hp)))
      have hD₅ := kp_one k₅ hDL hD₄
      have I₅ := iter_keep I₄ (fun o e => kp_one k₅ hjL e)
      refine pop_h b' S₅ (Room.mono (Room.deeper hr _) (by decide)) (by lia) ?_
      intro h₆ tk₆ S₆ k₆
      have F₆ := Fr.kp F₅ k₆ (by simpa using Ne.symm O₅.h) (by simpa using S₅.n0)
      have hD₆ := kp_one k₆ hDh hD₅
      have I₆ := iter_keep I₅ (fun o e => kp_one k₆ (Ne.symm P₉.h) e)
      obtain ⟨n1, n2, n3, bs₆, N₆, _, _⟩ := S₆.full O₅
      clear F₅ N₅ S₅ I₅ hD₅ S₄ I₄ hD₄
      walk_at "my steps"
      refine get_order (X'.keeps F₆.keep) (S₆.hd r₀ hr₀).1 ?_
      intro t₁
      walk_at "my steps"
      refine tup_item0 (S₆.tu q hqm) ?_
      intro t₂
      walk_at "my steps"
      all_goals try (exfalso; lia)
      rename Fr _ _ _ _ => F₇
      rename News _ _ _ _ => N₇
      refine pop_b (i₀ := r₀.o) (os := R₀.map (·.o)) b' S₆ (Room.mono (Room.deeper hr _) (by decide)) (by simp; lia) ?_
      intro h₈ tk₈ t₈ S₈ k₈
      have F₈ := Fr.kp F₇ k₈ (by simpa using Ne.symm O₅.b) (by simpa using S₆.n1)
      have hD₈ := kp_one k₈ hDb hD₆
      have I₈ := iter_keep I₆ (fun o e => kp_one k₈ (Ne.symm P₉.b) e)
      obtain ⟨n1, n2, n3, bs₈, N₈, _, _⟩ := S₈.full O₅
      clear F₇ N₇ S₆ I₆ hD₆
      walk_at "my steps"
      refine tup_item0 (S₈.tu q hqm) ?_
      intro t₃
      walk_at "my steps"
      all_goals try (exfalso; lia)
      have pp := popF_perm (fun r : HRec => r.o) r₀ R₀
      have pmap := popF_map (fun r : HRec => r.o) id (fun r : HRec => r.o) (r₀ :: R₀) (fun _ _ => rfl)
      refine ⟨k - 1, by lia, _, _, _, i + 1, popF (fun r : HRec => r.o) (r₀ :: R₀), rfl, by lia, F₈, ?_, popF_heap _ _ H₃, ?_, I₈, hD₈, rfl, rfl⟩
      · rw [← pmap]; exact S₈
      · have := (pp.map fun r : HRec => r.o).trans pe₃
        rw [List.map_cons, heq] at this
        exact (List.perm_cons _).mp this
    · have hik : i = TS.length := by lia
      subst hik
      rw [List.drop_length] at pe₃
      obtain rfl : R₃ = [] := by
        cases R₃ with
        | nil => rfl
        | cons r R => have := pe₃.length_eq; simp at this
      refine wpAny_pyNext_list_end rfl I₃ (PySem.IsL.isList hD₃) (by simp) ?_
      intro h₄ hx₄
      have k₄ : Kp [it₂] h₃ h₄ := fun b o nb e => hx₄ b o (by simpa using nb) e
      have F₄ := Fr.kp F₃' k₄ (by simpa using Ne.symm hjL) (by simpa using hj0)
      have S₄ := S₃.kpL P₉ k₄ F₄.keep
      obtain ⟨n1, n2, n3, bs, N₄, hbs, hbe⟩ := S₄.full O₅
      obtain rfl : bs = [] := by simpa using hbe
      clear F₃' S₃ I₃ hD₃
      dsimp only
      walk_at "my steps"
      exact h _ _ fun b o e => F₄.keep b o (hkg b o (by simp) e)

end
end Mine
theorem PySem.Challenge.cw_nb0130_01_holds : PySem.Challenge.rw_nb0130_01.Holds := by
  exact Mine.hd (by
    w_on
    k_go0
    all_goals (try k_fold)
    repeat' (first | (k_unfold; (try dsimp only)) | ((with_reducible first | show wpAny _ _ _ _ _ _ | show ite _ _ _); (fail_if_success with_reducible show wpAny _ _ (call (.ref _) _ _) _ _ _); first | walk1 | (dsimp only; walk1)) | ((with_reducible show And (Frag.In _ _) _); refine ⟨Frag.In.keeps (by assumption) (Fr.keep (by assumption)), ?_⟩) | ((fail_if_success with_reducible show wpAny _ _ _ _ _ _); (fail_if_success with_reducible show Exists _); dsimp only))
    rename Fr _ _ _ _ => F₁
    rename News _ _ _ _ => N₁
    rename Top _ _ _ _ _ _ => T₁
    rename Frag.In _ _ => K₁
    rename IntsAre _ _ => I₁
    refine Mine.run_spec ⟨K₁, T₁⟩ (fun a o e => F₁.keep a o e) (News.get N₁ (.head _)) (fun v hv => IntsAre.all I₁ v hv) (by have := IntsAre.length I₁; simp at this; lia) ⟨rfl, by show 1 + claimMargin + 1 + 16 < recursionLimit; decide +kernel, by show 4 + 3 + 20 * 16 < cLine; decide +kernel⟩ ?_
    intro h' tk' hk
    have F₂ := Fr.grownK F₁ hk
    have N₂ := News.grown N₁ hk
    clear F₁ N₁
    k_steps)
