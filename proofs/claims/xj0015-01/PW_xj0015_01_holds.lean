import PyProof.Rows.All
import Wide.All
import OpenK.AllK
import Wide.FinOn
import KE.KxDecode
import Wide.WTab
import PySem.Challenge.RW_xj0015_01
set_option Elab.async false
set_option rowWalk.seconds 0
set_option linter.all false
section
open PySem PySem.W PyProof.Rows
set_option maxRecDepth 100000
set_option maxHeartbeats 8000000 
namespace Mine
open_top hd for PySem.Challenge.rw_xj0015_01
end Mine
end
section
open PySem PySem.W PySem.Calls PyProof.Rows
namespace Mine
/- a ledger's entries, by place: short proofs -/
noncomputable abbrev Led := List (Addr × Obj)
section
variable {a b c d e f g h x y : Addr × Obj} {l xs ys zs : Led}
theorem mm0 : x ∈ x :: l := .head _
theorem mm1 : x ∈ a :: x :: l := .tail _ (.head _)
theorem mm2 : x ∈ a :: b :: x :: l := .tail _ mm1
theorem mm3 : x ∈ a :: b :: c :: x :: l := .tail _ mm2
theorem mm4 : x ∈ a :: b :: c :: d :: x :: l := .tail _ mm3
theorem mm5 : x ∈ a :: b :: c :: d :: e :: x :: l := .tail _ mm4
theorem mm6 : x ∈ a :: b :: c :: d :: e :: f :: x :: l := .tail _ mm5
theorem mm7 : x ∈ a :: b :: c :: d :: e :: f :: g :: x :: l := .tail _ mm6
theorem mm8 : x ∈ a :: b :: c :: d :: e :: f :: g :: h :: x :: l := .tail _ mm7
theorem mm_t (m : x ∈ l) : x ∈ a :: l := .tail _ m
theorem mm_l (m : x ∈ xs) : x ∈ xs ++ ys := List.mem_append_left _ m
theorem mm_r (m : x ∈ ys) : x ∈ xs ++ ys := List.mem_append_right _ m
noncomputable def Sub (xs ys : Led) : Prop := ∀ q ∈ xs, q ∈ ys
theorem sub_of (m : Sub xs ys) : ∀ q ∈ xs, q ∈ ys := m
theorem sub_mk (m : ∀ q ∈ xs, q ∈ ys) : Sub xs ys := m
theorem sub_refl : Sub xs xs := fun _ m => m
theorem sub_nil : Sub [] ys := fun _ m => nomatch m
theorem sub_cons (m : x ∈ ys) (t : Sub xs ys) : Sub (x :: xs) ys := fun q k => by
  rcases List.mem_cons.mp k with rfl | k
  · exact m
  · exact t q k
theorem sub_app (m : Sub xs zs) (t : Sub ys zs) : Sub (xs ++ ys) zs := fun q k => by
  rcases List.mem_append.mp k with k | k
  · exact m q k
  · exact t q k
theorem sub_t (m : Sub xs ys) : Sub xs (a :: ys) := fun q k => .tail _ (m q k)
theorem sub_l (m : Sub xs ys) : Sub xs (ys ++ zs) := fun q k => List.mem_append_left _ (m q k)
theorem sub_r (m : Sub xs zs) : Sub xs (ys ++ zs) := fun q k => List.mem_append_right _ (m q k)
theorem sub_tail : Sub xs (a :: xs) := fun _ k => .tail _ k
theorem sub_first : Sub xs (xs ++ ys) := fun _ k => List.mem_append_left _ k
theorem sub_last : Sub ys (xs ++ ys) := fun _ k => List.mem_append_right _ k
theorem all_nil {P : Addr × Obj → Prop} : ∀ q ∈ ([] : Led), P q := fun _ m => nomatch m
theorem all_cons {P : Addr × Obj → Prop} (k : P x) (t : ∀ q ∈ xs, P q) : ∀ q ∈ x :: xs, P q := fun q m => by
  rcases List.mem_cons.mp m with rfl | m
  · exact k
  · exact t q m
theorem all_app {P : Addr × Obj → Prop} (k : ∀ q ∈ xs, P q) (t : ∀ q ∈ ys, P q) : ∀ q ∈ xs ++ ys, P q := fun q m => by
  rcases List.mem_append.mp m with m | m
  · exact k q m
  · exact t q m
end
theorem z0 (i : Nat) : (0 + (i : Int)).toNat = i := by rw [Int.zero_add]; rfl
theorem zp (k : Nat) : ((k : Int) - 1).toNat = k - 1 := Int.toNat_sub k 1
theorem zm (k n : Nat) : ((k : Int) - (n : Int)).toNat = k - n := Int.toNat_sub k n
theorem zs (k : Nat) : ((k : Int) + 1).toNat = k + 1 := rfl
theorem z1 (i : Nat) : (1 + (i : Int)).toNat = i + 1 := by rw [Int.add_comm]; rfl
theorem z11 (i : Nat) : (1 + (i : Int) - 1).toNat = i := by lia
theorem lt_add {a b C u X : Nat} (h : u + C < X) (k : a + b ≤ C) : u + a + b < X := by
  rw [Nat.add_assoc]; exact Nat.lt_of_le_of_lt (Nat.add_le_add_left k u) h
theorem six_of {α : Type} : ∀ l : List α, l.length = 6 → ∃ v0 v1 v2 v3 v4 v5, l = [v0, v1, v2, v3, v4, v5]
  | [v0, v1, v2, v3, v4, v5], _ => ⟨_, _, _, _, _, _, rfl⟩
theorem sub3 {a b c : Nat} (h1 : a ≤ b) (h2 : b ≤ c) : c - a = (b - a) + (c - b) := by
  rw [Nat.add_comm]; exact (Nat.sub_add_sub_cancel h2 h1).symm
theorem zn (k : Nat) : ((-1 : Int) + k).toNat = k - 1 := by rw [Int.add_comm]; exact Int.toNat_sub k 1
theorem tl_lt {i : Int} {n : Nat} (h0 : 0 ≤ i) (h : i < n) : i.toNat < n := (Int.toNat_lt h0).mpr h
end Mine
end
section
open PySem PySem.W PySem.Calls PyProof.Rows PyProof.V PySem.Spec
set_option maxRecDepth 100000
namespace Mine
noncomputable abbrev MStr := PySem.Str
/-- own stands above the frame and the ledger -/
noncomputable def Above (L : Addr) (news own : List (Addr × Obj)) : Prop := ∀ q ∈ own, (∀ p ∈ news, p.1 < q.1) ∧ L < q.1
/-- what a call of the def at f with vs gives back: r, with own new objects -/
noncomputable def Ctr (w : World) (p : Program) (loose : List MStr) (mean : ExcName → Option Value) (mg mb : MStr → Option Value) (f : Addr) (vs : List Value) (need : List (Addr × Obj)) (dd uu : Nat) (Post : Value → List (Addr × Obj) → Prop) : Prop :=
  ∀ (dp un : Nat) (gd : Option (List Code)) (cn : MStr) (cs : Scope) (ad : Addr) (ccd : Value) (cl : List (MStr × Addr)) (outer : List Env) (A₀ : Around) (base h₀ : Heap) (L : Addr) (m : MStr → Option Value) (news : List (Addr × Obj)) (s : Shared) (Q E : Value → Shared → Prop),
    Below A₀ base outer h₀ → Fr h₀ L s.heap m → (hd.heap_39 w.params).In h₀ → News h₀ L s.heap news → Top p loose mean mg mb h₀ → cs.kind = .function →
    (∀ q ∈ need, q ∈ news) → dp + dd < recursionLimit → un + uu < cLine →
    (∀ (r : Value) (own : List (Addr × Obj)) (h' : Heap) (tk' : Nat), Fr h₀ L h' m → News h₀ L h' (own ++ news) → Above L news own → Post r own → Q r { s with heap := h', toks := tk' }) →
    wpAny (model PySem.Challenge.rw_xj0015_01.row.prog w) (ktrTop dp un gd cn cs L ad ccd cl outer) (call (.ref f) vs) Q E s
theorem pv {h₀ : Heap} {L : Addr} {m : MStr → Option Value} {news : List (Addr × Obj)} {s : Shared} {Q : Value → Shared → Prop} {V : Tok → Value} (h : ∀ (t : Tok) (h' : Heap) (tk' : Nat), Fr h₀ L h' m → News h₀ L h' news → Q (V t) { s with heap := h', toks := tk' }) :
    ∀ (r : Value) (own : List (Addr × Obj)) (h' : Heap) (tk' : Nat), Fr h₀ L h' m → News h₀ L h' (own ++ news) → Above L news own → (own = [] ∧ ∃ t', r = V t') → Q r { s with heap := h', toks := tk' } := by
  rintro r own h' tk' F N _ ⟨rfl, t, rfl⟩
  exact h t h' tk' F N
/-- a goal that the walk leaves alone -/
noncomputable def Stop (P : Prop) : Prop := P
theorem stop_ {P : Prop} (h : Stop P) : P := h
theorem go_ {P : Prop} (h : P) : Stop P := h

/-- a value up to its token -/
inductive Ab where
  | int (n : Int)
  | str (x : MStr)
  | byt (b : Array UInt8)
  | val (x : Value)
noncomputable def Ab.at : Ab → Tok → Value
  | .int n, t => .int n t
  | .str x, t => .str x t
  | .byt b, t => .bytes b t
  | .val x, _ => x
noncomputable def HasL (m : MStr → Option Value) : List (MStr × Ab) → Prop
  | [] => True
  | p :: r => (∃ t, m p.1 = some (p.2.at t)) ∧ HasL m r
noncomputable def psAt : List (MStr × Ab) → (Nat → Tok) → List (MStr × Value)
  | [], _ => []
  | p :: r, ts => (p.1, p.2.at (ts 0)) :: psAt r fun j => ts (j + 1)
theorem HasL.toks {m : MStr → Option Value} : ∀ {ps : List (MStr × Ab)}, HasL m ps → ∃ ts, (∀ q ∈ psAt ps ts, m q.1 = some q.2) ∧ (psAt ps ts).map (·.1) = ps.map (·.1)
  | [], _ => ⟨fun _ => 0, fun _ h => (nomatch h), rfl⟩
  | p :: r, ⟨⟨t, ht⟩, h⟩ => by
    obtain ⟨ts, h1, h2⟩ := HasL.toks h
    refine ⟨fun j => match j with | 0 => t | j + 1 => ts j, fun q hq => ?_, ?_⟩
    · rcases List.mem_cons.mp hq with rfl | hq
      · exact ht
      · exact h1 q hq
    · show p.1 :: _ = p.1 :: _
      rw [show (psAt r fun j => ts j).map (·.1) = r.map (·.1) from h2]
/-- the frame's map: ps, the stored names, all else as it was -/
noncomputable def Loc (m₀ : MStr → Option Value) (st : List MStr) (ps : List (MStr × Ab)) (m : MStr → Option Value) : Prop :=
  HasL m ps ∧ ∀ z, (∀ p ∈ ps, z ≠ p.1) → st.contains z = false → m z = m₀ z
theorem Loc.fr {h₀ h : Heap} {L : Addr} {m₀ m : MStr → Option Value} {st : List MStr} {ps : List (MStr × Ab)} (l : Loc m₀ st ps m) (F : Fr h₀ L h m) :
    ∃ (ts : Nat → Tok) (u : MStr → Option Value), Fr h₀ L h (kstB (fun z => if st.contains z then u z else m₀ z) (psAt ps ts)) := by
  obtain ⟨ts, h1, h2⟩ := l.1.toks
  refine ⟨ts, m, ?_⟩
  refine ksw_fr h1 (fun z h3 h4 => l.2 z (fun p hp e => ?_) h4) F
  have : p.1 ∈ (psAt ps ts).map (·.1) := by rw [h2]; exact List.mem_map_of_mem hp
  obtain ⟨q, hq, hq2⟩ := List.mem_map.mp this
  exact h3 q hq (e.trans hq2.symm)

inductive WEnd {σ : Type} (h₀ : Heap) (L : Addr) (s : Shared) (Led : σ → List (Addr × Obj)) (ps : σ → List (MStr × Ab)) (st : List MStr) (m₀ : MStr → Option Value) (P : σ → Prop) (μ : σ → Nat) (c : σ) (s₂ : Shared) : Prop
  | mk (c' : σ) (h' : Heap) (tk : Nat) (m' : MStr → Option Value) (news' : List (Addr × Obj)) (k0 : s₂ = { s with heap := h', toks := tk }) (k1 : Fr h₀ L h' m') (k2 : News h₀ L h' news') (k3 : (∀ p ∈ Led c', p ∈ news')) (k4 : Loc m₀ st (ps c') m') (k5 : P c') (k6 : μ c' < μ c) : WEnd h₀ L s Led ps st m₀ P μ c s₂
noncomputable def WPost {σ : Type} (h₀ : Heap) (L : Addr) (s : Shared) (Led : σ → List (Addr × Obj)) (ps : σ → List (MStr × Ab)) (st : List MStr) (m₀ : MStr → Option Value) (P : σ → Prop) (μ : σ → Nat) (Q : Flow → Shared → Prop) (c : σ) (f : Flow) (s₂ : Shared) : Prop :=
  match f with
  | .ret v => Q (.ret v) s₂
  | .brk => Q .next s₂
  | _ => WEnd h₀ L s Led ps st m₀ P μ c s₂
theorem wend {σ : Type} {h₀ : Heap} {L : Addr} {s : Shared} {Led : σ → List (Addr × Obj)} {ps : σ → List (MStr × Ab)} {st : List MStr} {m₀ m' : MStr → Option Value} {P : σ → Prop} {μ : σ → Nat} {c : σ} {h' : Heap} {tk : Nat} {news' : List (Addr × Obj)} (c' : σ)
    (F : Fr h₀ L h' m') (N : News h₀ L h' news') (hn : ∀ p ∈ Led c', p ∈ news') (hk : Loc m₀ st (ps c') m') (hp : P c') (hm : μ c' < μ c) :
    WEnd h₀ L s Led ps st m₀ P μ c { s with heap := h', toks := tk } := ⟨c', h', tk, m', news', rfl, F, N, hn, hk, hp, hm⟩
section
variable {prog : Program} {w : World} {A : Around} {E : Value → Shared → Prop} {Q : Flow → Shared → Prop} {s : Shared} {env : Env} {h₀ : Heap} {L : Addr}
theorem whl {σ : Type} {test : Expr} {body : List Stmt} {pos : Pos} {m₀ : MStr → Option Value} (Led : σ → List (Addr × Obj)) (ps : σ → List (MStr × Ab)) (st : List MStr) (P : σ → Prop) (μ : σ → Nat) (c₀ : σ)
    (F : Fr h₀ L s.heap m₀) (N : News h₀ L s.heap (Led c₀)) (hk : HasL m₀ (ps c₀)) (hp : P c₀)
    (turn : ∀ (c : σ) ts (u : MStr → Option Value) h tk, P c → Fr h₀ L h (kstB (fun z => if st.contains z then u z else m₀ z) (psAt (ps c) ts)) → News h₀ L h (Led c) →
      wpAny (model prog w) A (isTrue test env (eval test env)) (fun b s₂ =>
        if b = true then wpAny (model prog w) A (execs body env) (WPost h₀ L s Led ps st m₀ P μ Q c) E s₂ else Q .next s₂) E { s with heap := h, toks := tk })
    (hE : PassesOwn (model prog w) A env E := by passes_own) :
    wpAny (model prog w) A (exec (.While test body [] pos) env) Q E s := by
  refine While_inv2 (fun n m nx => ∃ c : σ, nx = Led c ∧ μ c = n ∧ Loc m₀ st (ps c) m ∧ P c) F N ⟨c₀, rfl, rfl, ⟨hk, fun _ _ _ => rfl⟩, hp⟩ ?_ hE
  rintro n m₁ nx h tk F₁ N₁ ⟨c, hnx, hsz, h1, hp'⟩
  rw [hnx] at N₁
  rw [← hsz]
  obtain ⟨ts, u, F₂⟩ := h1.fr F₁
  refine wpAny_mono (turn c ts u h tk hp' F₂ N₁) (fun b s₂ p => ?_) fun _ _ x => x
  cases b with
  | false => simpa using p
  | true =>
    simp only [if_true] at p ⊢
    refine wpAny_mono p (fun f s₃ q => ?_) fun _ _ x => x
    cases f with
    | ret v => exact q
    | brk => exact q
    | next =>
      obtain ⟨c', h', tk', m', news', rfl, F', N', hn, hk9, hp9, hm9⟩ := q
      exact ⟨h', tk', m', Led c', μ c', rfl, F', fun p hp => N' p (hn p hp), hm9, c', rfl, rfl, hk9, hp9⟩
    | cont =>
      obtain ⟨c', h', tk', m', news', rfl, F', N', hn, hk9, hp9, hm9⟩ := q
      exact ⟨h', tk', m', Led c', μ c', rfl, F', fun p hp => N' p (hn p hp), hm9, c', rfl, rfl, hk9, hp9⟩
end
inductive WDone {σ : Type} (h₀ : Heap) (L : Addr) (s : Shared) (Led : σ → List (Addr × Obj)) (ps : σ → List (MStr × Ab)) (st : List MStr) (m₀ : MStr → Option Value) (R : σ → Prop) (s₂ : Shared) : Prop
  | mk (c' : σ) (h' : Heap) (tk : Nat) (m' : MStr → Option Value) (news' : List (Addr × Obj)) (k0 : s₂ = { s with heap := h', toks := tk }) (k1 : Fr h₀ L h' m') (k2 : News h₀ L h' news') (k3 : (∀ p ∈ Led c', p ∈ news')) (k4 : Loc m₀ st (ps c') m') (k5 : R c') : WDone h₀ L s Led ps st m₀ R s₂
theorem wdone {σ : Type} {h₀ : Heap} {L : Addr} {s : Shared} {Led : σ → List (Addr × Obj)} {ps : σ → List (MStr × Ab)} {st : List MStr} {m₀ m' : MStr → Option Value} {R : σ → Prop} {h' : Heap} {tk : Nat} {news' : List (Addr × Obj)} (c' : σ)
    (F : Fr h₀ L h' m') (N : News h₀ L h' news') (hn : ∀ p ∈ Led c', p ∈ news') (hk : Loc m₀ st (ps c') m') (hp : R c') :
    WDone h₀ L s Led ps st m₀ R { s with heap := h', toks := tk } := ⟨c', h', tk, m', news', rfl, F, N, hn, hk, hp⟩
section
variable {prog : Program} {w : World} {A : Around} {E : Value → Shared → Prop} {Q : Flow → Shared → Prop} {s : Shared} {env : Env} {h₀ : Heap} {L : Addr}
/-- a while whose two exits are joined -/
theorem whlJ {σ : Type} {test : Expr} {body : List Stmt} {pos : Pos} {m₀ : MStr → Option Value} (Led : σ → List (Addr × Obj)) (ps : σ → List (MStr × Ab)) (st : List MStr) (P : σ → Prop) (μ : σ → Nat) (R : σ → Prop) (c₀ : σ)
    (F : Fr h₀ L s.heap m₀) (N : News h₀ L s.heap (Led c₀)) (hk : HasL m₀ (ps c₀)) (hp : P c₀)
    (turn : ∀ (c : σ) ts (u : MStr → Option Value) h tk, P c → Fr h₀ L h (kstB (fun z => if st.contains z then u z else m₀ z) (psAt (ps c) ts)) → News h₀ L h (Led c) →
      wpAny (model prog w) A (isTrue test env (eval test env)) (fun b s₂ =>
        if b = true then wpAny (model prog w) A (execs body env) (WPost h₀ L s Led ps st m₀ P μ Q c) E s₂ else WDone h₀ L s Led ps st m₀ R s₂) E { s with heap := h, toks := tk })
    (done : ∀ (c : σ) ts (u : MStr → Option Value) h tk, R c → Fr h₀ L h (kstB (fun z => if st.contains z then u z else m₀ z) (psAt (ps c) ts)) → News h₀ L h (Led c) → Q .next { s with heap := h, toks := tk })
    (hE : PassesOwn (model prog w) A env E := by passes_own) :
    wpAny (model prog w) A (exec (.While test body [] pos) env) Q E s := by
  refine whl Led ps st P μ c₀ F N hk hp (fun c ts u h tk hp' F' N' => ?_) hE
  refine wpAny_mono (turn c ts u h tk hp' F' N') (fun b s₂ p => ?_) fun _ _ x => x
  cases b with
  | true => exact p
  | false =>
    obtain ⟨c', h', tk', m', news', rfl, F9, N9, hn, hk9, hp9⟩ := (by simpa using p : WDone h₀ L s Led ps st m₀ R s₂)
    obtain ⟨ts', u', F8⟩ := hk9.fr F9
    simpa using done c' ts' u' h' tk' hp9 F8 fun p hp => N9 p (hn p hp)
end
theorem news_lt {h₀ h : Heap} {L : Addr} {news : List (Addr × Obj)} (N : News h₀ L h news) : ∀ p ∈ news, p.1 < h.objs.size := fun p hp => Heap.lt_size (N p hp).1
theorem own1 {a L : Addr} {o : Obj} {news : List (Addr × Obj)} (h : ∀ p ∈ news, p.1 < a) (l : L < a) : Above L news [(a, o)] := fun q hq => by
  rw [List.mem_singleton.mp hq]; exact ⟨h, l⟩
theorem own0 {L : Addr} {news : List (Addr × Obj)} : Above L news [] := fun _ hq => nomatch hq
/-- a ledger's part that a call leaves alone: it stands in the callee's ground -/
noncomputable def Apart (pre r : List (Addr × Obj)) : Prop := ∀ p ∈ r, ∀ q ∈ pre, p.1 ≠ q.1
theorem apart_of {g h : Heap} {L : Addr} {led r : List (Addr × Obj)} (N : News g L h led) (hr : ∀ p ∈ r, g.get? p.1 = some p.2) : Apart led r := fun p hp q hq e => by
  have := (N q hq).2.2
  rw [← e, hr p hp] at this
  cases this
theorem base_lt {g h : Heap} {L : Addr} {m : MStr → Option Value} {r : List (Addr × Obj)} (F : Fr g L h m) (hr : ∀ p ∈ r, g.get? p.1 = some p.2) : ∀ p ∈ r, p.1 < L := fun p hp => Nat.lt_of_lt_of_le (Heap.lt_size (hr p hp)) F.above
theorem fr_lt {h₀ g h : Heap} {L L' : Addr} {m m' : MStr → Option Value} (F : Fr h₀ L g m) (F' : Fr g L' h m') : L < L' := Nat.lt_of_lt_of_le F.ns.lt F'.above
section
variable {prog : Program} {w : World} {A₀ A : Around} {s : Shared} {base h₀ : Heap} {outer : List Env} {L : Addr} {m : MStr → Option Value} {env : Env} {pre r : List (Addr × Obj)}
  {R : Result → Shared → Prop} {name qual : MStr} {params : Arguments} {body : List Stmt} {scope : Scope} {cl : List (MStr × Addr)} {dV kV doc pm cdv ct : Value} {an : Option Addr} {fo : Obj} {f : Addr} {args : Args} {binds : List (MStr × Value)}
theorem apart_ground (N : News h₀ L s.heap r) (ap : Apart pre r) : ∀ p ∈ r, (hideAll s.heap (pre.map (·.1))).get? p.1 = some p.2 := fun p hp =>
  hideAll_get _ (N p hp).1 fun hm => by
    obtain ⟨q, hq, e⟩ := List.mem_map.mp hm
    exact ap p hp q hq e.symm
/-- what a call hands back beside its own end: the part left alone stands as it stood -/
noncomputable def Also (h₀ : Heap) (L : Addr) (r : List (Addr × Obj)) (R : Result → Shared → Prop) (res : Result) (s' : Shared) : Prop := News h₀ L s'.heap r → R res s'
theorem also_leave {g : Heap} {v : Value} {s' : Shared} (N : News h₀ L s.heap r) (hg : ∀ p ∈ r, g.get? p.1 = some p.2) (h : LeaveK h₀ L m g (Also h₀ L r R) v s') : LeaveK h₀ L m g R v s' := by
  obtain ⟨L', m', news', F', N', k⟩ := h
  exact ⟨L', m', news', F', N', fun F N9 => k F N9 fun p hp => ⟨F'.keep _ _ (hg p hp), (N p hp).2⟩⟩
theorem enterR (B : Below A₀ base outer h₀) (F : Fr h₀ L s.heap m) (N : News h₀ L s.heap pre) (Nr : News h₀ L s.heap r) (ap : Apart pre r) (hlim : h₀.NoLimit) (hA : A.frames = some (env :: outer)) (hf : env.frame = some L) (hke : env.scope.kind = .function)
    (ho : s.heap.get? f = some fo) (hd : fo.data = .func (fnX name qual params body scope cl dV kV doc pm an cdv ct)) (hcd : s.heap.CodeRec cdv qual) (hroom : A.depth < recursionLimit)
    (hbind : BindsTo s (fnX name qual params body scope cl dV kV doc pm an cdv ct) args binds) (hloc : ∀ y ∈ binds, scope.names.lookup y.1 = some .local)
    (h : ∀ g L' h₁, Fr h₀ L g m → Fr g L' h₁ (fun y => binds.reverse.lookup y) → News g L' h₁ pre → Below A base (env :: outer) g → h₀.StaysIn g → (∀ p ∈ r, g.get? p.1 = some p.2) → (∀ p ∈ pre, p.1 < L') →
      wpAny (model prog w) (A.deeper (envX qual scope L' f cdv cl)) (execs body (envX qual scope L' f cdv cl))
        (fun fl s' => LeaveK h₀ L m g (Also h₀ L r R) (match fl with | .ret v => v | _ => .none) s')
        (fun e s' => wpAny (model prog w) (A.deeper (envX qual scope L' f cdv cl)) (leaving (envX qual scope L' f cdv cl) e) (fun _ s'' => R (.error e) s'') (fun e' s'' => R (.error e') s'') s')
        { s with heap := h₁, toks := s.toks + binds.length })
    (hcell : ∀ x ∈ scope.names, x.2 ≠ .cell) (hco : scope.isCoroutine = false := by rfl) (hgen : scope.isGenerator = false := by rfl) (hk : scope.kind = .function := by rfl) : codeAny (model prog w) A (.call (.ref f) args) R s := by
  have hg := apart_ground Nr ap
  obtain ⟨FG, BG, st, lv⟩ := groundX (R := R) B F N hA hf hke
  refine codeAny_call_def (fd := fnX name qual params body scope cl dV kV doc pm an cdv ct) (body := body) (binds := binds) hroom ho hd (hlim.keeps F.keep) hcd rfl hbind hcell hloc (fun h₁ hns hk₁ => ?_) hco hgen hk
  have low : ∀ p ∈ pre, p.1 < s.heap.objs.size := fun p hp => Heap.lt_size (N p hp).1
  refine wpAny_mono (h _ s.heap.objs.size h₁ FG ⟨hns, fun b o e => hk₁ b o (of_hideAll _ e), Nat.le_of_eq (hideAll_size _ _)⟩ (fun p hp => ⟨hk₁ _ _ (N p hp).1, Nat.ne_of_lt (low p hp), hideAll_none _ (List.mem_map_of_mem hp)⟩) BG st hg low) (fun fl s' hl => lv _ _ (also_leave Nr hg hl)) fun _ _ y => y
theorem enterC (B : Below A₀ base outer h₀) (F : Fr h₀ L s.heap m) (N : News h₀ L s.heap pre) (Nr : News h₀ L s.heap r) (ap : Apart pre r) (hlim : h₀.NoLimit) (hA : A.frames = some (env :: outer)) (hf : env.frame = some L) (hke : env.scope.kind = .function)
    (ho : s.heap.get? f = some fo) (hd : fo.data = .func (fnX name qual params body scope [] dV kV doc pm an cdv ct)) (hcd : s.heap.CodeRec cdv qual) (hroom : A.depth < recursionLimit)
    (hbind : BindsTo s (fnX name qual params body scope [] dV kV doc pm an cdv ct) args binds)
    (hkind : ∀ n, ∀ x ∈ binds, scope.names.lookup x.1 = some .local ∨ (scope.names.lookup x.1 = some .cell ∧ ((cellsFrom n scope.names []).lookup x.1).isSome = true))
    (hnd : ((cellsFrom 0 scope.names []).map (·.1)).Nodup)
    (h : ∀ g L' h₁ tk cells, Fr h₀ L g m → Fr g L' h₁ (bindL (envOfC qual scope L' f cdv).kindOf binds fun _ => none) → News g L' h₁ (cells ++ pre) →
      CellsAre (bindC (envOfC qual scope L' f cdv).kindOf binds fun _ => none) (cellsFrom (L' + 1) scope.names []) cells → Below A base (env :: outer) g → h₀.StaysIn g → (∀ p ∈ r, g.get? p.1 = some p.2) → (∀ p ∈ pre, p.1 < L') →
      wpAny (model prog w) (A.deeper (envOfC qual scope L' f cdv)) (execs body (envOfC qual scope L' f cdv))
        (fun fl s' => LeaveK h₀ L m g (Also h₀ L r R) (match fl with | .ret v => v | _ => .none) s')
        (fun e s' => wpAny (model prog w) (A.deeper (envOfC qual scope L' f cdv)) (leaving (envOfC qual scope L' f cdv) e) (fun _ s'' => R (.error e) s'') (fun e' s'' => R (.error e') s'') s')
        { s with heap := h₁, toks := tk })
    (hco : scope.isCoroutine = false := by rfl) (hgen : scope.isGenerator = false := by rfl) (hk : scope.kind = .function := by rfl) : codeAny (model prog w) A (.call (.ref f) args) R s := by
  have hg := apart_ground Nr ap
  obtain ⟨FG, BG, st, lv⟩ := groundX (R := R) B F N hA hf hke
  refine codeAny_call_function hroom ho hd hco hgen rfl hcd (hbind _ _ _ _ ?_)
  refine wpAny_newFunctionEnv_cells hk (hkind _) fun env' he s' x => ?_
  subst he
  refine ⟨(hlim.keeps F.keep).keeps x.toInCall.keep, codeAny_func ?_⟩
  obtain ⟨h₁, tk, rfl, _⟩ := x.done
  have hk₁ := x.toInCall.keep
  obtain ⟨cells, NC, Y⟩ := Cl.news (h₀ := s.heap) (Nat.le_refl _) fun n c hm => ⟨x.cell n c (lookup_of_mem_nodup (cellsFrom_names scope.names 0 (s.heap.objs.size + 1) [] [] rfl ▸ hnd) hm), x.above n c hm⟩
  have low : ∀ p ∈ pre, p.1 < s.heap.objs.size := fun p hp => Heap.lt_size (N p hp).1
  refine wpAny_mono (h _ s.heap.objs.size h₁ tk cells FG ⟨x.toInCall.ns, fun b o e => hk₁ b o (of_hideAll _ e), Nat.le_of_eq (hideAll_size _ _)⟩ (fun p hp => ?_) Y BG st hg low) (fun fl s' hl => lv _ _ (also_leave Nr hg hl)) fun _ _ y => y
  rcases List.mem_append.mp hp with hp | hp
  · refine ⟨(NC p hp).1, (NC p hp).2.1, ?_⟩
    cases q : (hideAll s.heap (pre.map (·.1))).get? p.1 with
    | none => rfl
    | some o => exact absurd ((NC p hp).2.2.symm.trans (of_hideAll _ q)) (by simp)
  · exact ⟨hk₁ _ _ (N p hp).1, Nat.ne_of_lt (low p hp), hideAll_none _ (List.mem_map_of_mem hp)⟩
end
section
variable {prog : Program} {w : World} {A₀ A : Around} {s : Shared} {base h₀ : Heap} {outer : List Env} {L : Addr} {m mg mb : MStr → Option Value} {env : Env} {pre r : List (Addr × Obj)} {K : Frag} {p : Program} {loose : List MStr} {mean : ExcName → Option Value}
  {R : Result → Shared → Prop} {name qual : MStr} {params : Arguments} {body : List Stmt} {scope : Scope} {dV kV doc pm cdv ct oc : Value} {an od : Option Addr} {osl : Array (Option Value)} {f : Addr} {args : Args} {binds : List (MStr × Value)}
theorem enterRK (B : Below A₀ base outer h₀) (F : Fr h₀ L s.heap m) (X₀ : K.In h₀) (N : News h₀ L s.heap pre) (T : Top p loose mean mg mb h₀) (Nr : News h₀ L s.heap r) (ap : Apart pre r) (hA : A.frames = some (env :: outer)) (hf : env.frame = some L) (hke : env.scope.kind = .function)
    (ho : K.lookup f = some ⟨oc, od, .func (fnOf name qual params body scope dV kV doc pm an cdv ct), osl⟩) (hcd : codeIn K cdv qual = true) (hroom : A.depth < recursionLimit)
    (hbind : BindsTo s (fnOf name qual params body scope dV kV doc pm an cdv ct) args binds) (hloc : ∀ y ∈ binds, scope.names.lookup y.1 = some .local)
    (h : ∀ g L' h₁, Fr h₀ L g m → Fr g L' h₁ (fun y => binds.reverse.lookup y) → News g L' h₁ pre → Below A base (env :: outer) g → K.In g → Top p loose mean mg mb g → h₀.StaysIn g → (∀ p ∈ r, g.get? p.1 = some p.2) → (∀ p ∈ pre, p.1 < L') →
      wpAny (model prog w) (A.deeper (envOf qual scope L' f cdv)) (execs body (envOf qual scope L' f cdv))
        (fun fl s' => LeaveK h₀ L m g (Also h₀ L r R) (match fl with | .ret v => v | _ => .none) s')
        (fun e s' => wpAny (model prog w) (A.deeper (envOf qual scope L' f cdv)) (leaving (envOf qual scope L' f cdv) e) (fun _ s'' => R (.error e) s'') (fun e' s'' => R (.error e') s'') s')
        { s with heap := h₁, toks := s.toks + binds.length })
    (hco : scope.isCoroutine = false) (hgen : scope.isGenerator = false) (hk : scope.kind = .function) (hcell : ∀ x ∈ scope.names, x.2 ≠ .cell) : codeAny (model prog w) A (.call (.ref f) args) R s :=
  enterR (cl := []) B F N Nr ap T.nolimit hA hf hke ((X₀.keeps F.keep) _ _ ho) rfl (codeRec_of (X₀.keeps F.keep) hcd) hroom hbind hloc (fun g L' h₁ FG F' N' B' st hr l => h g L' h₁ FG F' N' B' (X₀.keeps st) (T.keeps st) st hr l) hcell hco hgen hk
theorem enterCK (B : Below A₀ base outer h₀) (F : Fr h₀ L s.heap m) (X₀ : K.In h₀) (N : News h₀ L s.heap pre) (T : Top p loose mean mg mb h₀) (Nr : News h₀ L s.heap r) (ap : Apart pre r) (hA : A.frames = some (env :: outer)) (hf : env.frame = some L) (hke : env.scope.kind = .function)
    (ho : K.lookup f = some ⟨oc, od, .func (fnOf name qual params body scope dV kV doc pm an cdv ct), osl⟩) (hcd : codeIn K cdv qual = true) (hroom : A.depth < recursionLimit)
    (hbind : BindsTo s (fnOf name qual params body scope dV kV doc pm an cdv ct) args binds) (hkind : (binds.all fun y => scope.names.lookup y.1 == some .local || scope.names.lookup y.1 == some .cell) = true)
    (hnd : ((cellsFrom 0 scope.names []).map (·.1)).Nodup)
    (h : ∀ g L' h₁ tk cells, Fr h₀ L g m → Fr g L' h₁ (bindL (envOfC qual scope L' f cdv).kindOf binds fun _ => none) → News g L' h₁ (cells ++ pre) →
      CellsAre (bindC (envOfC qual scope L' f cdv).kindOf binds fun _ => none) (cellsFrom (L' + 1) scope.names []) cells → Below A base (env :: outer) g → K.In g → Top p loose mean mg mb g → h₀.StaysIn g → (∀ p ∈ r, g.get? p.1 = some p.2) → (∀ p ∈ pre, p.1 < L') →
      wpAny (model prog w) (A.deeper (envOfC qual scope L' f cdv)) (execs body (envOfC qual scope L' f cdv))
        (fun fl s' => LeaveK h₀ L m g (Also h₀ L r R) (match fl with | .ret v => v | _ => .none) s')
        (fun e s' => wpAny (model prog w) (A.deeper (envOfC qual scope L' f cdv)) (leaving (envOfC qual scope L' f cdv) e) (fun _ s'' => R (.error e) s'') (fun e' s'' => R (.error e') s'') s')
        { s with heap := h₁, toks := tk })
    (hco : scope.isCoroutine = false) (hgen : scope.isGenerator = false) (hk : scope.kind = .function) : codeAny (model prog w) A (.call (.ref f) args) R s :=
  enterC B F N Nr ap T.nolimit hA hf hke ((X₀.keeps F.keep) _ _ ho) rfl (codeRec_of (X₀.keeps F.keep) hcd) hroom hbind (kindsX hkind) hnd (fun g L' h₁ tk cells FG F' N' Y B' st hr l => h g L' h₁ tk cells FG F' N' Y B' (X₀.keeps st) (T.keeps st) st hr l) hco hgen hk
end
/-- the table of a def that makes an inner def: empty, or the inner code object -/
noncomputable def tEnt (P : Addr) (line col : Int) : Option (Addr × Obj) → List (Addr × Obj)
  | none => [(P, tabObj #[])]
  | some (c', oc) => [(P, tabObj #[rawInt line, rawInt col, .ref c']), (c', oc)]
noncomputable def tOk (q : MStr) : Option (Addr × Obj) → Prop
  | none => True
  | some (_, oc) => ∃ vs t, oc.data = .fields vs ∧ vs[1]? = some (.str q t)
section
variable {M : Model} {A : Around} {E : Value → Shared → Prop} {s : Shared} {h₀ : Heap} {L a c P : Addr} {m mg mb : MStr → Option Value} {cn : MStr} {cs : Scope} {ccd : Value} {cl : List (MStr × Addr)} {rest : List (Addr × Obj)}
  {p : Program} {loose : List MStr} {mean : ExcName → Option Value} {name qual : MStr} {params : Arguments} {body : List Stmt} {scope : Scope} {pos : Pos} {firstLine : Nat} {clos : List (MStr × Addr)} {ent : Option (Addr × Obj)}
theorem nestJ {Q : Value → Shared → Prop} (F : Fr h₀ L s.heap m) (N : News h₀ L s.heap (tEnt P pos.line pos.col ent ++ rest)) (T : Top p loose mean mg mb h₀) (C : CodeHd h₀ c P) (hcd : ccd = .ref c) (ap : ∀ q ∈ rest, q.1 ≠ P) (ok : tOk qual ent)
    (hcl : closureFor scope (envX cn cs L a ccd cl) = pure clos)
    (h : ∀ f e ctv doc h' tk, Fr h₀ L h' m → News h₀ L h' ((f, fnMade name qual params body scope clos doc ((mg "__name__").getD .none) e.1 ctv) :: (tEnt P pos.line pos.col (some e) ++ rest)) →
      tOk qual (some e) → (∀ q ∈ rest, q.1 < f) → (ent = some e ∨ ∀ q ∈ rest, q.1 < e.1) → e.1 < f → P < f → Q (.ref f) { s with heap := h', toks := tk }) :
    wpAny M A (makeFunction name qual params (.stmts body) scope (envX cn cs L a ccd cl) [] [] [] pos firstLine) Q E s := by
  cases ent with
  | none =>
    refine nest_K (ps := #[]) (g := fun o' => (P, o') :: rest) F N T C hcd (UpdF.head ap) trivial rfl hcl fun f c' oc vs t ctv doc h' tk F' N' hd hv hl hlf => ?_
    have hP : P < c' := hl _ (List.Mem.head _)
    have hr : ∀ q ∈ rest, q.1 < c' := fun q hq => hl q (List.Mem.tail _ hq)
    refine h f (c', oc) ctv doc h' tk F' (fun q hq => ?_) ⟨vs, t, hd, hv⟩ (fun q hq => Nat.lt_trans (hr q hq) hlf) (.inr hr) hlf (Nat.lt_trans hP hlf)
    refine N' q ?_
    simp only [tEnt, List.mem_cons, List.mem_append, List.not_mem_nil, or_false] at hq ⊢
    rcases hq with h1 | (h1 | h1) | h1
    · exact .inl h1
    · exact .inr (.inr (.inl h1))
    · exact .inr (.inl h1)
    · exact .inr (.inr (.inr h1))
  | some e =>
    obtain ⟨c', oc⟩ := e
    have hP := N (P, tabObj #[rawInt pos.line, rawInt pos.col, .ref c']) (List.Mem.head _)
    have hm : (P, tabObj #[rawInt pos.line, rawInt pos.col, .ref c']) ∈ tEnt P pos.line pos.col (some (c', oc)) ++ rest := List.Mem.head _
    have hc : (c', oc) ∈ tEnt P pos.line pos.col (some (c', oc)) ++ rest := List.Mem.tail _ (List.Mem.head _)
    refine nestHit_K (ps := #[rawInt pos.line, rawInt pos.col, .ref c']) F N T C hcd hm trivial (c' := c') ?_ hcl fun f ctv doc h' tk F' N' hl => ?_
    · show codeAmong pos [rawInt pos.line, rawInt pos.col, .ref c'] = _
      simp [codeAmong, rawInt]
    · exact h f (c', oc) ctv doc h' tk F' N' ok (fun q hq => hl q (List.mem_append_right _ hq)) (.inl rfl) (hl _ hc) (hl _ hm)
end
/-- as Ctr, for a def that keeps an inner code object in a table -/
noncomputable def CtrP (P : Addr) (line col : Int) (q : MStr) (w : World) (p : Program) (loose : List MStr) (mean : ExcName → Option Value) (mg mb : MStr → Option Value) (f : Addr) (vs : List Value) (need : List (Addr × Obj)) (dd uu : Nat) (Post : Value → List (Addr × Obj) → Prop) : Prop :=
  ∀ (dp un : Nat) (gd : Option (List Code)) (cn : MStr) (cs : Scope) (ad : Addr) (ccd : Value) (cl : List (MStr × Addr)) (outer : List Env) (A₀ : Around) (base h₀ : Heap) (L : Addr) (m : MStr → Option Value) (news : List (Addr × Obj)) (ent : Option (Addr × Obj)) (s : Shared) (Q E : Value → Shared → Prop),
    Below A₀ base outer h₀ → Fr h₀ L s.heap m → (hd.heap_39 w.params).In h₀ → News h₀ L s.heap (tEnt P line col ent ++ news) → Apart (tEnt P line col ent) news → tOk q ent → Top p loose mean mg mb h₀ → cs.kind = .function →
    (∀ q ∈ need, q ∈ news) → dp + dd < recursionLimit → un + uu < cLine →
    (∀ (r : Value) (own : List (Addr × Obj)) (e : Addr × Obj) (h' : Heap) (tk' : Nat), Fr h₀ L h' m → News h₀ L h' (own ++ (tEnt P line col (some e) ++ news)) → Apart (tEnt P line col (some e)) (own ++ news) → tOk q (some e) → Above L news own → Post r own → Q r { s with heap := h', toks := tk' }) →
    wpAny (model PySem.Challenge.rw_xj0015_01.row.prog w) (ktrTop dp un gd cn cs L ad ccd cl outer) (call (.ref f) vs) Q E s
theorem pvP {P : Addr} {line col : Int} {q : MStr} {h₀ : Heap} {L : Addr} {m : MStr → Option Value} {news : List (Addr × Obj)} {s : Shared} {Q : Value → Shared → Prop} {V : Tok → Value}
    (h : ∀ (t : Tok) (e : Addr × Obj) (h' : Heap) (tk' : Nat), Fr h₀ L h' m → News h₀ L h' (tEnt P line col (some e) ++ news) → Apart (tEnt P line col (some e)) news → tOk q (some e) → Q (V t) { s with heap := h', toks := tk' }) :
    ∀ (r : Value) (own : List (Addr × Obj)) (e : Addr × Obj) (h' : Heap) (tk' : Nat), Fr h₀ L h' m → News h₀ L h' (own ++ (tEnt P line col (some e) ++ news)) → Apart (tEnt P line col (some e)) (own ++ news) → tOk q (some e) → Above L news own → (own = [] ∧ ∃ t', r = V t') → Q r { s with heap := h', toks := tk' } := by
  rintro r own e h' tk' F N ap ok _ ⟨rfl, t, rfl⟩
  exact h t e h' tk' F N ap ok
theorem pvC {g : Heap} {C L : Addr} {mC : MStr → Option Value} {rest : List (Addr × Obj)} {s : Shared} {Q : Value → Shared → Prop} {V : Tok → Value} {Sv : Obj → Prop}
    (h : ∀ (t : Tok) (h' : Heap) (tk' : Nat) (oL' : Obj), Fr g C h' mC → News g C h' ((L, oL') :: rest) → Sv oL' → Q (V t) { s with heap := h', toks := tk' }) :
    ∀ (r : Value) (own : List (Addr × Obj)) (h' : Heap) (tk' : Nat) (oL' : Obj), Fr g C h' mC → News g C h' ((L, oL') :: (own ++ rest)) → Sv oL' → (∀ q ∈ own, ∀ p ∈ rest, p.1 < q.1) → (own = [] ∧ ∃ t', r = V t') → Q r { s with heap := h', toks := tk' } := by
  rintro r own h' tk' oL' F N sv _ ⟨rfl, t, rfl⟩
  exact h t h' tk' oL' F N sv
theorem pvCP {P : Addr} {line col : Int} {qn : MStr} {g : Heap} {C L : Addr} {oL : Obj} {mC : MStr → Option Value} {rest : List (Addr × Obj)} {s : Shared} {Q : Value → Shared → Prop} {V : Tok → Value} {Sv : Obj → Prop}
    (h : ∀ (t : Tok) (e : Addr × Obj) (h' : Heap) (tk' : Nat) (oL' : Obj), Fr g C h' mC → News g C h' ((L, oL') :: (tEnt P line col (some e) ++ rest)) → Apart (tEnt P line col (some e)) ((L, oL) :: rest) → (∀ q ∈ tEnt P line col (some e), q.1 ≠ C) → tOk qn (some e) → Sv oL' → Q (V t) { s with heap := h', toks := tk' }) :
    ∀ (r : Value) (own : List (Addr × Obj)) (e : Addr × Obj) (h' : Heap) (tk' : Nat) (oL' : Obj), Fr g C h' mC → News g C h' ((L, oL') :: (own ++ (tEnt P line col (some e) ++ rest))) → Apart (tEnt P line col (some e)) ((L, oL) :: (own ++ rest)) → (∀ q ∈ tEnt P line col (some e), q.1 ≠ C) → tOk qn (some e) → Sv oL' → (∀ q ∈ own, ∀ p ∈ rest, p.1 < q.1) → (own = [] ∧ ∃ t', r = V t') → Q r { s with heap := h', toks := tk' } := by
  rintro r own e h' tk' oL' F N ap hC ok sv _ ⟨rfl, t, rfl⟩
  exact h t e h' tk' oL' F N ap hC ok sv
end Mine
end
section
open PySem PySem.Calls PyProof.Rows PySem.Builtin.Str
namespace Mine
/-- a text by its signs' numbers -/
noncomputable abbrev tx (l : List Nat) : PySem.Str := ⟨l.toArray⟩
theorem tx_len (l : List Nat) : (tx l).length = l.length := by simp [PySem.Str.length, tx]
theorem tx_eq {a b : List Nat} (h : tx a = tx b) : a = b := by
  have := congrArg (fun s => s.cps.toList) h
  simpa using this
theorem tx_of (x : PySem.Str) : x = tx x.cps.toList := by cases x; rfl
theorem item_tx (l : List Nat) (i : Int) (h0 : 0 ≤ i) (h1 : i < l.length) : Txt.item (tx l) i = tx [l.getD i.toNat 0] := by
  have e : seqIndex? i (tx l).length = some i.toNat := by
    unfold seqIndex?
    rw [tx_len]
    have : ¬ i < 0 := Int.not_lt.mpr h0
    simp only [this, if_false]
    simp [h0, h1]
  unfold Txt.item Txt.charAt
  rw [e]
  have hi : i.toNat < l.length := (Int.toNat_lt h0).mpr h1
  simp [tx, hi]
theorem range_pick (l : List Nat) : ∀ (n i : Nat), i + n ≤ l.length → ((List.range n).map fun k => i + k).filterMap (fun k => l[k]?) = (l.drop i).take n := by
  intro n
  induction n with
  | zero => intro i _; simp
  | succ n ih =>
    intro i h
    rw [List.range_succ, List.map_append, List.filterMap_append, ih i (by lia)]
    have hi : i + n < l.length := by lia
    simp only [List.map_cons, List.map_nil, List.filterMap_cons, List.getElem?_eq_getElem hi, List.filterMap_nil]
    rw [List.take_add_one]
    simp [hi]
theorem slice_tx (l : List Nat) (i j : Int) (h0 : 0 ≤ i) (h1 : i ≤ j) (h2 : j ≤ l.length) : Txt.slice (tx l) (some i) (some j) = tx ((l.drop i.toNat).take (j - i).toNat) := by
  have e : strSliceIndices (some i) (some j) 1 (tx l).length = (List.range (j - i).toNat).map fun k => i.toNat + k := by
    unfold strSliceIndices sliceRange
    rw [tx_len]
    have a1 : ¬ i < 0 := by lia
    have a2 : ¬ j < 0 := by lia
    simp only [a1, a2, if_false, show (1 : Int) > 0 by decide, if_true]
    have b1 : max 0 (min i (l.length : Int)) = i := by lia
    have b2 : max 0 (min j (l.length : Int)) = j := by lia
    rw [b1, b2]
    by_cases c : i < j
    · rw [if_pos c]
      have : (j - i + 1 - 1) / 1 = j - i := by simp
      rw [this]
      apply List.map_congr_left
      intro k _
      lia
    · rw [if_neg c]
      have : (j - i).toNat = 0 := by lia
      rw [this]; simp
  have q := range_pick l (j - i).toNat i.toNat (by lia)
  unfold Txt.slice
  rw [e, tx_len]
  split
  · rename_i hc
    simp at hc
    have : i.toNat = 0 := by lia
    have h3 : (j - i).toNat = l.length := by lia
    rw [this, h3]; simp
  · show (⟨_⟩ : PySem.Str) = ⟨_⟩
    congr 1
    rw [← q]
    simp [tx]
end Mine
end
section
open PySem PySem.W PySem.Calls PyProof.Rows
namespace Mine
/-- bytes by their numbers -/
noncomputable def byt (l : List Nat) : Array UInt8 := (l.map UInt8.ofNat).toArray
theorem byt_append (a b : List Nat) : byt a ++ byt b = byt (a ++ b) := by simp [byt]
theorem byt_size (a : List Nat) : (byt a).size = a.length := by simp [byt]
theorem bints_inj {a b : Array UInt8} (h : KBw.bInts a = KBw.bInts b) : a = b := by
  unfold KBw.bInts at h
  have : a.toList = b.toList := by
    refine List.map_inj_right (f := fun c : UInt8 => (c.toNat : Int)) ?_ |>.mp h
    intro x y hxy
    have : x.toNat = y.toNat := by lia
    exact UInt8.toNat_inj.mp this
  exact Array.toList_inj.mp this
theorem byt_ints {l : List Nat} (h : ∀ x ∈ l, x < 256) : KBw.bInts (byt l) = l.map (fun x : Nat => (x : Int)) := by
  unfold KBw.bInts byt
  simp only [List.map_map]
  apply List.map_congr_left
  intro x hx
  have := h x hx
  simp; lia
theorem byt_inj {a b : List Nat} (ha : ∀ x ∈ a, x < 256) (hb : ∀ x ∈ b, x < 256) (h : byt a = byt b) : a = b := by
  have e : KBw.bInts (byt a) = KBw.bInts (byt b) := by rw [h]
  rw [byt_ints ha, byt_ints hb] at e
  exact List.map_inj_right (f := fun x : Nat => (x : Int)) (fun x y q => by lia) |>.mp e
section
variable {prog : Program} {w : World} {A : Around} {E : Value → Shared → Prop} {s : Shared} {value slice : PySem.Expr} {b : Array UInt8} {t : Tok} {h₀ : Heap} {L : Addr} {m : PySem.Str → Option Value} {news : List (Addr × Obj)} {Q : Value → Shared → Prop}
theorem bslice {l r : List Nat} {lv uv : Value} {lo hi : Option Int} (hF : Fr h₀ L s.heap m) (hN : News h₀ L s.heap news) (hb : b = byt l) (hl : ∀ x ∈ l, x < 256) (h1 : IsPart lv lo) (h2 : IsPart uv hi) (hz : l.length ≤ 16777216)
    (he : (l.drop (lo.elim 0 (clipAt l.length))).take (hi.elim l.length (clipAt l.length) - lo.elim 0 (clipAt l.length)) = r)
    (h : ∀ h' t' k, Fr h₀ L h' m → News h₀ L h' news → Q (.bytes (byt r) t') { s with heap := h', toks := k })
    (hs : subscripted slice false (.bytes b t) (.ref s.heap.objs.size) = operate [.ref s.heap.objs.size, .bytes b t] (getItem (.bytes b t) (.ref s.heap.objs.size)) := by with_unfolding_all rfl)
    (ht : ∀ r, letTemporaryGo value (.bytes b t) r = pure () := by intro _; with_unfolding_all rfl) :
    wpAny (model prog w) A (subscriptTail value slice (.bytes b t) (.ref s.heap.objs.size)) Q E { s with heap := s.heap.push { cls := .type "slice", data := .fields #[lv, uv, .none] } } := by
  refine KBc.slice_K hF hN rfl h1 h2 (by rw [KBw.ints_length, hb, byt_size]; exact hz) (fun h' t' k F N e => ?_) hs ht
  have : KBy.picked b lo hi = byt r := by
    apply bints_inj
    rw [e, hb, byt_ints hl, byt_ints (fun x hx => hl x (by rw [← he] at hx; exact List.mem_of_mem_drop (List.mem_of_mem_take hx)))]
    rw [← he]
    simp only [List.length_map, List.map_take, List.map_drop]
  rw [this]
  exact h h' t' k F N
theorem badd {l r : List Nat} {u : Tok} {c : Array UInt8} (hb : b = byt l) (hc : c = byt r) (hz : l.length + r.length ≤ 16777216) (h : ∀ t' k, Q (.bytes (byt (l ++ r)) t') { s with toks := k }) :
    wpAny (model prog w) A (binaryOp .Add (.bytes b t) (.bytes c u)) Q E s := by
  subst hb hc
  refine KBy.add_bytes (by rw [byt_size, byt_size]; exact hz) fun t' k => ?_
  rw [byt_append]
  exact h t' k
end
/-- the letters that Int2AP writes -/
noncomputable def apL (n : Nat) : List Nat := if h : n = 0 then [] else apL (n / 16) ++ [65 + n % 16]
termination_by n
decreasing_by lia
theorem apL_zero : apL 0 = [] := by unfold apL; simp
theorem apL_pos {n : Nat} (h : n ≠ 0) : apL n = apL (n / 16) ++ [65 + n % 16] := by rw [apL]; simp [h]
theorem apL_mem {n x : Nat} (h : x ∈ apL n) : 65 ≤ x ∧ x < 81 := by
  induction n using Nat.strongRecOn with
  | ind n ih =>
    by_cases h0 : n = 0
    · subst h0; rw [apL_zero] at h; cases h
    · rw [apL_pos h0] at h
      rcases List.mem_append.mp h with h | h
      · exact ih _ (by lia) h
      · rw [List.mem_singleton.mp h]; lia
theorem apL_len {n k : Nat} (h : n < 16 ^ k) : (apL n).length ≤ k := by
  induction k generalizing n with
  | zero => have : n = 0 := by lia
            subst this; simp [apL_zero]
  | succ k ih =>
    by_cases h0 : n = 0
    · subst h0; simp [apL_zero]
    · rw [apL_pos h0]
      have : n / 16 < 16 ^ k := by rw [Nat.div_lt_iff_lt_mul (by decide)]; rw [Nat.pow_succ] at h; exact h
      have := ih this
      simp; lia
end Mine
end
section
open PySem PySem.W PySem.Calls PyProof.Rows
namespace Mine
/-- the value of digits at n bits each, the lowest first -/
noncomputable def dval (n : Nat) : List Int → Int
  | [] => 0
  | d :: r => d + 2 ^ n * dval n r
theorem dval_append (n : Nat) (a b : List Int) : dval n (a ++ b) = dval n a + 2 ^ (n * a.length) * dval n b := by
  induction a with
  | nil => simp [dval]
  | cons d r ih =>
    simp only [List.cons_append, dval, ih, List.length_cons]
    rw [Int.mul_add, ← Int.mul_assoc, ← Int.pow_add, show n * (r.length + 1) = n + n * r.length by rw [Nat.mul_add]; lia]
    lia
theorem dval_bound (n : Nat) : ∀ l : List Int, (∀ d ∈ l, 0 ≤ d ∧ d < 2 ^ 60) → 0 ≤ dval n l ∧ dval n l < 2 ^ (60 + (n + 1) * l.length)
  | [], _ => by simp [dval]
  | d :: r, h => by
    have hd := h d (.head _)
    obtain ⟨h0, h1⟩ := dval_bound n r fun x hx => h x (.tail _ hx)
    have hp : (0 : Int) < 2 ^ n := Int.pow_pos (by decide)
    simp only [dval, List.length_cons]
    constructor
    · have := Int.mul_nonneg (Int.le_of_lt hp) h0; lia
    · have e1 : (2 : Int) ^ (60 + (n + 1) * (r.length + 1)) = 2 ^ n * 2 ^ (60 + (n + 1) * r.length) * 2 := by
        rw [← Int.pow_add, ← Int.pow_succ]
        congr 1
        rw [Nat.mul_add (n + 1) r.length 1]; lia
      have e2 : 2 ^ n * dval n r ≤ 2 ^ n * (2 ^ (60 + (n + 1) * r.length) - 1) := Int.mul_le_mul_of_nonneg_left (by lia) (Int.le_of_lt hp)
      rw [Int.mul_sub, Int.mul_one] at e2
      have e3 : (2 : Int) ^ 60 ≤ 2 ^ n * 2 ^ (60 + (n + 1) * r.length) := by
        rw [← Int.pow_add]
        have : (2 : Nat) ^ 60 ≤ 2 ^ (n + (60 + (n + 1) * r.length)) := Nat.pow_le_pow_right (by decide) (by lia)
        exact_mod_cast this
      lia
/-- the inner def of _digits2int: its contract -/
noncomputable def InnerD (w : World) (p : Program) (loose : List MStr) (mean : ExcName → Option Value) (mg mb : MStr → Option Value) (f : Addr) (facts : List (Addr × Obj)) (ds : List Int) (n : Nat) (k : Nat) : Prop :=
  ∀ (Lo Hi : Nat) (tL tR : Tok) (dp un : Nat) (gd : Option (List Code)) (cn : MStr) (cs : Scope) (ad : Addr) (ccd : Value) (cl : List (MStr × Addr)) (outer : List Env) (A₀ : Around) (base h₀ : Heap) (L : Addr) (m : MStr → Option Value) (news : List (Addr × Obj)) (s : Shared) (Q E : Value → Shared → Prop),
    Lo < Hi → Hi ≤ ds.length → Hi - Lo ≤ k →
    Below A₀ base outer h₀ → Fr h₀ L s.heap m → (hd.heap_39 w.params).In h₀ → News h₀ L s.heap news → Top p loose mean mg mb h₀ → cs.kind = .function →
    (∀ q ∈ facts, h₀.get? q.1 = some q.2 ∨ q ∈ news) → dp + k < recursionLimit → un + 8 * k < cLine →
    (∀ (t : Tok) (h' : Heap) (tk' : Nat), Fr h₀ L h' m → News h₀ L h' news → Q (.int (dval n ((ds.drop Lo).take (Hi - Lo))) t) { s with heap := h', toks := tk' }) →
    wpAny (model PySem.Challenge.rw_xj0015_01.row.prog w) (ktrTop dp un gd cn cs L ad ccd cl outer) (call (.ref f) [.int Lo tL, .int Hi tR]) Q E s
section
variable {M : Model} {A : Around} {E : Value → Shared → Prop} {s : Shared} {h₀ : Heap} {L a : Addr} {m : MStr → Option Value} {cn : MStr} {cs : Scope} {ccd : Value} {cl : List (MStr × Addr)} {x : MStr} {pos : Pos} {v : Value} {Q : Value → Shared → Prop} {c : Addr} {o : Obj}
theorem nameX_G (F : Fr h₀ L s.heap m) (hc : cl.lookup x = some c) (hg : h₀.get? c = some o) (hd : o.data = .cell (some v)) (h : Q v s)
    (hk : cs.kind = .function := by rfl) (hx : (envX cn cs L a ccd cl).kindOf x = some .free := by rfl) (hb : (x == ("__debug__" : MStr)) = false := by decide) (hn : (x == ("__classdict__" : MStr)) = false := by decide) :
    wpAny M A (eval (.Name x pos) (envX cn cs L a ccd cl)) Q E s := wpAny_Name (wpAny_loadName_free hk hx hc ⟨o, F.keep _ _ hg, hd⟩ h hn) hb
end
section
variable {prog : Program} {w : World} {A : Around} {E : Value → Shared → Prop} {s : Shared} {h₀ : Heap} {L l : Addr} {m : MStr → Option Value} {Q : Value → Shared → Prop} {value slice : PySem.Expr} {us : List Value} {ds : List Int} {k : Int} {u : Tok}
theorem itemG (F : Fr h₀ L s.heap m) (hl : h₀.IsList l us.toArray) (hi : IntsAre us ds) (h0 : 0 ≤ k) (h1 : k < ds.length) (hz : k < 2 ^ 63) (h : ∀ t, Q (.int (ds.getD k.toNat 0) t) s)
    (hs : subscripted slice false (.ref l) (.int k u) = operate [.ref l, .int k u] (getItem (.ref l) (.int k u)) := by with_unfolding_all rfl) :
    wpAny (model prog w) A (subscriptTail value slice (.ref l) (.int k u)) Q E s := by
  have hlt : k.toNat < ds.length := by lia
  have hd : ds[k.toNat]? = some (ds.getD k.toNat 0) := by simp [hlt]
  obtain ⟨t, ht⟩ := hi.get k.toNat (ds.getD k.toNat 0) hd
  have hL : s.heap.IsList l us.toArray := hl.at fun o e => F.keep l o e
  exact tail_any hL.typeIs PySem.F.slot_list_getitem.lookup (wpAny_getItem_list hL h0 hz (by simpa using ht) (h t)) hs
end
theorem fnG {h₀ h : Heap} {L q : Addr} {m : MStr → Option Value} {oc : Value} {od : Option Addr} {fd : FuncData} {sl : Array (Option Value)} (F : Fr h₀ L h m) (hg : h₀.get? q = some ⟨oc, od, .func fd, sl⟩) : FnAt q h := ⟨oc, od, fd, sl, F.keep _ _ hg⟩
end Mine
namespace Mine
theorem bits_small {a : Int} {k : Nat} (h0 : 0 ≤ a) (h1 : a < 2 ^ k) : Builtin.Int.intBits a ≤ k := by
  unfold Builtin.Int.intBits
  split
  · lia
  · rename_i hne
    have hz : a.natAbs ≠ 0 := by
      intro h; apply hne; simp; lia
    have : a.natAbs < 2 ^ k := by
      have e : ((a.natAbs : Nat) : Int) < ((2 ^ k : Nat) : Int) := by
        rw [Int.natCast_pow]
        have : ((a.natAbs : Nat) : Int) = a := by lia
        rw [this]; exact h1
      exact Int.ofNat_lt.mp e
    have := (Nat.log2_lt hz).mpr this
    lia
theorem half_eq (Lo Hi : Nat) : ((Lo : Int) + Hi).fdiv (2 ^ Int.toNat 1) = (((Lo + Hi) / 2 : Nat) : Int) := by
  rw [Int.fdiv_eq_ediv_of_nonneg _ (by decide), show (2 : Int) ^ Int.toNat 1 = 2 from rfl]; lia
theorem dval_fits (n : Nat) (hn : n ≤ 60) (ds : List Int) (hds : ∀ d ∈ ds, 0 ≤ d ∧ d < 2 ^ 60) (hl : ds.length ≤ 60) (a b : Nat) : (Builtin.Int.intBits (dval n ((ds.drop a).take b)) : Int) ≤ 4000 := by
  obtain ⟨h0, h1⟩ := dval_bound n ((ds.drop a).take b) fun x hx => hds x (List.mem_of_mem_drop (List.mem_of_mem_take hx))
  have := bits_small h0 h1
  have h3 : ((ds.drop a).take b).length ≤ 60 := by simp; lia
  have : (n + 1) * ((ds.drop a).take b).length ≤ 61 * 60 := Nat.mul_le_mul (by lia) h3
  lia
theorem dval_halves (n : Nat) (ds : List Int) (lo mid hi : Nat) (h1 : lo ≤ mid) (h2 : mid ≤ hi) (h3 : hi ≤ ds.length) :
    dval n ((ds.drop mid).take (hi - mid)) * 2 ^ (n * (mid - lo)) + dval n ((ds.drop lo).take (mid - lo)) = dval n ((ds.drop lo).take (hi - lo)) := by
  have e : (ds.drop lo).take (hi - lo) = (ds.drop lo).take (mid - lo) ++ (ds.drop mid).take (hi - mid) := by
    rw [sub3 h1 h2, List.take_add, List.drop_drop, Nat.add_sub_cancel' h1]
  rw [e, dval_append, show ((ds.drop lo).take (mid - lo)).length = mid - lo by simp; lia, Int.mul_comm]
  lia
end Mine
end
section
open PySem PySem.W PySem.Calls PyProof.Rows
namespace Mine
/-- the k lowest digits of x at n bits each, the lowest first -/
noncomputable def digs (n : Nat) : Nat → Nat → List Int
  | 0, _ => []
  | k + 1, x => ((x % 2 ^ n : Nat) : Int) :: digs n k (x / 2 ^ n)
theorem digs_len (n : Nat) : ∀ k x, (digs n k x).length = k
  | 0, _ => rfl
  | k + 1, x => by simp [digs, digs_len n k]
theorem digs_append (n : Nat) : ∀ p q x, digs n (p + q) x = digs n p (x % 2 ^ (n * p)) ++ digs n q (x / 2 ^ (n * p))
  | 0, q, x => by simp [digs]
  | p + 1, q, x => by
    have h1 : x % 2 ^ (n * (p + 1)) % 2 ^ n = x % 2 ^ n := Nat.mod_mod_of_dvd _ (Nat.pow_dvd_pow 2 (by rw [Nat.mul_add]; lia))
    have h2 : x % 2 ^ (n * (p + 1)) / 2 ^ n = x / 2 ^ n % 2 ^ (n * p) := by
      rw [show n * (p + 1) = n + n * p by rw [Nat.mul_add]; lia, Nat.pow_add, Nat.mod_mul_right_div_self]
    have h3 : x / 2 ^ n / 2 ^ (n * p) = x / 2 ^ (n * (p + 1)) := by
      rw [Nat.div_div_eq_div_mul, ← Nat.pow_add, show n + n * p = n * (p + 1) by rw [Nat.mul_add]; lia]
    rw [show p + 1 + q = (p + q) + 1 by lia]
    simp only [digs, List.cons_append]
    rw [digs_append n p q, h1, h2, h3]
theorem digs_one (n x : Nat) (h : x < 2 ^ n) : digs n 1 x = [(x : Int)] := by
  simp [digs, Nat.mod_eq_of_lt h]
theorem digs_in (n : Nat) : ∀ k x, ∀ d ∈ digs n k x, 0 ≤ d ∧ d < 2 ^ n
  | 0, _, _, h => nomatch h
  | k + 1, x, d, h => by
    rcases List.mem_cons.mp h with rfl | h
    · have : x % 2 ^ n < 2 ^ n := Nat.mod_lt _ (Nat.pow_pos (by decide))
      refine ⟨by lia, ?_⟩
      exact_mod_cast this
    · exact digs_in n k _ d h
/-- the place's digits put in -/
theorem put_digs (n x lo mid hi : Nat) (xs : List Int) (h1 : lo ≤ mid) (h2 : mid ≤ hi) (h3 : hi ≤ xs.length) :
    (xs.take lo ++ digs n (mid - lo) (x % 2 ^ (n * (mid - lo))) ++ xs.drop mid).take mid ++ digs n (hi - mid) (x / 2 ^ (n * (mid - lo))) ++ (xs.take lo ++ digs n (mid - lo) (x % 2 ^ (n * (mid - lo))) ++ xs.drop mid).drop hi =
      xs.take lo ++ digs n (hi - lo) x ++ xs.drop hi := by
  have e1 : (xs.take lo ++ digs n (mid - lo) (x % 2 ^ (n * (mid - lo)))).length = mid := by simp [digs_len]; lia
  rw [List.take_append_of_le_length (by lia), List.take_of_length_le (by lia), List.drop_append, List.drop_eq_nil_of_le (by lia), e1, List.drop_drop, List.nil_append, Nat.add_sub_cancel' h2,
    sub3 h1 h2, digs_append]
  simp only [List.append_assoc]
theorem put_one (n x lo : Nat) (xs : List Int) (h1 : lo < xs.length) (hx : x < 2 ^ n) : xs.set lo (x : Int) = xs.take lo ++ digs n 1 x ++ xs.drop (lo + 1) := by
  rw [digs_one n x hx, List.set_eq_take_append_cons_drop, if_pos h1]
  simp
theorem and_high (x k : Nat) : x &&& (x / 2 ^ k * 2 ^ k) = x / 2 ^ k * 2 ^ k := by
  apply Nat.eq_of_testBit_eq
  intro i
  rw [Nat.testBit_and, ← Nat.shiftLeft_eq, ← Nat.shiftRight_eq_div_pow, Nat.testBit_shiftLeft, Nat.testBit_shiftRight]
  by_cases h : k ≤ i
  · simp [h, Nat.add_sub_cancel' h]
  · simp [h]
theorem xor_low (x k : Nat) : Builtin.bitXor (x : Int) (((x / 2 ^ k : Nat) : Int) * 2 ^ k) = ((x % 2 ^ k : Nat) : Int) := by
  have e : ((x / 2 ^ k : Nat) : Int) * 2 ^ k = ((x / 2 ^ k * 2 ^ k : Nat) : Int) := by
    rw [Int.natCast_mul, Int.natCast_pow]; rfl
  rw [bitXor_and, e]
  have h : Builtin.bitAnd (x : Int) ((x / 2 ^ k * 2 ^ k : Nat) : Int) = ((x / 2 ^ k * 2 ^ k : Nat) : Int) := by
    have : Builtin.bitAnd (x : Int) ((x / 2 ^ k * 2 ^ k : Nat) : Int) = ((x &&& (x / 2 ^ k * 2 ^ k) : Nat) : Int) := rfl
    rw [this, and_high]
  rw [h]
  have := Nat.div_add_mod x (2 ^ k)
  rw [Nat.mul_comm] at this
  lia
end Mine
namespace Mine
/-- the inner def of _int2digits: its contract -/
noncomputable def InnerI (w : World) (p : Program) (loose : List MStr) (mean : ExcName → Option Value) (mg mb : MStr → Option Value) (f la : Addr) (facts : List (Addr × Obj)) (n : Nat) (k : Nat) : Prop :=
  ∀ (x Lo Hi : Nat) (xs : List Int) (us : List Value) (nn : Nat) (tx tL tR : Tok) (dp un : Nat) (gd : Option (List Code)) (cn : MStr) (cs : Scope) (ad : Addr) (ccd : Value) (cl : List (MStr × Addr)) (outer : List Env) (A₀ : Around) (base h₀ : Heap) (L : Addr) (m : MStr → Option Value) (news : List (Addr × Obj)) (s : Shared) (Q E : Value → Shared → Prop),
    Lo < Hi → Hi ≤ xs.length → xs.length ≤ 64 → Hi - Lo ≤ k → x < 2 ^ (n * (Hi - Lo)) → IntsAre us xs →
    Below A₀ base outer h₀ → Fr h₀ L s.heap m → (hd.heap_39 w.params).In h₀ → News h₀ L s.heap ((la, listOf us.toArray nn) :: news) → (∀ q ∈ news, q.1 ≠ la) → Top p loose mean mg mb h₀ → cs.kind = .function →
    (∀ q ∈ facts, h₀.get? q.1 = some q.2 ∨ q ∈ news) → dp + k < recursionLimit → un + 8 * k < cLine →
    (∀ (us' : List Value) (nn' : Nat) (h' : Heap) (tk' : Nat), Fr h₀ L h' m → News h₀ L h' ((la, listOf us'.toArray nn') :: news) → IntsAre us' (xs.take Lo ++ digs n (Hi - Lo) x ++ xs.drop Hi) → Q .none { s with heap := h', toks := tk' }) →
    wpAny (model PySem.Challenge.rw_xj0015_01.row.prog w) (ktrTop dp un gd cn cs L ad ccd cl outer) (call (.ref f) [.int x tx, .int Lo tL, .int Hi tR]) Q E s
theorem fold_rep (v : Value) : ∀ (k : Nat) (acc : Array Value), List.foldl (fun x1 x2 => x1 ++ x2) acc (List.replicate k #[v]) = acc ++ (List.replicate k v).toArray
  | 0, acc => by simp
  | k + 1, acc => by
    rw [List.replicate_succ, List.foldl_cons, fold_rep v k]
    apply Array.toList_inj.mp
    simp [List.replicate_succ]
section
variable {prog : Program} {w : World} {A : Around} {E : Value → Shared → Prop} {s : Shared} {h₀ : Heap} {L l : Addr} {m : MStr → Option Value} {news : List (Addr × Obj)} {Q : Value → Shared → Prop} {x : Int} {u : Tok} {v : Value} {k : Nat}
theorem mulZ (F : Fr h₀ L s.heap m) (N : News h₀ L s.heap news) (hl : (l, listOf #[v] k) ∈ news) (h0 : 0 ≤ x) (h1 : x ≤ 1000)
    (h : ∀ D h', Fr h₀ L h' m → News h₀ L h' ((D, listOf (List.replicate x.toNat v).toArray 0) :: news) → (∀ p ∈ news, p.1 < D) → Q (.ref D) { s with heap := h' }) :
    wpAny (model prog w) A (binaryOp .Mult (.ref l) (.int x u)) Q E s := by
  refine mul_list F N (N _ hl).1 (by lia) (by lia) (by simp; lia) fun h' F' N' => h _ h' F' ?_ (news_lt N)
  have e := fold_rep v x.toNat #[]
  rw [Array.empty_append] at e
  simpa only [List.isEmpty_toArray, List.isEmpty_cons, Bool.false_eq_true, if_false, e] using N'
end
theorem count_digits (a n : Nat) (hn : 1 ≤ n) (b : Nat) (hb : a < 2 ^ b) : a < 2 ^ (n * ((b + n - 1) / n)) := by
  refine Nat.lt_of_lt_of_le hb (Nat.pow_le_pow_right (by decide) ?_)
  have := Nat.div_add_mod (b + n - 1) n
  have h2 := Nat.mod_lt (b + n - 1) (show 0 < n by lia)
  lia
end Mine
namespace Mine
theorem ints_same (a : Int) (t : Tok) : ∀ k, IntsAre (List.replicate k (Value.int a t)) (List.replicate k a)
  | 0 => .nil
  | k + 1 => .cons _ _ (ints_same a t k)
end Mine
namespace Mine
theorem shr_eq (x k : Nat) : (x : Int).fdiv (2 ^ k) = ((x / 2 ^ k : Nat) : Int) := by
  rw [Int.fdiv_eq_ediv_of_nonneg _ (Int.le_of_lt (Int.pow_pos (by decide)))]
  rw [Int.natCast_ediv, Int.natCast_pow]; rfl
theorem shift_eq (lo mid n : Nat) (h : lo ≤ mid) : ((mid : Int) - lo) * n = ((n * (mid - lo) : Nat) : Int) := by
  rw [show (mid : Int) - lo = ((mid - lo : Nat) : Int) by lia, ← Int.natCast_mul, Nat.mul_comm]
end Mine
namespace Mine
theorem shr_bits (x e d : Nat) (h : x < 2 ^ e) : Builtin.Int.intBits ((x / 2 ^ d : Nat) : Int) ≤ e := by
  refine bits_small (Int.natCast_nonneg _) ?_
  have := Nat.lt_of_le_of_lt (Nat.div_le_self x (2 ^ d)) h
  exact_mod_cast this
end Mine
namespace Mine
theorem upper_lt (x n lo mid hi : Nat) (h1 : lo ≤ mid) (h2 : mid ≤ hi) (h : x < 2 ^ (n * (hi - lo))) : x / 2 ^ (n * (mid - lo)) < 2 ^ (n * (hi - mid)) := by
  refine Nat.div_lt_of_lt_mul ?_
  rw [← Nat.pow_add, ← Nat.mul_add, ← sub3 h1 h2]
  exact h
end Mine
namespace Mine
theorem news_rot3 {h₀ h : Heap} {L : Addr} {a b c d : Addr × Obj} {r : List (Addr × Obj)} (N : News h₀ L h (a :: b :: c :: d :: r)) : News h₀ L h (d :: a :: b :: c :: r) := fun q hq => N q (by
  simp only [List.mem_cons] at hq ⊢
  rcases hq with h | h | h | h | h
  · exact .inr (.inr (.inr (.inl h)))
  · exact .inl h
  · exact .inr (.inl h)
  · exact .inr (.inr (.inl h))
  · exact .inr (.inr (.inr (.inr h))))
end Mine
namespace Mine
theorem digs_zero (n : Nat) : ∀ k, digs n k 0 = List.replicate k 0
  | 0 => rfl
  | k + 1 => by simp [digs, digs_zero n k, List.replicate_succ]
end Mine
end
section
open PySem PySem.W PySem.Calls PyProof.Rows PyProof.V PySem.Spec
set_option maxRecDepth 100000
namespace Mine
inductive FEnd {σ : Type} (h₀ : Heap) (L : Addr) (wr : List Addr) (own : List (Addr × Obj)) (Led : σ → List (Addr × Obj)) (ps : σ → List (MStr × Ab)) (st : List MStr) (m₀ : MStr → Option Value) (P : σ → Prop) (s₁ s₂ : Shared) : Prop
  | mk (c' : σ) (h' : Heap) (tk : Nat) (m' : MStr → Option Value) (news' : List (Addr × Obj)) (k0 : s₂ = { s₁ with heap := h', toks := tk }) (k1 : Fr h₀ L h' m') (k2 : News h₀ L h' news') (k3 : (∀ p ∈ own ++ Led c', p ∈ news')) (k4 : (∀ p ∈ Led c', p.1 ∉ wr)) (k5 : Loc m₀ st (ps c') m') (k6 : P c') : FEnd h₀ L wr own Led ps st m₀ P s₁ s₂
noncomputable def FPost {σ : Type} (h₀ : Heap) (L : Addr) (wr : List Addr) (own : List (Addr × Obj)) (Led : σ → List (Addr × Obj)) (ps : σ → List (MStr × Ab)) (st : List MStr) (m₀ : MStr → Option Value) (P : σ → Prop) (Q : Flow → Shared → Prop) (s₁ : Shared) (f : Flow) (s₂ : Shared) : Prop :=
  match f with
  | .ret v => Q (.ret v) s₂
  | .brk => Q .next s₂
  | _ => FEnd h₀ L wr own Led ps st m₀ P s₁ s₂
theorem fend {σ : Type} {h₀ : Heap} {L : Addr} {wr : List Addr} {own : List (Addr × Obj)} {Led : σ → List (Addr × Obj)} {ps : σ → List (MStr × Ab)} {st : List MStr} {m₀ m' : MStr → Option Value} {P : σ → Prop} {s₁ : Shared} {h' : Heap} {tk : Nat} {news' : List (Addr × Obj)} (c' : σ)
    (F : Fr h₀ L h' m') (N : News h₀ L h' news') (hn : ∀ p ∈ own ++ Led c', p ∈ news') (hw : ∀ p ∈ Led c', p.1 ∉ wr) (hk : Loc m₀ st (ps c') m') (hp : P c') :
    FEnd h₀ L wr own Led ps st m₀ P s₁ { s₁ with heap := h', toks := tk } := ⟨c', h', tk, m', news', rfl, F, N, hn, hw, hk, hp⟩
section
variable {prog : Program} {w : World} {A : Around} {E : Value → Shared → Prop} {Q : Flow → Shared → Prop} {s : Shared} {env : Env} {h₀ : Heap} {x : MStr} {body : List Stmt}
/-- a for by what holds between its turns; the ledger may grow -/
theorem forl {σ : Type} {I : Addr} {fp wr : List Addr} {n : Nat} {P : Nat → Value → Prop} {St : Nat → Heap → Prop} {m₀ : MStr → Option Value} (W : Walks prog w A I fp wr n P St)
    (Led : σ → List (Addr × Obj)) (ps : σ → List (MStr × Ab)) (st : List MStr) (Pc : Nat → σ → Prop) (c₀ : σ)
    (hLf : env.locals ∉ fp) (hwr : ∀ b ∈ wr, h₀.get? b = none) (hst : St 0 s.heap) (F : Fr h₀ env.locals s.heap m₀) (N : News h₀ env.locals s.heap (Led c₀)) (hnw : ∀ p ∈ Led c₀, p.1 ∉ wr) (hk : HasL m₀ (ps c₀)) (hp : Pc 0 c₀)
    (turn : ∀ i c v ts (u : MStr → Option Value) h tk own, i < n → P i v → Pc i c → (∀ p ∈ Led c, p.1 ∉ wr) → (∀ p ∈ own, p.1 ∈ fp) → (∀ b ∈ fp, h₀.get? b = none → ∀ o, h.get? b = some o → (b, o) ∈ own) → St (i + 1) h →
      Fr h₀ env.locals h (fun y => if y = x then some v else kstB (fun z => if st.contains z then u z else m₀ z) (psAt (ps c) ts) y) → News h₀ env.locals h (own ++ Led c) →
      wpAny (model prog w) A (execs body env) (FPost h₀ env.locals wr own Led ps st m₀ (Pc (i + 1)) Q { s with heap := h, toks := tk }) E { s with heap := h, toks := tk })
    (done : ∀ c ts (u : MStr → Option Value) h tk, Pc n c → Fr h₀ env.locals h (kstB (fun z => if st.contains z then u z else m₀ z) (psAt (ps c) ts)) → News h₀ env.locals h (Led c) → Q .next { s with heap := h, toks := tk }) :
    LoopAtV prog w A h₀ env x body Q E (.ref I) s := by
  refine ⟨I, fp, wr, n, P, St, m₀, Led c₀, fun i m nx => ∃ c : σ, nx = Led c ∧ Loc m₀ st (ps c) m ∧ Pc i c, rfl, W, hLf, hwr, hnw, hst, F, N, ⟨c₀, rfl, ⟨hk, fun _ _ _ => rfl⟩, hp⟩, ?_, ?_⟩
  · rintro i v m₁ news₁ s₁ own ⟨hh', tk', rfl⟩ hin hP ⟨c, rfl, hl, hpc⟩ hoff hown hheld hall hsti F₁ N₁
    obtain ⟨ts, h1, h2⟩ := hl.1.toks
    have e : (fun y => if y = x then some v else m₁ y) = fun y => if y = x then some v else kstB (fun z => if st.contains z then m₁ z else m₀ z) (psAt (ps c) ts) y := by
      funext y
      by_cases hy : y = x
      · rw [if_pos hy, if_pos hy]
      · rw [if_neg hy, if_neg hy]
        refine (kstB_eq h1 fun hn => ?_).symm
        show (if st.contains y = true then m₁ y else m₀ y) = m₁ y
        cases h3 : st.contains y with
        | true => simp
        | false =>
          simp only [Bool.false_eq_true, if_false]
          refine (hl.2 y (fun p hp e => ?_) h3).symm
          have : p.1 ∈ (psAt (ps c) ts).map (·.1) := by rw [h2]; exact List.mem_map_of_mem hp
          obtain ⟨q, hq, hq2⟩ := List.mem_map.mp this
          exact hn q hq (e.trans hq2.symm)
    rw [e] at F₁
    refine wpAny_mono (turn i c v ts m₁ hh' tk' own hin hP hpc hoff hown hall hsti F₁ N₁) (fun f s₂ q => ?_) fun _ _ e => e
    have fin : FEnd h₀ env.locals wr own Led ps st m₀ (Pc (i + 1)) { s with heap := hh', toks := tk' } s₂ → LoopStepU h₀ env.locals wr own (fun m nx => ∃ c : σ, nx = Led c ∧ Loc m₀ st (ps c) m ∧ Pc (i + 1) c) { s with heap := hh', toks := tk' } .next s₂ := by
      rintro ⟨c', h', tk, m', news', rfl, F', N', hn, hw, hk', hp'⟩
      exact ⟨rfl, h', tk, m', Led c', rfl, F', fun p hp => N' p (hn p hp), hw, c', rfl, hk', hp'⟩
    cases f with
    | ret v => exact q
    | brk => exact q
    | next => exact fin q
    | cont => exact fin q
  · rintro h' tk m' news' F' N' _ ⟨c, rfl, hl, hpc⟩
    obtain ⟨ts, u, F₂⟩ := hl.fr F'
    exact done c ts u h' tk hpc F₂ N'
/-- over a list that stands in the ledger, whatever its items -/
theorem forList {σ : Type} {l : Addr} {us : List Value} {nn : Nat} {m₀ : MStr → Option Value} (Led : σ → List (Addr × Obj)) (ps : σ → List (MStr × Ab)) (st : List MStr) (Pc : Nat → σ → Prop) (c₀ : σ)
    (hh : A.handled = none) (hl : s.heap.IsList l us.toArray) (hlL : l ≠ env.locals) (F : Fr h₀ env.locals s.heap m₀) (N : News h₀ env.locals s.heap (Led c₀)) (hk : HasL m₀ (ps c₀)) (hp : Pc 0 c₀)
    (turn : ∀ i c v I ts (u : MStr → Option Value) h tk own, us[i]? = some v → Pc i c → (∀ p ∈ Led c, p.1 ∉ [I]) → (∀ p ∈ own, p.1 ∈ [I, l]) → (∃ o, (I, o) ∈ own) →
      Fr h₀ env.locals h (fun y => if y = x then some v else kstB (fun z => if st.contains z then u z else m₀ z) (psAt (ps c) ts) y) → News h₀ env.locals h (own ++ Led c) →
      wpAny (model prog w) A (execs body env) (FPost h₀ env.locals [I] own Led ps st m₀ (Pc (i + 1)) Q { s with heap := h, toks := tk }) E { s with heap := h, toks := tk })
    (done : ∀ c ts (u : MStr → Option Value) h tk, Pc us.length c → Fr h₀ env.locals h (kstB (fun z => if st.contains z then u z else m₀ z) (psAt (ps c) ts)) → News h₀ env.locals h (Led c) → Q .next { s with heap := h, toks := tk }) :
    wpAny (model prog w) A (pyIter (.ref l)) (fun it s₂ => LoopAtV prog w A h₀ env x body Q E it s₂) E s := by
  obtain ⟨ol, hol, hcls⟩ := id hl
  have hne : l ≠ s.heap.objs.size := Nat.ne_of_lt (Heap.lt_size hol)
  refine wpAny_pyIter_list hl ?_
  have W := Walks.list (prog := prog) (w := w) hh s.heap.objs.size l hne us.toArray
  rw [List.size_toArray] at W
  refine forl W Led ps st Pc c₀ ?_ ?_ ⟨⟨_, Heap.get?_push_size _ rfl, rfl, rfl⟩, hl.at fun o e => Heap.get?_push_of_some _ e⟩ (F.push _) (fun p hp => ⟨Heap.get?_push_of_some _ (N p hp).1, (N p hp).2⟩) ?_ hk hp ?_ (fun c ts u h tk => done c ts u h tk)
  · intro hm
    rcases List.mem_cons.mp hm with e | hm
    · exact absurd F.ns.lt (e ▸ Nat.lt_irrefl _)
    · exact hlL (List.mem_singleton.mp hm).symm
  · intro b hb
    rw [List.mem_singleton.mp hb]
    exact next_is_new F
  · intro p hp hI
    exact absurd (Heap.lt_size (N p hp).1) ((List.mem_singleton.mp hI) ▸ Nat.lt_irrefl _)
  · intro i c v ts u h tk own hi hv hpc hoff hown hall hst F' N'
    obtain ⟨⟨o, ho, _⟩, _⟩ := hst
    exact turn i c v _ ts u h tk own (by simpa using hv) hpc hoff hown ⟨o, hall _ (by simp) (next_is_new F) o ho⟩ F' N'
/-- over a list from behind, by its iterator that stands made -/
theorem forRev {σ : Type} {D l : Addr} {us : List Value} {m₀ : MStr → Option Value} (Led : σ → List (Addr × Obj)) (ps : σ → List (MStr × Ab)) (st : List MStr) (Pc : Nat → σ → Prop) (c₀ : σ)
    (hh : A.handled = none) (hl : s.heap.IsList l us.toArray) (hlL : l ≠ env.locals) (hD : s.heap.get? D = some (revObj l ((us.length : Int) - 1))) (hDL : D ≠ env.locals) (hD0 : h₀.get? D = none) (hlD : l ≠ D) (hnD : ∀ p ∈ Led c₀, p.1 ≠ D)
    (F : Fr h₀ env.locals s.heap m₀) (N : News h₀ env.locals s.heap (Led c₀)) (hk : HasL m₀ (ps c₀)) (hp : Pc 0 c₀)
    (turn : ∀ i c v ts (u : MStr → Option Value) h tk own, i < us.length → us[us.length - 1 - i]? = some v → Pc i c → (∀ p ∈ Led c, p.1 ∉ [D]) → (∀ p ∈ own, p.1 ∈ [D, l]) → (∃ o, (D, o) ∈ own) →
      Fr h₀ env.locals h (fun y => if y = x then some v else kstB (fun z => if st.contains z then u z else m₀ z) (psAt (ps c) ts) y) → News h₀ env.locals h (own ++ Led c) →
      wpAny (model prog w) A (execs body env) (FPost h₀ env.locals [D] own Led ps st m₀ (Pc (i + 1)) Q { s with heap := h, toks := tk }) E { s with heap := h, toks := tk })
    (done : ∀ c ts (u : MStr → Option Value) h tk, Pc us.length c → Fr h₀ env.locals h (kstB (fun z => if st.contains z then u z else m₀ z) (psAt (ps c) ts)) → News h₀ env.locals h (Led c) → Q .next { s with heap := h, toks := tk }) :
    wpAny (model prog w) A (pyIter (.ref D)) (fun it s₂ => LoopAtV prog w A h₀ env x body Q E it s₂) E s := by
  have hit : s.heap.IsRevIter D l ((us.toArray.size : Int) - 1 - ((0 : Nat) : Int)) := ⟨_, hD, rfl, by simp [revObj]⟩
  refine wpAny_pyIter_revIter hit ?_
  have W := Walks.listRev (prog := prog) (w := w) hh D l hlD us.toArray
  rw [List.size_toArray] at W hit
  refine forl W Led ps st Pc c₀ ?_ ?_ ⟨Nat.zero_le _, hit, hl⟩ F N ?_ hk hp ?_ (fun c ts u h tk => done c ts u h tk)
  · intro hm
    rcases List.mem_cons.mp hm with e | hm
    · exact hDL e.symm
    · exact hlL (List.mem_singleton.mp hm).symm
  · intro b hb
    rw [List.mem_singleton.mp hb]
    exact hD0
  · intro p hp hI
    exact hnD p hp (List.mem_singleton.mp hI)
  · intro i c v ts u h tk own hi hv hpc hoff hown hall hst F' N'
    obtain ⟨_, ⟨o, ho, _⟩, _⟩ := hst
    exact turn i c v ts u h tk own hi (by simpa using hv) hpc hoff hown ⟨o, hall _ (by simp) hD0 o ho⟩ F' N'
/-- over a range by ones -/
theorem forRange {σ : Type} {r : Addr} {a₀ b₀ : Int} {t₀ u₀ v₀ : Tok} {n : Nat} {m₀ : MStr → Option Value} (Led : σ → List (Addr × Obj)) (ps : σ → List (MStr × Ab)) (st : List MStr) (Pc : Nat → σ → Prop) (c₀ : σ)
    (hh : A.handled = none) (hr : IsRange s.heap r a₀ b₀ 1 t₀ u₀ v₀) (hsmall : Builtin.Range.small a₀ b₀ 1 = true) (hn : Builtin.Range.rangeSize a₀ b₀ 1 = (n : Int))
    (F : Fr h₀ env.locals s.heap m₀) (N : News h₀ env.locals s.heap (Led c₀)) (hk : HasL m₀ (ps c₀)) (hp : Pc 0 c₀)
    (turn : ∀ (i : Nat) c t I ts (u : MStr → Option Value) h tk own, i < n → Pc i c → (∀ p ∈ Led c, p.1 ∉ [I]) → (∀ p ∈ own, p.1 ∈ [I]) → (∃ o, (I, o) ∈ own) →
      Fr h₀ env.locals h (fun y => if y = x then some (.int (a₀ + i) t) else kstB (fun z => if st.contains z then u z else m₀ z) (psAt (ps c) ts) y) → News h₀ env.locals h (own ++ Led c) →
      wpAny (model prog w) A (execs body env) (FPost h₀ env.locals [I] own Led ps st m₀ (Pc (i + 1)) Q { s with heap := h, toks := tk }) E { s with heap := h, toks := tk })
    (done : ∀ c ts (u : MStr → Option Value) h tk, Pc n c → Fr h₀ env.locals h (kstB (fun z => if st.contains z then u z else m₀ z) (psAt (ps c) ts)) → News h₀ env.locals h (Led c) → Q .next { s with heap := h, toks := tk }) :
    wpAny (model prog w) A (pyIter (.ref r)) (fun it s₂ => LoopAtV prog w A h₀ env x body Q E it s₂) E s := by
  refine wpAny_pyIter_range hr hsmall ?_
  have W := Walks.range (prog := prog) (w := w) hh s.heap.objs.size a₀ 1 n
  refine forl W Led ps st Pc c₀ ?_ ?_ (by show IsRangeIter _ _ _ _ _; rw [hn]; simpa using Heap.get?_push_size _ rfl) (F.push _) (fun p hp => ⟨Heap.get?_push_of_some _ (N p hp).1, (N p hp).2⟩) ?_ hk hp ?_ (fun c ts u h tk => done c ts u h tk)
  · intro hm
    exact absurd F.ns.lt ((List.mem_singleton.mp hm) ▸ Nat.lt_irrefl _)
  · intro b hb
    rw [List.mem_singleton.mp hb]
    exact next_is_new F
  · intro p hp hI
    exact absurd (Heap.lt_size (N p hp).1) ((List.mem_singleton.mp hI) ▸ Nat.lt_irrefl _)
  · rintro i c v ts u h tk own hi ⟨t, rfl⟩ hpc hoff hown hall hst F' N'
    rw [Int.mul_one] at F'
    exact turn i c t _ ts u h tk own hi hpc hoff hown ⟨_, hall _ (by simp) (next_is_new F) _ hst⟩ F' N'
end
end Mine
namespace Mine
theorem news_comm {h₀ h : Heap} {L : Addr} {a b : List (Addr × Obj)} (N : News h₀ L h (a ++ b)) : News h₀ L h (b ++ a) := fun q hq => N q ((List.mem_append.mp hq).elim (fun h => List.mem_append_right _ h) fun h => List.mem_append_left _ h)
theorem news_sub {h₀ h : Heap} {L : Addr} {a b : List (Addr × Obj)} (N : News h₀ L h a) (s : ∀ q ∈ b, q ∈ a) : News h₀ L h b := fun q hq => N q (s q hq)
noncomputable def q1 : MStr := PySem.Str.ofString "_int2digits.<locals>.inner"
noncomputable def q2 : MStr := PySem.Str.ofString "_digits2int.<locals>.inner"
noncomputable abbrev tA := tEnt 61 46 4
noncomputable abbrev tB := tEnt 68 61 4
/-- as Ctr, for a def that reaches both defs with an inner one -/
noncomputable def CtrB (w : World) (p : Program) (loose : List MStr) (mean : ExcName → Option Value) (mg mb : MStr → Option Value) (f : Addr) (vs : List Value) (need : List (Addr × Obj)) (dd uu : Nat) (Post : Value → List (Addr × Obj) → Prop) : Prop :=
  ∀ (dp un : Nat) (gd : Option (List Code)) (cn : MStr) (cs : Scope) (ad : Addr) (ccd : Value) (cl : List (MStr × Addr)) (outer : List Env) (A₀ : Around) (base h₀ : Heap) (L : Addr) (m : MStr → Option Value) (news : List (Addr × Obj)) (e1 e2 : Option (Addr × Obj)) (s : Shared) (Q E : Value → Shared → Prop),
    Below A₀ base outer h₀ → Fr h₀ L s.heap m → (hd.heap_39 w.params).In h₀ → News h₀ L s.heap (tA e1 ++ (tB e2 ++ news)) → Apart (tA e1) (tB e2 ++ news) → Apart (tB e2) news → tOk q1 e1 → tOk q2 e2 → Top p loose mean mg mb h₀ → cs.kind = .function →
    (∀ q ∈ need, q ∈ news) → dp + dd < recursionLimit → un + uu < cLine →
    (∀ (r : Value) (own : List (Addr × Obj)) (e1 e2 : Addr × Obj) (h' : Heap) (tk' : Nat), Fr h₀ L h' m → News h₀ L h' (own ++ (tA (some e1) ++ (tB (some e2) ++ news))) → Apart (tA (some e1)) (tB (some e2) ++ (own ++ news)) → Apart (tB (some e2)) (own ++ news) → tOk q1 (some e1) → tOk q2 (some e2) → Above L news own → Post r own → Q r { s with heap := h', toks := tk' }) →
    wpAny (model PySem.Challenge.rw_xj0015_01.row.prog w) (ktrTop dp un gd cn cs L ad ccd cl outer) (call (.ref f) vs) Q E s
end Mine
end
section
open PySem PySem.W PySem.Calls PyProof.Rows
namespace Mine
theorem bits_spec {b : Nat} (hb : 0 < b) : b < 2 ^ Builtin.Int.intBits (b : Int) ∧ 1 ≤ Builtin.Int.intBits (b : Int) := by
  have h : b ≠ 0 := by lia
  have e : Builtin.Int.intBits (b : Int) = b.log2 + 1 := by
    unfold Builtin.Int.intBits
    rw [if_neg (by simpa using h)]
    simp
  rw [e]
  exact ⟨(Nat.log2_lt h).mp (Nat.lt_succ_self _), by lia⟩
/-- one turn of the long division -/
theorem ldiv_step (a b n j : Nat) (hb : 0 < b) : ((a / 2 ^ (n * (j + 1)) % b) * 2 ^ n + a / 2 ^ (n * j) % 2 ^ n) % b = a / 2 ^ (n * j) % b ∧
    a / 2 ^ (n * j) / b = ((a / 2 ^ (n * (j + 1)) % b) * 2 ^ n + a / 2 ^ (n * j) % 2 ^ n) / b + 2 ^ n * (a / 2 ^ (n * (j + 1)) / b) := by
  have e : a / 2 ^ (n * (j + 1)) = a / 2 ^ (n * j) / 2 ^ n := by rw [Nat.div_div_eq_div_mul, ← Nat.pow_add, Nat.mul_add, Nat.mul_one]
  rw [e]
  generalize a / 2 ^ (n * j) = x
  have h1 : x = 2 ^ n * (x / 2 ^ n) + x % 2 ^ n := (Nat.div_add_mod x (2 ^ n)).symm
  have h2 : x / 2 ^ n = b * (x / 2 ^ n / b) + x / 2 ^ n % b := (Nat.div_add_mod (x / 2 ^ n) b).symm
  generalize x / 2 ^ n % b = r at *
  generalize x / 2 ^ n / b = q at *
  have h3 : x = (r * 2 ^ n + x % 2 ^ n) + b * (2 ^ n * q) := by
    conv => lhs; rw [h1, h2]
    rw [Nat.mul_add, ← Nat.mul_assoc, ← Nat.mul_assoc, Nat.mul_comm (2 ^ n) b, Nat.mul_comm (2 ^ n) r, Nat.mul_assoc]
    lia
  constructor
  · conv => rhs; rw [h3]
    rw [Nat.add_mul_mod_self_left]
  · conv => lhs; rw [h3]
    rw [Nat.add_mul_div_left _ _ hb]
theorem ldiv_small (r d b n : Nat) (hr : r < b) (hd : d < 2 ^ n) (hb : b ≤ 2 ^ 30) (hn : n ≤ 30) : r * 2 ^ n + d < 2 ^ 60 ∧ (r * 2 ^ n + d) / b < 2 ^ n := by
  have h1 : r * 2 ^ n + d < (r + 1) * 2 ^ n := by rw [Nat.add_mul]; lia
  have h2 : (r + 1) * 2 ^ n ≤ b * 2 ^ n := Nat.mul_le_mul_right _ hr
  have h3 : b * 2 ^ n ≤ 2 ^ 30 * 2 ^ 30 := Nat.mul_le_mul hb (Nat.pow_le_pow_right (by decide) hn)
  exact ⟨by lia, Nat.div_lt_of_lt_mul (by lia)⟩
theorem digs_getD (n : Nat) : ∀ k x i, i < k → (digs n k x).getD i 0 = ((x / 2 ^ (n * i) % 2 ^ n : Nat) : Int)
  | k + 1, x, 0, _ => by simp [digs]
  | k + 1, x, i + 1, h => by
    have := digs_getD n k (x / 2 ^ n) i (by lia)
    simp only [digs, List.getD_cons_succ, this, Nat.div_div_eq_div_mul, ← Nat.pow_add]
    rw [show n + n * i = n * (i + 1) by rw [Nat.mul_add]; lia]
end Mine
namespace Mine
theorem ints_reverse {us : List Value} {ds : List Int} (h : IntsAre us ds) : IntsAre us.reverse ds.reverse := by
  induction h with
  | nil => exact .nil
  | cons n t _ ih =>
    rw [List.reverse_cons, List.reverse_cons]
    exact IntsAre.append ih (.cons _ _ .nil)
end Mine
end
section
open PySem PySem.W PySem.Calls PyProof.Rows
set_option maxRecDepth 100000
namespace Mine
theorem small_up {a b : Int} (ha : -(2 ^ 62) ≤ a) (ha' : a < 2 ^ 62) (hb : -(2 ^ 62) ≤ b) (hb' : b < 2 ^ 62) : Builtin.Range.small a b 1 = true := by
  unfold Builtin.Range.small
  rw [rangeSize_one]
  simp only [Builtin.Range.rangeFitsLong, Bool.and_eq_true, Bool.or_eq_true, decide_eq_true_eq, beq_iff_eq, show ((1 : Int) > 0) by decide, if_true]
  split <;> lia
section
variable {prog : Program} {w : World} {A : Around} {E : Value → Shared → Prop} {s : Shared} {h₀ : Heap} {L D : Addr} {m : MStr → Option Value} {news news' : List (Addr × Obj)} {value slice : PySem.Expr} {us : List Value} {ds : List Int} {k : Int} {t : Tok} {n : Nat}
theorem setL_spec : ∀ (us : List Value) (k : Nat) (v : Value), k < us.length → ki_setL us k v = some (us.set k v)
  | [], k, v, h => absurd h (Nat.not_lt_zero _)
  | x :: r, 0, v, _ => rfl
  | x :: r, k + 1, v, h => by
    have := setL_spec r k v (Nat.lt_of_succ_lt_succ h)
    simp [ki_setL, this]
theorem setN {v : Value} {Q : Unit → Shared → Prop} (F : Fr h₀ L s.heap m) (N : News h₀ L s.heap news) (h0 : 0 ≤ k) (hk : k.toNat < us.length) (hz : k < 2 ^ 63) (U : Upd D (listOf us.toArray n) (listOf (us.set k.toNat v).toArray n) news news')
    (h : ∀ h', Fr h₀ L h' m → News h₀ L h' news' → Q () { s with heap := h' }) : wpAny (model prog w) A (setItem (.ref D) (.int k t) v) Q E s :=
  ki_set F N h0 hz (by simpa using setL_spec us k.toNat v hk) U h
theorem getV {x : Value} {Q : Value → Shared → Prop} (hl : s.heap.IsList D us.toArray) (h0 : 0 ≤ k) (hx : us[k.toNat]? = some x) (hz : k < 2 ^ 63) (h : Q x s) : wpAny (model prog w) A (getItem (.ref D) (.int k t)) Q E s :=
  wpAny_getItem_list hl h0 hz (by simpa using hx) h
theorem tailV {x : Value} {Q : Value → Shared → Prop} (hl : s.heap.IsList D us.toArray) (h0 : 0 ≤ k) (hx : us[k.toNat]? = some x) (hz : k < 2 ^ 63) (h : Q x s)
    (hs : subscripted slice false (.ref D) (.int k t) = operate [.ref D, .int k t] (getItem (.ref D) (.int k t)) := by with_unfolding_all rfl) :
    wpAny (model prog w) A (subscriptTail value slice (.ref D) (.int k t)) Q E s :=
  tail_any hl.typeIs PySem.F.slot_list_getitem.lookup (getV hl h0 hx hz h) hs
theorem intAt (hi : IntsAre us ds) (h0 : 0 ≤ k) (h1 : k < ds.length) : ∃ t, us[k.toNat]? = some (.int (ds.getD k.toNat 0) t) := by
  have hlt : k.toNat < ds.length := by lia
  have hd : ds[k.toNat]? = some (ds.getD k.toNat 0) := by simp [hlt]
  exact hi.get k.toNat (ds.getD k.toNat 0) hd
theorem getN {Q : Value → Shared → Prop} (hl : s.heap.IsList D us.toArray) (hi : IntsAre us ds) (h0 : 0 ≤ k) (h1 : k < ds.length) (hz : k < 2 ^ 63) (h : ∀ t, Q (.int (ds.getD k.toNat 0) t) s) : wpAny (model prog w) A (getItem (.ref D) (.int k t)) Q E s := by
  obtain ⟨t', ht⟩ := intAt hi h0 h1
  exact getV hl h0 ht hz (h t')
theorem tailN {Q : Value → Shared → Prop} (hl : s.heap.IsList D us.toArray) (hi : IntsAre us ds) (h0 : 0 ≤ k) (h1 : k < ds.length) (hz : k < 2 ^ 63) (h : ∀ t, Q (.int (ds.getD k.toNat 0) t) s)
    (hs : subscripted slice false (.ref D) (.int k t) = operate [.ref D, .int k t] (getItem (.ref D) (.int k t)) := by with_unfolding_all rfl) :
    wpAny (model prog w) A (subscriptTail value slice (.ref D) (.int k t)) Q E s := by
  obtain ⟨t', ht⟩ := intAt hi h0 h1
  exact tailV hl h0 ht hz (h t') hs
theorem newTuple_L {vs : List Value} {Q : Value → Shared → Prop} (F : Fr h₀ L s.heap m) (N : News h₀ L s.heap news) (hz : vs.length ≤ 16384)
    (h : ∀ a h', Fr h₀ L h' m → News h₀ L h' ((a, { cls := .type "tuple", data := .seq vs.toArray }) :: news) → L < a → (∀ p ∈ news, p.1 < a) → Q (.ref a) { s with heap := h' }) : wpAny (model prog w) A (newTuple vs) Q E s :=
  newTuple_N F N (fun h' F' N' => h _ h' F' N' F.ns.lt fun p hp => Heap.lt_size (N p hp).1) (by rw [sizeLine_eq]; lia)
theorem newList_L {vs : List Value} {Q : Value → Shared → Prop} (F : Fr h₀ L s.heap m) (N : News h₀ L s.heap news) (hz : vs.length ≤ 16384)
    (h : ∀ a h', Fr h₀ L h' m → News h₀ L h' ((a, listOf vs.toArray 0) :: news) → L < a → (∀ p ∈ news, p.1 < a) → Q (.ref a) { s with heap := h' }) : wpAny (model prog w) A (newList vs) Q E s :=
  newList_N F N (fun h' F' N' => h _ h' F' N' F.ns.lt fun p hp => Heap.lt_size (N p hp).1) (by rw [sizeLine_eq]; lia)
theorem sliceL {l : Addr} {us zs : List Value} {vl vu : Value} {lo hi : Option Int} {Q : Value → Shared → Prop} (F : Fr h₀ L s.heap m) (N : News h₀ L s.heap news) (hl : s.heap.IsList l us.toArray) (pl : IsPart vl lo) (pu : IsPart vu hi) (e : kms_pick us lo hi = zs) (hz : us.length ≤ 16384)
    (h : ∀ D h', Fr h₀ L h' m → News h₀ L h' ((D, listOf zs.toArray 0) :: news) → L < D → (∀ p ∈ news, p.1 < D) → Q (.ref D) { s with heap := h' })
    (hs : subscripted slice false (.ref l) (.ref s.heap.objs.size) = operate [.ref s.heap.objs.size, .ref l] (getItem (.ref l) (.ref s.heap.objs.size)) := by with_unfolding_all rfl) (ht : ∀ r, letTemporaryGo value (.ref l) r = pure () := by intro _; with_unfolding_all rfl) :
    wpAny (model prog w) A (subscriptTail value slice (.ref l) (.ref s.heap.objs.size)) Q E { s with heap := s.heap.push { cls := .type "slice", data := .fields #[vl, vu, .none] } } := by
  refine slice_list F N hl pl pu (fun h' F' N' => h _ h' F' ?_ (Nat.lt_succ_of_lt F.ns.lt) fun p hp => Nat.lt_succ_of_lt (Heap.lt_size (N p hp).1)) hs ht (by rw [sizeLine_eq]; simp; lia)
  rw [kms_pick_eq] at N'
  rw [← e]
  exact N'
theorem IntsAre_set : ∀ {us : List Value} {ds : List Int}, IntsAre us ds → ∀ (k : Nat) (x : Int) (t : Tok), IntsAre (us.set k (.int x t)) (ds.set k x)
  | _, _, .nil, _, _, _ => .nil
  | _, _, .cons n t h, 0, x, u => .cons x u h
  | _, _, .cons n t h, k + 1, x, u => .cons n t (IntsAre_set h k x u)
end
end Mine
end
section
open PySem PySem.W PySem.Calls PyProof.Rows PySem.Builtin.Str
set_option maxRecDepth 100000
namespace Mine
theorem sub_blank (l : List Nat) (i : Nat) (h : i < l.length) : subAt (tx l) (PySem.Str.ofString " ") i = (l.getD i 0 == 32) := by
  have e : PySem.Str.ofString " " = tx [32] := by decide +kernel
  rw [e]
  unfold subAt
  rw [tx_len]
  show ((tx l).cps.extract i (i + 1) == #[32]) = _
  have : (tx l).cps.extract i (i + 1) = #[l.getD i 0] := by
    apply Array.toList_inj.mp
    simp [tx, List.extract_eq_take_drop, List.take_one, h]
  rw [this]
  by_cases hh : l.getD i 0 = 32
  · rw [hh]; rfl
  · have h1 : (l.getD i 0 == 32) = false := by simpa using hh
    rw [h1]
    apply beq_eq_false_iff_ne.mpr
    intro e2
    exact hh (by simpa using e2)
theorem blank_len : (PySem.Str.ofString " ").length = 1 := by decide +kernel
theorem occ_blank (l : List Nat) (n : Nat) (hn : l.length < n) : (occurrences (tx l) (PySem.Str.ofString " ") 0 l.length n).length = l.count 32 := by
  unfold occurrences
  simp only [Id.run, blank_len]
  rw [Std.Legacy.Range.forIn_eq_forIn_range']
  have key : ∀ (k i : Nat), i + k = l.length + 1 → ∀ (f : Array Nat × Nat), f.1.size = (l.take i).count 32 → f.2 ≤ i →
      (forIn (m := Id) (List.range' i k 1) f fun i __s => if (decide (__s.1.size < n) && decide (__s.2 ≤ i) && decide (i + 1 ≤ l.length) && subAt (tx l) (PySem.Str.ofString " ") i) = true then pure (ForInStep.yield (__s.1.push i, i + 1)) else pure (ForInStep.yield (__s.1, __s.2))).1.size = l.count 32 := by
    intro k
    induction k with
    | zero =>
      intro i hi f h1 _
      show f.1.size = _
      rw [h1, List.take_of_length_le (by lia)]
    | succ k ih =>
      intro i hi f h1 h2
      rw [List.range'_succ, List.forIn_cons]
      have hc : (l.take i).count 32 ≤ l.length := Nat.le_trans List.count_le_length (by simp; lia)
      by_cases hil : i < l.length
      · rw [sub_blank l _ hil]
        have ht : l.take (i + 1) = l.take i ++ [l.getD i 0] := by
          rw [List.take_add_one]
          simp [hil]
        by_cases hb : l.getD i 0 = 32
        · rw [if_pos (by rw [hb, h1]; simp only [Bool.and_eq_true, decide_eq_true_eq]; exact ⟨⟨⟨by lia, h2⟩, by lia⟩, rfl⟩)]
          refine ih (i + 1) (by lia) (f.1.push i, i + 1) ?_ (Nat.le_refl _)
          rw [ht, List.count_append, hb]
          simp [h1]
        · rw [if_neg (by simp only [Bool.and_eq_true, beq_iff_eq]; exact fun h => hb h.2)]
          refine ih (i + 1) (by lia) (f.1, f.2) ?_ (by show f.2 ≤ _; lia)
          rw [ht, List.count_append, List.count_singleton]
          have : (l.getD i 0 == 32) = false := by simpa using hb
          rw [this]
          simp [h1]
      · rw [if_neg (by simp only [Bool.and_eq_true, decide_eq_true_eq]; lia)]
        refine ih (i + 1) (by lia) (f.1, f.2) ?_ (by show f.2 ≤ _; lia)
        rw [List.take_of_length_le (by lia)]
        rw [List.take_of_length_le (by lia)] at h1
        exact h1
  have := key (l.length + 1) 0 (by lia) (#[], 0) (by simp) (Nat.le_refl _)
  rw [← this]
  show (Array.toList _).length = _
  rw [Array.length_toList]
  have hs : [:l.length + 1].size = l.length + 1 := by simp [Std.Legacy.Range.size]
  rw [hs]
theorem count_tx (l : List Nat) : Txt.count (tx l) (PySem.Str.ofString " ") = (l.count 32 : Nat) := by
  unfold Txt.count
  rw [tx_len, occ_blank l _ (Nat.lt_succ_self _)]
theorem rjust_tx (l : List Nat) (h : l.length ≤ 6) : Txt.rjust (tx l) 6 = tx (List.replicate (6 - l.length) 32 ++ l) := by
  unfold Txt.rjust
  rw [tx_len]
  split
  · have : 6 - l.length = 0 := by lia
    rw [this]; rfl
  · unfold padded
    rw [show (Int.toNat 6) = 6 from rfl]
    show (⟨_⟩ : PySem.Str) = ⟨_⟩
    congr 1
    apply Array.toList_inj.mp
    simp [tx]
theorem rev_tx (l : List Nat) (x : Nat) (t1 t2 : Tok) : Txt.sliceBy (tx (l ++ [x])) (some (-2, t1)) none (-1, t2) = tx l.reverse := by
  unfold Txt.sliceBy
  have e : slicePicked (tx (l ++ [x])) (some (-2, t1)) none (some (-1, t2)) = (List.range l.length).map fun k => l.length - 1 - k := by
    show strSliceIndices (some (-2)) none (-1) (tx (l ++ [x])).length = _
    unfold strSliceIndices
    rw [tx_len, List.length_append, List.length_singleton]
    simp only [show ¬ ((-1 : Int) > 0) by decide, if_false, show ((-2 : Int) < 0) by decide, if_true]
    rw [← krv_sliceRange]
    congr 1
    lia
  rw [e, if_neg (by simp)]
  show (⟨_⟩ : PySem.Str) = ⟨_⟩
  congr 1
  apply Array.toList_inj.mp
  have e2 : ((List.range l.length).map fun k => l.length - 1 - k) = (List.range l.length).reverse := by
    apply List.ext_getElem
    · simp
    · intro k h1 h2
      simp
  have e3 := range_pick (l ++ [x]) l.length 0 (by simp)
  simp only [Nat.zero_add, List.map_id', List.drop_zero] at e3
  show List.filterMap _ _ = l.reverse
  rw [e2, List.filterMap_reverse]
  congr 1
  have e4 : (fun k : Nat => (l ++ [x])[k]?) = fun k : Nat => (tx (l ++ [x])).cps[k]? := by
    funext k
    simp [tx]
  rw [← e4, e3]
  simp
section
variable {prog : Program} {w : World} {A : Around} {E : Value → Shared → Prop} {s : Shared} {t u : Tok} {Q : Value → Shared → Prop} {a b : List Nat} {x y : PySem.Str}
theorem sadd (hx : x = tx a) (hy : y = tx b) (hz : a.length + b.length ≤ 16777216) (h : ∀ t' k, Q (.str (tx (a ++ b)) t') { s with toks := k }) : wpAny (model prog w) A (binaryOp .Add (.str x t) (.str y u)) Q E s := by
  subst hx hy
  have e : tx a ++ tx b = tx (a ++ b) := by
    show (⟨_⟩ : PySem.Str) = ⟨_⟩
    congr 1
    apply Array.toList_inj.mp
    simp [tx]
  refine KXadd.add (Nat.le_refl _) (Nat.le_refl _) (by rw [tx_len, tx_len]; exact hz) fun t' k _ => ?_
  rw [e]
  exact h t' k
end
end Mine
end
section
open PySem PySem.W PySem.Calls PyProof.Rows
set_option maxRecDepth 100000
namespace Mine
/-- the block's ledger, while the outer frame stands in it -/
noncomputable def blk (L D : Addr) (oL : Obj) (ys : List Value) (nn : Nat) (own led : List (Addr × Obj)) : List (Addr × Obj) := (L, oL) :: (D, listOf ys.toArray nn) :: (own ++ led)
noncomputable def Off (wr : List Addr) (L C D : Addr) (led : List (Addr × Obj)) : Prop := ∀ p ∈ led, p.1 ∉ wr ∧ p.1 ≠ C ∧ p.1 ≠ D ∧ p.1 ≠ L
inductive CEnd {σ : Type} (h₀ : Heap) (wr : List Addr) (L C D : Addr) (oL : Obj) (own : List (Addr × Obj)) (Led : σ → List (Addr × Obj)) (Pc : Nat → σ → List Value → Prop) (x : MStr) (v : Value) (i : Nat) (ys : List Value) (nn : Nat) (s₁ : Shared) (y : Value) (s₂ : Shared) : Prop
  | mk (c' : σ) (h' : Heap) (tk : Nat) (news' : List (Addr × Obj)) (oL' : Obj) (k0 : s₂ = { s₁ with heap := h', toks := tk }) (k1 : (∀ m : MStr → Option Value, (∀ h'' : Heap, h''.get? L = some oL → h''.Ns L m) → ∀ h'' : Heap, h''.get? L = some oL' → h''.Ns L m)) (k2 : Fr h₀ C h' (fun z => if z = x then some v else none)) (k3 : News h₀ C h' news') (k4 : (∀ p ∈ blk L D oL' ys nn own (Led c'), p ∈ news')) (k5 : Off wr L C D (Led c')) (k6 : Pc (i + 1) c' (ys ++ [y])) : CEnd h₀ wr L C D oL own Led Pc x v i ys nn s₁ y s₂
theorem cend {σ : Type} {h₀ : Heap} {wr : List Addr} {L C D : Addr} {oL : Obj} {own : List (Addr × Obj)} {Led : σ → List (Addr × Obj)} {Pc : Nat → σ → List Value → Prop} {x : MStr} {v : Value} {i : Nat} {ys : List Value} {nn : Nat} {s₁ : Shared} {y : Value} {h' : Heap} {tk : Nat} {news' : List (Addr × Obj)} (c' : σ)
    (F : Fr h₀ C h' (fun z => if z = x then some v else none)) (N : News h₀ C h' news') (hn : ∀ p ∈ blk L D oL ys nn own (Led c'), p ∈ news') (ho : Off wr L C D (Led c')) (hp : Pc (i + 1) c' (ys ++ [y])) :
    CEnd h₀ wr L C D oL own Led Pc x v i ys nn s₁ y { s₁ with heap := h', toks := tk } := ⟨c', h', tk, news', oL, rfl, fun _ H => H, F, N, hn, ho, hp⟩
theorem cendO {σ : Type} {h₀ : Heap} {wr : List Addr} {L C D : Addr} {oL oL' : Obj} {own : List (Addr × Obj)} {Led : σ → List (Addr × Obj)} {Pc : Nat → σ → List Value → Prop} {x : MStr} {v : Value} {i : Nat} {ys : List Value} {nn : Nat} {s₁ : Shared} {y : Value} {h' : Heap} {tk : Nat} {news' : List (Addr × Obj)} (c' : σ)
    (H : ∀ m : MStr → Option Value, (∀ h'' : Heap, h''.get? L = some oL → h''.Ns L m) → ∀ h'' : Heap, h''.get? L = some oL' → h''.Ns L m)
    (F : Fr h₀ C h' (fun z => if z = x then some v else none)) (N : News h₀ C h' news') (hn : ∀ p ∈ blk L D oL' ys nn own (Led c'), p ∈ news') (ho : Off wr L C D (Led c')) (hp : Pc (i + 1) c' (ys ++ [y])) :
    CEnd h₀ wr L C D oL own Led Pc x v i ys nn s₁ y { s₁ with heap := h', toks := tk } := ⟨c', h', tk, news', oL', rfl, H, F, N, hn, ho, hp⟩
theorem new_is_new {h₀ h : Heap} {L : Addr} {m : MStr → Option Value} (F : Fr h₀ L h m) {a : Addr} (ha : h.objs.size ≤ a) : h₀.get? a = none := by
  cases e : h₀.get? a with
  | none => rfl
  | some o => exact absurd (Heap.lt_size (F.keep _ _ e)) (Nat.not_lt.mpr ha)
section
variable {prog : Program} {w : World} {A : Around} {E : Value → Shared → Prop} {env : Env}
theorem compBlk {σ : Type} {elt iter : PySem.Expr} {x : MStr} {px : Pos} {scope : Scope} {cl : List (MStr × Addr)} {pos : Pos} {s₂ : Shared} {I : Addr} {fp wr : List Addr} {n : Nat} {P : Nat → Value → Prop} {St : Nat → Heap → Prop}
    (W : Walks prog w A I fp wr n P St) (hsz : n ≤ sizeLine) {RR : Value → Addr → Result → Shared → Prop} (Led : σ → List (Addr × Obj)) (Pc : Nat → σ → List Value → Prop) (c₀ : σ) {h₀ : Heap} {L : Addr} {m : MStr → Option Value}
    (hcell : ∀ y ∈ scope.names, y.2 ≠ .cell) (hkind : scope.kind = .function) (hx : scope.names.lookup x = some .local) (hst : St 0 s₂.heap) (hfp : ∀ b ∈ fp, b < s₂.heap.objs.size) (hwr : ∀ b ∈ wr, h₀.get? b = none) (hLw : L ∉ wr)
    (F : Fr h₀ L s₂.heap m) (N : News h₀ L s₂.heap (Led c₀)) (hnw : ∀ p ∈ Led c₀, p.1 ∉ wr) (hp : Pc 0 c₀ [])
    (helt : ∀ i c v ys C D oL (E' : Value → Shared → Prop) h tk own nn, i < n → P i v → ys.length = i → Pc i c ys → Off wr L C D (Led c) → (∀ p ∈ own, p.1 ∈ fp) → (∀ b ∈ fp, h₀.get? b = none → ∀ o, h.get? b = some o → (b, o) ∈ own) → St (i + 1) h → s₂.heap.objs.size ≤ C → s₂.heap.objs.size ≤ D → D ≠ C → (∀ h' : Heap, h'.get? L = some oL → h'.Ns L m) → L < C →
      Fr h₀ C h (fun z => if z = x then some v else none) → News h₀ C h (blk L D oL ys nn own (Led c)) →
      wpAny (model prog w) A (eval elt (compEnvC scope cl C env)) (CEnd h₀ wr L C D oL own Led Pc x v i ys nn { s₂ with heap := h, toks := tk }) E' { s₂ with heap := h, toks := tk })
    (hRR : ∀ D C h' tk m' ys c nn, s₂.heap.objs.size ≤ D → s₂.heap.objs.size ≤ C → D ≠ C → h'.Ns C m' → Fr h₀ L h' m → News h₀ L h' ((D, listOf ys.toArray nn) :: Led c) → Off wr L C D (Led c) → ys.length = n → Pc n c ys → RR (.ref D) C (.ok .next) { s₂ with heap := h', toks := tk }) :
    wpAny (model prog w) A (newList []) (fun acc s₃ => wpAny (model prog w) A (newFunctionEnv scope env.globals cl [] env.qual none .none (some env)) (fun cenv s₄ =>
      codeAny (model prog w) A (.compStart (.ListComp elt [⟨.Name x px, iter, [], 0⟩] scope pos) 0 (.ref I) acc { cenv with scope := relabel scope env }) (RR acc cenv.locals) s₄) E s₃) E s₂ := by
  refine wpAny_newObj_type (wpAny_newFunctionEnv hcell (by intro y hy; simp at hy) (fun h₁ hns₁ hsb₁ => ?_) hkind)
  dsimp only at hns₁ hsb₁ ⊢
  generalize hH2 : s₂.heap.push { cls := .type "list", dict := none, data := .seq ([] : List Value).toArray } = H2 at hns₁ hsb₁ ⊢
  have hC : H2.objs.size = s₂.heap.objs.size + 1 := by rw [← hH2, Heap.size_push]
  have hDC : s₂.heap.objs.size ≠ H2.objs.size := by rw [hC]; exact Nat.ne_of_lt (Nat.lt_succ_self _)
  have hCle : s₂.heap.objs.size ≤ H2.objs.size := by rw [hC]; exact Nat.le_succ _
  have below : ∀ b, b < s₂.heap.objs.size → b ≠ H2.objs.size ∧ b ≠ s₂.heap.objs.size := fun b hb => ⟨by rw [hC]; exact Nat.ne_of_lt (Nat.lt_succ_of_lt hb), Nat.ne_of_lt hb⟩
  have hDf : s₂.heap.objs.size ∉ fp := fun hm => Nat.lt_irrefl _ (hfp _ hm)
  have hCf : H2.objs.size ∉ fp := fun hm => by have := hfp _ hm; rw [hC] at this; exact Nat.lt_irrefl _ (Nat.lt_of_succ_lt this)
  have old : ∀ b o, s₂.heap.get? b = some o → h₁.get? b = some o := fun b o e => hsb₁.extBut b o (below b (Heap.lt_size e)).1 (Heap.get?_push_of_some _ (hH2 ▸ Heap.get?_push_of_some _ e))
  have hacc : h₁.PlainList s₂.heap.objs.size #[] := ⟨_, hsb₁.extBut _ _ hDC (Heap.get?_push_of_some _ (hH2 ▸ Heap.get?_push_size _ rfl))⟩
  have hst₁ : St 0 h₁ := W.frame _ _ _ hst fun b _ o e => old b o e
  have hLlt : L < s₂.heap.objs.size := F.ns.lt
  have F₁ : Fr h₀ L h₁ m := F.keeps old
  have N₁ : News h₀ L h₁ (Led c₀) := fun p hp => ⟨old _ _ (N p hp).1, (N p hp).2⟩
  have off₁ : Off wr L H2.objs.size s₂.heap.objs.size (Led c₀) := fun p hp => ⟨hnw p hp, (below _ (Heap.lt_size (N p hp).1)).1, (below _ (Heap.lt_size (N p hp).1)).2, (N p hp).2.1⟩
  have hC0 : h₀.get? H2.objs.size = none := new_is_new F hCle
  have hD0 : h₀.get? s₂.heap.objs.size = none := new_is_new F (Nat.le_refl _)
  have hLC : L ≠ H2.objs.size := (below L hLlt).1
  have hLD : L ≠ s₂.heap.objs.size := (below L hLlt).2
  have hCa : h₀.objs.size ≤ H2.objs.size := Nat.le_trans (Nat.le_trans F.above (Nat.le_of_lt hLlt)) hCle
  have hL0 : h₀.get? L = none := by
    cases e : h₀.get? L with
    | none => rfl
    | some o => exact absurd (Heap.lt_size e) (Nat.not_lt.mpr F.above)
  have hCw : H2.objs.size ∉ wr := fun h => hCf (W.sub _ h)
  have hDw : s₂.heap.objs.size ∉ wr := fun h => hDf (W.sub _ h)
  generalize hCg : H2.objs.size = C at *
  generalize hDg : s₂.heap.objs.size = D at *
  have hxl : (compEnvC scope cl C env).kindOf x = some .local := lookup_relabel_local hx
  have loop : ∀ s₃ : Shared, s₃ = { s₂ with heap := h₁, toks := s₂.toks + ([] : List (MStr × Value)).length } →
      codeAny (model prog w) A (.compLoop (.ListComp elt [⟨.Name x px, iter, [], 0⟩] scope pos) 0 (.ref I) (.ref D) (compEnvC scope cl C env)) (RR (.ref D) C) s₃ := by
    rintro s₃ rfl
    refine codeAny_compLoop_tests
      (fun k s' => ∃ h' tk ys c, s' = { s₂ with heap := h', toks := tk } ∧ St ys.length h' ∧ h'.PlainList D ys.toArray ∧ (∃ m', h'.Ns C m' ∧ ∀ z, z ≠ x → m' z = none) ∧ Fr h₀ L h' m ∧ News h₀ L h' (Led c) ∧ Off wr L C D (Led c) ∧ Pc ys.length c ys ∧ ys.length ≤ n ∧ k = n + 1 - ys.length) ?_ (n + 1)
      ⟨h₁, _, [], c₀, rfl, hst₁, hacc, ⟨_, hns₁, fun _ _ => rfl⟩, F₁, N₁, off₁, hp, Nat.zero_le _, rfl⟩
    intro k s' hI
    (try k_fold)
    obtain ⟨H, tk, ys, c, rfl, hst', hacc', ⟨m', hn', hm'⟩, F', N', off', hp', hi, rfl⟩ := hI
    by_cases hlt : ys.length < n
    · refine W.item ys.length _ _ _ hlt hst' fun v h₁ tk₁ hPv hst₁ hk₁ => ?_
      refine wpAny_assign_Name (wpAny_storeName_local hxl (hn'.at' fun o e => hk₁ _ o hCw e) (fun h₂ hn₂ hs₂ => ?_) (by simp [compEnvC, relabel, hkind]))
      have up₂ : ∀ b o, b ≠ C → b ∉ wr → H.get? b = some o → h₂.get? b = some o := fun b o hbC hbf e => hs₂.extBut b o hbC (hk₁ b o hbf e)
      have hst₂ : St (ys.length + 1) h₂ := W.frame _ _ _ hst₁ fun b hb o e => hs₂.extBut b o (fun h => hCf ((show b = C from h) ▸ hb)) e
      obtain ⟨oL, es, ep, hoL, hoL2⟩ := F'.ns
      have hns : ∀ h' : Heap, h'.get? L = some oL → h'.Ns L m := fun h' e => ⟨oL, es, ep, e, hoL2⟩
      obtain ⟨nn, hoD⟩ := hacc'
      have FC : Fr h₀ C h₂ (fun z => if z = x then some v else none) := by
        refine ⟨?_, fun b o e => up₂ b o ?_ (fun hb => by rw [hwr b hb] at e; cases e) (F'.keep b o e), hCa⟩
        · have : (fun z => if z = x then some v else m' z) = fun z => if z = x then some v else none := by
            funext z
            by_cases hz : z = x
            · simp [hz]
            · simp [hz, hm' z hz]
          rw [← this]; exact hn₂
        · rintro rfl; rw [hC0] at e; cases e
      have NC : News h₀ C h₂ (blk L D oL ys nn (ownOf h₀ fp h₂) (Led c)) := by
        intro p hp
        rcases List.mem_cons.mp hp with rfl | hp
        · exact ⟨up₂ _ _ hLC hLw hoL, hLC, hL0⟩
        · rcases List.mem_cons.mp hp with rfl | hp
          · exact ⟨up₂ _ _ hDC hDw hoD, hDC, hD0⟩
          · rcases List.mem_append.mp hp with hp | hp
            · exact news_ownOf hCf p hp
            · exact ⟨up₂ _ _ (off' p hp).2.1 (off' p hp).1 (N' p hp).1, (off' p hp).2.1, (N' p hp).2.2⟩
      refine wpAny_pure ?_
      simp only [if_true]
      refine wpAny_mono (helt ys.length c v ys C D oL _ h₂ _ (ownOf h₀ fp h₂) nn hlt hPv rfl hp' off' ownOf_sub (fun b hb hn o e => mem_ownOf hb hn e) hst₂ hCle (by rw [← hDg]; exact Nat.le_refl _) hDC hns (Nat.lt_of_lt_of_le hLlt hCle) FC NC) (fun y s₄ h₄ => ?_) fun _ _ e => e
      obtain ⟨c', h₃, tk₃, news', oL', rfl, hLo, F₃, N₃, hn₃, off₃, hp₃⟩ := h₄
      have hns := hLo _ hns
      have hD₃ := (N₃ _ (hn₃ (D, listOf ys.toArray nn) (List.Mem.tail _ (List.Mem.head _)))).1
      have hL₃ := (N₃ _ (hn₃ (L, oL') (List.Mem.head _))).1
      have hys : ys.toArray.size ≤ sizeLine := by rw [List.size_toArray]; lia
      have hst₃ : St (ys.length + 1) h₃ := by
        refine W.frame _ _ _ hst₂ fun b hb o e => ?_
        cases hn : h₀.get? b with
        | some o₀ =>
          have : o₀ = o := by have := FC.keep b o₀ hn; rw [e] at this; exact (Option.some.inj this).symm
          exact this ▸ F₃.keep b o₀ hn
        | none => exact (N₃ _ (hn₃ _ (List.Mem.tail _ (List.Mem.tail _ (List.mem_append_left _ (mem_ownOf hb hn e)))))).1
      refine wpAny_list_append_plain (hsz := hys) ⟨nn, hD₃⟩ fun h₅ hl₅ hs₅ => ?_
      refine ⟨n + 1 - (ys.length + 1), by lia, h₅, tk₃, ys ++ [y], c', rfl, ?_, ?_, ⟨_, F₃.ns.sameBut hs₅ (Ne.symm hDC), fun z hz => by simp [hz]⟩, ?_, ?_, off₃, ?_, ?_, ?_⟩
      · have := W.frame _ _ h₅ hst₃ fun b hb o e => hs₅.extBut b o (fun h => hDf (h ▸ hb)) e
        simpa using this
      · simpa using hl₅
      · exact ⟨hns h₅ (hs₅.extBut _ _ hLD hL₃), fun b o e => hs₅.extBut b o (by rintro rfl; rw [hD0] at e; cases e) (F₃.keep b o e), F'.above⟩
      · intro p hp
        have h9 := N₃ p (hn₃ p (List.Mem.tail _ (List.Mem.tail _ (List.mem_append_right _ hp))))
        refine ⟨hs₅.extBut _ _ (off₃ p hp).2.2.1 h9.1, (off₃ p hp).2.2.2, h9.2.2⟩
      · simpa using hp₃
      · simp; lia
      · simp
    · have hin : ys.length = n := by lia
      refine W.done _ _ _ (hin ▸ hst') fun h₁ tk₁ hk₁ => ?_
      obtain ⟨nn, hoD⟩ := hacc'
      refine hRR D C h₁ tk₁ m' ys c nn (by rw [← hDg]; exact Nat.le_refl _) hCle hDC (hn'.at' fun o e => hk₁ _ o hCw e) ⟨F'.ns.at' fun o e => hk₁ _ o hLw e, fun b o e => hk₁ b o (fun hb => by rw [hwr b hb] at e; cases e) (F'.keep b o e), F'.above⟩ ?_ off' hin (hin ▸ hp')
      intro p hp
      rcases List.mem_cons.mp hp with rfl | hp
      · exact ⟨hk₁ _ _ hDw hoD, Ne.symm hLD, hD0⟩
      · exact ⟨hk₁ _ _ (off' p hp).1 (N' p hp).1, (N' p hp).2⟩
  exact codeAny_compStart_list (loop _ rfl) (W.self 0 _ _ _ hst₁ (loop _ rfl))
/-- what a comprehension over `it` needs and gives -/
inductive CompAt (prog : Program) (w : World) (A : Around) (h₀ : Heap) (env : Env) (scope : Scope) (cl : List (MStr × Addr)) (x : MStr) (elt : PySem.Expr) (mf : (MStr → Option Value) → Addr → (MStr → Option Value)) (Done : Addr → Shared → Prop) (it : Value) (s₂ : Shared) : Prop
  | mk (σ : Type) (I : Addr) (fp wr : List Addr) (n : Nat) (P : Nat → Value → Prop) (St : Nat → Heap → Prop) (Led : σ → List (Addr × Obj)) (Pc : Nat → σ → List Value → Prop) (c₀ : σ) (m : MStr → Option Value)
    (k0 : it = .ref I)
    (k1 : Walks prog w A I fp wr n P St)
    (k2 : n ≤ sizeLine)
    (k3 : St 0 s₂.heap)
    (k4 : (∀ b ∈ fp, b < s₂.heap.objs.size))
    (k5 : (∀ b ∈ wr, h₀.get? b = none))
    (k6 : env.locals ∉ wr)
    (k7 : Fr h₀ env.locals s₂.heap m)
    (k8 : News h₀ env.locals s₂.heap (Led c₀))
    (k9 : (∀ p ∈ Led c₀, p.1 ∉ wr))
    (k10 : Pc 0 c₀ [])
    (k11 : (∀ i c v ys C D oL (E' : Value → Shared → Prop) h tk own nn, i < n → P i v → ys.length = i → Pc i c ys → Off wr env.locals C D (Led c) → (∀ p ∈ own, p.1 ∈ fp) → (∀ b ∈ fp, h₀.get? b = none → ∀ o, h.get? b = some o → (b, o) ∈ own) → St (i + 1) h → s₂.heap.objs.size ≤ C → s₂.heap.objs.size ≤ D → D ≠ C → (∀ h' : Heap, h'.get? env.locals = some oL → h'.Ns env.locals m) → env.locals < C →
      Fr h₀ C h (fun z => if z = x then some v else none) → News h₀ C h (blk env.locals D oL ys nn own (Led c)) →
      wpAny (model prog w) A (eval elt (compEnvC scope cl C env)) (CEnd h₀ wr env.locals C D oL own Led Pc x v i ys nn { s₂ with heap := h, toks := tk }) E' { s₂ with heap := h, toks := tk }))
    (k12 : (∀ D h' tk ys c nn, s₂.heap.objs.size ≤ D → Fr h₀ env.locals h' (mf m D) → News h₀ env.locals h' ((D, listOf ys.toArray nn) :: Led c) → (∀ p ∈ Led c, p.1 ≠ D) → ys.length = n → Pc n c ys → Done D { s₂ with heap := h', toks := tk })) : CompAt prog w A h₀ env scope cl x elt mf Done it s₂
theorem compL {s : Shared} {h₀ : Heap} {elt iter : PySem.Expr} {x : MStr} {px : Pos} {scope : Scope} {cl : List (MStr × Addr)} {pos : Pos} {Q : Value → Shared → Prop}
    (hclos : closureFor scope env = pure cl) (hcell : ∀ y ∈ scope.names, y.2 ≠ .cell) (hkind : scope.kind = .function)
    (hnames : ∀ y ∈ scope.names, y.2 = .local → scope.names.lookup y.1 = some .local) (hx : scope.names.lookup x = some .local)
    (h : wpAny (model prog w) A (eval iter env) (fun xv s₁ => wpAny (model prog w) A (pyIter xv) (CompAt prog w A h₀ env scope cl x elt (fun m _ => m) (fun D s' => Q (.ref D) s')) E s₁) E s)
    (hs : ∀ x, foldedSetIterable iter env x = pure x := by intro _; rfl) :
    wpAny (model prog w) A (eval (.ListComp elt [⟨.Name x px, iter, [], 0⟩] scope pos) env) Q E s := by
  rw [eval_ListComp]
  refine wpAny_comprehension_free (use := none) rfl hs hclos hkind hnames (wpAny_mono h (fun xv s₁ h₁ => wpAny_mono h₁ (fun it s₂ h₂ => ?_) fun _ _ e => e) fun _ _ e => e)
  obtain ⟨σ, I, fp, wr, n, P, St, Led, Pc, c₀, m, rfl, W, hsz, hst, hfp, hwr, hLw, F, N, hnw, hp, helt, done⟩ := h₂
  refine compBlk (RR := fun acc C => compPost (model prog w) A E none Q acc C) W hsz Led Pc c₀ hcell hkind hx hst hfp hwr hLw F N hnw hp helt ?_
  intro D C h' tk m' ys c nn hDl hCl hDC hn F' N' off hlen hp'
  have hLC : env.locals ≠ C := Nat.ne_of_lt (Nat.lt_of_lt_of_le F.ns.lt hCl)
  refine ⟨m', hn, fun h'' hs'' => done D h'' tk ys c nn hDl ⟨F'.ns.sameBut hs'' hLC, fun b o e => hs''.extBut b o (by rintro rfl; rw [new_is_new F hCl] at e; cases e) (F'.keep b o e), F'.above⟩ (fun p hp => ?_) (fun p hp => (off p hp).2.2.1) hlen hp'⟩
  refine ⟨hs''.extBut _ _ ?_ (N' p hp).1, (N' p hp).2⟩
  rcases List.mem_cons.mp hp with rfl | hp
  · exact hDC
  · exact (off p hp).2.1
theorem compA {s : Shared} {h₀ : Heap} {elt iter : PySem.Expr} {x y : MStr} {px py : Pos} {scope : Scope} {cl : List (MStr × Addr)} {pos spos : Pos} {Q : Flow → Shared → Prop}
    (hsw : swapsWith (.ListComp elt [⟨.Name x px, iter, [], 0⟩] scope pos) (some (.Name y py)) spos.line env = pure true)
    (hclos : closureFor scope env = pure cl) (hcell : ∀ y ∈ scope.names, y.2 ≠ .cell) (hkind : scope.kind = .function)
    (hnames : ∀ y ∈ scope.names, y.2 = .local → scope.names.lookup y.1 = some .local) (hx : scope.names.lookup x = some .local)
    (hy : env.kindOf y = some .local) (hpp : (env.scope.kind == .class || (env.scope.kind == .module && env.locals != env.globals)) = false)
    (h : wpAny (model prog w) A (eval iter env) (fun xv s₁ => wpAny (model prog w) A (pyIter xv) (CompAt prog w A h₀ env scope cl x elt (fun m D z => if z = y then some (.ref D) else m z) (fun _ s' => Q .next s')) E s₁) E s)
    (hs : ∀ x, foldedSetIterable iter env x = pure x := by intro _; rfl) :
    wpAny (model prog w) A (exec (.Assign [.Name y py] (.ListComp elt [⟨.Name x px, iter, [], 0⟩] scope pos) spos) env) Q E s := by
  rw [exec_Assign_Name_used _ _ _ _ hsw]
  refine wpAny_bind (wpAny_standAt (wpAny_bind ?_))
  show wpAny _ A (do let _ ← comprehension (.ListComp elt [⟨.Name x px, iter, [], 0⟩] scope pos) scope env _ (newList []) false (eval iter env) (some (assign (.Name y py) env))) _ _ s
  refine wpAny_bind (wpAny_mono (wpAny_comprehension_free (use := some (assign (.Name y py) env)) (Q := fun _ s' => Q .next s') rfl hs hclos hkind hnames
    (wpAny_mono h (fun xv s₁ h₁ => wpAny_mono h₁ (fun it s₂ h₂ => ?_) fun _ _ e => e) fun _ _ e => e)) (fun _ s' hq => wpAny_pure (wpAny_pure hq)) fun _ _ e => e)
  obtain ⟨σ, I, fp, wr, n, P, St, Led, Pc, c₀, m, rfl, W, hsz, hst, hfp, hwr, hLw, F, N, hnw, hp, helt, done⟩ := h₂
  refine compBlk (RR := fun acc C => compPost (model prog w) A E (some (assign (.Name y py) env)) (fun _ s' => Q .next s') acc C) W hsz Led Pc c₀ hcell hkind hx hst hfp hwr hLw F N hnw hp helt ?_
  intro D C h' tk m' ys c nn hDl hCl hDC hn F' N' off hlen hp'
  have hLC : env.locals ≠ C := Nat.ne_of_lt (Nat.lt_of_lt_of_le F.ns.lt hCl)
  show wpAny _ A (assign (.Name y py) env (.ref D)) _ _ _
  refine wpAny_assign_Name (wpAny_storeName_local hy F'.ns (fun h₂ hn₂ hs₂ => ?_) hpp)
  refine ⟨m', hn.sameBut hs₂ (Ne.symm hLC), fun h₃ hs₃ => ?_⟩
  have F2 := F'.set hn₂ hs₂
  have N2 := N'.set hs₂
  refine done D h₃ _ ys c nn hDl ⟨F2.ns.sameBut hs₃ hLC, fun b o e => hs₃.extBut b o (by rintro rfl; rw [new_is_new F hCl] at e; cases e) (F2.keep b o e), F2.above⟩ (fun p hp => ?_) (fun p hp => (off p hp).2.2.1) hlen hp'
  refine ⟨hs₃.extBut _ _ ?_ (N2 p hp).1, (N2 p hp).2⟩
  rcases List.mem_cons.mp hp with rfl | hp
  · exact hDC
  · exact (off p hp).2.1
theorem compPush {σ : Type} {s : Shared} {h₀ : Heap} {elt : PySem.Expr} {x : MStr} {scope : Scope} {cl : List (MStr × Addr)} {o : Obj} {fp : List Addr} {n : Nat} {P : Nat → Value → Prop} {St : Nat → Heap → Prop} {m : MStr → Option Value} {mf : (MStr → Option Value) → Addr → (MStr → Option Value)} {Done : Addr → Shared → Prop} (Led : σ → List (Addr × Obj)) (Pc : Nat → σ → List Value → Prop) (c₀ : σ)
    (W : Walks prog w A s.heap.objs.size fp [s.heap.objs.size] n P St) (hfp : ∀ b ∈ fp, b = s.heap.objs.size ∨ b < s.heap.objs.size) (hst : St 0 (s.heap.push o)) (hz : n ≤ 16384) (F : Fr h₀ env.locals s.heap m) (N : News h₀ env.locals s.heap (Led c₀)) (hp : Pc 0 c₀ [])
    (helt : ∀ i c v ys C D oL (E' : Value → Shared → Prop) h tk own nn, i < n → P i v → ys.length = i → Pc i c ys → Off [s.heap.objs.size] env.locals C D (Led c) → (∀ p ∈ own, p.1 ∈ fp) → (∀ b ∈ fp, h₀.get? b = none → ∀ o, h.get? b = some o → (b, o) ∈ own) → St (i + 1) h → s.heap.objs.size ≤ C → s.heap.objs.size ≤ D → D ≠ C → (∀ h' : Heap, h'.get? env.locals = some oL → h'.Ns env.locals m) → env.locals < C →
      Fr h₀ C h (fun z => if z = x then some v else none) → News h₀ C h (blk env.locals D oL ys nn own (Led c)) →
      wpAny (model prog w) A (eval elt (compEnvC scope cl C env)) (CEnd h₀ [s.heap.objs.size] env.locals C D oL own Led Pc x v i ys nn { s with heap := h, toks := tk }) E' { s with heap := h, toks := tk })
    (done : ∀ D h' tk ys c nn, s.heap.objs.size ≤ D → Fr h₀ env.locals h' (mf m D) → News h₀ env.locals h' ((D, listOf ys.toArray nn) :: Led c) → (∀ p ∈ Led c, p.1 ≠ D) → ys.length = n → Pc n c ys → Done D { s with heap := h', toks := tk }) :
    CompAt prog w A h₀ env scope cl x elt mf Done (.ref s.heap.objs.size) { s with heap := s.heap.push o } := by
  have hps : (s.heap.push o).objs.size = s.heap.objs.size + 1 := Heap.size_push ..
  refine ⟨σ, _, _, _, _, _, _, Led, Pc, c₀, m, rfl, W, by rw [sizeLine_eq]; lia, hst, ?_, ?_, ?_, F.push _, fun p hp => ⟨Heap.get?_push_of_some _ (N p hp).1, (N p hp).2⟩, ?_, hp, ?_, ?_⟩
  · intro b hb
    show b < (Heap.push _ _).objs.size
    rw [Heap.size_push]
    rcases hfp b hb with rfl | hb
    · exact Nat.lt_succ_self _
    · exact Nat.lt_succ_of_lt hb
  · intro b hb
    rw [List.mem_singleton.mp hb]
    exact next_is_new F
  · intro hm
    exact absurd F.ns.lt ((List.mem_singleton.mp hm) ▸ Nat.lt_irrefl _)
  · intro p hp hI
    exact absurd (Heap.lt_size (N p hp).1) ((List.mem_singleton.mp hI) ▸ Nat.lt_irrefl _)
  · intro i c v ys C D oL E' h tk own nn hi hv hlen hpc hoff hown hall hsti hC hD hDC hns hLC F' N'
    have hC' : s.heap.objs.size + 1 ≤ C := by rw [← hps]; exact hC
    have hD' : s.heap.objs.size + 1 ≤ D := by rw [← hps]; exact hD
    exact helt i c v ys C D oL E' h tk own nn hi hv hlen hpc hoff hown hall hsti (Nat.le_of_succ_le hC') (Nat.le_of_succ_le hD') hDC hns hLC F' N'
  · intro D h' tk ys c nn hD F' N' ho hlen hp'
    have hD' : s.heap.objs.size + 1 ≤ D := by rw [← hps]; exact hD
    exact done D h' tk ys c nn (Nat.le_of_succ_le hD') F' N' ho hlen hp'
theorem compList {σ : Type} {s : Shared} {h₀ : Heap} {elt : PySem.Expr} {x : MStr} {scope : Scope} {cl : List (MStr × Addr)} {m : MStr → Option Value} {mf : (MStr → Option Value) → Addr → (MStr → Option Value)} {Done : Addr → Shared → Prop} {l : Addr} {us : List Value} (Led : σ → List (Addr × Obj)) (Pc : Nat → σ → List Value → Prop) (c₀ : σ)
    (hh : A.handled = none) (hl : s.heap.IsList l us.toArray) (hz : us.length ≤ 16384) (F : Fr h₀ env.locals s.heap m) (N : News h₀ env.locals s.heap (Led c₀)) (hp : Pc 0 c₀ [])
    (helt : ∀ i c v ys C D I oL (E' : Value → Shared → Prop) h tk own nn, us[i]? = some v → ys.length = i → Pc i c ys → Off [I] env.locals C D (Led c) → (∀ p ∈ own, p.1 = I ∨ p.1 = l) → (∃ o, (I, o) ∈ own) → s.heap.objs.size ≤ C → s.heap.objs.size ≤ D → D ≠ C → s.heap.objs.size ≤ I → (∀ h' : Heap, h'.get? env.locals = some oL → h'.Ns env.locals m) → env.locals < C →
      Fr h₀ C h (fun z => if z = x then some v else none) → News h₀ C h (blk env.locals D oL ys nn own (Led c)) →
      wpAny (model prog w) A (eval elt (compEnvC scope cl C env)) (CEnd h₀ [I] env.locals C D oL own Led Pc x v i ys nn { s with heap := h, toks := tk }) E' { s with heap := h, toks := tk })
    (done : ∀ D h' tk ys c nn, s.heap.objs.size ≤ D → Fr h₀ env.locals h' (mf m D) → News h₀ env.locals h' ((D, listOf ys.toArray nn) :: Led c) → (∀ p ∈ Led c, p.1 ≠ D) → ys.length = us.length → Pc us.length c ys → Done D { s with heap := h', toks := tk }) :
    wpAny (model prog w) A (pyIter (.ref l)) (CompAt prog w A h₀ env scope cl x elt mf Done) E s := by
  obtain ⟨ol, hol, hcls⟩ := id hl
  have hlt := Heap.lt_size hol
  have hne : l ≠ s.heap.objs.size := Nat.ne_of_lt hlt
  refine wpAny_pyIter_list hl ?_
  have W := Walks.list (prog := prog) (w := w) hh s.heap.objs.size l hne us.toArray
  rw [List.size_toArray] at W
  refine compPush Led Pc c₀ W (fun b hb => ?_) ⟨⟨_, Heap.get?_push_size _ rfl, rfl, rfl⟩, hl.at fun o e => Heap.get?_push_of_some _ e⟩ hz F N hp ?_ done
  · rcases List.mem_cons.mp hb with rfl | hb
    · exact .inl rfl
    · exact .inr (by rw [List.mem_singleton.mp hb]; exact hlt)
  · intro i c v ys C D oL E' h tk own nn hi hv h1 h2 h3 h4 hall hsti h5 h6 h7
    obtain ⟨⟨o, ho, _⟩, _⟩ := hsti
    exact helt i c v ys C D _ oL E' h tk own nn (by simpa using hv) h1 h2 h3 (fun p hp => by simpa using h4 p hp) ⟨o, hall _ (by simp) (next_is_new F) o ho⟩ h5 h6 h7 (Nat.le_refl _)
theorem compTup {σ : Type} {s : Shared} {h₀ : Heap} {elt : PySem.Expr} {x : MStr} {scope : Scope} {cl : List (MStr × Addr)} {m : MStr → Option Value} {mf : (MStr → Option Value) → Addr → (MStr → Option Value)} {Done : Addr → Shared → Prop} {l : Addr} {us : List Value} (Led : σ → List (Addr × Obj)) (Pc : Nat → σ → List Value → Prop) (c₀ : σ)
    (hh : A.handled = none) (hl : s.heap.IsTuple l us.toArray) (hz : us.length ≤ 16384) (F : Fr h₀ env.locals s.heap m) (N : News h₀ env.locals s.heap (Led c₀)) (hp : Pc 0 c₀ [])
    (helt : ∀ i c v ys C D I oL (E' : Value → Shared → Prop) h tk own nn, us[i]? = some v → ys.length = i → Pc i c ys → Off [I] env.locals C D (Led c) → (∀ p ∈ own, p.1 = I ∨ p.1 = l) → (∃ o, (I, o) ∈ own) → s.heap.objs.size ≤ C → s.heap.objs.size ≤ D → D ≠ C → s.heap.objs.size ≤ I → (∀ h' : Heap, h'.get? env.locals = some oL → h'.Ns env.locals m) → env.locals < C →
      Fr h₀ C h (fun z => if z = x then some v else none) → News h₀ C h (blk env.locals D oL ys nn own (Led c)) →
      wpAny (model prog w) A (eval elt (compEnvC scope cl C env)) (CEnd h₀ [I] env.locals C D oL own Led Pc x v i ys nn { s with heap := h, toks := tk }) E' { s with heap := h, toks := tk })
    (done : ∀ D h' tk ys c nn, s.heap.objs.size ≤ D → Fr h₀ env.locals h' (mf m D) → News h₀ env.locals h' ((D, listOf ys.toArray nn) :: Led c) → (∀ p ∈ Led c, p.1 ≠ D) → ys.length = us.length → Pc us.length c ys → Done D { s with heap := h', toks := tk }) :
    wpAny (model prog w) A (pyIter (.ref l)) (CompAt prog w A h₀ env scope cl x elt mf Done) E s := by
  obtain ⟨ol, hol, hcls⟩ := id hl
  have hlt := Heap.lt_size hol
  have hne : l ≠ s.heap.objs.size := Nat.ne_of_lt hlt
  refine wpAny_pyIter_tuple hl ?_
  have W := Walks.tuple (prog := prog) (w := w) hh s.heap.objs.size l hne us.toArray
  rw [List.size_toArray] at W
  refine compPush Led Pc c₀ W (fun b hb => ?_) ⟨⟨_, Heap.get?_push_size _ rfl, rfl, rfl⟩, hl.at fun o e => Heap.get?_push_of_some _ e⟩ hz F N hp ?_ done
  · rcases List.mem_cons.mp hb with rfl | hb
    · exact .inl rfl
    · exact .inr (by rw [List.mem_singleton.mp hb]; exact hlt)
  · intro i c v ys C D oL E' h tk own nn hi hv h1 h2 h3 h4 hall hsti h5 h6 h7
    obtain ⟨⟨o, ho, _⟩, _⟩ := hsti
    exact helt i c v ys C D _ oL E' h tk own nn (by simpa using hv) h1 h2 h3 (fun p hp => by simpa using h4 p hp) ⟨o, hall _ (by simp) (next_is_new F) o ho⟩ h5 h6 h7 (Nat.le_refl _)
theorem compStr {σ : Type} {s : Shared} {h₀ : Heap} {elt : PySem.Expr} {x : MStr} {scope : Scope} {cl : List (MStr × Addr)} {m : MStr → Option Value} {mf : (MStr → Option Value) → Addr → (MStr → Option Value)} {Done : Addr → Shared → Prop} {l : List Nat} {t : Tok} (Led : σ → List (Addr × Obj)) (Pc : Nat → σ → List Value → Prop) (c₀ : σ)
    (hh : A.handled = none) (hz : l.length ≤ 16384) (F : Fr h₀ env.locals s.heap m) (N : News h₀ env.locals s.heap (Led c₀)) (hp : Pc 0 c₀ [])
    (helt : ∀ i c v ys C D I oL (E' : Value → Shared → Prop) h tk own nn, (∃ a u, l[i]? = some a ∧ v = .str (tx [a]) u) → ys.length = i → Pc i c ys → Off [I] env.locals C D (Led c) → (∀ p ∈ own, p.1 = I) → s.heap.objs.size ≤ C → s.heap.objs.size ≤ D → D ≠ C → s.heap.objs.size ≤ I → (∀ h' : Heap, h'.get? env.locals = some oL → h'.Ns env.locals m) → env.locals < C →
      Fr h₀ C h (fun z => if z = x then some v else none) → News h₀ C h (blk env.locals D oL ys nn own (Led c)) →
      wpAny (model prog w) A (eval elt (compEnvC scope cl C env)) (CEnd h₀ [I] env.locals C D oL own Led Pc x v i ys nn { s with heap := h, toks := tk }) E' { s with heap := h, toks := tk })
    (done : ∀ D h' tk ys c nn, s.heap.objs.size ≤ D → Fr h₀ env.locals h' (mf m D) → News h₀ env.locals h' ((D, listOf ys.toArray nn) :: Led c) → (∀ p ∈ Led c, p.1 ≠ D) → ys.length = l.length → Pc l.length c ys → Done D { s with heap := h', toks := tk }) :
    wpAny (model prog w) A (pyIter (.str (tx l) t)) (CompAt prog w A h₀ env scope cl x elt mf Done) E s := by
  refine wpAny_pyIter_str fun o St W hst => ?_
  have W := W A hh
  rw [show (tx l).cps.size = l.length from by simp] at W
  refine compPush Led Pc c₀ W (fun b hb => ?_) hst hz F N hp ?_ done
  · exact .inl (List.mem_singleton.mp hb)
  · intro i c v ys C D oL E' h tk own nn hi hv h1 h2 h3 h4 _ _ h5 h6 h7
    obtain ⟨a, u, ha, rfl⟩ := hv
    exact helt i c _ ys C D _ oL E' h tk own nn ⟨a, u, by simpa using ha, rfl⟩ h1 h2 h3 (fun p hp => by simpa using h4 p hp) h5 h6 h7 (Nat.le_refl _)
theorem compRange {σ : Type} {s : Shared} {h₀ : Heap} {elt : PySem.Expr} {x : MStr} {scope : Scope} {cl : List (MStr × Addr)} {m : MStr → Option Value} {mf : (MStr → Option Value) → Addr → (MStr → Option Value)} {Done : Addr → Shared → Prop} {r : Addr} {a₀ b₀ : Int} {t₀ u₀ v₀ : Tok} {n : Nat} (Led : σ → List (Addr × Obj)) (Pc : Nat → σ → List Value → Prop) (c₀ : σ)
    (hh : A.handled = none) (hr : IsRange s.heap r a₀ b₀ 1 t₀ u₀ v₀) (hsmall : Builtin.Range.small a₀ b₀ 1 = true) (hn : Builtin.Range.rangeSize a₀ b₀ 1 = (n : Int)) (hz : n ≤ 16384) (F : Fr h₀ env.locals s.heap m) (N : News h₀ env.locals s.heap (Led c₀)) (hp : Pc 0 c₀ [])
    (helt : ∀ i c v ys C D I oL (E' : Value → Shared → Prop) h tk own nn, i < n → (∃ t, v = .int (a₀ + i) t) → ys.length = i → Pc i c ys → Off [I] env.locals C D (Led c) → (∀ p ∈ own, p.1 = I) → (∃ o, (I, o) ∈ own) → s.heap.objs.size ≤ C → s.heap.objs.size ≤ D → D ≠ C → s.heap.objs.size ≤ I → (∀ h' : Heap, h'.get? env.locals = some oL → h'.Ns env.locals m) → env.locals < C →
      Fr h₀ C h (fun z => if z = x then some v else none) → News h₀ C h (blk env.locals D oL ys nn own (Led c)) →
      wpAny (model prog w) A (eval elt (compEnvC scope cl C env)) (CEnd h₀ [I] env.locals C D oL own Led Pc x v i ys nn { s with heap := h, toks := tk }) E' { s with heap := h, toks := tk })
    (done : ∀ D h' tk ys c nn, s.heap.objs.size ≤ D → Fr h₀ env.locals h' (mf m D) → News h₀ env.locals h' ((D, listOf ys.toArray nn) :: Led c) → (∀ p ∈ Led c, p.1 ≠ D) → ys.length = n → Pc n c ys → Done D { s with heap := h', toks := tk }) :
    wpAny (model prog w) A (pyIter (.ref r)) (CompAt prog w A h₀ env scope cl x elt mf Done) E s := by
  refine wpAny_pyIter_range hr hsmall ?_
  have W := Walks.range (prog := prog) (w := w) hh s.heap.objs.size a₀ 1 n
  refine compPush Led Pc c₀ W (fun b hb => ?_) (by show IsRangeIter _ _ _ _ _; rw [hn]; simpa using Heap.get?_push_size _ rfl) hz F N hp ?_ done
  · exact .inl (List.mem_singleton.mp hb)
  · intro i c v ys C D oL E' h tk own nn hi hv h1 h2 h3 h4 hall hsti h5 h6 h7
    obtain ⟨t, rfl⟩ := hv
    rw [Int.mul_one]
    exact helt i c _ ys C D _ oL E' h tk own nn hi ⟨t, rfl⟩ h1 h2 h3 (fun p hp => by simpa using h4 p hp) ⟨_, hall _ (by simp) (next_is_new F) _ hsti⟩ h5 h6 h7 (Nat.le_refl _)
end
end Mine
end
section
open PySem PySem.W PySem.Calls PyProof.Rows
set_option maxRecDepth 100000
namespace Mine
/-- a for loop that stands before its next turn, whatever its target -/
noncomputable def LoopG (prog : Program) (w : World) (A : Around) (env : Env) (target : PySem.Expr) (body : List Stmt) (Q : Flow → Shared → Prop) (E : Value → Shared → Prop) (it : Value) (s₂ : Shared) : Prop :=
  codeAny (model prog w) A (.forLoop target it body [] env) (fun r s' => match r with | .ok f => Q f s' | .error e => cameBackBy (model prog w) A env E e s') s₂
section
variable {prog : Program} {w : World} {A : Around} {E : Value → Shared → Prop} {Q : Flow → Shared → Prop} {s : Shared} {env : Env} {h₀ : Heap} {target : PySem.Expr} {body : List Stmt}
theorem For_G {iter : PySem.Expr} {pos : Pos} (h : wpAny (model prog w) A (eval iter env) (fun xv s₁ => wpAny (model prog w) A (pyIter xv) (fun it s₂ => LoopG prog w A env target body Q E it s₂) E s₁) E s)
    (hs : ∀ x, foldedSetIterable iter env x = pure x := by intro _; rfl) : wpAny (model prog w) A (exec (.For target iter body [] pos) env) Q E s := wpAny_For h hs
theorem loopG {σ : Type} {I : Addr} {fp wr : List Addr} {n : Nat} {P : Nat → Value → Prop} {St : Nat → Heap → Prop} {m₀ : MStr → Option Value} (W : Walks prog w A I fp wr n P St)
    (Led : σ → List (Addr × Obj)) (ps : σ → List (MStr × Ab)) (st : List MStr) (Pc : Nat → σ → Prop) (c₀ : σ)
    (hLf : env.locals ∉ fp) (hwr : ∀ b ∈ wr, h₀.get? b = none) (hst : St 0 s.heap) (F : Fr h₀ env.locals s.heap m₀) (N : News h₀ env.locals s.heap (Led c₀)) (hnw : ∀ p ∈ Led c₀, p.1 ∉ wr) (hk : HasL m₀ (ps c₀)) (hp : Pc 0 c₀)
    (turn : ∀ i c v ts (u : MStr → Option Value) h tk own, i < n → P i v → Pc i c → (∀ p ∈ Led c, p.1 ∉ wr) → (∀ p ∈ own, p.1 ∈ fp) → (∀ b ∈ fp, h₀.get? b = none → ∀ o, h.get? b = some o → (b, o) ∈ own) → St (i + 1) h →
      Fr h₀ env.locals h (kstB (fun z => if st.contains z then u z else m₀ z) (psAt (ps c) ts)) → News h₀ env.locals h (own ++ Led c) →
      wpAny (model prog w) A (assign target env v) (fun _ s₂ => wpAny (model prog w) A (execs body env) (FPost h₀ env.locals wr own Led ps st m₀ (Pc (i + 1)) Q { s with heap := h, toks := tk }) E s₂) E { s with heap := h, toks := tk })
    (done : ∀ c ts (u : MStr → Option Value) h tk, Pc n c → Fr h₀ env.locals h (kstB (fun z => if st.contains z then u z else m₀ z) (psAt (ps c) ts)) → News h₀ env.locals h (Led c) → Q .next { s with heap := h, toks := tk })
    (hE : PassesOwn (model prog w) A env E) (ht : ∀ v, letOwnedTupleGo target (.ref I) v = pure ()) :
    LoopG prog w A env target body Q E (.ref I) s := by
  have hLw : env.locals ∉ wr := fun h => hLf (W.sub _ h)
  have old : ∀ b o, h₀.get? b = some o → b ∉ wr := fun b o e hb => by rw [hwr b hb] at e; cases e
  refine codeAny_forLoop
    (fun k s' => ∃ h' tk m' i c, s' = { s with heap := h', toks := tk } ∧ St i h' ∧ Fr h₀ env.locals h' m' ∧ News h₀ env.locals h' (Led c) ∧ (∀ p ∈ Led c, p.1 ∉ wr) ∧ Loc m₀ st (ps c) m' ∧ Pc i c ∧ i ≤ n ∧ k = n + 1 - i) ?_ (n + 1)
    ⟨s.heap, s.toks, m₀, 0, c₀, rfl, hst, F, N, hnw, ⟨hk, fun _ _ _ => rfl⟩, hp, Nat.zero_le _, rfl⟩ ht
  rintro k s' ⟨h', tk, m', i, c, rfl, hst', F', N', hnw', hl, hpc, hi, rfl⟩
  have next : ∀ h₁ : Heap, (∀ b o, b ∉ wr → h'.get? b = some o → h₁.get? b = some o) → Fr h₀ env.locals h₁ m' ∧ News h₀ env.locals h₁ (Led c) := fun h₁ hk₁ =>
    ⟨⟨F'.ns.at' fun o e => hk₁ _ o hLw e, fun b o e => hk₁ b o (old b o e) (F'.keep b o e), F'.above⟩, fun p hp => ⟨hk₁ _ _ (hnw' p hp) (N' p hp).1, (N' p hp).2⟩⟩
  by_cases hlt : i < n
  · refine W.item i _ _ _ hlt hst' fun v h₁ tk₁ hP hst₁ hk₁ => ?_
    obtain ⟨F₁, N₁⟩ := next h₁ hk₁
    obtain ⟨ts, u, F₂⟩ := hl.fr F₁
    have hown : News h₀ env.locals h₁ (ownOf h₀ fp h₁) := news_ownOf hLf
    have mem := fun b hb hn o e => mem_ownOf (h₀ := h₀) (h := h₁) (fp := fp) (b := b) (o := o) hb hn e
    have tn := turn i c v ts u h₁ tk₁ (ownOf h₀ fp h₁) hlt hP hpc hnw' ownOf_sub mem hst₁ F₂ (hown.append N₁)
    refine wpAny_passesOwn hE (wpAny_mono tn (fun _ s₂ h₂ => ?_) fun _ _ e => e)
    refine wpAny_passesOwn hE (wpAny_mono h₂ (fun f s₃ h₃ => ?_) fun _ _ e => e)
    have fin : FEnd h₀ env.locals wr (ownOf h₀ fp h₁) Led ps st m₀ (Pc (i + 1)) { s with heap := h₁, toks := tk₁ } s₃ → ∃ m, m < n + 1 - i ∧ ∃ h' tk m' i c, s₃ = { s with heap := h', toks := tk } ∧ St i h' ∧ Fr h₀ env.locals h' m' ∧ News h₀ env.locals h' (Led c) ∧ (∀ p ∈ Led c, p.1 ∉ wr) ∧ Loc m₀ st (ps c) m' ∧ Pc i c ∧ i ≤ n ∧ m = n + 1 - i := by
      rintro ⟨c', h₃', tk₃, m₃, news₃, rfl, F₃, N₃, hn, hw, hk', hp'⟩
      refine ⟨n + 1 - (i + 1), by lia, h₃', tk₃, m₃, i + 1, c', rfl, ?_, F₃, fun p hp => N₃ p (hn p (List.mem_append_right _ hp)), hw, hk', hp', hlt, rfl⟩
      refine W.frame _ _ _ hst₁ fun b hb o e => ?_
      cases hn0 : h₀.get? b with
      | some o₀ =>
        have : o₀ = o := by have := F₁.keep b o₀ hn0; rw [e] at this; exact (Option.some.inj this).symm
        exact this ▸ F₃.keep b o₀ hn0
      | none => exact (N₃ _ (hn _ (List.mem_append_left _ (mem_ownOf hb hn0 e)))).1
    cases f with
    | ret v => exact h₃
    | brk => exact h₃
    | next => exact fin h₃
    | cont => exact fin h₃
  · have hin : i = n := by lia
    subst hin
    refine W.done _ _ _ hst' fun h₁ tk₁ hk₁ => wpAny_execs_nil ?_
    obtain ⟨F₁, N₁⟩ := next h₁ hk₁
    obtain ⟨ts, u, F₂⟩ := hl.fr F₁
    exact done c ts u h₁ tk₁ hpc F₂ N₁
theorem loopRange {σ : Type} {r : Addr} {a₀ b₀ : Int} {t₀ u₀ v₀ : Tok} {n : Nat} {m₀ : MStr → Option Value} (Led : σ → List (Addr × Obj)) (ps : σ → List (MStr × Ab)) (st : List MStr) (Pc : Nat → σ → Prop) (c₀ : σ)
    (hh : A.handled = none) (hr : IsRange s.heap r a₀ b₀ 1 t₀ u₀ v₀) (hsmall : Builtin.Range.small a₀ b₀ 1 = true) (hn : Builtin.Range.rangeSize a₀ b₀ 1 = (n : Int))
    (F : Fr h₀ env.locals s.heap m₀) (N : News h₀ env.locals s.heap (Led c₀)) (hk : HasL m₀ (ps c₀)) (hp : Pc 0 c₀)
    (turn : ∀ (i : Nat) c t I ts (u : MStr → Option Value) h tk own, i < n → Pc i c → (∀ p ∈ Led c, p.1 ∉ [I]) → (∀ p ∈ own, p.1 ∈ [I]) → (∃ o, (I, o) ∈ own) →
      Fr h₀ env.locals h (kstB (fun z => if st.contains z then u z else m₀ z) (psAt (ps c) ts)) → News h₀ env.locals h (own ++ Led c) →
      wpAny (model prog w) A (assign target env (.int (a₀ + i) t)) (fun _ s₂ => wpAny (model prog w) A (execs body env) (FPost h₀ env.locals [I] own Led ps st m₀ (Pc (i + 1)) Q { s with heap := h, toks := tk }) E s₂) E { s with heap := h, toks := tk })
    (done : ∀ c ts (u : MStr → Option Value) h tk, Pc n c → Fr h₀ env.locals h (kstB (fun z => if st.contains z then u z else m₀ z) (psAt (ps c) ts)) → News h₀ env.locals h (Led c) → Q .next { s with heap := h, toks := tk })
    (hE : PassesOwn (model prog w) A env E := by passes_own) (ht : ∀ i v, letOwnedTupleGo target (.ref i) v = pure () := by intro _ _; rfl) :
    wpAny (model prog w) A (pyIter (.ref r)) (fun it s₂ => LoopG prog w A env target body Q E it s₂) E s := by
  refine wpAny_pyIter_range hr hsmall ?_
  have W := Walks.range (prog := prog) (w := w) hh s.heap.objs.size a₀ 1 n
  refine loopG W Led ps st Pc c₀ ?_ ?_ (by show IsRangeIter _ _ _ _ _; rw [hn]; simpa using Heap.get?_push_size _ rfl) (F.push _) (fun p hp => ⟨Heap.get?_push_of_some _ (N p hp).1, (N p hp).2⟩) ?_ hk hp ?_ (fun c ts u h tk => done c ts u h tk) hE (ht _)
  · intro hm
    exact absurd F.ns.lt ((List.mem_singleton.mp hm) ▸ Nat.lt_irrefl _)
  · intro b hb
    rw [List.mem_singleton.mp hb]
    exact next_is_new F
  · intro p hp hI
    exact absurd (Heap.lt_size (N p hp).1) ((List.mem_singleton.mp hI) ▸ Nat.lt_irrefl _)
  · rintro i c v ts u h tk own hi ⟨t, rfl⟩ hpc hoff hown hall hst F' N'
    rw [Int.mul_one]
    exact turn i c t _ ts u h tk own hi hpc hoff hown ⟨_, hall _ (by simp) (next_is_new F) _ hst⟩ F' N'
theorem loopList {σ : Type} {l : Addr} {us : List Value} {m₀ : MStr → Option Value} (Led : σ → List (Addr × Obj)) (ps : σ → List (MStr × Ab)) (st : List MStr) (Pc : Nat → σ → Prop) (c₀ : σ)
    (hh : A.handled = none) (hl : s.heap.IsList l us.toArray) (hlL : l ≠ env.locals) (F : Fr h₀ env.locals s.heap m₀) (N : News h₀ env.locals s.heap (Led c₀)) (hk : HasL m₀ (ps c₀)) (hp : Pc 0 c₀)
    (turn : ∀ i c v I ts (u : MStr → Option Value) h tk own, us[i]? = some v → Pc i c → (∀ p ∈ Led c, p.1 ∉ [I]) → (∀ p ∈ own, p.1 ∈ [I, l]) → (∃ o, (I, o) ∈ own) →
      Fr h₀ env.locals h (kstB (fun z => if st.contains z then u z else m₀ z) (psAt (ps c) ts)) → News h₀ env.locals h (own ++ Led c) →
      wpAny (model prog w) A (assign target env v) (fun _ s₂ => wpAny (model prog w) A (execs body env) (FPost h₀ env.locals [I] own Led ps st m₀ (Pc (i + 1)) Q { s with heap := h, toks := tk }) E s₂) E { s with heap := h, toks := tk })
    (done : ∀ c ts (u : MStr → Option Value) h tk, Pc us.length c → Fr h₀ env.locals h (kstB (fun z => if st.contains z then u z else m₀ z) (psAt (ps c) ts)) → News h₀ env.locals h (Led c) → Q .next { s with heap := h, toks := tk })
    (hE : PassesOwn (model prog w) A env E := by passes_own) (ht : ∀ i v, letOwnedTupleGo target (.ref i) v = pure () := by intro _ _; rfl) :
    wpAny (model prog w) A (pyIter (.ref l)) (fun it s₂ => LoopG prog w A env target body Q E it s₂) E s := by
  obtain ⟨ol, hol, hcls⟩ := id hl
  have hne : l ≠ s.heap.objs.size := Nat.ne_of_lt (Heap.lt_size hol)
  refine wpAny_pyIter_list hl ?_
  have W := Walks.list (prog := prog) (w := w) hh s.heap.objs.size l hne us.toArray
  rw [List.size_toArray] at W
  refine loopG W Led ps st Pc c₀ ?_ ?_ ⟨⟨_, Heap.get?_push_size _ rfl, rfl, rfl⟩, hl.at fun o e => Heap.get?_push_of_some _ e⟩ (F.push _) (fun p hp => ⟨Heap.get?_push_of_some _ (N p hp).1, (N p hp).2⟩) ?_ hk hp ?_ (fun c ts u h tk => done c ts u h tk) hE (ht _)
  · intro hm
    rcases List.mem_cons.mp hm with e | hm
    · exact absurd F.ns.lt (e ▸ Nat.lt_irrefl _)
    · exact hlL (List.mem_singleton.mp hm).symm
  · intro b hb
    rw [List.mem_singleton.mp hb]
    exact next_is_new F
  · intro p hp hI
    exact absurd (Heap.lt_size (N p hp).1) ((List.mem_singleton.mp hI) ▸ Nat.lt_irrefl _)
  · intro i c v ts u h tk own hi hv hpc hoff hown hall hst F' N'
    obtain ⟨⟨o, ho, _⟩, _⟩ := hst
    exact turn i c v _ ts u h tk own (by simpa using hv) hpc hoff hown ⟨o, hall _ (by simp) (next_is_new F) o ho⟩ F' N'
end
end Mine
end
section
open PySem PySem.W PySem.Calls PyProof.Rows
set_option maxRecDepth 100000
namespace Mine
section
variable {prog : Program} {w : World} {A : Around} {E : Value → Shared → Prop} {s : Shared} {h₀ : Heap} {L D : Addr} {m : MStr → Option Value} {news : List (Addr × Obj)} {us vs : List Value} {ds : List Int} {n : Nat}
theorem lstN {a : Addr} (N : News h₀ L s.heap news) (h : (a, listOf us.toArray n) ∈ news) : s.heap.IsList a us.toArray := News.isList N h
/-- a store to a cell at the ledger's head -/
theorem storeC {M : Model} {rest : List (Addr × Obj)} {c a : Addr} {o : Obj} {v₀ : Option Value} {v : Value} {x cn : MStr} {cs : Scope} {ccd : Value} {cl : List (MStr × Addr)} {Q : Unit → Shared → Prop}
    (F : Fr h₀ L s.heap m) (N : News h₀ L s.heap ((c, o) :: rest)) (hc : cl.lookup x = some c) (hr : ∀ p ∈ rest, p.1 ≠ c) (hd : o.data = .cell v₀)
    (h : ∀ h' o', Fr h₀ L h' m → News h₀ L h' ((c, o') :: rest) → o'.data = .cell (some v) → Q () { s with heap := h' })
    (hk : cs.kind = .function := by rfl) (hx : (envX cn cs L a ccd cl).kindOf x = some .cell := by rfl) : wpAny M A (storeName (envX cn cs L a ccd cl) x v) Q E s :=
  storeX_C F N hc (UpdF.head hr) hd h hk hx
theorem addL {l b : Addr} {Q : Value → Shared → Prop} (F : Fr h₀ L s.heap m) (N : News h₀ L s.heap news) (hl : s.heap.IsList l us.toArray) (hb : s.heap.IsList b vs.toArray) (hz : us.length + vs.length ≤ 16384)
    (h : ∀ D h', Fr h₀ L h' m → News h₀ L h' ((D, listOf (us ++ vs).toArray 0) :: news) → L < D → (∀ p ∈ news, p.1 < D) → Q (.ref D) { s with heap := h' }) :
    wpAny (model prog w) A (binaryOp .Add (.ref l) (.ref b)) Q E s :=
  add_lists F N hl hb (fun h' F' N' => h _ h' F' N' F.ns.lt fun p hp => Heap.lt_size (N p hp).1) (by rw [sizeLine_eq]; lia)
theorem appL {v : Value} {rest : List (Addr × Obj)} {Q : Value → Shared → Prop} (F : Fr h₀ L s.heap m) (N : News h₀ L s.heap ((D, listOf us.toArray n) :: rest)) (hr : ∀ p ∈ rest, p.1 ≠ D) (hz : us.length ≤ 16384)
    (h : ∀ h', Fr h₀ L h' m → News h₀ L h' ((D, listOf (us ++ [v]).toArray (n + 1)) :: rest) → Q .none { s with heap := h' }) : wpAny (model prog w) A (call (.builtin "list.append") [.ref D, v]) Q E s := by
  refine append_K F N (Upd.head hr) (fun h' F' N' => h h' F' ?_) (by rw [List.size_toArray, sizeLine_eq]; lia)
  simpa using N'
theorem nameCell {M : Model} {env : Env} {x : MStr} {pos : Pos} {c : Addr} {o : Obj} {v : Value} {Q : Value → Shared → Prop} (hk : env.scope.kind = .function) (hx : env.kindOf x = some .cell) (hc : env.cells.lookup x = some c)
    (N : News h₀ L s.heap news) (hm : (c, o) ∈ news) (hd : o.data = .cell (some v)) (h : Q v s) (hb : (x == ("__debug__" : MStr)) = false := by decide) : wpAny M A (eval (.Name x pos) env) Q E s :=
  wpAny_Name (wpAny_loadName_cell hk hx hc ⟨o, N.get hm, hd⟩ h) hb
theorem tailBack {x : Value} {value slice : PySem.Expr} {t : Tok} {Q : Value → Shared → Prop} (hl : s.heap.IsList D us.toArray) (h0 : 0 < us.length) (hx : us[us.length - 1]? = some x) (h : Q x s)
    (hs : subscripted slice false (.ref D) (.int (-1) t) = operate [.ref D, .int (-1) t] (getItem (.ref D) (.int (-1) t)) := by with_unfolding_all rfl) :
    wpAny (model prog w) A (subscriptTail value slice (.ref D) (.int (-1) t)) Q E s := by
  refine tail_any hl.typeIs PySem.F.slot_list_getitem.lookup (wpAny_getItem_list_neg hl (by decide) (by rw [List.size_toArray]; lia) (by decide) ?_ h) hs
  rw [List.size_toArray, zn us.length]
  simpa using hx
end
end Mine
end
section
open PySem PySem.W PySem.Calls PyProof.Rows
set_option maxRecDepth 100000
namespace Mine
/-- the number that letters tell -/
noncomputable def rdv (wd : List Nat) : Int := dval 4 (wd.reverse.map fun z => ((z - 65 : Nat) : Int))
theorem rdv_ap (n : Nat) : rdv (apL n) = n := by
  induction n using Nat.strongRecOn with
  | ind n ih =>
    by_cases h : n = 0
    · subst h; rw [apL_zero]; rfl
    · have e := ih (n / 16) (by lia)
      unfold rdv at e ⊢
      rw [apL_pos h, List.reverse_append, List.reverse_singleton, List.singleton_append, List.map_cons, dval, e]
      lia
theorem ap_ne {n : Nat} (h : n ≠ 0) : apL n ≠ [] := by
  rw [apL_pos h]; simp
/-- a number's line -/
noncomputable def lineW (w n : Nat) : List Nat := List.replicate (w - (apL n).length) 32 ++ apL n
noncomputable abbrev lineL (n : Nat) : List Nat := lineW 6 n
theorem lineW_succ (w n : Nat) (h : n < 16 ^ (w + 1)) : lineW (w + 1) n = lineW w (n / 16) ++ [if n = 0 then 32 else 65 + n % 16] := by
  unfold lineW
  by_cases h0 : n = 0
  · subst h0
    simp only [Nat.zero_div, apL_zero, if_true]
    simp [List.replicate_succ']
  · rw [if_neg h0, apL_pos h0, List.length_append, List.length_singleton, show w + 1 - ((apL (n / 16)).length + 1) = w - (apL (n / 16)).length by lia, List.append_assoc]
theorem lineW_len (w n : Nat) (h : n < 16 ^ w) : (lineW w n).length = w := by
  unfold lineW
  have := apL_len h
  simp; lia
theorem snoc_lt : ∀ (a b : List Nat) (x y : Nat), a.length = b.length → (a ++ [x] < b ++ [y] ↔ a < b ∨ (a = b ∧ x < y))
  | [], [], x, y, _ => by simp [List.cons_lt_cons_iff]
  | p :: a, q :: b, x, y, h => by
    rw [List.cons_append, List.cons_append, List.cons_lt_cons_iff, List.cons_lt_cons_iff, snoc_lt a b x y (by simpa using h)]
    constructor
    · rintro (h1 | ⟨rfl, h1 | ⟨rfl, h2⟩⟩)
      · exact .inl (.inl h1)
      · exact .inl (.inr ⟨rfl, h1⟩)
      · exact .inr ⟨rfl, h2⟩
    · rintro ((h1 | ⟨rfl, h1⟩) | ⟨h1, h2⟩)
      · exact .inl h1
      · exact .inr ⟨rfl, .inl h1⟩
      · cases h1; exact .inr ⟨rfl, .inr ⟨rfl, h2⟩⟩
theorem lineW_lt : ∀ (w n m : Nat), n < 16 ^ w → m < 16 ^ w → ((lineW w n < lineW w m ↔ n < m) ∧ (lineW w n = lineW w m ↔ n = m))
  | 0, n, m, hn, hm => by
    have h1 : n = 0 := by lia
    have h2 : m = 0 := by lia
    subst h1 h2
    exact ⟨⟨fun h => absurd h (List.lt_irrefl _), fun h => absurd h (Nat.lt_irrefl _)⟩, by simp⟩
  | w + 1, n, m, hn, hm => by
    have hn' : n / 16 < 16 ^ w := by rw [Nat.div_lt_iff_lt_mul (by decide)]; rw [Nat.pow_succ] at hn; exact hn
    have hm' : m / 16 < 16 ^ w := by rw [Nat.div_lt_iff_lt_mul (by decide)]; rw [Nat.pow_succ] at hm; exact hm
    obtain ⟨i1, i2⟩ := lineW_lt w (n / 16) (m / 16) hn' hm'
    rw [lineW_succ w n hn, lineW_succ w m hm, snoc_lt _ _ _ _ (by rw [lineW_len _ _ hn', lineW_len _ _ hm']), i1, i2]
    constructor
    · constructor
      · rintro (h | ⟨h1, h2⟩)
        · lia
        · split at h2 <;> split at h2 <;> lia
      · intro h
        by_cases h1 : n / 16 < m / 16
        · exact .inl h1
        · refine .inr ⟨by lia, ?_⟩
          split <;> split <;> lia
    · constructor
      · intro h
        obtain ⟨h1, h2⟩ := List.append_inj h (by rw [lineW_len _ _ hn', lineW_len _ _ hm'])
        have h1 := i2.mp h1
        have h2 : (if n = 0 then 32 else 65 + n % 16) = (if m = 0 then 32 else 65 + m % 16) := by simpa using h2
        split at h2 <;> split at h2 <;> lia
      · rintro rfl; rfl
/-- what `_strcoll` tells of two numbers' lines -/
noncomputable def cmpN (x y : Nat) : Int := if y < x then 1 else if x < y then -1 else 0
theorem coll_line {x y : Nat} (hx : x < 16 ^ 6) (hy : y < 16 ^ 6) : b2i (decide ((tx (lineL y)).cps.toList < (tx (lineL x)).cps.toList)) - b2i (decide ((tx (lineL x)).cps.toList < (tx (lineL y)).cps.toList)) = cmpN x y := by
  have e1 := (lineW_lt 6 y x hy hx).1
  have e2 := (lineW_lt 6 x y hx hy).1
  have d1 : decide ((tx (lineL y)).cps.toList < (tx (lineL x)).cps.toList) = decide (y < x) := decide_eq_decide.mpr (by simpa using e1)
  have d2 : decide ((tx (lineL x)).cps.toList < (tx (lineL y)).cps.toList) = decide (x < y) := decide_eq_decide.mpr (by simpa using e2)
  rw [d1, d2]
  unfold cmpN
  by_cases h1 : y < x
  · have : ¬ x < y := by lia
    simp [h1, this, b2i]
  · by_cases h2 : x < y
    · simp [h1, h2, b2i]
    · simp [h1, h2, b2i]
section
variable {prog : Program} {w : World} {A : Around} {E : Value → Shared → Prop} {s : Shared} {h₀ : Heap} {L D : Addr} {m : MStr → Option Value} {news : List (Addr × Obj)} {us : List Value} {n : Nat}
theorem tupN {a : Addr} (N : News h₀ L s.heap news) (h : (a, ({ cls := .type "tuple", data := .seq us.toArray n } : Obj)) ∈ news) : IsTup s.heap a us.toArray := News.isTup N h
theorem tailT {k : Int} {t : Tok} {x : Value} {value slice : PySem.Expr} {Q : Value → Shared → Prop} (ht : IsTup s.heap D us.toArray) (h0 : 0 ≤ k) (hx : us[k.toNat]? = some x) (hz : k < 2 ^ 63) (h : Q x s)
    (hs : subscripted slice false (.ref D) (.int k t) = operate [.ref D, .int k t] (getItem (.ref D) (.int k t)) := by with_unfolding_all rfl) :
    wpAny (model prog w) A (subscriptTail value slice (.ref D) (.int k t)) Q E s := by
  have hn := (List.getElem?_eq_some_iff.mp hx).1
  exact tail_any ht.typeIs PySem.F.slot_tuple_getitem.lookup (getItem_tuple ht (by lia) hz (seqIndex_of h0 (by rw [List.size_toArray]; lia)) (x := x) (by simpa using hx) h) hs
end
end Mine
end
section
open PySem PySem.Sre
namespace Mine
namespace Rx
noncomputable def fcode : Array Nat := #[14, 4, 0, 8, 4294967295, 24, 5, 0, 4294967295, 2, 1, 16, 70, 16, 76, 16, 65, 16, 71, 16, 83, 16, 32, 16, 40, 17, 0, 24, 6, 0, 4294967295, 20, 41, 1, 17, 1, 16, 41, 1]
noncomputable def S (text : Array Nat) (pc pos hd : Nat) (mk : Array (Option Nat)) (lm li : Int) (fr : List Sre.Frame) (wt : Nat) (ans : Option Bool) (seen : Seen) : M :=
  { code := fcode, text, lim := text.size, start := 0, pc, pos, handed := hd, outermost := true, marks := mk, lastmark := lm, lastindex := li, frames := fr, weight := wt, answer := ans, seen }
theorem runFor_add : ∀ (a b : Nat) (m : M), m.runFor (a + b) = (m.runFor a).runFor b
  | 0, b, m => by simp [M.runFor]
  | a + 1, b, m => by
    rw [show a + 1 + b = (a + b) + 1 by lia]
    simp only [M.runFor]
    by_cases h : m.outcome.isSome = true
    · simp only [h, if_true]
      cases b with
      | zero => rfl
      | succ b => simp [M.runFor, h]
    · simp only [h, Bool.false_eq_true, if_false]
      exact runFor_add a b m.step
/-- m comes to m' in at most B steps -/
noncomputable def Rn (B : Nat) (m m' : M) : Prop := ∃ n, n ≤ B ∧ m.runFor n = m'
theorem Rn.refl (m : M) : Rn 0 m m := ⟨0, Nat.le_refl _, rfl⟩
theorem Rn.trans {a b : Nat} {m m' m'' : M} (h : Rn a m m') (k : Rn b m' m'') : Rn (a + b) m m'' := by
  obtain ⟨n, hn, rfl⟩ := h
  obtain ⟨n', hn', rfl⟩ := k
  exact ⟨n + n', by lia, runFor_add n n' m⟩
theorem Rn.le {a b : Nat} {m m' : M} (h : Rn a m m') (k : a ≤ b) : Rn b m m' := let ⟨n, hn, e⟩ := h; ⟨n, by lia, e⟩
theorem Rn.one {m m' : M} (ho : m.outcome = none) (h : m.step = m') : Rn 1 m m' := ⟨1, Nat.le_refl _, by simp [M.runFor, ho, h]⟩
section
variable {text : Array Nat} {pc pos hd : Nat} {mk : Array (Option Nat)} {lm li : Int} {fr : List Sre.Frame} {wt : Nat} {seen : Seen}
/-- how a sign that must stand there is met -/
noncomputable def LitAt (pc c : Nat) : Prop := ∀ (text : Array Nat) (pos hd : Nat) (mk : Array (Option Nat)) (lm li : Int) (fr : List Sre.Frame) (wt : Nat) (seen : Seen),
  (S text pc pos hd mk lm li fr wt none seen).step = if pos ≥ text.size then S text pc pos hd mk lm li fr wt (some false) (seen.add 16) else
    match (text.getD pos 0 == c) with
    | false => S text pc pos hd mk lm li fr wt (some false) (seen.add 16)
    | true => S text (pc + 2) (pos + 1) hd mk lm li fr wt none (seen.add 16)
theorem lit36 : LitAt 36 41 := by intro text pos hd mk lm li fr wt seen; kernel_rfl
theorem lit11 : LitAt 11 70 := by intro text pos hd mk lm li fr wt seen; kernel_rfl
theorem lit13 : LitAt 13 76 := by intro text pos hd mk lm li fr wt seen; kernel_rfl
theorem lit15 : LitAt 15 65 := by intro text pos hd mk lm li fr wt seen; kernel_rfl
theorem lit17 : LitAt 17 71 := by intro text pos hd mk lm li fr wt seen; kernel_rfl
theorem lit19 : LitAt 19 83 := by intro text pos hd mk lm li fr wt seen; kernel_rfl
theorem lit21 : LitAt 21 32 := by intro text pos hd mk lm li fr wt seen; kernel_rfl
theorem lit23 : LitAt 23 40 := by intro text pos hd mk lm li fr wt seen; kernel_rfl
theorem lit_yes {c : Nat} (hl : LitAt pc c) (hp : pos < text.size) (ht : text.getD pos 0 = c) :
    Rn 1 (S text pc pos hd mk lm li fr wt none seen) (S text (pc + 2) (pos + 1) hd mk lm li fr wt none (seen.add 16)) := by
  refine Rn.one rfl ?_
  rw [hl, if_neg (Nat.not_le_of_lt hp), ht, beq_self_eq_true]
theorem lit_no {c : Nat} (hl : LitAt pc c) (h : text.size ≤ pos ∨ text.getD pos 0 ≠ c) :
    Rn 1 (S text pc pos hd mk lm li fr wt none seen) (S text pc pos hd mk lm li fr wt (some false) (seen.add 16)) := by
  refine Rn.one rfl ?_
  rw [hl]
  rcases h with h | h
  · rw [if_pos h]
  · rw [beq_eq_false_iff_ne.mpr h]
    exact ite_self _
theorem run_any : ∀ (n p found : Nat), (∀ q, p ≤ q → q < p + n → text.getD q 0 ≠ 10) → run fcode text 9 n p found seen = .ok (found + n, seen)
  | 0, p, found, _ => rfl
  | n + 1, p, found, h => by
    have h0 : (text.getD p 0 != 10) = true := by simpa using h p (Nat.le_refl _) (by lia)
    have ih := run_any n (p + 1) (found + 1) (fun q h1 h2 => h q (by lia) (by lia))
    have ha : accepts fcode 9 (text.getD p 0) seen = .ok (true, seen) := by
      rw [← h0]; rfl
    show (do let (yes, seen) ← accepts fcode 9 (text.getD p 0) seen; if yes then run fcode text 9 n (p + 1) (found + 1) seen else pure (found, seen)) = _
    rw [ha]
    show run fcode text 9 n (p + 1) (found + 1) seen = _
    rw [ih]
    congr 2
    lia
theorem run_not : ∀ (n p found : Nat), ∃ k, k ≤ n ∧ (∀ q, p ≤ q → q < p + k → text.getD q 0 ≠ 41) ∧ (k = n ∨ text.getD (p + k) 0 = 41) ∧ run fcode text 31 n p found seen = .ok (found + k, seen)
  | 0, p, found => ⟨0, Nat.le_refl _, fun q h1 h2 => by lia, .inl rfl, rfl⟩
  | n + 1, p, found => by
    by_cases h0 : text.getD p 0 = 41
    · refine ⟨0, by lia, fun q h1 h2 => by lia, .inr h0, ?_⟩
      have ha : accepts fcode 31 (text.getD p 0) seen = .ok (false, seen) := by
        rw [h0]; rfl
      show (do let (yes, seen) ← accepts fcode 31 (text.getD p 0) seen; if yes then run fcode text 31 n (p + 1) (found + 1) seen else pure (found, seen)) = _
      rw [ha]; rfl
    · obtain ⟨k, h1, h2, h3, h4⟩ := run_not n (p + 1) (found + 1)
      refine ⟨k + 1, by lia, fun q g1 g2 => ?_, ?_, ?_⟩
      · by_cases e : q = p
        · rw [e]; exact h0
        · exact h2 q (by lia) (by lia)
      · rcases h3 with h | h
        · exact .inl (by lia)
        · exact .inr (by rw [show p + (k + 1) = p + 1 + k by lia]; exact h)
      · have hb : (text.getD p 0 != 41) = true := by simpa using h0
        have ha : accepts fcode 31 (text.getD p 0) seen = .ok (true, seen) := by
          rw [← hb]; rfl
        show (do let (yes, seen) ← accepts fcode 31 (text.getD p 0) seen; if yes then run fcode text 31 n (p + 1) (found + 1) seen else pure (found, seen)) = _
        rw [ha]
        show run fcode text 31 n (p + 1) (found + 1) seen = _
        rw [h4]
        congr 2
        lia
noncomputable def kp (lm li : Int) : Sre.Kept := { lastmark := lm, lastindex := li, whole := false, marks := #[] }
/-- the outer frame: all that stands ahead was taken, p signs -/
noncomputable def Fo (p : Nat) : Sre.Frame := { wait := .giveBack, pc := 5, pos := p, outermost := true, count := p, kept := kp (-1) (-1) }
/-- the inner frame, at pos, with c signs taken -/
noncomputable def Fi (pos c : Nat) : Sre.Frame := { wait := .giveBack, pc := 27, pos := pos, outermost := true, count := c, kept := kp 0 (-1) }
theorem begin_ (hs : text.size < 1000000) (hn : ∀ q, q < text.size → text.getD q 0 ≠ 10) :
    Rn 1 (S text 5 0 0 mk (-1) (-1) [] 0 none seen) (S text 11 text.size text.size mk (-1) (-1) [Fo text.size] 1 none ((seen.add 24).add 2)) := by
  refine Rn.one rfl ?_
  have hr := run_any (text := text) (seen := (seen.add 24).add 2) text.size 0 0 (fun q _ h => hn q (by lia))
  have form : (S text 5 0 0 mk (-1) (-1) [] 0 none seen).step = if (0 : Int) > (text.size : Int) - ((0 : Nat) : Int) then S text 5 0 0 mk (-1) (-1) [] 0 (some false) (seen.add 24) else
      match run fcode text 9 (min 4294967295 ((text.size : Int) - ((0 : Nat) : Int)).toNat) 0 0 ((seen.add 24).add 2) with
      | .error why => M.stick (S text 5 0 0 mk (-1) (-1) [] 0 none (seen.add 24)) why
      | .ok (n, sn) => if n < 0 then S text 5 0 0 mk (-1) (-1) [] 0 (some false) sn else
          S text 11 (0 + n) (0 + n) mk (-1) (-1) [{ wait := .giveBack, pc := 5, pos := 0 + n, outermost := true, count := n, kept := kp (-1) (-1) }] 1 none sn := by kernel_rfl
  rw [form, if_neg (by lia), show min 4294967295 ((text.size : Int) - ((0 : Nat) : Int)).toNat = text.size by lia, hr, Nat.zero_add]
  show (if text.size < 0 then _ else _) = _
  rw [if_neg (Nat.not_lt_zero _), Nat.zero_add]
  rfl
theorem back_outer (p pos pc : Nat) (hp : 0 < p) :
    Rn 1 (S text pc pos hd mk lm li [Fo p] 1 (some false) seen) (S text 11 (p - 1) (p - 1) mk (-1) (-1) [Fo (p - 1)] 1 none seen) := by
  refine Rn.one rfl ?_
  have form : (S text pc pos hd mk lm li [Fo p] 1 (some false) seen).step = if (p : Int) - 1 < (0 : Int) then S text 5 p hd mk (-1) (-1) [] 0 (some false) seen else
      S text 11 (p - 1) (p - 1) mk (-1) (-1) [{ wait := .giveBack, pc := 5, pos := p - 1, outermost := true, count := (p : Int) - 1, kept := kp (-1) (-1) }] 1 none seen := by kernel_rfl
  rw [form, if_neg (by lia), show (p : Int) - 1 = ((p - 1 : Nat) : Int) by lia]
  rfl
theorem end_outer (pos pc : Nat) : Rn 1 (S text pc pos hd mk lm li [Fo 0] 1 (some false) seen) (S text 5 0 hd mk (-1) (-1) [] 0 (some false) seen) :=
  Rn.one rfl (by kernel_rfl)
theorem end_none (pos pc : Nat) : ∃ m', Rn 1 (S text pc pos hd mk lm li [] 0 (some false) seen) m' ∧ m'.outcome = some .failed :=
  ⟨_, Rn.one rfl rfl, rfl⟩
/-- MARK 0 -/
theorem mk2 (mk : Array (Option Nat)) (h : mk.size = 2) (x : Option Nat) : mk.setIfInBounds 0 x = #[x, mk.getD 1 none] ∧ mk.setIfInBounds 1 x = #[mk.getD 0 none, x] := by
  obtain ⟨l⟩ := mk
  match l, h with
  | [a, b], _ => exact ⟨rfl, rfl⟩
theorem mark0 (hmk : mk.size = 2) (lm0 : lm = -1) :
    Rn 1 (S text 25 pos hd mk lm li fr wt none seen) (S text 27 pos hd (#[some pos, mk.getD 1 none]) 0 li fr wt none (seen.add 17)) := by
  subst lm0
  refine Rn.one rfl ?_
  have form : (S text 25 pos hd mk (-1) li fr wt none seen).step = S text 27 pos hd (mk.setIfInBounds 0 (some pos)) 0 li fr wt none (seen.add 17) := by kernel_rfl
  rw [form, (mk2 mk hmk _).1]
theorem mark1 (hmk : mk.size = 2) (lm0 : lm = 0) :
    Rn 1 (S text 34 pos hd mk lm li fr wt none seen) (S text 36 pos hd (#[mk.getD 0 none, some pos]) 1 1 fr wt none (seen.add 17)) := by
  subst lm0
  refine Rn.one rfl ?_
  have form : (S text 34 pos hd mk 0 li fr wt none seen).step = S text 36 pos hd (mk.setIfInBounds 1 (some pos)) 1 1 fr wt none (seen.add 17) := by kernel_rfl
  rw [form, (mk2 mk hmk _).2]
/-- what is no bracket, as far as it goes -/
theorem inner_ (hs : text.size < 1000000) (hp : pos ≤ text.size) (p : Nat) :
    ∃ k, k ≤ text.size - pos ∧ (∀ q, pos ≤ q → q < pos + k → text.getD q 0 ≠ 41) ∧ (k = text.size - pos ∨ text.getD (pos + k) 0 = 41) ∧
      Rn 1 (S text 27 pos hd mk 0 (-1) [Fo p] 1 none seen) (S text 34 (pos + k) (pos + k) mk 0 (-1) [Fi (pos + k) k, Fo p] 2 none ((seen.add 24).add 20)) := by
  obtain ⟨k, g1, g2, g3, hr⟩ := run_not (text := text) (seen := (seen.add 24).add 20) (text.size - pos) pos 0
  refine ⟨k, g1, g2, g3, Rn.one rfl ?_⟩
  have form : (S text 27 pos hd mk 0 (-1) [Fo p] 1 none seen).step = if (0 : Int) > (text.size : Int) - (pos : Int) then S text 27 pos hd mk 0 (-1) [Fo p] 1 (some false) (seen.add 24) else
      match run fcode text 31 (min 4294967295 ((text.size : Int) - (pos : Int)).toNat) pos 0 ((seen.add 24).add 20) with
      | .error why => M.stick (S text 27 pos hd mk 0 (-1) [Fo p] 1 none (seen.add 24)) why
      | .ok (n, sn) => if n < 0 then S text 27 pos hd mk 0 (-1) [Fo p] 1 (some false) sn else
          S text 34 (pos + n) (pos + n) mk 0 (-1) [{ wait := .giveBack, pc := 27, pos := pos + n, outermost := true, count := n, kept := kp 0 (-1) }, Fo p] 2 none sn := by kernel_rfl
  rw [form, if_neg (by lia), show min 4294967295 ((text.size : Int) - (pos : Int)).toNat = text.size - pos by lia, hr, Nat.zero_add]
  show (if k < 0 then _ else _) = _
  rw [if_neg (Nat.not_lt_zero _)]
  rfl
theorem back_inner (p e c pc : Nat) (hc : 0 < c) :
    Rn 1 (S text pc pos hd mk lm li [Fi e c, Fo p] 2 (some false) seen) (S text 34 (e - 1) (e - 1) mk 0 (-1) [Fi (e - 1) (c - 1), Fo p] 2 none seen) := by
  refine Rn.one rfl ?_
  have form : (S text pc pos hd mk lm li [Fi e c, Fo p] 2 (some false) seen).step = if (c : Int) - 1 < (0 : Int) then S text 27 e hd mk 0 (-1) [Fo p] 1 (some false) seen else
      S text 34 (e - 1) (e - 1) mk 0 (-1) [{ wait := .giveBack, pc := 27, pos := e - 1, outermost := true, count := (c : Int) - 1, kept := kp 0 (-1) }, Fo p] 2 none seen := by kernel_rfl
  rw [form, if_neg (by lia), show (c : Int) - 1 = ((c - 1 : Nat) : Int) by lia]
  rfl
theorem end_inner (p e pc : Nat) :
    Rn 1 (S text pc pos hd mk lm li [Fi e 0, Fo p] 2 (some false) seen) (S text 27 e hd mk 0 (-1) [Fo p] 1 (some false) seen) :=
  Rn.one rfl (by kernel_rfl)
theorem success (p e c : Nat) :
    ∃ m', Rn 4 (S text 38 pos hd mk lm li [Fi e c, Fo p] 2 none seen) m' ∧ m'.outcome = some .matched ∧ m'.start = 0 ∧ m'.handed = pos ∧ m'.marks = mk ∧ m'.lastmark = lm ∧ m'.lastindex = li := by
  have s1 : Rn 1 (S text 38 pos hd mk lm li [Fi e c, Fo p] 2 none seen) (S text 38 pos pos mk lm li [Fi e c, Fo p] 2 (some true) (seen.add 1)) := Rn.one rfl (by kernel_rfl)
  have s2 : Rn 1 (S text 38 pos pos mk lm li [Fi e c, Fo p] 2 (some true) (seen.add 1)) (S text 27 e pos mk lm li [Fo p] 1 (some true) (seen.add 1)) := Rn.one rfl (by kernel_rfl)
  have s3 : Rn 1 (S text 27 e pos mk lm li [Fo p] 1 (some true) (seen.add 1)) (S text 5 p pos mk lm li [] 0 (some true) (seen.add 1)) := Rn.one rfl (by kernel_rfl)
  refine ⟨_, ((s1.trans s2).trans s3).trans (Rn.one rfl rfl), rfl, rfl, rfl, rfl, rfl, rfl⟩
end

noncomputable def lits : List Nat := [70, 76, 65, 71, 83, 32, 40]
noncomputable def Hit (text : Array Nat) (p : Nat) : Prop := ∀ i, i < 7 → p + i < text.size ∧ text.getD (p + i) 0 = lits.getD i 0
section
variable {text : Array Nat}
theorem code_at : ∀ j, j < 7 → LitAt (11 + 2 * j) (lits.getD j 0)
  | 0, _ => lit11
  | 1, _ => lit13
  | 2, _ => lit15
  | 3, _ => lit17
  | 4, _ => lit19
  | 5, _ => lit21
  | 6, _ => lit23
  | j + 7, h => absurd h (by lia)
theorem lits_to (p hd : Nat) (mk : Array (Option Nat)) (fr : List Sre.Frame) (wt : Nat) (seen : Seen) : ∀ j, j ≤ 7 → (∀ i, i < j → p + i < text.size ∧ text.getD (p + i) 0 = lits.getD i 0) →
    ∃ seen', Rn j (S text 11 p hd mk (-1) (-1) fr wt none seen) (S text (11 + 2 * j) (p + j) hd mk (-1) (-1) fr wt none seen')
  | 0, _, _ => ⟨seen, Rn.refl _⟩
  | j + 1, hj, h => by
    obtain ⟨s1, r1⟩ := lits_to p hd mk fr wt seen j (by lia) (fun i hi => h i (by lia))
    obtain ⟨h1, h2⟩ := h j (by lia)
    exact ⟨_, r1.trans (lit_yes (code_at j (by lia)) h1 h2)⟩
theorem lits_no (p hd : Nat) (mk : Array (Option Nat)) (fr : List Sre.Frame) (wt : Nat) (seen : Seen) (h : ¬ Hit text p) :
    ∃ pc pos seen', Rn 7 (S text 11 p hd mk (-1) (-1) fr wt none seen) (S text pc pos hd mk (-1) (-1) fr wt (some false) seen') := by
  have : ∃ j, j < 7 ∧ (∀ i, i < j → p + i < text.size ∧ text.getD (p + i) 0 = lits.getD i 0) ∧ ¬ (p + j < text.size ∧ text.getD (p + j) 0 = lits.getD j 0) := by
    refine Classical.byContradiction fun hc => h ?_
    have all : ∀ j, j ≤ 7 → ∀ i, i < j → p + i < text.size ∧ text.getD (p + i) 0 = lits.getD i 0 := by
      intro j
      induction j with
      | zero => intro _ i hi; lia
      | succ j ih =>
        intro hj i hi
        have ih' := ih (by lia)
        by_cases e : i = j
        · subst e
          exact Classical.byContradiction fun hn => hc ⟨i, by lia, ih', hn⟩
        · exact ih' i (by lia)
    exact all 7 (Nat.le_refl _)
  obtain ⟨j, hj, h1, h2⟩ := this
  obtain ⟨s1, r1⟩ := lits_to p hd mk fr wt seen j (by lia) h1
  refine ⟨_, _, _, (r1.trans (lit_no (code_at j hj) ?_)).le (by lia)⟩
  by_cases hs : p + j < text.size
  · exact .inr fun e => h2 ⟨hs, e⟩
  · exact .inl (by lia)
/-- no bracket behind: the inner part gives back sign by sign, and falls -/
theorem inner_down (p b hd : Nat) (hno : ∀ q, b ≤ q → q < text.size → text.getD q 0 ≠ 41) : ∀ k (mk : Array (Option Nat)) (hd : Nat) (seen : Seen), mk.size = 2 → ∃ pc pos hd' mk' seen', mk'.size = 2 ∧
    Rn (3 * k + 3) (S text 34 (b + k) hd mk 0 (-1) [Fi (b + k) k, Fo p] 2 none seen) (S text pc pos hd' mk' 0 (-1) [Fo p] 1 (some false) seen')
  | 0, mk, hd, seen, hm => by
    have r1 := mark1 (text := text) (pos := b + 0) (hd := hd) (li := -1) (fr := [Fi (b + 0) 0, Fo p]) (wt := 2) (seen := seen) hm rfl
    have r2 := lit_no (text := text) (pc := 36) (pos := b + 0) (hd := hd) (mk := #[mk.getD 0 none, some (b + 0)]) (lm := 1) (li := 1) (fr := [Fi (b + 0) 0, Fo p]) (wt := 2) (seen := seen.add 17) (c := 41) lit36
      (by by_cases h : b + 0 < text.size
          · exact .inr (hno _ (by lia) h)
          · exact .inl (by lia))
    exact ⟨_, _, _, _, _, rfl, (r1.trans r2).trans (end_inner p _ _)⟩
  | k + 1, mk, hd, seen, hm => by
    have r1 := mark1 (text := text) (pos := b + (k + 1)) (hd := hd) (li := -1) (fr := [Fi (b + (k + 1)) (k + 1), Fo p]) (wt := 2) (seen := seen) hm rfl
    have r2 := lit_no (text := text) (pc := 36) (pos := b + (k + 1)) (hd := hd) (mk := #[mk.getD 0 none, some (b + (k + 1))]) (lm := 1) (li := 1) (fr := [Fi (b + (k + 1)) (k + 1), Fo p]) (wt := 2) (seen := seen.add 17) (c := 41) lit36
      (by by_cases h : b + (k + 1) < text.size
          · exact .inr (hno _ (by lia) h)
          · exact .inl (by lia))
    have r3 := back_inner (text := text) (pos := b + (k + 1)) (hd := hd) (mk := #[mk.getD 0 none, some (b + (k + 1))]) (lm := 1) (li := 1) (seen := (seen.add 17).add 16) p (b + (k + 1)) (k + 1) 36 (by lia)
    have e1 : b + (k + 1) - 1 = b + k := by lia
    have e2 : k + 1 - 1 = k := by lia
    rw [e1, e2] at r3
    obtain ⟨pc, pos, hd', mk', seen', h1, r4⟩ := inner_down p b hd hno k #[mk.getD 0 none, some (b + (k + 1))] (b + k) _ rfl
    exact ⟨pc, pos, hd', mk', seen', h1, (((r1.trans r2).trans r3).trans r4).le (by lia)⟩
/-- a place where nothing comes of it -/
theorem fails_at (hs : text.size < 1000000) (p : Nat) (hno : Hit text p → ∀ q, p + 7 ≤ q → q < text.size → text.getD q 0 ≠ 41) (hd : Nat) (mk : Array (Option Nat)) (hm : mk.size = 2) (seen : Seen) :
    ∃ pc pos hd' mk' lm li seen', mk'.size = 2 ∧ Rn (3 * text.size + 20) (S text 11 p hd mk (-1) (-1) [Fo p] 1 none seen) (S text pc pos hd' mk' lm li [Fo p] 1 (some false) seen') := by
  by_cases h : Hit text p
  · obtain ⟨s1, r1⟩ := lits_to p hd mk [Fo p] 1 seen 7 (Nat.le_refl _) h
    have r2 := mark0 (text := text) (pos := p + 7) (hd := hd) (li := -1) (fr := [Fo p]) (wt := 1) (seen := s1) hm rfl
    have hp : p + 7 ≤ text.size := (h 6 (by lia)).1
    obtain ⟨k, g1, g2, g3, r3⟩ := inner_ (text := text) (pos := p + 7) (hd := hd) (mk := #[some (p + 7), mk.getD 1 none]) (seen := s1.add 17) hs hp p
    obtain ⟨pc, pos, hd', mk', seen', h1, r4⟩ := inner_down p (p + 7) hd (hno h) k #[some (p + 7), mk.getD 1 none] (p + 7 + k) ((s1.add 17 |>.add 24).add 20) rfl
    exact ⟨pc, pos, hd', mk', 0, -1, seen', h1, (((r1.trans r2).trans r3).trans r4).le (by lia)⟩
  · obtain ⟨pc, pos, s1, r1⟩ := lits_no p hd mk [Fo p] 1 seen h
    exact ⟨pc, pos, hd, mk, -1, -1, s1, hm, r1.le (by lia)⟩
theorem outer_found (hs : text.size < 1000000) (p0 e : Nat) (h0 : Hit text p0) (he : p0 + 7 ≤ e) (hes : e < text.size) (hec : text.getD e 0 = 41) (hbe : ∀ q, p0 + 7 ≤ q → q < e → text.getD q 0 ≠ 41)
    (hno : ∀ p, p0 < p → Hit text p → ∀ q, p + 7 ≤ q → q < text.size → text.getD q 0 ≠ 41) : ∀ d hd (mk : Array (Option Nat)) (seen : Seen), mk.size = 2 →
    ∃ m', Rn ((3 * text.size + 40) * (d + 1)) (S text 11 (p0 + d) hd mk (-1) (-1) [Fo (p0 + d)] 1 none seen) m' ∧ m'.outcome = some .matched ∧ m'.start = 0 ∧ m'.handed = e + 1 ∧ m'.marks = #[some (p0 + 7), some e] ∧ m'.lastmark = 1 ∧ m'.lastindex = 1
  | 0, hd, mk, seen, hm => by
    obtain ⟨s1, r1⟩ := lits_to p0 hd mk [Fo p0] 1 seen 7 (Nat.le_refl _) h0
    have r2 := mark0 (text := text) (pos := p0 + 7) (hd := hd) (li := -1) (fr := [Fo p0]) (wt := 1) (seen := s1) hm rfl
    obtain ⟨k, g1, g2, g3, r3⟩ := inner_ (text := text) (pos := p0 + 7) (hd := hd) (mk := #[some (p0 + 7), mk.getD 1 none]) (seen := s1.add 17) hs (by lia) p0
    have ek : p0 + 7 + k = e := by
      rcases Nat.lt_trichotomy (p0 + 7 + k) e with h | h | h
      · rcases g3 with h3 | h3
        · lia
        · exact absurd h3 (hbe _ (by lia) h)
      · exact h
      · exact absurd hec (g2 e he h)
    rw [ek] at r3
    have r4 := mark1 (text := text) (pos := e) (hd := e) (mk := #[some (p0 + 7), mk.getD 1 none]) (li := -1) (fr := [Fi e k, Fo p0]) (wt := 2) (seen := (s1.add 17 |>.add 24).add 20) rfl rfl
    have r5 := lit_yes (text := text) (pc := 36) (pos := e) (hd := e) (mk := #[some (p0 + 7), some e]) (lm := 1) (li := 1) (fr := [Fi e k, Fo p0]) (wt := 2) (seen := ((s1.add 17 |>.add 24).add 20).add 17) (c := 41) lit36 hes hec
    obtain ⟨m', r6, o1, o2, o3, o4, o5, o6⟩ := success (text := text) (pos := e + 1) (hd := e) (mk := #[some (p0 + 7), some e]) (lm := 1) (li := 1) (seen := (((s1.add 17 |>.add 24).add 20).add 17).add 16) p0 e k
    exact ⟨m', (((((r1.trans r2).trans r3).trans r4).trans r5).trans r6).le (by lia), o1, o2, o3, o4, o5, o6⟩
  | d + 1, hd, mk, seen, hm => by
    obtain ⟨pc, pos, hd', mk', lm, li, s1, h1, r1⟩ := fails_at hs (p0 + (d + 1)) (hno _ (by lia)) hd mk hm seen
    have r2 := back_outer (text := text) (hd := hd') (mk := mk') (lm := lm) (li := li) (seen := s1) (p0 + (d + 1)) pos pc (by lia)
    rw [show p0 + (d + 1) - 1 = p0 + d by lia] at r2
    obtain ⟨m', r3, o⟩ := outer_found hs p0 e h0 he hes hec hbe hno d (p0 + d) mk' s1 h1
    refine ⟨m', ((r1.trans r2).trans r3).le ?_, o⟩
    rw [Nat.mul_add (3 * text.size + 40) (d + 1) 1]
    lia
theorem outer_none (hs : text.size < 1000000) (hno : ∀ p, Hit text p → ∀ q, p + 7 ≤ q → q < text.size → text.getD q 0 ≠ 41) : ∀ d hd (mk : Array (Option Nat)) (seen : Seen), mk.size = 2 →
    ∃ m', Rn ((3 * text.size + 40) * (d + 1)) (S text 11 d hd mk (-1) (-1) [Fo d] 1 none seen) m' ∧ m'.outcome = some .failed
  | 0, hd, mk, seen, hm => by
    obtain ⟨pc, pos, hd', mk', lm, li, s1, h1, r1⟩ := fails_at hs 0 (hno _) hd mk hm seen
    have r2 := end_outer (text := text) (hd := hd') (mk := mk') (lm := lm) (li := li) (seen := s1) pos pc
    obtain ⟨m', r3, o⟩ := end_none (text := text) (hd := hd') (mk := mk') (lm := -1) (li := -1) (seen := s1) 0 5
    exact ⟨m', ((r1.trans r2).trans r3).le (by lia), o⟩
  | d + 1, hd, mk, seen, hm => by
    obtain ⟨pc, pos, hd', mk', lm, li, s1, h1, r1⟩ := fails_at hs (d + 1) (hno _) hd mk hm seen
    have r2 := back_outer (text := text) (hd := hd') (mk := mk') (lm := lm) (li := li) (seen := s1) (d + 1) pos pc (by lia)
    rw [show d + 1 - 1 = d by lia] at r2
    obtain ⟨m', r3, o⟩ := outer_none hs hno d d mk' s1 h1
    refine ⟨m', ((r1.trans r2).trans r3).le ?_, o⟩
    rw [Nat.mul_add (3 * text.size + 40) (d + 1) 1]
    lia
end
theorem for_match (text : Array Nat) (h8 : 8 ≤ text.size) : forMatch fcode text 1 0 text.size false false = S text 5 0 0 #[none, none] (-1) (-1) [] 0 none (({} : Seen).add 14) := by
  have hh : header fcode = (8, 5) := rfl
  have hn : ¬ text.size < 8 := by lia
  unfold forMatch
  simp only [hh]
  simp [hn]
  rfl
theorem bound (n : Nat) (h : n < 1000000) : 1 + (3 * n + 40) * (n + 1) ≤ 2 ^ 60 := by
  have : (3 * n + 40) * (n + 1) ≤ 3000040 * 1000000 := Nat.mul_le_mul (by lia) (by lia)
  lia
theorem found (text : Array Nat) (h8 : 8 ≤ text.size) (hs : text.size < 1000000) (hn : ∀ q, q < text.size → text.getD q 0 ≠ 10) (p0 e : Nat) (h0 : Hit text p0) (he : p0 + 7 ≤ e) (hes : e < text.size) (hec : text.getD e 0 = 41) (hbe : ∀ q, p0 + 7 ≤ q → q < e → text.getD q 0 ≠ 41)
    (hno : ∀ p, p0 < p → Hit text p → ∀ q, p + 7 ≤ q → q < text.size → text.getD q 0 ≠ 41) :
    ∃ m', Rn (2 ^ 60) (forMatch fcode text 1 0 text.size false false) m' ∧ m'.outcome = some .matched ∧ m'.start = 0 ∧ m'.handed = e + 1 ∧ m'.marks = #[some (p0 + 7), some e] ∧ m'.lastmark = 1 ∧ m'.lastindex = 1 := by
  rw [for_match text h8]
  have r1 := begin_ (text := text) (mk := #[none, none]) (seen := ({} : Seen).add 14) hs hn
  have hp : p0 + (text.size - p0) = text.size := by lia
  obtain ⟨m', r2, o⟩ := outer_found hs p0 e h0 he hes hec hbe hno (text.size - p0) text.size #[none, none] _ rfl
  rw [hp] at r2
  refine ⟨m', (r1.trans r2).le ?_, o⟩
  have := bound text.size hs
  have h2 : (3 * text.size + 40) * (text.size - p0 + 1) ≤ (3 * text.size + 40) * (text.size + 1) := Nat.mul_le_mul_left _ (by lia)
  lia
theorem none_ (text : Array Nat) (h8 : 8 ≤ text.size) (hs : text.size < 1000000) (hn : ∀ q, q < text.size → text.getD q 0 ≠ 10) (hno : ∀ p, Hit text p → ∀ q, p + 7 ≤ q → q < text.size → text.getD q 0 ≠ 41) :
    ∃ m', Rn (2 ^ 60) (forMatch fcode text 1 0 text.size false false) m' ∧ m'.outcome = some .failed := by
  rw [for_match text h8]
  have r1 := begin_ (text := text) (mk := #[none, none]) (seen := ({} : Seen).add 14) hs hn
  obtain ⟨m', r2, o⟩ := outer_none hs hno text.size text.size #[none, none] _ rfl
  exact ⟨m', (r1.trans r2).le (bound text.size hs), o⟩
end Rx
end Mine
end
section
open PySem PySem.W PySem.Calls PyProof.Rows
open PySem.Builtin PySem.Builtin.Re
set_option maxRecDepth 100000
namespace Mine
namespace Rx
section
variable {M : Model} {A : Around} {E : Value → Shared → Prop} {s : Shared}
theorem runFor_stays {m : Sre.M} (h : m.outcome.isSome = true) : ∀ n, m.runFor n = m
  | 0 => rfl
  | n + 1 => by simp [Sre.M.runFor, h]
theorem drive {m' : Sre.M} (ho : m'.outcome.isSome = true) {Q : Sre.M → Shared → Prop} (hq : Q m' s) : ∀ (k turns : Nat) (m : Sre.M), k < turns → m.runFor (4 * k) = m' → wpAny M A (reDrive turns m) Q E s
  | k, 0, m, hk, h => absurd hk (Nat.not_lt_zero _)
  | 0, t + 1, m, hk, h => by
    have h0 : m = m' := h
    subst h0
    unfold reDrive
    dsimp only
    rw [runFor_stays ho, if_pos ho]
    exact wpAny_pure hq
  | k + 1, t + 1, m, hk, h => by
    rw [show 4 * (k + 1) = reTurnSteps + 4 * k by unfold reTurnSteps; lia, runFor_add] at h
    unfold reDrive
    dsimp only
    by_cases h1 : (m.runFor reTurnSteps).outcome.isSome = true
    · rw [if_pos h1]
      rw [runFor_stays h1] at h
      rw [h]
      exact wpAny_pure hq
    · rw [if_neg h1]
      exact wpAny_bind (wpAny_rule (drive ho hq k t _ (by lia) h))
theorem drive_rn {m m' : Sre.M} (h : Rn (2 ^ 60) m m') (ho : m'.outcome.isSome = true) {Q : Sre.M → Shared → Prop} (hq : Q m' s) : wpAny M A (reDrive (2 ^ 64) m) Q E s := by
  obtain ⟨n, hn, h⟩ := h
  refine drive ho hq (2 ^ 60) (2 ^ 64) m (by decide) ?_
  rw [show 4 * 2 ^ 60 = n + (4 * 2 ^ 60 - n) by lia, runFor_add, h, runFor_stays ho]
theorem runEnd {m m' : Sre.M} {r : Option Sre.M} (h : Rn (2 ^ 60) m m') (ho : (m'.outcome = some .matched ∧ r = some m') ∨ (m'.outcome = some .failed ∧ r = none)) {Q : Option Sre.M → Shared → Prop} (hq : Q r s) :
    wpAny M A (reRunToEnd m) Q E s := by
  unfold reRunToEnd
  refine wpAny_bind (drive_rn h (by rcases ho with ⟨h, _⟩ | ⟨h, _⟩ <;> rw [h] <;> rfl) ?_)
  refine wpAny_bind (wpAny_forIn_list _ (fun _ _ s' => s' = s) _ ?_ ?_ _ _ rfl)
  · intro x rest b s1 e
    subst e
    by_cases hx : m'.seen.has x = true
    · rw [if_pos hx]
      exact wpAny_bind (wpAny_rule (wpAny_pure rfl))
    · rw [if_neg hx]
      exact wpAny_pure rfl
  · intro b s1 e
    subst e
    rcases ho with ⟨h, rfl⟩ | ⟨h, rfl⟩ <;> rw [h] <;> exact wpAny_pure hq
theorem textOf (b : Array UInt8) (t : Tok) : reTextOf (.bytes b t) = pure (b.map (·.toNat), 1) := by
  unfold reTextOf
  rw [show asStr? (.bytes b t) = pure none from rfl]
  simp only [pure_bind]
  rw [KBy.quiet_eq]
  rfl
theorem noColl (b : Array UInt8) (t : Tok) : reNoCollectionInside (.bytes b t) 1 = pure () := by
  unfold reNoCollectionInside
  rw [KBy.isInstance_eq]
  rfl
theorem named (v : Value) : reNamed "re.Pattern.match" "match" ["string", "pos", "endpos"] 1 [v] [] = pure [some v, none, none] := by kernel_rfl
theorem rawItems {a : Addr} {o : Obj} {items : Array Value} {n} {Q : Array Int → Shared → Prop} (ho : s.heap.get? a = some o) (hd : o.data = .seq items n) (h : Q (items.map reRawOf) s) : wpAny M A (reRawItems (.ref a)) Q E s := by
  unfold reRawItems
  exact wpAny_bind (wpAny_seqItems ho hd (wpAny_pure h))
/-- the pattern's object and its code stand in the heap -/
structure Pat (h : Heap) (p pc gx : Addr) : Prop where
  o : ∃ o x0 x1 x4, h.get? p = some o ∧ o.cls = .type "re.Pattern" ∧ o.dict = none ∧ o.data = .fields #[x0, x1, rawInt 1, .ref gx, x4, .ref pc, rawInt 1]
  c : ∃ o items n, h.get? pc = some o ∧ o.data = .seq items n ∧ (items.map reRawOf).map (·.toNat) = fcode
theorem target {p pc gx : Addr} {b : Array UInt8} {t : Tok} {Q : ReTarget → Shared → Prop} (P : Pat s.heap p pc gx)
    (hb : b.size < 1000000) (hq : Q { pattern := .ref p, string := .bytes b t, code := fcode, text := b.map (·.toNat), kind := 1, groups := 1, pos := 0, lim := b.size } s) : wpAny M A (reTarget "re.Pattern.match" "match" ⟨[.ref p, .bytes b t], []⟩) Q E s := by
  obtain ⟨⟨o, x0, x1, x4, ho, _, _, hd⟩, ⟨oc, items, n, hc, hcd, hit⟩⟩ := P
  show wpAny _ _ (reNamed "re.Pattern.match" "match" ["string", "pos", "endpos"] 1 [.bytes b t] [] >>= fun r => _) _ _ s
  rw [named]
  refine wpAny_bind (wpAny_pure ?_)
  refine wpAny_bind (wpAny_pure (wpAny_bind (wpAny_pure ?_)))
  refine wpAny_bind (wpAny_fieldsOf ho hd ?_)
  refine wpAny_bind (wpAny_of_eq (textOf b t) ?_)
  refine wpAny_bind (wpAny_of_eq (noColl b t) ?_)
  refine wpAny_bind (rawItems hc hcd ?_)
  refine wpAny_pure ?_
  rw [hit]
  have e : min ((2 : Int) ^ 63 - 1).toNat (b.map (·.toNat)).size = b.size := by
    rw [Array.size_map]
    exact Nat.min_eq_right (by have : ((2 : Int) ^ 63 - 1).toNat = 9223372036854775807 := by decide
                               lia)
  have e0 : min (0 : Int).toNat (b.map (·.toNat)).size = 0 := Nat.min_eq_left (Nat.zero_le _)
  dsimp only
  rw [e]
  exact hq
end
end Rx
end Mine
end
local macro_rules | `(tactic| walk_at $s:str) => if ["And", "CEnd", "FEnd", "FPost", "WDone", "WEnd", "WPost", "binaryOp Add bytes bytes", "binaryOp Add ref ref", "binaryOp Add str str", "binaryOp FloorDiv int int", "binaryOp LShift int int", "binaryOp Mult int int", "binaryOp Mult ref int", "binaryOp Mult str int", "binaryOp Pow int int", "binaryOp RShift int int", "call builtin:bytes.decode", "call builtin:bytes.split", "call builtin:divmod", "call builtin:len", "call builtin:list.append", "call builtin:list.reverse", "call builtin:max", "call builtin:min", "call builtin:ord", "call builtin:re.Match.group", "call builtin:re.Pattern.match", "call builtin:str.count", "call builtin:str.encode", "call builtin:str.rjust", "call builtin:sum", "call ref", "call type:tuple", "callWith ref", "compareOp Eq ref ref", "compareOp NotEq ref ref", "eval ListComp", "eval Name", "exec Assign cons ListComp", "exec For Name Attribute cons nil", "exec For Name Call cons nil", "exec For Name List cons nil", "exec For Name Name cons nil", "exec For Name Subscript cons nil", "exec FunctionDef", "exec While BoolOp cons nil", "exec While Compare cons nil", "exec While Name cons nil", "execs cons", "getItem ref int", "getMethod bytes", "getMethod ref", "getMethod str", "ite", "newList", "newTuple", "pyIter ref", "pyIter str", "setItem ref int", "subscriptTail Call Slice bytes ref", "subscriptTail List BinOp ref int", "subscriptTail Name BinOp ref int", "subscriptTail Name Constant ref int", "subscriptTail Name Name ref int", "subscriptTail Name Name str int", "subscriptTail Name Slice bytes ref", "subscriptTail Name Slice ref ref", "subscriptTail Name Slice str ref", "subscriptTail Name UnaryOp ref int", "subscriptTail Subscript BinOp ref int", "subscriptTail Subscript Constant ref int", "subscriptTail Subscript Name ref int", "truthy ref"].contains s.getString then `(tactic| k_extra $(Lean.Syntax.mkStrLit ("y " ++ s.getString))) else Lean.Macro.throwUnsupported
section
open PySem PySem.W PyProof.Rows
theorem Mine.plain3 : True ∧ True := by
  (w_top off)
  k_with_none
  exact ⟨trivial, trivial⟩
end
section
open PySem PySem.W PySem.Calls PyProof.Rows
open PySem.Builtin PySem.Builtin.Re
set_option maxRecDepth 100000
namespace Mine
namespace Rx
theorem owner_rp : Manifest.owners.lookup (String.ofList ['n', 'r', 'e', 't', 't', 'a', 'P', '.', 'e', 'r'].reverse) = some Manifest.sig_re_Pattern := by kernel_rfl
theorem plain_rp : PlainAttrs "re.Pattern" :=
  ⟨⟨"object.__getattribute__", by rw [typeLookup_type, builtinLookup_eq_fast]; kernel_rfl, by decide +kernel⟩, by rw [typeLookup_type, builtinLookup_eq_fast]; kernel_rfl⟩
theorem slot_rp_match : Slot "re.Pattern" "match" "re.Pattern.match" :=
  .of (owner := "re.Pattern") (n := "match") (by rw [typeLookup_type, builtinLookup_eq_fast]; kernel_rfl) (by decide +kernel) (by decide +kernel) (by decide +kernel)
    (by first | exact .inl (by decide +kernel) | exact .inr (by decide +kernel)) (by rw [isSubtype_type]; kernel_rfl)
theorem type_rp_match : typeOf (.builtin "re.Pattern.match") = pure (.type "method_descriptor") := by show builtinType _ = _; rw [builtinType_eq_fast]; kernel_rfl
theorem entry_rp_match : entryFor table "re.Pattern.match" = some Builtin.«re.Pattern.match» := entryFor_of_tree (by kernel_rfl)
theorem args_rp_match (a b : Value) : argsOk "re.Pattern.match" ⟨[a, b], []⟩ := by
  unfold argsOk; rw [signature?_of (id := "re.Pattern.match") (n := (['h', 'c', 't', 'a', 'm'])) (o := ['n', 'r', 'e', 't', 't', 'a', 'P', '.', 'e', 'r']) (by kernel_rfl) owner_rp]; kernel_rfl
theorem owner_rm : Manifest.owners.lookup (String.ofList ['h', 'c', 't', 'a', 'M', '.', 'e', 'r'].reverse) = some Manifest.sig_re_Match := by kernel_rfl
theorem plain_rm : PlainAttrs "re.Match" :=
  ⟨⟨"object.__getattribute__", by rw [typeLookup_type, builtinLookup_eq_fast]; kernel_rfl, by decide +kernel⟩, by rw [typeLookup_type, builtinLookup_eq_fast]; kernel_rfl⟩
theorem slot_rm_group : Slot "re.Match" "group" "re.Match.group" :=
  .of (owner := "re.Match") (n := "group") (by rw [typeLookup_type, builtinLookup_eq_fast]; kernel_rfl) (by decide +kernel) (by decide +kernel) (by decide +kernel)
    (by first | exact .inl (by decide +kernel) | exact .inr (by decide +kernel)) (by rw [isSubtype_type]; kernel_rfl)
theorem type_rm_group : typeOf (.builtin "re.Match.group") = pure (.type "method_descriptor") := by show builtinType _ = _; rw [builtinType_eq_fast]; kernel_rfl
theorem entry_rm_group : entryFor table "re.Match.group" = some Builtin.«re.Match.group» := entryFor_of_tree (by kernel_rfl)
theorem args_rm_group (a b : Value) : argsOk "re.Match.group" ⟨[a, b], []⟩ := by
  unfold argsOk; rw [signature?_of (id := "re.Match.group") (n := (['p', 'u', 'o', 'r', 'g'])) (o := ['h', 'c', 't', 'a', 'M', '.', 'e', 'r']) (by kernel_rfl) owner_rm]; kernel_rfl
theorem bool_rm : typeLookup (.type "re.Match") "__bool__" = pure none := by rw [typeLookup_type, builtinLookup_eq_fast]; kernel_rfl
theorem len_rm : typeLookup (.type "re.Match") "__len__" = pure none := by rw [typeLookup_type, builtinLookup_eq_fast]; kernel_rfl
theorem index_str : typeLookup (.type "str") "__index__" = pure none := by rw [typeLookup_type, builtinLookup_eq_fast]; kernel_rfl
theorem slot_bytes_split : Slot "bytes" "split" "bytes.split" :=
  .of (owner := "bytes") (n := "split") (by rw [typeLookup_type, builtinLookup_eq_fast]; kernel_rfl) (by decide +kernel) (by decide +kernel) (by decide +kernel)
    (by first | exact .inl (by decide +kernel) | exact .inr (by decide +kernel)) (by rw [isSubtype_type]; kernel_rfl)
theorem type_bytes_split : typeOf (.builtin "bytes.split") = pure (.type "method_descriptor") := by show builtinType _ = _; rw [builtinType_eq_fast]; kernel_rfl
theorem entry_bytes_split : entryFor table "bytes.split" = some Builtin.«bytes.split» := entryFor_of_tree (by kernel_rfl)
theorem args_bytes_split (a : Value) : argsOk "bytes.split" ⟨[a], []⟩ := by
  unfold argsOk; rw [signature?_of (id := "bytes.split") (n := (['t', 'i', 'l', 'p', 's'])) (o := ['s', 'e', 't', 'y', 'b']) (by kernel_rfl) FB.owner_bytes]; kernel_rfl
end Rx
end Mine
end
section
open PySem PySem.W PySem.Calls PyProof.Rows
open PySem.Builtin PySem.Builtin.Re
set_option maxRecDepth 100000
namespace Mine
namespace Rx
noncomputable def spansObj (e p0 : Nat) : Obj := { cls := .type "tuple", data := .seq #[rawInt 0, rawInt ((e + 1 : Nat) : Int), rawInt ((p0 + 7 : Nat) : Int), rawInt (e : Nat)] }
noncomputable def matchObj (p : Addr) (b : Array UInt8) (t : Tok) (sp : Addr) : Obj := { cls := .type "re.Match", data := .fields #[.bytes b t, .ref p, rawInt 0, rawInt (b.size : Nat), rawInt 1, .ref sp] }
/-- where the pattern matches -/
structure Found (l : List Nat) (p0 e : Nat) : Prop where
  long : 8 ≤ l.length
  short : l.length < 1000000
  byte : ∀ x ∈ l, x < 256
  noNl : ∀ x ∈ l, x ≠ 10
  hit : Hit l.toArray p0
  he : p0 + 7 ≤ e
  hes : e < l.length
  hec : l.toArray.getD e 0 = 41
  hbe : ∀ q, p0 + 7 ≤ q → q < e → l.toArray.getD q 0 ≠ 41
  hno : ∀ p, p0 < p → Hit l.toArray p → ∀ q, p + 7 ≤ q → q < l.length → l.toArray.getD q 0 ≠ 41
structure NotFound (l : List Nat) : Prop where
  long : 8 ≤ l.length
  short : l.length < 1000000
  byte : ∀ x ∈ l, x < 256
  noNl : ∀ x ∈ l, x ≠ 10
  hno : ∀ p, Hit l.toArray p → ∀ q, p + 7 ≤ q → q < l.length → l.toArray.getD q 0 ≠ 41
theorem byt_nats {l : List Nat} (h : ∀ x ∈ l, x < 256) : (byt l).map (·.toNat) = l.toArray := by
  unfold byt
  apply Array.toList_inj.mp
  simp only [Array.toList_map, List.map_map]
  conv => rhs; rw [← List.map_id l]
  apply List.map_congr_left
  intro x hx
  have := h x hx
  simp; lia
theorem nl_of {l : List Nat} (h : ∀ x ∈ l, x ≠ 10) : ∀ q, q < l.toArray.size → l.toArray.getD q 0 ≠ 10 := fun q hq => by
  have hq' : q < l.length := by simpa using hq
  have : l.toArray.getD q 0 = l[q] := by simp [Array.getD, hq']
  rw [this]
  exact h _ (List.getElem_mem _)
section
variable {prog : Program} {w : World} {A : Around} {E : Value → Shared → Prop} {s : Shared} {h₀ : Heap} {L p pc gx : Addr} {m : PySem.Str → Option Value} {news : List (Addr × Obj)} {Q : Value → Shared → Prop} {t : Tok}
theorem pat_typeIs (P : Pat s.heap p pc gx) : s.TypeIs (.ref p) "re.Pattern" := let ⟨⟨o, _, _, _, ho, hc, _⟩, _⟩ := P; ⟨o, ho, hc⟩
theorem pmethod {M : Model} {pl : Sem Bool} {Q : Value × List Value → Shared → Prop} (P : Pat s.heap p pc gx) (h : Q (.builtin "re.Pattern.match", [.ref p]) s) : wpAny M A (getMethod (.ref p) "match" pl) Q E s := by
  have P' := P
  obtain ⟨⟨o, _, _, _, ho, hc, hd, _⟩, _⟩ := P'
  exact getMethod_builtin (pat_typeIs P) plain_rp slot_rp_match type_rp_match (fun a e => by cases e; exact ⟨o, ho, hd⟩) h
theorem callSpec {T id : String} {self : Value} {rest : List Value} {B : Builtin} (slot : Slot T "match" id) (hT : s.TypeIs self T) (entry : entryFor table id = some B) (args : argsOk id ⟨self :: rest, []⟩)
    (g : wpAny (model prog w) A.in1 (B ⟨self :: rest, []⟩) (fun fin s' => ∃ v, fin = .done (.ret v) ∧ Q v s') E s) : wpAny (model prog w) A (call (.builtin id) (self :: rest)) Q E s :=
  wpAny_call (codeAny_call_builtin slot.plain entry (slot.check _ _ _ _ _ _ _ _ hT args (wpAny_mono g (fun fin s' h' => by obtain ⟨v, rfl, hv⟩ := h'; exact hv) fun _ _ x => x)))
theorem pmatch_no {l : List Nat} (P : Pat s.heap p pc gx) (f : NotFound l) (h : Q .none s) : wpAny (model prog w) A (call (.builtin "re.Pattern.match") [.ref p, .bytes (byt l) t]) Q E s := by
  refine callSpec slot_rp_match (pat_typeIs P) entry_rp_match (args_rp_match _ _) ?_
  unfold «re.Pattern.match»
  refine wpAny_bind (target P (by rw [byt_size]; exact f.short) ?_)
  dsimp only
  rw [byt_nats f.byte, byt_size]
  obtain ⟨m', r, o⟩ := none_ l.toArray (by simpa using f.long) (by simpa using f.short) (nl_of f.noNl) (fun p hp q h1 h2 => f.hno p hp q h1 (by simpa using h2))
  rw [show l.toArray.size = l.length by simp] at r
  unfold reAnswer
  dsimp only
  exact wpAny_bind (runEnd r (.inr ⟨o, rfl⟩) (wpAny_pure ⟨_, rfl, h⟩))
theorem pmatch_yes {l : List Nat} {p0 e : Nat} (P : Pat s.heap p pc gx) (F : Fr h₀ L s.heap m) (N : News h₀ L s.heap news) (f : Found l p0 e)
    (h : ∀ a sp h', L < a → Fr h₀ L h' m → News h₀ L h' ((a, matchObj p (byt l) t sp) :: (sp, spansObj e p0) :: news) → Q (.ref a) { s with heap := h' }) :
    wpAny (model prog w) A (call (.builtin "re.Pattern.match") [.ref p, .bytes (byt l) t]) Q E s := by
  refine callSpec slot_rp_match (pat_typeIs P) entry_rp_match (args_rp_match _ _) ?_
  unfold «re.Pattern.match»
  refine wpAny_bind (target P (by rw [byt_size]; exact f.short) ?_)
  dsimp only
  rw [byt_nats f.byte]
  obtain ⟨m', r, o, i1, i2, i3, i4, i5⟩ := found l.toArray (by simpa using f.long) (by simpa using f.short) (nl_of f.noNl) p0 e f.hit f.he (by simpa using f.hes) f.hec f.hbe (fun p h0 hp q h1 h2 => f.hno p h0 hp q h1 (by simpa using h2))
  rw [show l.toArray.size = l.length by simp] at r
  rw [byt_size]
  unfold reAnswer
  dsimp only
  refine wpAny_bind (runEnd r (.inl ⟨o, rfl⟩) ?_)
  dsimp only
  unfold reNewMatch
  have hr : List.range 1 = [0] := rfl
  have hm : ¬ e < p0 + 7 := by have := f.he; lia
  simp only [i1, i2, i3, i4, i5, hr, List.flatMap_cons, List.flatMap_nil, List.any_cons, List.any_nil]
  simp only [Nat.mul_zero, Nat.zero_add, Array.getD_eq_getD_getElem?, List.getElem?_toArray, List.getElem?_cons_zero, List.getElem?_cons_succ, Option.getD_some]
  simp [hm]
  refine wpAny_bind (wpAny_newTuple ?_ ?z1)
  case z1 => rw [sizeLine_eq]; exact Nat.le_of_ble_eq_true rfl
  unfold newFields
  refine wpAny_bind (wpAny_newObj_type ?_ ?z2)
  case z2 => show _ ≤ _; rw [sizeLine_eq]; exact Nat.le_of_ble_eq_true rfl
  refine wpAny_pure ⟨_, rfl, ?_⟩
  have F1 := F.push (spansObj e p0)
  have N1 := N.push F (spansObj e p0)
  have F2 := F1.push (matchObj p (byt l) t s.heap.objs.size)
  have N2 := N1.push F1 (matchObj p (byt l) t s.heap.objs.size)
  have := h _ _ _ F1.ns.lt F2 N2
  simp only [matchObj, spansObj, byt_size] at this
  exact this
theorem truthyM {l : List Nat} {a sp : Addr} {Q : Bool → Shared → Prop} (N : News h₀ L s.heap news) (hm : (a, matchObj p (byt l) t sp) ∈ news) (h : Q true s) : wpAny (model prog w) A (truthy (.ref a)) Q E s := by
  have hT : s.TypeIs (.ref a) "re.Match" := ⟨_, (N _ hm).1, rfl⟩
  unfold truthy
  dsimp only
  refine wpAny_bind ?_
  unfold callSpecial?
  refine wpAny_bind (wpAny_specialOf hT bool_rm (wpAny_pure ?_))
  dsimp only
  exact wpAny_bind (wpAny_specialOf hT len_rm (wpAny_pure h))
theorem gmethod {M : Model} {pl : Sem Bool} {l : List Nat} {a sp : Addr} {Q : Value × List Value → Shared → Prop} (N : News h₀ L s.heap news) (hm : (a, matchObj p (byt l) t sp) ∈ news) (h : Q (.builtin "re.Match.group", [.ref a]) s) : wpAny M A (getMethod (.ref a) "group" pl) Q E s :=
  getMethod_builtin ⟨_, (N _ hm).1, rfl⟩ plain_rm slot_rm_group type_rm_group (fun a e => by cases e; exact ⟨_, (N _ hm).1, rfl⟩) h
theorem callG {T nm id : String} {self : Value} {rest : List Value} {B : Builtin} (slot : Slot T nm id) (hT : s.TypeIs self T) (entry : entryFor table id = some B) (args : argsOk id ⟨self :: rest, []⟩)
    (g : wpAny (model prog w) A.in1 (B ⟨self :: rest, []⟩) (fun fin s' => ∃ v, fin = .done (.ret v) ∧ Q v s') E s) : wpAny (model prog w) A (call (.builtin id) (self :: rest)) Q E s :=
  wpAny_call (codeAny_call_builtin slot.plain entry (slot.check _ _ _ _ _ _ _ _ hT args (wpAny_mono g (fun fin s' h' => by obtain ⟨v, rfl, hv⟩ := h'; exact hv) fun _ _ x => x)))
theorem cut_byt {l : List Nat} {p0 e : Nat} : ((l.toArray.extract (p0 + 7) e).map (·.toUInt8)) = byt ((l.drop (p0 + 7)).take (e - (p0 + 7))) := by
  unfold byt
  apply Array.toList_inj.mp
  simp
theorem mgroup {l : List Nat} {a sp : Addr} {p0 e : Nat} {x : PySem.Str} {t' n' : Tok} (hx : x = PySem.Str.ofString "flags") (P : Pat s.heap p pc gx) (G : s.heap.MapOf (strKind prog w) gx (fun z => if z = x then some (.int 1 n') else none))
    (N : News h₀ L s.heap news) (hm : (a, matchObj p (byt l) t sp) ∈ news) (hs : (sp, spansObj e p0) ∈ news) (f : Found l p0 e)
    (h : ∀ t2 k, Q (.bytes (byt ((l.drop (p0 + 7)).take (e - (p0 + 7)))) t2) { s with toks := k }) :
    wpAny (model prog w) A (call (.builtin "re.Match.group") [.ref a, .str x t']) Q E s := by
  have hT : s.TypeIs (.ref a) "re.Match" := ⟨_, (N _ hm).1, rfl⟩
  obtain ⟨⟨o, x0, x1, x4, ho, _, _, hd⟩, _⟩ := P
  refine callG slot_rm_group hT entry_rm_group (args_rm_group _ _) ?_
  show wpAny _ _ (reFound (.ref a) >>= fun x => _) _ E s
  refine wpAny_bind (wpAny_bind (wpAny_fieldsOf (N _ hm).1 rfl ?_))
  refine wpAny_bind (rawItems (N _ hs).1 rfl (wpAny_pure ?_))
  have hsp : #[rawInt 0, rawInt ((e + 1 : Nat) : Int), rawInt ((p0 + 7 : Nat) : Int), rawInt (e : Int)].map reRawOf = #[0, ((e + 1 : Nat) : Int), ((p0 + 7 : Nat) : Int), (e : Int)] := by simp [reRawOf, rawInt]
  rw [hsp]
  refine wpAny_bind ?_
  unfold reGroupNumber
  rw [show asInt? (.str x t') = pure none from rfl]
  refine wpAny_bind (wpAny_pure ?_)
  dsimp only [Option.isSome]
  rw [if_neg Bool.false_ne_true]
  refine wpAny_bind (wpAny_specialOf_val (show typeOf (.str x t') = pure (.type "str") from rfl) index_str ?_)
  dsimp only [Option.isSome]
  rw [if_neg Bool.false_ne_true]
  refine wpAny_bind (wpAny_fieldsOf ho hd ?_)
  refine wpAny_bind (wpAny_dictGet_of (knd := strKind prog w) (k := x) (by simp [PySem.strKind, Value.isStrOf]) G ?_)
  rw [if_pos rfl]
  dsimp only
  refine wpAny_bind (wpAny_pure ?_)
  refine wpAny_bind (wpAny_pure ?_)
  dsimp only [Option.getD]
  rw [if_neg (by show ¬ (decide ((1 : Int) < 0) || decide ((2 : Int) * 1 ≥ 4)) = true; decide)]
  refine wpAny_pure ?_
  refine wpAny_bind ?_
  unfold reGroupText
  show wpAny _ _ (if (decide (((p0 + 7 : Nat) : Int) < 0) || decide ((e : Int) < 0)) = true then _ else _) _ E _
  rw [if_neg (by simp; lia)]
  refine wpAny_bind (wpAny_of_eq (textOf _ _) ?_)
  dsimp only
  unfold reSlice
  rw [if_neg (by decide)]
  rw [byt_nats f.byte]
  show wpAny _ _ (mkBytes ((l.toArray.extract (p0 + 7) e).map (·.toUInt8))) _ _ _
  rw [cut_byt]
  refine wpAny_mkBytes (wpAny_pure ⟨_, rfl, h _ _⟩) ?_
  rw [byt_size, sizeLine_eq]
  have := f.short
  simp
  lia
end
end Rx
end Mine
end
section
open PySem PySem.W PySem.Calls PyProof.Rows
open PySem.Builtin PySem.Builtin.Re
set_option maxRecDepth 100000
namespace Mine
/-- the values are these bytes -/
noncomputable def ByVals : List Value → List (List Nat) → Prop
  | [], [] => True
  | v :: vs, x :: xs => (∃ t, v = .bytes (byt x) t) ∧ ByVals vs xs
  | _, _ => False
theorem ByVals.length : ∀ {vs xs}, ByVals vs xs → vs.length = xs.length
  | [], [], _ => rfl
  | _ :: _, _ :: _, h => by simp [ByVals.length h.2]
  | [], _ :: _, h => h.elim
  | _ :: _, [], h => h.elim
theorem mapM_bytes {M : Model} {A : Around} {E : Value → Shared → Prop} : ∀ (xs : List (List Nat)) (s : Shared) (Q : List Value → Shared → Prop), (∀ x ∈ xs, x.length ≤ 16777216) →
    (∀ vs k, ByVals vs xs → Q vs { s with toks := k }) → wpAny M A ((xs.map fun x => x.map UInt8.ofNat).mapM fun w => Bytes.Kind.bytes.new w.toArray) Q E s
  | [], s, Q, _, h => by rw [List.map_nil, List.mapM_nil]; exact wpAny_pure (h [] _ trivial)
  | x :: r, s, Q, hx, h => by
    rw [List.map_cons, List.mapM_cons]
    refine wpAny_bind (wpAny_mkBytes (wpAny_bind (mapM_bytes r _ _ (fun y hy => hx y (List.mem_cons_of_mem _ hy)) fun vs k hv => wpAny_pure (h _ _ ⟨⟨_, rfl⟩, hv⟩))) ?_)
    have := hx x (List.mem_cons_self ..)
    rw [sizeLine_eq]; simpa using this
noncomputable def spc (c : Nat) : Bool := c == 32 || (9 ≤ c && c ≤ 13)
theorem spc_eq {c : Nat} (h : c < 256) : Bytes.isSpace (UInt8.ofNat c) = spc c := by
  have : ∀ c : Fin 256, Bytes.isSpace (UInt8.ofNat c.val) = spc c.val := by decide +kernel
  exact this ⟨c, h⟩
/-- the words of a text -/
noncomputable def wordsN : Nat → List Nat → List (List Nat)
  | 0, _ => []
  | f + 1, l => match l.dropWhile spc with
    | [] => []
    | r => r.takeWhile (!spc ·) :: wordsN f (r.dropWhile (!spc ·))
theorem dropWhile_map {p : UInt8 → Bool} {q : Nat → Bool} : ∀ {l : List Nat}, (∀ c ∈ l, p (UInt8.ofNat c) = q c) → (l.map UInt8.ofNat).dropWhile p = (l.dropWhile q).map UInt8.ofNat
  | [], _ => rfl
  | c :: l, h => by
    simp only [List.map_cons, List.dropWhile_cons, h c (List.mem_cons_self ..)]
    split
    · exact dropWhile_map fun c hc => h c (List.mem_cons_of_mem _ hc)
    · rfl
theorem takeWhile_map {p : UInt8 → Bool} {q : Nat → Bool} : ∀ {l : List Nat}, (∀ c ∈ l, p (UInt8.ofNat c) = q c) → (l.map UInt8.ofNat).takeWhile p = (l.takeWhile q).map UInt8.ofNat
  | [], _ => rfl
  | c :: l, h => by
    simp only [List.map_cons, List.takeWhile_cons, h c (List.mem_cons_self ..)]
    split
    · simp [takeWhile_map fun c hc => h c (List.mem_cons_of_mem _ hc)]
    · rfl
theorem words_eq : ∀ (f n : Nat) (l : List Nat), f ≤ n → (∀ c ∈ l, c < 256) → Bytes.words f n (l.map UInt8.ofNat) = (wordsN f l).map fun x => x.map UInt8.ofNat
  | 0, _, _, _, _ => rfl
  | f + 1, 0, _, h, _ => absurd h (Nat.not_succ_le_zero _)
  | f + 1, n + 1, l, h, hl => by
    unfold Bytes.words wordsN
    rw [dropWhile_map fun c hc => spc_eq (hl c hc)]
    have hm : ∀ c ∈ l.dropWhile spc, c < 256 := fun c hc => hl c ((List.dropWhile_sublist _).mem hc)
    cases hr : l.dropWhile spc with
    | nil => rfl
    | cons c r =>
      rw [hr] at hm
      simp only [List.map_cons]
      have e1 : ∀ x ∈ c :: r, (!Bytes.isSpace (UInt8.ofNat x)) = (!spc x) := fun x hx => by rw [spc_eq (hm x hx)]
      have e2 := takeWhile_map (p := fun z => !Bytes.isSpace z) (q := fun z => !spc z) e1
      have e3 := dropWhile_map (p := fun z => !Bytes.isSpace z) (q := fun z => !spc z) e1
      simp only [List.map_cons] at e2 e3
      rw [e2, e3]
      simp only [Nat.add_sub_cancel]
      rw [words_eq f n _ (by lia) fun x hx => hm x ((List.dropWhile_sublist _).mem hx)]
      rfl
theorem wordsN_succ (f : Nat) (l : List Nat) : wordsN (f + 1) l = match l.dropWhile spc with
    | [] => []
    | r => r.takeWhile (!spc ·) :: wordsN f (r.dropWhile (!spc ·)) := rfl
theorem wordsN_le : ∀ (f : Nat) (l : List Nat), ∀ x ∈ wordsN f l, x.length ≤ l.length
  | 0, _, _, h => nomatch h
  | f + 1, l, x, h => by
    rw [wordsN_succ] at h
    have hd := (List.dropWhile_sublist (p := spc) (l := l)).length_le
    cases hr : l.dropWhile spc with
    | nil => rw [hr] at h; cases h
    | cons c r =>
      rw [hr] at h hd
      rcases List.mem_cons.mp h with rfl | h
      · exact Nat.le_trans (List.takeWhile_sublist _).length_le hd
      · exact Nat.le_trans (wordsN_le f _ x h) (Nat.le_trans (List.dropWhile_sublist _).length_le hd)
theorem wordsN_length : ∀ (f : Nat) (l : List Nat), (wordsN f l).length ≤ f
  | 0, _ => Nat.le_refl _
  | f + 1, l => by
    rw [wordsN_succ]
    cases hr : l.dropWhile spc with
    | nil => simp
    | cons c r => simpa using wordsN_length f _
/-- words with blanks between them -/
noncomputable def joinW : List Nat → List (List Nat × List Nat) → List Nat
  | x, [] => x
  | x, (b, y) :: r => x ++ b ++ joinW y r
noncomputable def Wd (x : List Nat) : Prop := x ≠ [] ∧ ∀ c ∈ x, spc c = false
noncomputable def Bl (x : List Nat) : Prop := x ≠ [] ∧ ∀ c ∈ x, spc c = true
theorem dropW_all {p : Nat → Bool} : ∀ {x : List Nat} (y : List Nat), (∀ c ∈ x, p c = true) → (x ++ y).dropWhile p = y.dropWhile p
  | [], _, _ => rfl
  | c :: x, y, h => by
    rw [List.cons_append, List.dropWhile_cons, h c (List.mem_cons_self ..), if_pos rfl]
    exact dropW_all y fun c hc => h c (List.mem_cons_of_mem _ hc)
theorem takeW_all {p : Nat → Bool} : ∀ {x : List Nat} (y : List Nat), (∀ c ∈ x, p c = true) → (x ++ y).takeWhile p = x ++ y.takeWhile p
  | [], _, _ => rfl
  | c :: x, y, h => by
    rw [List.cons_append, List.takeWhile_cons, h c (List.mem_cons_self ..), if_pos rfl, takeW_all y fun c hc => h c (List.mem_cons_of_mem _ hc)]
    rfl
theorem words_join : ∀ (r : List (List Nat × List Nat)) (b x : List Nat) (f : Nat), r.length < f → (∀ c ∈ b, spc c = true) → Wd x → (∀ p ∈ r, Bl p.1 ∧ Wd p.2) → wordsN f (b ++ joinW x r) = x :: r.map (·.2)
  | r, b, x, 0, h, _, _, _ => absurd h (Nat.not_lt_zero _)
  | r, b, x, f + 1, h, hb, hx, hr => by
    have key : ∀ y : List Nat, (y = [] ∨ ∃ c t, y = c :: t ∧ spc c = true) → wordsN (f + 1) (b ++ (x ++ y)) = x :: wordsN f y := by
      intro y hy
      obtain ⟨c, t, rfl⟩ : ∃ c t, x = c :: t := by
        cases x with
        | nil => exact absurd rfl hx.1
        | cons c t => exact ⟨c, t, rfl⟩
      have hc := hx.2 c (List.mem_cons_self ..)
      have h1 : (b ++ (c :: t ++ y)).dropWhile spc = c :: t ++ y := by
        rw [dropW_all _ hb, List.cons_append, List.dropWhile_cons, hc]; rfl
      rw [wordsN_succ, h1]
      have h2 : ∀ z ∈ c :: t, (!spc z) = true := fun z hz => by rw [hx.2 z hz]; rfl
      have h3 : y.takeWhile (!spc ·) = [] ∧ y.dropWhile (!spc ·) = y := by
        rcases hy with rfl | ⟨d, u, rfl, hd⟩
        · exact ⟨rfl, rfl⟩
        · simp [List.takeWhile_cons, List.dropWhile_cons, hd]
      have h4 : (c :: t ++ y).takeWhile (!spc ·) = c :: t := by rw [takeW_all y h2, h3.1, List.append_nil]
      have h5 : (c :: t ++ y).dropWhile (!spc ·) = y := by rw [dropW_all y h2, h3.2]
      show (c :: t ++ y).takeWhile (!spc ·) :: wordsN f ((c :: t ++ y).dropWhile (!spc ·)) = _
      rw [h4, h5]
    cases r with
    | nil =>
      show wordsN (f + 1) (b ++ x) = [x]
      have := key [] (.inl rfl)
      rw [List.append_nil] at this
      rw [this]
      cases f with
      | zero => rfl
      | succ f => rfl
    | cons p r =>
      obtain ⟨b1, y1⟩ := p
      obtain ⟨⟨hb1, hb2⟩, hy⟩ := hr (b1, y1) (List.mem_cons_self ..)
      show wordsN (f + 1) (b ++ (x ++ b1 ++ joinW y1 r)) = _
      rw [List.append_assoc]
      rw [key (b1 ++ joinW y1 r) (by
        cases b1 with
        | nil => exact absurd rfl hb1
        | cons c t => exact .inr ⟨c, _, rfl, hb2 c (List.mem_cons_self ..)⟩)]
      rw [words_join r b1 y1 f (by simp at h; lia) hb2 hy fun p hp => hr p (List.mem_cons_of_mem _ hp)]
      rfl
section
variable {prog : Program} {w : World} {A : Around} {E : Value → Shared → Prop} {s : Shared} {h₀ : Heap} {L : Addr} {m : PySem.Str → Option Value} {news : List (Addr × Obj)} {t : Tok}
theorem smethod {M : Model} {b : Array UInt8} {pl : Sem Bool} {Q : Value × List Value → Shared → Prop} (h : Q (.builtin "bytes.split", [.bytes b t]) s) : wpAny M A (getMethod (.bytes b t) "split" pl) Q E s := by
  with_reducible exact KBd.method_of (.bytes b t) (typeIs_bytes _ _ _) Rx.slot_bytes_split Rx.type_bytes_split KBd.noRef h
theorem bsplit {Q : Value → Shared → Prop} {l : List Nat} (hl : ∀ c ∈ l, c < 256) (hz : l.length ≤ 16000) (hsp : ∃ c ∈ l, spc c = true) (F : Fr h₀ L s.heap m) (N : News h₀ L s.heap news)
    (h : ∀ a vs h' k, Fr h₀ L h' m → News h₀ L h' ((a, { cls := .type "list", data := .seq vs.toArray }) :: news) → ByVals vs (wordsN (l.length + 1) l) → Q (.ref a) { s with heap := h', toks := k }) :
    wpAny (model prog w) A (call (.builtin "bytes.split") [.bytes (byt l) t]) Q E s := by
  refine Rx.callG Rx.slot_bytes_split (typeIs_bytes _ _ _) Rx.entry_bytes_split (Rx.args_bytes_split _) ?_
  unfold «bytes.split» Bytes.splitM
  show wpAny _ _ (Bytes.bindOptional _ _ _ _ _ >>= fun r => _) _ E s
  rw [show Bytes.bindOptional (toString Bytes.Kind.bytes.name ++ toString "." ++ toString "split") "split" ["sep", "maxsplit"] [] [] = pure [none, none] by kernel_rfl]
  refine wpAny_bind (wpAny_pure ?_)
  refine wpAny_bind (wpAny_pure ?_)
  refine wpAny_bind (wpAny_pure ?_)
  dsimp only
  rw [if_pos (show (-1 : Int) < 0 by decide)]
  refine wpAny_bind (wpAny_rule ?_)
  have hany : (byt l).any Bytes.isSpace = true := by
    obtain ⟨c, hc, hs⟩ := hsp
    unfold byt
    rw [List.any_toArray, List.any_eq_true]
    exact ⟨UInt8.ofNat c, List.mem_map_of_mem hc, by rw [spc_eq (hl c hc)]; exact hs⟩
  rw [if_neg (by rw [hany]; simp)]
  rw [if_neg Bool.false_ne_true, byt_size]
  rw [show (byt l).toList = l.map UInt8.ofNat from rfl, words_eq _ _ _ (Nat.le_refl _) hl]
  refine wpAny_bind (mapM_bytes _ _ _ (fun x hx => by have := wordsN_le _ _ x hx; lia) fun vs k hv => ?_)
  refine wpAny_bind (wpAny_newList ?_ ?z)
  case z => rw [sizeLine_eq, hv.length]; have := wordsN_length (l.length + 1) l; lia
  exact wpAny_pure ⟨_, rfl, h _ vs _ _ (F.push _) (News.push F N _) hv⟩
end
end Mine
end
section
namespace Mine
/-- the depths of an ordered tree's leaves -/
inductive Lev : List Nat → Prop
  | leaf : Lev [0]
  | node {a b : List Nat} : Lev a → Lev b → Lev ((a ++ b).map (· + 1))
noncomputable def dot : List Int → List Nat → Int
  | x :: xs, n :: ns => x * n + dot xs ns
  | _, _ => 0
theorem Lev.pos {t : List Nat} (h : Lev t) : 1 ≤ t.length := by
  induction h with
  | leaf => exact Nat.le_refl _
  | node ha hb iha ihb => simp; lia
theorem dot_append : ∀ (xs ys : List Int) (a b : List Nat), xs.length = a.length → dot (xs ++ ys) (a ++ b) = dot xs a + dot ys b
  | [], ys, [], b, _ => by simp [dot]
  | x :: xs, ys, n :: a, b, h => by
    simp only [List.cons_append, dot]
    rw [dot_append xs ys a b (by simpa using h)]
    lia
theorem dot_succ : ∀ (xs : List Int) (a : List Nat), xs.length = a.length → dot xs (a.map (· + 1)) = dot xs a + xs.sum
  | [], [], _ => rfl
  | x :: xs, n :: a, h => by
    have e : x * ((n + 1 : Nat) : Int) = x * n + x := by rw [Int.natCast_add, Int.mul_add]; simp
    simp only [List.map_cons, dot, List.sum_cons, dot_succ xs a (by simpa using h), e]
    lia
/-- c is the least cost of an ordered tree over xs -/
noncomputable def Best (xs : List Int) (c : Int) : Prop := (∃ t, Lev t ∧ t.length = xs.length ∧ c = dot xs t) ∧ ∀ t, Lev t → t.length = xs.length → c ≤ dot xs t
theorem lev_one {t : List Nat} (h : Lev t) (h1 : t.length = 1) : t = [0] := by
  cases h with
  | leaf => rfl
  | node ha hb => have := ha.pos; have := hb.pos; simp at h1; lia
theorem best_one (x : Int) : Best [x] 0 := by
  refine ⟨⟨[0], .leaf, rfl, by simp [dot]⟩, fun t ht hl => ?_⟩
  rw [lev_one ht hl]
  simp [dot]
theorem best_step (xs : List Int) (h2 : 2 ≤ xs.length) (a b : Nat → Int) (ha : ∀ l, 1 ≤ l → l < xs.length → Best (xs.take l) (a l)) (hb : ∀ l, 1 ≤ l → l < xs.length → Best (xs.drop l) (b l))
    (M : Int) (hM : ∃ l, 1 ≤ l ∧ l < xs.length ∧ M = a l + b l) (hle : ∀ l, 1 ≤ l → l < xs.length → M ≤ a l + b l) : Best xs (xs.sum + M) := by
  constructor
  · obtain ⟨l, h1, h3, rfl⟩ := hM
    obtain ⟨⟨ta, hta, hla, ea⟩, _⟩ := ha l h1 h3
    obtain ⟨⟨tb, htb, hlb, eb⟩, _⟩ := hb l h1 h3
    refine ⟨_, .node hta htb, ?_, ?_⟩
    · simp at hla hlb ⊢; lia
    · have e : xs = xs.take l ++ xs.drop l := (List.take_append_drop l xs).symm
      have hl : xs.length = (ta ++ tb).length := by simp at hla hlb ⊢; lia
      rw [dot_succ _ _ hl]
      conv => rhs; rw [e]
      rw [dot_append _ _ _ _ hla.symm, ← ea, ← eb, List.take_append_drop]
      lia
  · intro t ht hl
    cases ht with
    | leaf => simp at hl; lia
    | node hta htb =>
      rename_i ta tb
      have p1 := hta.pos
      have p2 := htb.pos
      simp at hl
      have h3 : ta.length < xs.length := by lia
      have h4 := (ha _ p1 h3).2 ta hta (by simp; lia)
      have h5 := (hb _ p1 h3).2 tb htb (by simp; lia)
      have h6 := hle _ p1 h3
      rw [dot_succ _ _ (by simp; lia)]
      have e : dot xs (ta ++ tb) = dot (xs.take ta.length) ta + dot (xs.drop ta.length) tb := by
        conv => lhs; rw [← List.take_append_drop ta.length xs]
        exact dot_append _ _ _ _ (by simp; lia)
      rw [e]
      lia
end Mine
end
section
namespace Mine
theorem best_cuts (xs cs : List Int) (h2 : 2 ≤ xs.length) (hc : cs.length + 1 = xs.length) (h : ∀ l, l < cs.length → ∃ a b, cs.getD l 0 = a + b ∧ Best (xs.take (l + 1)) a ∧ Best (xs.drop (l + 1)) b)
    (M : Int) (hM : M ∈ cs) (hle : ∀ x ∈ cs, M ≤ x) : Best xs (xs.sum + M) := by
  have h' : ∀ l, ∃ a b, (1 ≤ l → l < xs.length → cs.getD (l - 1) 0 = a + b ∧ Best (xs.take l) a ∧ Best (xs.drop l) b) := by
    intro l
    by_cases hl : 1 ≤ l ∧ l < xs.length
    · obtain ⟨a, b, q⟩ := h (l - 1) (by lia)
      rw [show l - 1 + 1 = l by lia] at q
      exact ⟨a, b, fun _ _ => q⟩
    · exact ⟨0, 0, fun h1 h3 => absurd ⟨h1, h3⟩ hl⟩
  obtain ⟨a, h'⟩ := Classical.skolem.mp h'
  obtain ⟨b, h'⟩ := Classical.skolem.mp h'
  refine best_step xs h2 a b (fun l h1 h3 => (h' l h1 h3).2.1) (fun l h1 h3 => (h' l h1 h3).2.2) M ?_ fun l h1 h3 => ?_
  · obtain ⟨j, hj, e⟩ := List.getElem_of_mem hM
    refine ⟨j + 1, by lia, by lia, ?_⟩
    rw [← (h' (j + 1) (by lia) (by lia)).1, ← e]
    simp [hj]
  · rw [← (h' l h1 h3).1]
    have hl : l - 1 < cs.length := by lia
    have : cs.getD (l - 1) 0 = cs[l - 1] := by simp [hl]
    rw [this]
    exact hle _ (List.getElem_mem hl)
end Mine
end
section
namespace Mine
/-- a row with one place's pair gone and the sum set in -/
noncomputable def nxt {α : Type} (r : List α) (x : α) (k p : Nat) : List α := r.take p ++ [x] ++ (r.drop p).take (k - 1 - p) ++ r.drop (k + 1)
/-- a step that the weights allow -/
noncomputable def StepOk (ws : List Nat) (k p : Nat) : Prop :=
  1 ≤ k ∧ k < ws.length ∧ p < k ∧ (∀ j, 1 ≤ j → j < k → ws.getD (j + 1) 0 < ws.getD (j - 1) 0) ∧ (k + 1 < ws.length → ws.getD (k - 1) 0 ≤ ws.getD (k + 1) 0) ∧
    (∀ j, p ≤ j → j < k - 1 → ws.getD j 0 < ws.getD (k - 1) 0 + ws.getD k 0) ∧ (0 < p → ws.getD (k - 1) 0 + ws.getD k 0 ≤ ws.getD (p - 1) 0)
noncomputable abbrev GRow := List (Nat × List Nat)
/-- one more level for each leaf -/
noncomputable def incs (lev : List Nat) : List Nat → List Nat
  | [] => lev
  | i :: r => incs (lev.set i (lev.getD i 0 + 1)) r
inductive GR : GRow → List Nat → List Nat → Prop
  | done {r lev} : r.length ≤ 1 → GR r lev lev
  | step {r lev lev'} (k p : Nat) : StepOk (r.map (·.1)) k p →
      GR (nxt r ((r.getD (k - 1) (0, [])).1 + (r.getD k (0, [])).1, (r.getD (k - 1) (0, [])).2 ++ (r.getD k (0, [])).2) k p) (incs lev ((r.getD (k - 1) (0, [])).2 ++ (r.getD k (0, [])).2)) lev' → GR r lev lev'
noncomputable def row0 (ws : List Nat) : GRow := ws.zipIdx.map fun q => (q.1, [q.2])
theorem incs_len (lev : List Nat) : ∀ l : List Nat, (incs lev l).length = lev.length := by
  intro l
  induction l generalizing lev with
  | nil => rfl
  | cons i r ih => rw [incs, ih]; simp
theorem nxt_sum (ws : List Nat) (k p : Nat) (h1 : 1 ≤ k) (h2 : k < ws.length) (h3 : p < k) : (nxt ws (ws.getD (k - 1) 0 + ws.getD k 0) k p).sum = ws.sum := by
  have e : ws = ws.take p ++ ((ws.drop p).take (k - 1 - p) ++ (ws[k - 1] :: ws[k] :: ws.drop (k + 1))) := by
    have a1 : ws[k - 1] :: ws[k] :: ws.drop (k + 1) = ws.drop (k - 1) := by
      rw [List.drop_eq_getElem_cons (i := k - 1) (Nat.lt_of_le_of_lt (Nat.sub_le ..) h2)]
      congr 1
      rw [Nat.sub_add_cancel h1, List.drop_eq_getElem_cons h2]
    rw [a1]
    have a2 : (ws.drop p).take (k - 1 - p) ++ ws.drop (k - 1) = ws.drop p := by
      conv => rhs; rw [← List.take_append_drop (k - 1 - p) (ws.drop p), List.drop_drop, Nat.add_sub_cancel' (Nat.le_sub_one_of_lt h3)]
    rw [a2, List.take_append_drop]
  have g1 : ws.getD (k - 1) 0 = ws[k - 1] := by simp [show k - 1 < ws.length from Nat.lt_of_le_of_lt (Nat.sub_le ..) h2]
  have g2 : ws.getD k 0 = ws[k] := by simp [h2]
  rw [g1, g2]
  unfold nxt
  conv => rhs; rw [e]
  simp only [List.sum_append, List.sum_cons, List.sum_nil]
  lia
theorem nxt_len {α : Type} (r : List α) (x : α) (k p : Nat) (h1 : 1 ≤ k) (h2 : k < r.length) (h3 : p < k) : (nxt r x k p).length + 1 = r.length := by
  have a1 : p ≤ r.length := Nat.le_of_lt (Nat.lt_trans h3 h2)
  have a2 : k - 1 - p ≤ r.length - p := Nat.sub_le_sub_right (Nat.le_trans (Nat.sub_le ..) (Nat.le_of_lt h2)) p
  unfold nxt
  rw [List.length_append, List.length_append, List.length_append, List.length_take_of_le a1, List.length_take, List.length_drop, Nat.min_eq_left a2, List.length_drop]
  show p + 1 + (k - 1 - p) + (r.length - (k + 1)) + 1 = r.length
  lia
theorem cut_lo (n pl k : Nat) (h : pl ≤ k - 1) (hk : k < n) : min ((pl : Int)).toNat n = pl := by
  rw [Int.toNat_natCast]; exact Nat.min_eq_left (Nat.le_trans h (Nat.le_trans (Nat.sub_le ..) (Nat.le_of_lt hk)))
theorem int_pred (k : Nat) (h1 : 1 ≤ k) : ((k : Int) - 1).toNat = k - 1 := Int.toNat_sub k 1
theorem cut_hi (n k : Nat) (h1 : 1 ≤ k) (hk : k < n) : min ((k : Int) - 1).toNat n = k - 1 := by
  rw [int_pred k h1]; exact Nat.min_eq_left (Nat.le_trans (Nat.sub_le ..) (Nat.le_of_lt hk))
theorem cut_up (n k : Nat) (hk : k < n) : min ((k : Int) + 1).toNat n = k + 1 := Nat.min_eq_left hk
theorem tk_le {α : Type} (l : List α) (h : l.length ≤ 6) (p : Nat) : (l.take p).length ≤ 6 := by
  rw [List.length_take]; exact Nat.le_trans (Nat.min_le_right ..) h
theorem dr_le {α : Type} (l : List α) (h : l.length ≤ 6) (p : Nat) : (l.drop p).length ≤ 6 := by
  rw [List.length_drop]; exact Nat.le_trans (Nat.sub_le ..) h
theorem sz_a {α : Type} (l : List α) (h : l.length ≤ 6) (p : Nat) (x : α) : (l.take p).length + [x].length ≤ 16384 := by
  have := tk_le l h p
  show _ + 1 ≤ _
  lia
theorem sz_b {α : Type} (l : List α) (h : l.length ≤ 6) (p q : Nat) (x : α) : (l.take p ++ [x]).length + ((l.drop p).take q).length ≤ 16384 := by
  have h1 := tk_le l h p
  have h2 := tk_le _ (dr_le l h p) q
  rw [List.length_append]
  show _ + 1 + _ ≤ _
  lia
theorem sz_c {α : Type} (l : List α) (h : l.length ≤ 6) (p q r : Nat) (x : α) : (l.take p ++ [x] ++ (l.drop p).take q).length + (l.drop r).length ≤ 16384 := by
  have h1 := tk_le l h p
  have h2 := tk_le _ (dr_le l h p) q
  have h3 := dr_le l h r
  rw [List.length_append, List.length_append]
  show _ + 1 + _ + _ ≤ _
  lia
end Mine
end
section
open PySem PySem.W PySem.Calls PyProof.Rows PySem.Builtin
set_option maxRecDepth 100000
namespace Mine
theorem loop_yield {β : Type} (f : Nat → β → Sem (ForInStep β)) (st : Nat → β) : ∀ (k i : Nat), (∀ j, i ≤ j → j < i + k → f j (st j) = pure (.yield (st (j + 1)))) → (forIn (List.range' i k) (st i) f : Sem β) = pure (st (i + k))
  | 0, i, _ => by simp
  | k + 1, i, h => by
    rw [List.range'_succ, List.forIn_cons, h i (Nat.le_refl _) (by lia), pure_bind]
    show forIn (List.range' (i + 1) k) (st (i + 1)) f = _
    rw [loop_yield f st k (i + 1) fun j h1 h2 => h j (by lia) (by lia), show i + 1 + k = i + (k + 1) by lia]
theorem byt_getD (l : List Nat) (i : Nat) (h : i < l.length) (hb : l[i] < 128) : ((byt l).getD i 0).toNat = l[i] := by
  unfold byt
  have : ((l.map UInt8.ofNat).toArray.getD i 0) = UInt8.ofNat l[i] := by
    simp [Array.getD_eq_getD_getElem?, h]
  rw [this]
  simp; lia
theorem run_ascii (id : String) (l : List Nat) (hl : ∀ x ∈ l, x < 128) (hz : l.length ≤ 1000) : _codecs.runDecoder id _codecs.asciiDecoder none true (byt l) 0 [] = pure (l.toArray, l.length) := by
  unfold _codecs.runDecoder
  dsimp only
  rw [Std.Legacy.Range.forIn_eq_forIn_range', show [:(byt l).size].size = l.length by simp [Std.Legacy.Range.size, byt_size]]
  have key := fun f h => loop_yield f (fun i => ((i, (l.take i).toArray, ({} : _codecs.Faults)) : Nat × Array Nat × _codecs.Faults)) l.length 0 h
  simp only [List.take_zero, Nat.zero_add, List.take_length] at key
  rw [key, pure_bind]
  intro i _ hi
  have h1 : ¬ (l.take i).toArray.size > sizeLine := by rw [sizeLine_eq]; simp; lia
  have h2 : ¬ i ≥ (byt l).size := by rw [byt_size]; lia
  rw [if_neg h1, if_neg h2]
  have h3 : _codecs.asciiDecoder.find true (byt l) i = .text [l[i]] (i + 1) := by
    show (if ((byt l).getD i 0).toNat < 128 then _ else _) = _
    rw [byt_getD l i hi (hl _ (List.getElem_mem hi)), if_pos (hl _ (List.getElem_mem hi))]
    rfl
  rw [h3]
  show (pure (ForInStep.yield (i + 1, (l.take i).toArray ++ [l[i]].toArray, _)) : Sem _) = _
  rw [List.append_toArray, List.take_append_getElem hi]
theorem enc_fold : ∀ (m : List Nat) (acc : Array UInt8), List.foldl (fun acc y => acc ++ (_codecs.asciiCodec.bytesOf y).toArray) acc m = acc ++ byt m
  | [], acc => by simp [byt]
  | y :: m, acc => by
    rw [List.foldl_cons, enc_fold m]
    show acc ++ [y.toUInt8].toArray ++ byt m = acc ++ byt (y :: m)
    unfold byt
    simp
theorem enc_none (l : List Nat) (hl : ∀ x ∈ l, x < 128) : l.toArray.findIdx? _codecs.asciiCodec.bad = none := by
  rw [Array.findIdx?_eq_none_iff]
  intro x hx
  exact decide_eq_false (Nat.not_le_of_lt (hl x (by simpa using hx)))
/-- what the first turn takes -/
theorem enc_take (l : List Nat) (hl : ∀ x ∈ l, x < 128) : 0 + ((l.toArray.extract 0 l.toArray.size).findIdx? _codecs.asciiCodec.bad).getD (l.toArray.extract 0 l.toArray.size).size = l.length ∧
    Array.foldl (fun acc y => acc ++ (_codecs.asciiCodec.bytesOf y).toArray) #[] ((l.toArray.extract 0 l.toArray.size).extract 0 (((l.toArray.extract 0 l.toArray.size).findIdx? _codecs.asciiCodec.bad).getD (l.toArray.extract 0 l.toArray.size).size)) = byt l := by
  have e1 : l.toArray.extract 0 l.toArray.size = l.toArray := Array.extract_size
  rw [e1, enc_none l hl]
  refine ⟨by rw [Nat.zero_add]; rfl, ?_⟩
  show Array.foldl _ #[] (l.toArray.extract 0 l.toArray.size) = _
  rw [e1, ← Array.foldl_toList, enc_fold]
  simp
noncomputable abbrev EncSt := Nat × Array UInt8 × _codecs.Faults
theorem enc_form (id : String) (v : Value) (a : Nat) (r : List Nat) (hl : ∀ x ∈ a :: r, x < 128) (hz : (a :: r).length ≤ 1000) :
    ∃ F : Nat → EncSt → Sem (ForInStep EncSt), _codecs.encodeNarrow id _codecs.asciiCodec none v (tx (a :: r)) = ((forIn [:(tx (a :: r)).length] ((0, #[], {}) : EncSt) F : Sem EncSt) >>= fun s => pure s.2.1) ∧
      F 0 (0, #[], {}) = pure (.yield ((a :: r).length, byt (a :: r), {})) ∧ F 1 ((a :: r).length, byt (a :: r), {}) = pure (.done ((a :: r).length, byt (a :: r), {})) := by
  have hb : (!_codecs.asciiCodec.bad a) = true := by
    show (!decide (a ≥ 128)) = true
    rw [decide_eq_false (Nat.not_le_of_lt (hl a (List.Mem.head _)))]; rfl
  obtain ⟨k1, k2⟩ := enc_take (a :: r) hl
  have hs : ¬ (byt (a :: r)).size > sizeLine := by rw [byt_size, sizeLine_eq]; lia
  have hn : (a :: r).toArray[(a :: r).length]? = none := by simp
  refine ⟨_, rfl, ?_, ?_⟩
  · exact Eq.trans (if_pos hb) (congrArg pure (congrArg ForInStep.yield (Prod.ext k1 (Prod.ext k2 rfl))))
  · refine Eq.trans (if_neg hs) ?_
    generalize (a :: r).toArray[(a :: r).length]? = z at hn
    subst hn
    rfl
theorem enc_ascii (id : String) (v : Value) (l : List Nat) (hl : ∀ x ∈ l, x < 128) (hz : l.length ≤ 1000) : _codecs.encodeNarrow id _codecs.asciiCodec none v (tx l) = pure (byt l) := by
  cases l with
  | nil => kernel_rfl
  | cons a r =>
    obtain ⟨f, e, h0, h1⟩ := enc_form id v a r hl hz
    rw [e, Std.Legacy.Range.forIn_eq_forIn_range', show [:(tx (a :: r)).length].size = r.length + 1 by simp [Std.Legacy.Range.size, tx_len]]
    show ((forIn (List.range' 0 (r.length + 1)) ((0, #[], {}) : EncSt) f : Sem EncSt) >>= _) = _
    rw [List.range'_succ, List.forIn_cons, h0, pure_bind]
    cases hr : r with
    | nil => rfl
    | cons b r' =>
      rw [← hr]
      have : r.length = r'.length + 1 := by rw [hr]; rfl
      show ((forIn (List.range' (0 + 1) r.length) ((a :: r).length, byt (a :: r), ({} : _codecs.Faults)) f : Sem _) >>= _) = _
      rw [this, List.range'_succ, List.forIn_cons, h1, pure_bind]
      rfl
end Mine
end
section
open PySem PySem.W PySem.Calls PyProof.Rows PySem.Builtin
set_option maxRecDepth 100000
namespace Mine
namespace Dc
theorem road_a {id : String} {b : Array UInt8} : _codecs.decodeRoad id b (PySem.Str.ofString "ascii") none [] = (_codecs.runDecoder id _codecs.asciiDecoder none true b 0 [] >>= fun r => mkStr ⟨r.1⟩) := by kernel_rfl
theorem meets_text_a {b : Array UInt8} {t t1 t2 : Tok} {d x : PySem.Str} {n : Nat} (hd : ∀ id, _codecs.runDecoder id _codecs.asciiDecoder none true b 0 [] = pure (x.cps, n)) :
    Meets («_codecs.decode.text» ⟨[.bytes b t, .str (PySem.Str.ofString "ascii") t1, .none, .str d t2], []⟩) (fun _ R s => x.length ≤ sizeLine ∧ R (.ok (.ret (.str x s.toks))) { s with toks := s.toks + 1 }) := by
  refine .of_wp fun prog w A R s hS => ?_
  obtain ⟨hsz, h⟩ := hS
  show wpAny _ _ (Bytes.bytesLike _ (.bytes b t) >>= fun r => _) _ _ s
  refine wpAny_bind (wpAny_of_eq KBd.like_eq ?_)
  refine wpAny_bind (wpAny_of_eq KBd.held_eq ?_)
  show wpAny _ _ (_codecs.decodeRoad _ b (PySem.Str.ofString "ascii") none [] >>= fun v => _) _ _ s
  rw [road_a, hd]
  refine wpAny_bind (wpAny_bind (wpAny_pure ?_))
  exact wpAny_mkStr (wpAny_pure ⟨_, rfl, h⟩) hsz
theorem entry_a {c : UInt8} {cs : List UInt8} {t u : Tok} : «bytes.decode» ⟨[.bytes (c :: cs).toArray t, .str (PySem.Str.ofString "ascii") u], []⟩ = (mkStr (PySem.Str.ofString "utf-8") >>= fun _ => mkStr (PySem.Str.ofString "ascii") >>= fun e => mkStr (PySem.Str.ofString "bytes.decode") >>= fun d =>
    call (.builtin "_codecs.decode.text") [.bytes (c :: cs).toArray t, e, .none, d] >>= fun v => ret v) := by kernel_rfl
theorem args_d2 (a b : Value) : argsOk "bytes.decode" ⟨[a, b], []⟩ := by
  unfold argsOk; rw [signature?_of (id := "bytes.decode") (n := ['e', 'd', 'o', 'c', 'e', 'd']) (o := ['s', 'e', 't', 'y', 'b']) (by kernel_rfl) FB.owner_bytes]; kernel_rfl
theorem meets_a {c : UInt8} {cs : List UInt8} {t u : Tok} {x : PySem.Str} {n : Nat} (hd : ∀ id, _codecs.runDecoder id _codecs.asciiDecoder none true (c :: cs).toArray 0 [] = pure (x.cps, n)) :
    Meets («bytes.decode» ⟨[.bytes (c :: cs).toArray t, .str (PySem.Str.ofString "ascii") u], []⟩) (fun _ R s => x.length ≤ sizeLine ∧ ∀ t' k, R (.ok (.ret (.str x t'))) { s with toks := k }) := by
  refine .of_wp fun prog w A R s hS => ?_
  obtain ⟨hsz, h⟩ := hS
  rw [entry_a]
  refine wpAny_bind (wpAny_mkStr ?_ (by decide))
  refine wpAny_bind (wpAny_mkStr ?_ (by decide))
  refine wpAny_bind (wpAny_mkStr ?_ (by decide))
  exact wpAny_bind (call_function_meets KBd.kind_text KBd.plain_text KBd.entry_text (KBd.args_text _ _ _ _) (meets_text_a hd) ⟨hsz, wpAny_pure ⟨_, rfl, h _ _⟩⟩)
theorem entry_e {x : PySem.Str} {t u : Tok} : «str.encode» ⟨[.str x t, .str (PySem.Str.ofString "ascii") u], []⟩ = ((_codecs.encodeNarrow "str.encode" _codecs.asciiCodec none (.str x t) x >>= fun b => mkBytes b) >>= fun v => ret v) := by kernel_rfl
theorem meets_e {x : PySem.Str} {b : Array UInt8} {t u : Tok} (he : _codecs.encodeNarrow "str.encode" _codecs.asciiCodec none (.str x t) x = pure b) :
    Meets («str.encode» ⟨[.str x t, .str (PySem.Str.ofString "ascii") u], []⟩) (fun _ R s => b.size ≤ sizeLine ∧ ∀ t' k, R (.ok (.ret (.bytes b t'))) { s with toks := k }) := by
  refine .of_wp fun prog w A R s hS => ?_
  obtain ⟨hsz, h⟩ := hS
  rw [entry_e, he]
  refine wpAny_bind (wpAny_bind (wpAny_pure ?_))
  exact wpAny_mkBytes (wpAny_pure ⟨_, rfl, h _ _⟩) hsz
end Dc
theorem gmEnc {M : Model} {A : Around} {E : Value → Shared → Prop} {s : Shared} {x : PySem.Str} {t : Tok} {pl : Sem Bool} {Q : Value × List Value → Shared → Prop} (h : Q (.builtin "str.encode", [.str x t]) s) : wpAny M A (getMethod (.str x t) "encode" pl) Q E s := by
  with_reducible exact GM.of (.str x t) (typeIs_str _ _ _) F.slot_str_encode F.type_str_encode GM.noRef h
section
variable {prog : Program} {w : World} {A : Around} {E : Value → Shared → Prop} {s : Shared} {t u : Tok} {l : List Nat} {Q : Value → Shared → Prop}
theorem decA (hl : ∀ x ∈ l, x < 128) (hz : l.length ≤ 1000) (hne : l ≠ []) (h : ∀ t' k, Q (.str (tx l) t') { s with toks := k }) :
    wpAny (model prog w) A (call (.builtin "bytes.decode") [.bytes (byt l) t, .str (PySem.Str.ofString "ascii") u]) Q E s := by
  cases l with
  | nil => exact absurd rfl hne
  | cons a r =>
    have e : byt (a :: r) = (UInt8.ofNat a :: r.map UInt8.ofNat).toArray := rfl
    rw [e]
    refine call_meets FB.slot_bytes_decode (typeIs_bytes _ _ _) FB.entry_bytes_decode (Dc.args_d2 _ _) (Dc.meets_a (x := tx (a :: r)) (n := (a :: r).length) fun id => ?_) ⟨by rw [sizeLine_eq, tx_len]; lia, h⟩
    rw [← e]
    exact run_ascii id _ hl hz
theorem encA (hl : ∀ x ∈ l, x < 128) (hz : l.length ≤ 1000) (h : ∀ t' k, Q (.bytes (byt l) t') { s with toks := k }) :
    wpAny (model prog w) A (call (.builtin "str.encode") [.str (tx l) t, .str (PySem.Str.ofString "ascii") u]) Q E s :=
  call_meets F.slot_str_encode (typeIs_str _ _ _) F.entry_str_encode (F.args_str_encode_2 _ _) (Dc.meets_e (enc_ascii _ _ l hl hz)) ⟨by rw [sizeLine_eq, byt_size]; lia, h⟩
end
end Mine
end
section
open PySem PySem.W PyProof.Rows
set_option maxRecDepth 100000
set_option maxHeartbeats 8000000 
namespace Mine
theorem anew2 : True ∧ True := by
  (w_top off)
  k_with_none
  k_with "y execs cons" => (first | (k_here; k_gentoks) | (k_here; k_made; walk_at "execs cons") | ((with_reducible refine wpAny_execs_cons ?_); (try dsimp only); (try k_fold)))
  k_with "m_loc" => (refine ⟨?l1, ?l2⟩; (case l1 => (with_unfolding_all (repeat' (first | exact trivial | refine And.intro ⟨_, rfl⟩ ?_)))); (case l2 => (intro z h1 h2; (try simp only [List.forall_mem_cons, List.not_mem_nil, false_implies, implies_true, and_true, ne_eq] at h1); simp [kstB, h1])))
  k_with "m_has" => (with_unfolding_all (repeat' (first | exact trivial | refine And.intro ⟨_, rfl⟩ ?_)))
  k_with "y exec While BoolOp cons nil" => (refine stop_ ?_)
  k_with "y WPost" => (dsimp only [WPost])
  k_with "y WEnd" => (refine stop_ ?_)
  k_with "y WDone" => (refine stop_ ?_)
  k_with "y subscriptTail Name Name str int" => (refine KXi.item rfl ?ma ?mb ?mc ?_; (case ma => lia); (case mb => lia); (case mc => lia); intro _)
  k_with "y call builtin:len" => ((with_reducible show wpAny _ _ (call (Value.builtin "len") [Value.str _ _]) _ _ _); refine SBL.len (by lia) ?_)
  exact ⟨trivial, trivial⟩
theorem blank_at (c t : Nat) (wd : List Nat) (hw : wd ≠ []) (h1 : wd.head? ≠ some 32) (i : Int) (h0 : 0 ≤ i) (hc : i ≤ c) :
    (Txt.item (tx (List.replicate c 32 ++ (wd ++ List.replicate t 32))) i == PySem.Str.ofString " ") = decide (i < c) := by
  have hl : 0 < wd.length := List.length_pos_iff.mpr hw
  rw [item_tx _ i h0 (by simp; lia), show PySem.Str.ofString " " = tx [32] from by decide +kernel]
  by_cases h : i < c
  · have : i.toNat < c := by lia
    simp [h, List.getD_eq_getElem?_getD, List.getElem?_append, this]
  · have e : i.toNat = c := by lia
    cases wd with
    | nil => exact absurd rfl hw
    | cons a r =>
      have ha : a ≠ 32 := fun q => h1 (by simp [q])
      have : ([a] : List Nat) ≠ [32] := by simpa using ha
      have hn : tx [a] ≠ tx [32] := fun q => this (tx_eq q)
      rw [e]
      simp only [List.getD_eq_getElem?_getD]
      have : ((List.replicate c 32 ++ (a :: r ++ List.replicate t 32))[c]?).getD 0 = a := by simp
      rw [this]
      simp [h, hn]
theorem blank_to (c t : Nat) (wd : List Nat) (hw : wd ≠ []) (h1 : wd.getLast? ≠ some 32) (i : Int) (h0 : c + wd.length - 1 ≤ i) (hc : i < c + (wd.length + t)) :
    (Txt.item (tx (List.replicate c 32 ++ (wd ++ List.replicate t 32))) i == PySem.Str.ofString " ") = decide ((c : Int) + wd.length ≤ i) := by
  have hl : 0 < wd.length := List.length_pos_iff.mpr hw
  rw [item_tx _ i (by lia) (by simp; lia), show PySem.Str.ofString " " = tx [32] from by decide +kernel]
  by_cases h : (c : Int) + wd.length ≤ i
  · have h3 : ¬ i.toNat < c := by lia
    have h4 : ¬ i.toNat - c < wd.length := by lia
    have h5 : i.toNat - c - wd.length < t := by lia
    simp [h, List.getD_eq_getElem?_getD, List.getElem?_append, h3, h4, h5]
  · have e : i.toNat = c + (wd.length - 1) := by lia
    have hn : wd.getD (wd.length - 1) 0 ≠ 32 := by
      intro q
      apply h1
      rw [List.getLast?_eq_getElem?]
      rw [List.getD_eq_getElem?_getD, List.getElem?_eq_getElem (by lia)] at q
      rw [List.getElem?_eq_getElem (by lia)]
      simpa using q
    have hn2 : tx [wd.getD (wd.length - 1) 0] ≠ tx [32] := fun q => hn (by simpa using tx_eq q)
    have : (List.replicate c 32 ++ (wd ++ List.replicate t 32)).getD i.toNat 0 = wd.getD (wd.length - 1) 0 := by
      rw [e]
      have h3 : ¬ c + (wd.length - 1) < c := by lia
      have h4 : wd.length - 1 < wd.length := by lia
      simp [List.getD_eq_getElem?_getD, List.getElem?_append, h3, h4]
    rw [this]
    simp only [beq_eq_false_iff_ne.mpr hn2, h, decide_false]
theorem strip_cut (c t K u v : Nat) (wd : List Nat) (h1 : u ≤ c) (h2 : c - u = c - K) (h3 : v ≤ t) (h4 : t - v = t - (K - c)) :
    ((List.replicate c 32 ++ (wd ++ List.replicate t 32)).drop u).take ((c - u) + (wd.length + (t - v))) = List.replicate (c - K) 32 ++ (wd ++ List.replicate (t - (K - c)) 32) := by
  rw [List.drop_append_of_le_length (by rw [List.length_replicate]; exact h1), List.drop_replicate]
  have e := List.take_length_add_append (l₁ := List.replicate (c - u) 32) (l₂ := wd ++ List.replicate t 32) (wd.length + (t - v))
  rw [List.length_replicate] at e
  rw [e, List.take_length_add_append, List.take_replicate, Nat.min_eq_left (Nat.sub_le ..), h2, h4]
theorem strip_le (c t W u v : Nat) (hW : 0 < W) (h1 : u ≤ c) (h3 : v ≤ t) : (u : Int) ≤ (c : Int) + (W + t) - 1 - v + 1 := by lia
theorem strip_len (c t v : Nat) (wd : List Nat) (h3 : v ≤ t) : (c : Int) + (wd.length + t) - 1 - v + 1 ≤ (List.replicate c 32 ++ (wd ++ List.replicate t 32)).length := by
  rw [List.length_append, List.length_append, List.length_replicate, List.length_replicate]; lia
theorem strip_nat (K c : Nat) : ((min (K : Int) c) = ((min K c : Nat) : Int)) := by
  rcases Nat.le_total K c with h | h
  · rw [Nat.min_eq_left h, Int.min_eq_left (Int.ofNat_le.mpr h)]
  · rw [Nat.min_eq_right h, Int.min_eq_right (Int.ofNat_le.mpr h)]
theorem strip_am (K c t : Nat) : min ((K : Int) - ((min K c : Nat) : Int)) t = ((min (K - c) t : Nat) : Int) := by
  rcases Nat.le_total K c with h | h
  · rw [Nat.min_eq_left h, Int.sub_self, Nat.sub_eq_zero_of_le h, Nat.zero_min]; exact Int.min_eq_left (Int.natCast_nonneg _)
  · rw [Nat.min_eq_right h, ← Int.ofNat_sub h, strip_nat]
theorem strip_to (c t W u v : Nat) (hW : 0 < W) (h1 : u ≤ c) (h3 : v ≤ t) : ((((c : Int) + (W + t) - 1 - v) + 1 - u)).toNat = (c - u) + (W + (t - v)) := by lia
theorem strip_u (K c : Nat) : min K c ≤ c ∧ c - min K c = c - K := by
  refine ⟨Nat.min_le_right .., ?_⟩
  rcases Nat.le_total K c with h | h
  · rw [Nat.min_eq_left h]
  · rw [Nat.min_eq_right h, Nat.sub_self, Nat.sub_eq_zero_of_le h]
theorem st1 {lp am k : Int} {c : Nat} (h : lp + am = k) (h1 : lp ≤ c) (h3 : 0 ≤ am) (h2 : (c : Int) ≤ lp) : lp = min k c ∧ am = k - min k c := by
  have e := Int.le_antisymm h1 h2
  have e2 : min k (c : Int) = c := Int.min_eq_right (by lia)
  rw [e2]; exact ⟨e, by lia⟩
theorem st2 {lp am k : Int} {c : Nat} (h : lp + am = k) (h1 : lp ≤ c) (h2 : am = 0) : lp = min k c ∧ am = k - min k c := by
  have e2 : min k (c : Int) = lp := by rw [← h, h2, Int.add_zero]; exact Int.min_eq_left h1
  rw [e2]; exact ⟨rfl, by lia⟩
theorem st3 {rp am2 am n : Int} {cw t : Int} (q1 : rp - am2 = n - 1 - am) (q3 : 0 ≤ am2) (hn : n = cw + t) (q5 : n - 1 ≤ rp + t) (h : rp < cw) : rp = n - 1 - min am t := by
  have e2 : min am t = t := Int.min_eq_right (by lia)
  rw [e2]; lia
theorem st4 {rp am2 am n t : Int} (q1 : rp - am2 = n - 1 - am) (q5 : n - 1 ≤ rp + t) (h : am2 = 0) : rp = n - 1 - min am t := by
  have e2 : min am t = am := Int.min_eq_left (by lia)
  rw [e2]; lia
theorem c_strip (w : World) (p : Program) (loose : List PySem.Str) (mean : ExcName → Option Value) (mg mb : PySem.Str → Option Value) (x : PySem.Str) (xt : Tok) (k : Int) (tk : Tok)
  (c t : Nat) (wd : List Nat) (hx : x = tx (List.replicate c 32 ++ (wd ++ List.replicate t 32))) (hw : wd ≠ []) (h1 : wd.head? ≠ some 32) (h2 : wd.getLast? ≠ some 32) (hk0 : 0 ≤ k) (hb : k < 2 ^ 40) (hb2 : c + (wd.length + t) < 2 ^ 20) :
  Ctr w p loose mean mg mb 45 [.str x xt, .int k tk] [] 1 8 (fun r own => own = [] ∧ ∃ t', r = .str (tx (List.replicate (c - k.toNat) 32 ++ (wd ++ List.replicate (t - (k.toNat - c)) 32))) t') := by
  unfold Ctr
  k_fill
  intro dp un gd cn cs ad ccd cl outer A₀ base h₀ L m news s Q E B F X N T hk _ hd hu hret
  have hlen : x.length = c + (wd.length + t) := by rw [hx, tx_len]; simp
  have hw1 : 0 < wd.length := List.length_pos_iff.mpr hw
  refine wpAny_call ?_
  k_dflt cell_enter
  k_steps
  refine go_ ?_
  rename Fr _ _ _ _ => lF'
  rename News _ _ _ _ => lN'
  refine' whlJ (σ := Int × Int) (fun _ => news) (fun c => [(PySem.Str.ofString "lpos", .int c.1), (PySem.Str.ofString "amount", .int c.2)]) [] (fun v => 0 ≤ v.1 ∧ v.1 + v.2 = k ∧ v.1 ≤ c ∧ 0 ≤ v.2) (fun v => v.2.toNat) (fun v => v.1 = min k c ∧ v.2 = k - min k c) (0, k) lF' lN' ?kk ?kp ?_ ?_
  case kp => exact ⟨by simp, by simp, by simp, hk0⟩
  case kk => walk_at "m_has"
  · clear lF' lN'
    rintro ⟨lp, am⟩ ts u h tk' hz5 F' N'
    (try k_fold)
    obtain ⟨p1, p2, p3, p4⟩ := hz5
    dsimp only at p1 p2 p3 p4
    dsimp only [psAt, Ab.at] at F'
    have hbl := blank_at c t wd hw h1 lp p1 p3
    rw [← hx] at hbl
    k_steps
    · refine go_ (wend (lp + 1, am - 1) (by assumption) (by assumption) (fun _ h => h) (by walk_at "m_loc") ?_ ?_)
      · rename (Txt.item _ _ == _) = _ => hq
        rw [hq] at hbl
        have := of_decide_eq_true hbl.symm
        dsimp only; lia
      · dsimp only; lia
    · refine go_ (wdone (lp, am) (by assumption) (by assumption) (fun _ h => h) (by walk_at "m_loc") ?_)
      rename (Txt.item _ _ == _) = _ => hq
      rw [hq] at hbl
      have := of_decide_eq_false hbl.symm
      exact st1 p2 p3 p4 (Int.not_lt.mp this)
    · refine go_ (wdone (lp, am) (by assumption) (by assumption) (fun _ h => h) (by walk_at "m_loc") ?_)
      exact st2 p2 p3 (by first | assumption | lia)
  · clear lF' lN'
    rintro ⟨lp, am⟩ ts u h tk' hz5 F' N'
    (try k_fold)
    obtain ⟨p1, p2⟩ := hz5
    dsimp only at p1 p2
    dsimp only [psAt, Ab.at] at F'
    k_steps
    refine go_ ?_
    rename Fr _ _ _ _ => lF'
    rename News _ _ _ _ => lN'
    refine' whlJ (σ := Int × Int) (fun _ => news) (fun c => [(PySem.Str.ofString "rpos", .int c.1), (PySem.Str.ofString "amount", .int c.2)]) [] (fun v => v.1 - v.2 = (c : Int) + (wd.length + t) - 1 - am ∧ v.2 ≤ am ∧ 0 ≤ v.2 ∧ (v.2 < am → (c : Int) + wd.length - 1 ≤ v.1) ∧ c + (wd.length + t) - 1 ≤ v.1 + t) (fun v => v.2.toNat) (fun v => v.1 = (c : Int) + (wd.length + t) - 1 - min am t) ((c : Int) + (wd.length + t) - 1, am) lF' lN' ?kk2 ?kp2 ?_ ?_
    case kp2 => dsimp only; lia
    case kk2 => (rw [show ((c : Int) + (wd.length + t) - 1) = (x.length : Int) - 1 by lia]); walk_at "m_has"
    · clear lF' lN'
      rintro ⟨rp, am2⟩ ts u h tk' hz5 F' N'
      (try k_fold)
      obtain ⟨q1, q2, q3, q4, q5⟩ := hz5
      dsimp only at q1 q2 q3 q4 q5
      dsimp only [psAt, Ab.at] at F'
      have hbl : 0 < am2 → _ := fun _ => blank_to c t wd hw h2 rp (by lia) (by lia)
      rw [← hx] at hbl
      k_steps
      · refine go_ (wend (rp - 1, am2 - 1) (by assumption) (by assumption) (fun _ h => h) (by walk_at "m_loc") ?_ ?_)
        · rename (Txt.item _ _ == _) = _ => hq
          have h3 := hbl (by lia)
          rw [hq] at h3
          have := of_decide_eq_true h3.symm
          dsimp only; lia
        · dsimp only; lia
      · refine go_ (wdone (rp, am2) (by assumption) (by assumption) (fun _ h => h) (by walk_at "m_loc") ?_)
        rename (Txt.item _ _ == _) = _ => hq
        have h3 := hbl (by lia)
        rw [hq] at h3
        have := of_decide_eq_false h3.symm
        exact st3 (cw := (c : Int) + wd.length) q1 q3 (Int.add_assoc ..).symm q5 (Int.not_le.mp this)
      · refine go_ (wdone (rp, am2) (by assumption) (by assumption) (fun _ h => h) (by walk_at "m_loc") ?_)
        exact st4 q1 q5 (by first | assumption | lia)
    · clear lF' lN'
      rintro ⟨rp, am2⟩ ts u h tk' q1 F' N'
      dsimp only at q1
      dsimp only [psAt, Ab.at] at F'
      k_steps
      refine hret _ [] _ _ (by assumption) (by assumption) own0 ⟨rfl, _, congrArg (fun z => Value.str z _) ?_⟩
      subst q1 p2 p1
      obtain ⟨K, rfl⟩ := Int.eq_ofNat_of_zero_le hk0
      rw [strip_nat, strip_am]
      obtain ⟨u1, u2⟩ := strip_u K c
      obtain ⟨v1, v2⟩ := strip_u (K - c) t
      generalize min K c = u at *
      generalize min (K - c) t = v at *
      rw [hx, slice_tx _ _ _ (Int.natCast_nonneg _) (strip_le _ _ _ _ _ hw1 u1 v1) (strip_len _ _ _ _ v1), strip_to _ _ _ _ _ hw1 u1 v1, Int.toNat_natCast, Int.toNat_natCast]
      exact congrArg tx (strip_cut c t K u v wd u1 u2 v1 v2)
end Mine
end
section
open PySem PySem.W PyProof.Rows
set_option maxRecDepth 100000
set_option maxHeartbeats 8000000 
namespace Mine
theorem anew3 : True ∧ True := by
  (w_top off)
  k_with_none
  k_with "m_loc" => (refine ⟨?l1, ?l2⟩; (case l1 => (with_unfolding_all (repeat' (first | exact trivial | refine And.intro ⟨_, rfl⟩ ?_)))); (case l2 => (intro z h1 h2; have h3 := h2; (try simp only [List.forall_mem_cons, List.not_mem_nil, false_implies, implies_true, and_true, ne_eq] at h1); (try simp only [List.contains_cons, List.contains_nil, Bool.or_false, Bool.or_eq_false_iff, beq_eq_false_iff_ne, ne_eq] at h2); (simp only [kstB, h1, h2, h3, if_false, Bool.false_eq_true]; done))))
  k_with "m_has" => (with_unfolding_all (repeat' (first | exact trivial | refine And.intro ⟨_, rfl⟩ ?_)))
  k_with "y exec While BoolOp cons nil" => (refine stop_ ?_)
  k_with "y exec While Name cons nil" => (refine stop_ ?_)
  k_with "y WPost" => (dsimp only [WPost])
  k_with "y WEnd" => (refine stop_ ?_)
  k_with "y WDone" => (refine stop_ ?_)
  k_with "y subscriptTail Name Name str int" => (refine KXi.item rfl ?ma ?mb ?mc ?_; (case ma => lia); (case mb => lia); (case mc => lia); intro _)
  k_with "y call builtin:len" => ((with_reducible show wpAny _ _ (call (Value.builtin "len") [Value.str _ _]) _ _ _); refine SBL.len (by lia) ?_)
  k_with "m_sub" => (intro q hq; (repeat (first | exact hq | exact List.Mem.head _ | refine List.Mem.tail _ ?_)))
  k_with "y ite" => (first | refine PySem.W.ite_pos (by with_reducible assumption) ?_ | refine PySem.W.ite_neg (by with_reducible assumption) ?_)
  k_with "y exec FunctionDef" => (refine stop_ ?_)
  k_with "y call ref" => (refine stop_ ?_)
  k_with "y binaryOp LShift int int" => (refine stop_ ?_)
  k_with "y binaryOp RShift int int" => (refine stop_ ?_)
  k_with "y FPost" => (dsimp only [FPost])
  k_with "y FEnd" => (refine stop_ ?_)
  k_with "x_mem" => (with_reducible first | exact mm0 | exact mm1 | exact mm2 | exact mm3 | exact mm4 | exact mm5 | exact mm6 | exact mm7 | exact mm8 | assumption | (refine mm_l ?_; walk_at "x_mem") | (refine mm_r ?_; walk_at "x_mem") | (refine mm_t ?_; walk_at "x_mem"))
  k_with "x_in" => (with_reducible first | exact sub_refl | exact sub_first | exact sub_last | exact sub_tail | (refine sub_l ?_; walk_at "x_in") | (refine sub_r ?_; walk_at "x_in") | (refine sub_t ?_; walk_at "x_in"))
  k_with "x_sub" => ((try refine sub_of ?_); (with_reducible first | exact sub_refl | exact sub_nil | (refine sub_cons ?_ ?_; (walk_at "x_mem"); (walk_at "x_sub")) | (refine sub_app ?_ ?_; (walk_at "x_sub"); (walk_at "x_sub")) | walk_at "x_in"))
  k_with "y execs cons" => (first | (k_here; k_gentoks) | (k_here; k_made; walk_at "execs cons") | ((with_reducible refine wpAny_execs_cons ?_); (try dsimp only); (try k_fold)))
  k_with "y subscriptTail Name Slice bytes ref" => ((refine bslice (s := ⟨_, _, _, _, _⟩) (by assumption) (by assumption) ap_letters (by decide) (by constructor) (by constructor) (by decide) (ap_cut (by assumption)) ?_); intro _ _ _ _ _)
  k_with "y binaryOp Add bytes bytes" => (refine badd rfl rfl ?sz ?_; (case sz => assumption); intro _ _)
  exact ⟨trivial, trivial⟩
theorem ap_letters : (#[65, 66, 67, 68, 69, 70, 71, 72, 73, 74, 75, 76, 77, 78, 79, 80] : Array UInt8) = byt [65, 66, 67, 68, 69, 70, 71, 72, 73, 74, 75, 76, 77, 78, 79, 80] := by decide +kernel
theorem ap_cut {n : Int} (h0 : 0 ≤ n) : (([65, 66, 67, 68, 69, 70, 71, 72, 73, 74, 75, 76, 77, 78, 79, 80] : List Nat).drop ((some (n.fmod 16)).elim 0 (clipAt ([65, 66, 67, 68, 69, 70, 71, 72, 73, 74, 75, 76, 77, 78, 79, 80] : List Nat).length))).take ((some (n.fmod 16 + 1)).elim ([65, 66, 67, 68, 69, 70, 71, 72, 73, 74, 75, 76, 77, 78, 79, 80] : List Nat).length (clipAt ([65, 66, 67, 68, 69, 70, 71, 72, 73, 74, 75, 76, 77, 78, 79, 80] : List Nat).length) - (some (n.fmod 16)).elim 0 (clipAt ([65, 66, 67, 68, 69, 70, 71, 72, 73, 74, 75, 76, 77, 78, 79, 80] : List Nat).length)) = [65 + n.toNat % 16] := by
  have h : ∀ m : Nat, m < 16 → (([65, 66, 67, 68, 69, 70, 71, 72, 73, 74, 75, 76, 77, 78, 79, 80] : List Nat).drop (clipAt 16 (m : Int))).take (clipAt 16 ((m : Int) + 1) - clipAt 16 (m : Int)) = [65 + m] := by decide +kernel
  have := h (n.toNat % 16) (by lia)
  have e : n.fmod 16 = ((n.toNat % 16 : Nat) : Int) := by rw [Int.fmod_eq_emod_of_nonneg _ (by decide)]; lia
  rw [e]
  exact this
theorem c_ap (w : World) (p : Program) (loose : List PySem.Str) (mean : ExcName → Option Value) (mg mb : PySem.Str → Option Value) (k : Int) (tk : Tok) (hb : k.natAbs < 2 ^ 40) :
  Ctr w p loose mean mg mb 92 [.int k tk] [] 1 8 (fun r own => own = [] ∧ ∃ t', r = .bytes (byt (apL k.natAbs)) t') := by
  have hb2 : (apL k.natAbs).length ≤ 10 := apL_len hb
  unfold Ctr
  k_fill
  intro dp un gd cn cs ad ccd cl outer A₀ base h₀ L m news s Q E B F X N T hk _ hd hu hret
  refine wpAny_call ?_
  k_dflt cell_enter
  k_steps
  refine go_ ?_
  rename Fr _ _ _ _ => lF'
  rename News _ _ _ _ => lN'
  refine' whl (σ := Int × List Nat) (fun _ => news) (fun c => [(PySem.Str.ofString "num", .int c.1), (PySem.Str.ofString "val", .byt (byt c.2))]) [PySem.Str.ofString "mod"] (fun v => 0 ≤ v.1 ∧ apL k.natAbs = apL v.1.toNat ++ v.2) (fun v => v.1.toNat) ((if k < 0 then -k else k), []) lF' lN' ?kk ?kp ?_
  case kp => (dsimp only; have e : (if k < 0 then -k else k) = (k.natAbs : Int) := by (split <;> lia)); rw [e]; exact ⟨by lia, by simp⟩
  case kk => walk_at "m_has"
  clear lF' lN'
  rintro ⟨n, val⟩ ts u h tk' hz5 F' N'
  (try k_fold)
  obtain ⟨p1, p2⟩ := hz5
  dsimp only at p1 p2
  dsimp only [psAt, Ab.at] at F'
  have hz : [65 + n.toNat % 16].length + val.length ≤ 16777216 := by
    have := congrArg List.length p2
    simp at this ⊢; lia
  k_steps
  · refine go_ (wend (n.fdiv 16, [65 + n.toNat % 16] ++ val) (by assumption) (by assumption) ?_ (by walk_at "m_loc") ?_ ?_)
    · walk_at "m_sub"
    · have e : n.fdiv 16 = n / 16 := Int.fdiv_eq_ediv_of_nonneg _ (by decide)
      dsimp only
      rw [e]
      refine ⟨by lia, ?_⟩
      rw [p2, apL_pos (n := n.toNat) (by lia), show (n / 16).toNat = n.toNat / 16 by lia]
      simp
    · have e : n.fdiv 16 = n / 16 := Int.fdiv_eq_ediv_of_nonneg _ (by decide)
      dsimp only
      rw [e]; lia
  · refine hret _ [] _ _ (by assumption) (by assumption) own0 ⟨rfl, _, congrArg (fun z => Value.bytes z _) ?_⟩
    have : n.toNat = 0 := by lia
    rw [p2, this, apL_zero]; rfl
end Mine
end
section
open PySem PySem.W PyProof.Rows
set_option maxRecDepth 100000
set_option maxHeartbeats 8000000 
namespace Mine
theorem anew4 : True ∧ True := by
  (w_top off)
  k_with_none
  k_with "m_loc" => (refine ⟨?l1, ?l2⟩; (case l1 => (with_unfolding_all (repeat' (first | exact trivial | refine And.intro ⟨_, rfl⟩ ?_)))); (case l2 => (intro z h1 h2; have h3 := h2; (try simp only [List.forall_mem_cons, List.not_mem_nil, false_implies, implies_true, and_true, ne_eq] at h1); (try simp only [List.contains_cons, List.contains_nil, Bool.or_false, Bool.or_eq_false_iff, beq_eq_false_iff_ne, ne_eq] at h2); (simp only [kstB, h1, h2, h3, if_false, Bool.false_eq_true]; done))))
  k_with "m_has" => (with_unfolding_all (repeat' (first | exact trivial | refine And.intro ⟨_, rfl⟩ ?_)))
  k_with "y exec While BoolOp cons nil" => (refine stop_ ?_)
  k_with "y exec While Name cons nil" => (refine stop_ ?_)
  k_with "y WPost" => (dsimp only [WPost])
  k_with "y WEnd" => (refine stop_ ?_)
  k_with "y WDone" => (refine stop_ ?_)
  k_with "y subscriptTail Name Name str int" => (refine KXi.item rfl ?ma ?mb ?mc ?_; (case ma => lia); (case mb => lia); (case mc => lia); intro _)
  k_with "y call builtin:len" => ((with_reducible show wpAny _ _ (call (Value.builtin "len") [Value.str _ _]) _ _ _); refine SBL.len (by lia) ?_)
  k_with "m_sub" => (intro q hq; (repeat (first | exact hq | exact List.Mem.head _ | refine List.Mem.tail _ ?_)))
  k_with "y ite" => (first | refine PySem.W.ite_pos (by with_reducible assumption) ?_ | refine PySem.W.ite_neg (by with_reducible assumption) ?_)
  k_with "y exec FunctionDef" => (refine stop_ ?_)
  k_with "y call ref" => (refine stop_ ?_)
  k_with "y binaryOp LShift int int" => (refine stop_ ?_)
  k_with "y binaryOp RShift int int" => (refine stop_ ?_)
  k_with "y FPost" => (dsimp only [FPost])
  k_with "y FEnd" => (refine stop_ ?_)
  k_with "x_mem" => (with_reducible first | exact mm0 | exact mm1 | exact mm2 | exact mm3 | exact mm4 | exact mm5 | exact mm6 | exact mm7 | exact mm8 | assumption | (refine mm_l ?_; walk_at "x_mem") | (refine mm_r ?_; walk_at "x_mem") | (refine mm_t ?_; walk_at "x_mem"))
  k_with "x_in" => (with_reducible first | exact sub_refl | exact sub_first | exact sub_last | exact sub_tail | (refine sub_l ?_; walk_at "x_in") | (refine sub_r ?_; walk_at "x_in") | (refine sub_t ?_; walk_at "x_in"))
  k_with "x_sub" => ((try refine sub_of ?_); (with_reducible first | exact sub_refl | exact sub_nil | (refine sub_cons ?_ ?_; (walk_at "x_mem"); (walk_at "x_sub")) | (refine sub_app ?_ ?_; (walk_at "x_sub"); (walk_at "x_sub")) | walk_at "x_in"))
  k_with "y execs cons" => (first | (k_here; k_gentoks) | (k_here; k_made; walk_at "execs cons") | ((with_reducible refine wpAny_execs_cons ?_); (try dsimp only); (try k_fold)))
  k_with "y call builtin:divmod" => ((with_reducible show wpAny _ _ (call (Value.builtin _) [Value.int _ _, Value.int _ _]) _ _ _); refine divmod_N (by assumption) (by assumption) (by lia) ?_ (Or.inl (PyProof.noPylong_small (by lia))); intro _ _ _)
  exact ⟨trivial, trivial⟩
noncomputable abbrev tupOf (l : List Value) : Obj := { cls := .type "tuple", data := .seq l.toArray 0 }
theorem bits_le {a : Int} {k : Nat} (h0 : 0 ≤ a) (h1 : a < 2 ^ k) : Builtin.Int.intBits a ≤ k := by
  unfold Builtin.Int.intBits
  split
  · lia
  · rename_i hne
    have hz : a.natAbs ≠ 0 := by
      intro h; apply hne; simp; lia
    have : a.natAbs < 2 ^ k := by
      have e : ((a.natAbs : Nat) : Int) < ((2 ^ k : Nat) : Int) := by
        rw [Int.natCast_pow]
        have : ((a.natAbs : Nat) : Int) = a := by lia
        rw [this]; exact h1
      exact Int.ofNat_lt.mp e
    have := (Nat.log2_lt hz).mpr this
    lia
theorem c_div2n1n (w : World) (p : Program) (loose : List PySem.Str) (mean : ExcName → Option Value) (mg mb : PySem.Str → Option Value) (a b k : Int) (ta tb tk : Tok) (h0 : 0 ≤ a) (h1 : a < 2 ^ 60) (hb : 0 < b) (hb1 : b < 1073741824) (hk0 : 0 ≤ k) :
  Ctr w p loose mean mg mb 52 [.int a ta, .int b tb, .int k tk] [] 1 8 (fun r own => ∃ ad t1 t2, r = .ref ad ∧ own = [(ad, tupOf [.int (a / b) t1, .int (a % b) t2])]) := by
  have hbits : (Builtin.Int.intBits a : Int) - k ≤ 4000 := by
    have := bits_le (k := 60) h0 h1
    lia
  unfold Ctr
  k_fill
  intro dp un gd cn cs ad ccd cl outer A₀ base h₀ L m news s Q E B F X N T hk _ hd hu hret
  refine wpAny_call ?_
  k_dflt cell_enter
  rename Fr h₀ L _ m => FG9
  rename Fr _ _ _ _ => FF9
  have hlt9 := fr_lt FG9 FF9
  k_steps
  rename News _ _ _ _ => kN
  rw [Int.fdiv_eq_ediv_of_nonneg a (b := b) (by lia), Int.fmod_eq_emod_of_nonneg a (b := b) (by lia)] at kN
  exact hret _ [_] _ _ (by assumption) kN (own1 (news_lt (by assumption)) (Nat.lt_trans hlt9 (PyProof.Rows.Fr.ns (by assumption)).lt)) ⟨_, _, _, rfl, rfl⟩
end Mine
end
section
open PySem PySem.W PyProof.Rows
set_option maxRecDepth 100000
set_option maxHeartbeats 8000000 
namespace Mine
theorem anew5 : True ∧ True := by
  (w_top off)
  k_with_none
  k_with "m_loc" => (refine ⟨?l1, ?l2⟩; (case l1 => (with_unfolding_all (repeat' (first | exact trivial | refine And.intro ⟨_, rfl⟩ ?_)))); (case l2 => (intro z h1 h2; have h3 := h2; (try simp only [List.forall_mem_cons, List.not_mem_nil, false_implies, implies_true, and_true, ne_eq] at h1); (try simp only [List.contains_cons, List.contains_nil, Bool.or_false, Bool.or_eq_false_iff, beq_eq_false_iff_ne, ne_eq] at h2); (simp only [kstB, h1, h2, h3, if_false, Bool.false_eq_true]; done))))
  k_with "m_has" => (with_unfolding_all (repeat' (first | exact trivial | refine And.intro ⟨_, rfl⟩ ?_)))
  k_with "y exec While BoolOp cons nil" => (refine stop_ ?_)
  k_with "y exec While Name cons nil" => (refine stop_ ?_)
  k_with "y WPost" => (dsimp only [WPost])
  k_with "y WEnd" => (refine stop_ ?_)
  k_with "y WDone" => (refine stop_ ?_)
  k_with "y subscriptTail Name Name str int" => (refine KXi.item rfl ?ma ?mb ?mc ?_; (case ma => lia); (case mb => lia); (case mc => lia); intro _)
  k_with "y call builtin:len" => ((with_reducible show wpAny _ _ (call (Value.builtin "len") [Value.str _ _]) _ _ _); refine SBL.len (by lia) ?_)
  k_with "m_sub" => (intro q hq; (repeat (first | exact hq | exact List.Mem.head _ | refine List.Mem.tail _ ?_)))
  k_with "y ite" => (first | refine PySem.W.ite_pos (by with_reducible assumption) ?_ | refine PySem.W.ite_neg (by with_reducible assumption) ?_)
  k_with "y exec FunctionDef" => (refine stop_ ?_)
  k_with "y call ref" => (refine stop_ ?_)
  k_with "y binaryOp LShift int int" => (refine stop_ ?_)
  k_with "y binaryOp RShift int int" => (refine stop_ ?_)
  k_with "y FPost" => (dsimp only [FPost])
  k_with "y FEnd" => (refine stop_ ?_)
  k_with "x_mem" => (with_reducible first | exact mm0 | exact mm1 | exact mm2 | exact mm3 | exact mm4 | exact mm5 | exact mm6 | exact mm7 | exact mm8 | assumption | (refine mm_l ?_; walk_at "x_mem") | (refine mm_r ?_; walk_at "x_mem") | (refine mm_t ?_; walk_at "x_mem"))
  k_with "x_in" => (with_reducible first | exact sub_refl | exact sub_first | exact sub_last | exact sub_tail | (refine sub_l ?_; walk_at "x_in") | (refine sub_r ?_; walk_at "x_in") | (refine sub_t ?_; walk_at "x_in"))
  k_with "x_sub" => ((try refine sub_of ?_); (with_reducible first | exact sub_refl | exact sub_nil | (refine sub_cons ?_ ?_; (walk_at "x_mem"); (walk_at "x_sub")) | (refine sub_app ?_ ?_; (walk_at "x_sub"); (walk_at "x_sub")) | walk_at "x_in"))
  k_with "y execs cons" => (first | (k_here; k_gentoks) | (k_here; k_made; walk_at "execs cons") | ((with_reducible refine wpAny_execs_cons ?_); (try dsimp only); (try k_fold)))
  k_with "y eval Name" => (k_here; k_dflt (refine' nameX_G ?F ?c ?g ?d ?_ ?a ?b; (case a => rfl); (case b => rfl); (case F => k_asm); (case c => rfl); (case g => assumption); (case d => assumption); k_whole))
  k_with "y callWith ref" => (k_here; k_dflt (refine' callWith_F ?k1 ?_; (case k1 => exact fnG (by k_asm) (by assumption)); k_whole))
  k_with "y And" => ((with_reducible show FnAt _ _ ∧ _); refine ⟨?k1, ?_⟩; (case k1 => exact fnG (by k_asm) (by assumption)))
  exact ⟨trivial, trivial⟩
theorem c_digits2int (w : World) (p : Program) (loose : List PySem.Str) (mean : ExcName → Option Value) (mg mb : PySem.Str → Option Value) (l : Addr) (us : List Value) (nn : Nat) (ds : List Int) (n : Nat) (tn : Tok) (hi : IntsAre us ds) (hds : ∀ d ∈ ds, 0 ≤ d ∧ d < 2 ^ 60) (hn : n ≤ 60) (hlen : ds.length ≤ 60) :
  CtrP 68 61 4 (PySem.Str.ofString "_digits2int.<locals>.inner") w p loose mean mg mb 73 [.ref l, .int n tn] [(l, listOf us.toArray nn)] 70 600 (fun r own => own = [] ∧ ∃ t', r = .int (dval n ds) t') := by
  unfold CtrP
  k_fill
  intro dp un gd cn cs ad ccd cl outer A₀ base h₀ L m news ent s Q E B F X N ap ok T hk need hd hu hret
  have N1 : News h₀ L s.heap (tEnt 68 61 4 ent) := fun q hq => N q (List.mem_append_left _ hq)
  have N2 : News h₀ L s.heap news := fun q hq => N q (List.mem_append_right _ hq)
  refine wpAny_call ?_
  with_unfolding_all refine' enterCK (pre := tEnt 68 61 4 ent) (r := news) B F X N1 T N2 ap rfl rfl hk ?ho ?hcd ?room ?hb ?hkd ?hnd ?_ ?e1 ?e2 ?e3
  case ho => k_is
  case hcd => k_is
  case room => ktr_room
  case hb => exact BindsTo.of_eq rfl
  case hkd => exact rfl
  case hnd => decide +kernel
  case e1 => exact rfl
  case e2 => exact rfl
  case e3 => exact rfl
  intro g L' h₁ tk' cells' FG' F' N' Y' B' X' T' st hr l1
  obtain ⟨o1, o2, o3, hE, d1, d2, d3⟩ := CellsAre.three Y'
  subst hE
  have d3' : o3.data = .cell (some (.ref l)) := by with_unfolding_all exact d3
  have d2' : o2.data = .cell (some (.int n tn)) := by with_unfolding_all exact d2
  have d1' : o1.data = .cell none := by with_unfolding_all exact d1
  clear d1 d2 d3 Y'
  try simp only [List.cons_append, List.nil_append] at N'
  try dsimp only
  try k_fold
  k_steps
  refine go_ ?_
  have N3 : News g L' h₁ (tEnt 68 61 4 ent ++ [(L' + 1 + 1 + 1, o1), (L' + 1 + 1, o2), (L' + 1, o3)]) := fun q hq => N' q (by
    simp only [List.mem_append, List.mem_cons, List.not_mem_nil, or_false] at hq ⊢
    rcases hq with h | h | h | h
    · exact .inr (.inr (.inr h))
    · exact .inl h
    · exact .inr (.inl h)
    · exact .inr (.inr (.inl h)))
  have l68 : 68 < L' := by cases ent <;> exact l1 _ (List.Mem.head _)
  k_dflt refine nestDef_K ?d0 ?k0 ?a0 ?_
  case d0 => exact rfl
  case k0 => exact rfl
  case a0 => exact rfl
  (try k_fold)
  k_dflt refine' nestJ (P := 68) (qual := PySem.Str.ofString "_digits2int.<locals>.inner") F' N3 T' (codeHd_of_K X' (c := 72) (P := 68) ?hh) rfl ?ap2 ok ?hcl ?_
  case hh => rfl
  case hcl => rfl
  case ap2 =>
    intro q hq
    have n5 := ltN l68
    simp only [List.mem_cons, List.not_mem_nil, or_false] at hq
    rcases hq with rfl | rfl | rfl <;> (refine neN ?_; dsimp only; lia)
  intro f e ctv doc h2 tk2 F2 N4 ok2 lf le lf1 lf2
  obtain ⟨c', oc⟩ := e
  simp only [tEnt, List.cons_append, List.nil_append] at N4
  have hL : g.IsList l us.toArray := ⟨_, hr _ (need _ (List.Mem.head _)), rfl, nn, rfl⟩
  have n1 : L' + 1 + 1 + 1 < f := lf _ (List.Mem.head _)
  have n2 : c' < L' ∨ L' + 1 + 1 + 1 < c' := le.imp (fun h => l1 (c', oc) (by rw [h]; exact List.Mem.tail _ (List.Mem.head _))) fun h => h _ (List.Mem.head _)
  have n3 : L' + 1 < c' ∨ c' < L' := n2.symm.imp (fun h => Nat.lt_trans (Nat.lt_trans (Nat.lt_succ_self _) (Nat.lt_succ_self _)) h) id
  clear N' N3 F' N1
  replace n1 := ltN n1
  have n5 := ltN l68
  have n4 : @LT.lt Nat _ c' L' ∨ @LT.lt Nat _ (L' + 1 + 1 + 1) c' := n2
  have n6 := ltN lf1
  have n7 := ltN lf2
  dsimp only at n6
  clear n2 n3
  have cHd : CodeHd g 72 68 := codeHd_of_K X' rfl
  generalize hfo : fnMade _ _ _ _ _ _ _ _ _ _ = fo at N4
  have key : ∀ oI : Obj, oI.data = .cell (some (.ref f)) → ∀ k, InnerD w p loose mean mg mb f [(f, fo), (L' + 1, o3), (L' + 1 + 1, o2), (L' + 1 + 1 + 1, oI), (c', oc), (l, listOf us.toArray nn)] ds n k := by
    clear N4 F2 FG' B' T' X' cHd ap hr st B F X N T N2 hret hL n1 n4 n5 n6 n7 need l1 d1' lf le lf1 lf2 hu hd hk
    intro oI hoI k
    induction k with
    | zero => intro Lo Hi tL tR dp un gd cn cs ad ccd cl outer A₀ base h₀ L m news s Q E h1 h2 h3; lia
    | succ k ih =>
      intro Lo Hi tL tR dp un gd cn cs ad ccd cl outer A₀ base h₀ L m news s Q E h1 h2 h3 B F X N T hk hf hd hu hret
      have hs : ∀ q ∈ [(f, fo), (L' + 1, o3), (L' + 1 + 1, o2), (L' + 1 + 1 + 1, oI), (c', oc), (l, listOf us.toArray nn)], s.heap.get? q.1 = some q.2 := fun q hq => (hf q hq).elim (F.keep _ _) fun h => (N _ h).1
      obtain ⟨vs2, t2, hc1, hc2⟩ := ok2
      have hcr : s.heap.CodeRec (.ref c') (PySem.Str.ofString "_digits2int.<locals>.inner") := ⟨c', oc, vs2, t2, rfl, hs (c', oc) (by first | walk_at "x_mem" | simp), hc1, hc2⟩
      have h5 : s.heap.get? f = some fo := hs (f, fo) (by first | walk_at "x_mem" | simp)
      have hgen : ∀ g1 : Heap, h₀.StaysIn g1 → (∀ q ∈ news, g1.get? q.1 = some q.2) → g1.get? f = some fo ∧ g1.get? (L' + 1) = some o3 ∧ g1.get? (L' + 1 + 1) = some o2 ∧ g1.get? (L' + 1 + 1 + 1) = some oI ∧ g1.get? c' = some oc ∧ g1.get? l = some (listOf us.toArray nn) := by
        intro g1 st1 hr1
        have hg : ∀ q ∈ [(f, fo), (L' + 1, o3), (L' + 1 + 1, o2), (L' + 1 + 1 + 1, oI), (c', oc), (l, listOf us.toArray nn)], g1.get? q.1 = some q.2 := fun q hq => (hf q hq).elim (st1 _ _) (hr1 q)
        exact ⟨hg (f, fo) (by first | walk_at "x_mem" | simp), hg (L' + 1, o3) (by first | walk_at "x_mem" | simp), hg (L' + 1 + 1, o2) (by first | walk_at "x_mem" | simp), hg (L' + 1 + 1 + 1, oI) (by first | walk_at "x_mem" | simp), hg (c', oc) (by first | walk_at "x_mem" | simp), hg (l, listOf us.toArray nn) (by first | walk_at "x_mem" | simp)⟩
      refine wpAny_call ?_
      subst hfo
      with_unfolding_all refine' enterR (pre := []) (r := news) B F (fun _ h => nomatch h) N (fun _ _ _ h => nomatch h) T.nolimit rfl rfl hk h5 rfl hcr ?room ?hb ?hloc ?_ ?hcell ?e1 ?e2 ?e3
      case room => ktr_room
      case hb => exact BindsTo.of_eq rfl
      case hloc => exact locs rfl
      case e1 => exact rfl
      case e2 => exact rfl
      case e3 => exact rfl
      case hcell => decide
      intro g1 L1 h₁ FG1 F1 N1 B1 st1 hr1 l1
      obtain ⟨g1f, g1d, g1n, g1i, g1c, g1l'⟩ := hgen g1 st1 hr1
      have g1l : g1.IsList l us.toArray := ⟨_, g1l', rfl, nn, rfl⟩
      have X1 := X.keeps st1
      have T1 := T.keeps st1
      clear hs h5 hcr
      try dsimp only
      try k_fold
      k_steps
      · intro hnews
        have e : ds.getD ((Lo : Int)).toNat 0 = dval n ((ds.drop Lo).take (Hi - Lo)) := by
          have h6 : Hi - Lo = 1 := by lia
          have h7 : Lo < ds.length := by lia
          rw [h6]
          simp [List.take_one, dval, h7]
        rw [e]
        exact hret _ _ _ (by assumption) hnews
      · refine go_ (rshift_int (by decide) ?_)
        rw [half_eq]
        have h9 : ¬ ((Lo : Int) + 1 = Hi) := by assumption
        have m1 : Lo < (Lo + Hi) / 2 := by lia
        have m2 : (Lo + Hi) / 2 < Hi := by lia
        k_steps
        refine go_ ?_
        (try k_fold)
        k_dflt refine' ih ((Lo + Hi) / 2) Hi _ _ _ _ _ _ _ _ _ _ _ _ _ _ _ _ _ _ _ _ m2 h2 (by lia) (by k_asm) (by k_asm) (by k_asm) (by k_asm) (by k_asm) rfl (fun q hq => .inl ((hf q hq).elim (st1 _ _) (hr1 q))) ?rm ?un ?_
        case rm => show dp + 1 + k < _; lia
        case un => show un + 3 + 8 * k < _; lia
        intro t5 h5 tk5 F5 N5
        try dsimp only
        k_steps
        refine go_ ?_
        have e3 : ((((Lo + Hi) / 2 : Nat) : Int) - Lo) * n = ((n * ((Lo + Hi) / 2 - Lo) : Nat) : Int) := by
          rw [show (((Lo + Hi) / 2 : Nat) : Int) - Lo = (((Lo + Hi) / 2 - Lo : Nat) : Int) by lia, ← Int.natCast_mul, Nat.mul_comm]
        have e4 : n * ((Lo + Hi) / 2 - Lo) ≤ 60 * 60 := Nat.mul_le_mul hn (by lia)
        have e5 := dval_fits n hn ds hds hlen ((Lo + Hi) / 2) (Hi - (Lo + Hi) / 2)
        rw [e3]
        refine lshift_int (by lia) (by lia) ?_
        rw [Int.toNat_natCast]
        k_steps
        refine go_ ?_
        (try k_fold)
        k_dflt refine' ih Lo ((Lo + Hi) / 2) _ _ _ _ _ _ _ _ _ _ _ _ _ _ _ _ _ _ _ _ m1 (by lia) (by lia) (by k_asm) (by k_asm) (by k_asm) (by k_asm) (by k_asm) rfl (fun q hq => .inl ((hf q hq).elim (st1 _ _) (hr1 q))) ?rm ?un ?_
        case rm => show dp + 1 + k < _; lia
        case un => show un + 3 + 8 * k < _; lia
        intro t6 h6 tk6 F6 N6
        try dsimp only
        k_steps
        intro hnews
        rw [dval_halves n ds Lo ((Lo + Hi) / 2) Hi (by lia) (by lia) h2]
        exact hret _ _ _ (by assumption) hnews
  subst hfo
  have apE : Apart (tEnt 68 61 4 (some (c', oc))) news := by
    intro q hq r hr2
    have h68 : ∀ o, (68, o) ∈ tEnt 68 61 4 ent → q.1 ≠ 68 := fun o ho => ap q hq _ ho
    simp only [tEnt, List.mem_cons, List.not_mem_nil, or_false] at hr2
    rcases hr2 with rfl | rfl
    · cases ent with
      | none => exact h68 _ (List.Mem.head _)
      | some e => exact h68 _ (List.Mem.head _)
    · rcases le with h | h
      · exact ap q hq (c', oc) (by rw [h]; exact List.Mem.tail _ (List.Mem.head _))
      · have a1 := ltN (Heap.lt_size (hr q hq))
        have a2 := h (L' + 1, o3) (by first | walk_at "x_mem" | simp)
        have a3 : @LT.lt Nat _ (L' + 1) c' := a2
        have a4 : g.objs.size ≤ L' := F2.above
        refine neN ?_
        dsimp only
        lia
  k_steps
  · refine go_ ?_
    rename News _ _ _ _ => N9
    (try k_fold)
    k_dflt refine' key _ (by assumption) ds.length 0 ds.length _ _ _ _ _ _ _ _ _ _ _ _ _ _ _ _ _ _ _ _ ?h0 (Nat.le_refl _) (by lia) (by k_asm) (by k_asm) (by k_asm) N9 (by k_asm) rfl ?fc ?rm ?un ?_
    case h0 => lia
    case rm => show dp + 1 + ds.length < _; lia
    case un => show un + 3 + 8 * ds.length < _; lia
    case fc =>
      intro q hq
      simp only [List.mem_cons, List.not_mem_nil, or_false] at hq
      rcases hq with rfl | rfl | rfl | rfl | rfl | rfl
      · exact .inr (by first | walk_at "x_mem" | simp)
      · exact .inr (by first | walk_at "x_mem" | simp)
      · exact .inr (by first | walk_at "x_mem" | simp)
      · exact .inr (by first | walk_at "x_mem" | simp)
      · exact .inr (by first | walk_at "x_mem" | simp)
      · exact .inl (hr _ (need _ (List.Mem.head _)))
    intro t5 h5 tk5 F5 N5
    try dsimp only
    k_steps
    rename News _ _ _ _ => kN
    intro hnews
    refine hret _ [] (c', oc) _ _ (by assumption) (fun q hq => ?_) apE ok2 own0 ⟨rfl, t5, ?_⟩
    · simp only [tEnt, List.nil_append, List.cons_append, List.mem_cons] at hq
      rcases hq with rfl | rfl | hq
      · exact kN _ (by first | walk_at "x_mem" | simp)
      · exact kN _ (by first | walk_at "x_mem" | simp)
      · exact hnews _ hq
    · simp
  · rename News _ _ _ _ => kN
    intro hnews
    have e0 : dval n ds = 0 := by rw [List.eq_nil_of_length_eq_zero (show ds.length = 0 by lia)]; rfl
    refine hret _ [] (c', oc) _ _ (by assumption) (fun q hq => ?_) apE ok2 own0 ⟨rfl, _, congrArg (fun z => Value.int z _) e0.symm⟩
    · simp only [tEnt, List.nil_append, List.cons_append, List.mem_cons] at hq
      rcases hq with rfl | rfl | hq
      · exact kN _ (by first | walk_at "x_mem" | simp)
      · exact kN _ (by first | walk_at "x_mem" | simp)
      · exact hnews _ hq
end Mine
end
section
open PySem PySem.W PyProof.Rows
set_option maxRecDepth 100000
set_option maxHeartbeats 8000000 
namespace Mine
theorem anew6 : True ∧ True := by
  (w_top off)
  k_with_none
  k_with "m_loc" => (refine ⟨?l1, ?l2⟩; (case l1 => (with_unfolding_all (repeat' (first | exact trivial | refine And.intro ⟨_, rfl⟩ ?_)))); (case l2 => (intro z h1 h2; have h3 := h2; (try simp only [List.forall_mem_cons, List.not_mem_nil, false_implies, implies_true, and_true, ne_eq] at h1); (try simp only [List.contains_cons, List.contains_nil, Bool.or_false, Bool.or_eq_false_iff, beq_eq_false_iff_ne, ne_eq] at h2); (simp only [kstB, h1, h2, h3, if_false, Bool.false_eq_true]; done))))
  k_with "m_has" => (with_unfolding_all (repeat' (first | exact trivial | refine And.intro ⟨_, rfl⟩ ?_)))
  k_with "y exec While BoolOp cons nil" => (refine stop_ ?_)
  k_with "y exec While Name cons nil" => (refine stop_ ?_)
  k_with "y WPost" => (dsimp only [WPost])
  k_with "y WEnd" => (refine stop_ ?_)
  k_with "y WDone" => (refine stop_ ?_)
  k_with "y subscriptTail Name Name str int" => (refine KXi.item rfl ?ma ?mb ?mc ?_; (case ma => lia); (case mb => lia); (case mc => lia); intro _)
  k_with "y call builtin:len" => ((with_reducible show wpAny _ _ (call (Value.builtin "len") [Value.str _ _]) _ _ _); refine SBL.len (by lia) ?_)
  k_with "m_sub" => (intro q hq; (repeat (first | exact hq | exact List.Mem.head _ | refine List.Mem.tail _ ?_)))
  k_with "y ite" => (first | refine PySem.W.ite_pos (by with_reducible assumption) ?_ | refine PySem.W.ite_neg (by with_reducible assumption) ?_)
  k_with "y exec FunctionDef" => (refine stop_ ?_)
  k_with "y call ref" => (refine stop_ ?_)
  k_with "y binaryOp LShift int int" => (refine stop_ ?_)
  k_with "y binaryOp RShift int int" => (refine stop_ ?_)
  k_with "y FPost" => (dsimp only [FPost])
  k_with "y FEnd" => (refine stop_ ?_)
  k_with "x_mem" => (with_reducible first | exact mm0 | exact mm1 | exact mm2 | exact mm3 | exact mm4 | exact mm5 | exact mm6 | exact mm7 | exact mm8 | assumption | (refine mm_l ?_; walk_at "x_mem") | (refine mm_r ?_; walk_at "x_mem") | (refine mm_t ?_; walk_at "x_mem"))
  k_with "x_in" => (with_reducible first | exact sub_refl | exact sub_first | exact sub_last | exact sub_tail | (refine sub_l ?_; walk_at "x_in") | (refine sub_r ?_; walk_at "x_in") | (refine sub_t ?_; walk_at "x_in"))
  k_with "x_sub" => ((try refine sub_of ?_); (with_reducible first | exact sub_refl | exact sub_nil | (refine sub_cons ?_ ?_; (walk_at "x_mem"); (walk_at "x_sub")) | (refine sub_app ?_ ?_; (walk_at "x_sub"); (walk_at "x_sub")) | walk_at "x_in"))
  k_with "y execs cons" => (first | (k_here; k_gentoks) | (k_here; k_made; walk_at "execs cons") | ((with_reducible refine wpAny_execs_cons ?_); (try dsimp only); (try k_fold)))
  k_with "y call builtin:len" => ((with_reducible show wpAny _ _ (call (Value.builtin "len") [Value.ref _]) _ _ _); refine' KM.len_K ?a ?b ?c ?d ?_; (case a => k_asm); (case b => k_dflt k_mem); (case c => (rw [List.size_toArray, List.length_replicate])); (case d => lia))
  k_with "y callWith ref" => (k_here; k_dflt (refine' callWith_F ?k1 ?_; (case k1 => exact fnG (by k_asm) (by assumption)); k_whole))
  k_with "y And" => ((with_reducible show FnAt _ _ ∧ _); refine ⟨?k1, ?_⟩; (case k1 => exact fnG (by k_asm) (by assumption)))
  k_with "y eval Name" => (k_here; k_dflt (refine' nameX_G ?F ?c ?g ?d ?_ ?a ?b; (case a => rfl); (case b => rfl); (case F => k_asm); (case c => rfl); (case g => assumption); (case d => assumption); k_whole))
  k_with "y binaryOp Mult ref int" => (refine stop_ ?_)
  exact ⟨trivial, trivial⟩
local macro_rules | `(tactic| k_all) => `(tactic| assumption)
theorem c_int2digits (w : World) (p : Program) (loose : List PySem.Str) (mean : ExcName → Option Value) (mg mb : PySem.Str → Option Value) (a : Nat) (ta : Tok) (n : Nat) (tn : Tok) (h1a : a < 2 ^ 60) (hn1 : 1 ≤ n) (hn : n ≤ 60) (kk : Nat) (hkk : kk = (Builtin.Int.intBits a + n - 1) / n) :
  CtrP 61 46 4 (PySem.Str.ofString "_int2digits.<locals>.inner") w p loose mean mg mb 66 [.int a ta, .int n tn] [] 70 600 (fun r own => ∃ l us nn, r = .ref l ∧ own = [(l, listOf us.toArray nn)] ∧ IntsAre us (digs n kk a)) := by
  have hbit : Builtin.Int.intBits (a : Int) ≤ 60 := bits_small (by lia) (by exact_mod_cast h1a)
  have hk60 : kk < 61 := by rw [hkk]; exact (Nat.div_lt_iff_lt_mul hn1).mpr (by lia)
  have ekk : ((Builtin.Int.intBits (a : Int) : Int) + n - 1).fdiv n = (kk : Int) := by
    rw [Int.fdiv_eq_ediv_of_nonneg _ (by lia), show ((Builtin.Int.intBits (a : Int) : Int) + n - 1) = ((Builtin.Int.intBits (a : Int) + n - 1 : Nat) : Int) by lia, hkk]; rfl
  have hfit : a < 2 ^ (n * kk) := by
    rw [hkk]
    refine count_digits a n hn1 _ ?_
    by_cases h : a = 0
    · subst h; exact Nat.pow_pos (by decide)
    · have : Builtin.Int.intBits (a : Int) = a.log2 + 1 := by
        unfold Builtin.Int.intBits
        rw [if_neg (by simpa using h)]
        simp
      rw [this]
      exact (Nat.log2_lt h).mp (Nat.lt_succ_self _)
  unfold CtrP
  k_fill
  intro dp un gd cn cs ad ccd cl outer A₀ base h₀ L m news ent s Q E B F X N ap ok T hk need hd hu hret
  have N1 : News h₀ L s.heap (tEnt 61 46 4 ent) := fun q hq => N q (List.mem_append_left _ hq)
  have N2 : News h₀ L s.heap news := fun q hq => N q (List.mem_append_right _ hq)
  refine wpAny_call ?_
  with_unfolding_all refine' enterCK (pre := tEnt 61 46 4 ent) (r := news) B F X N1 T N2 ap rfl rfl hk ?ho ?hcd ?room ?hb ?hkd ?hnd ?_ ?e1 ?e2 ?e3
  case ho => k_is
  case hcd => k_is
  case room => ktr_room
  case hb => exact BindsTo.of_eq rfl
  case hkd => exact rfl
  case hnd => decide +kernel
  case e1 => exact rfl
  case e2 => exact rfl
  case e3 => exact rfl
  intro g L' h₁ tk' cells' FG' F' N' Y' B' X' T' st hr l1
  obtain ⟨o1, o2, o3, hE, d1, d2, d3⟩ := CellsAre.three Y'
  subst hE
  have d3' : o3.data = .cell (some (.int n tn)) := by with_unfolding_all exact d3
  have d2' : o2.data = .cell none := by with_unfolding_all exact d2
  have d1' : o1.data = .cell none := by with_unfolding_all exact d1
  clear d1 d2 d3 Y'
  try simp only [List.cons_append, List.nil_append] at N'
  try dsimp only
  try k_fold
  have l61 : 61 < L' := by cases ent <;> exact l1 _ (List.Mem.head _)
  have n5 := ltN l61
  k_steps
  refine go_ ?_
  rw [ekk]
  rename News _ _ _ _ => N8
  refine mulZ (by assumption) N8 (List.Mem.head _) (by lia) (by lia) fun la h2 F2 N2' lla => ?_
  have n6 : @LT.lt Nat _ (L' + 1 + 1 + 1) la := lla (L' + 1 + 1 + 1, o1) (by first | walk_at "x_mem" | simp)
  have hT : ∀ c, L' < c → ∀ q ∈ tEnt 61 46 4 ent, q.1 ≠ c := fun c hc q hq => Nat.ne_of_lt (Nat.lt_trans (l1 q hq) hc)
  have hT2 := hT (L' + 1 + 1) (Nat.lt_trans (Nat.lt_succ_self _) (Nat.lt_succ_self _))
  have N3' : News g L' h2 ((la, listOf (List.replicate kk (Value.int 0 tk')).toArray 0) :: (L' + 1 + 1 + 1, o1) :: (L' + 1 + 1, o2) :: (L' + 1, o3) :: tEnt 61 46 4 ent) := fun q hq => N2' q (by
    rcases List.mem_cons.mp hq with rfl | h
    · exact List.Mem.head _
    · exact List.Mem.tail _ (List.Mem.tail _ h))
  have hz := ints_same 0 tk' kk
  clear N2' lla N8
  k_steps
  refine go_ ?_
  rename (_ : Obj).data = _ => d2a
  rename News _ _ _ _ => N4
  rename Fr _ _ _ _ => F3
  rename_i oA _ _ _
  have N5 : News g L' _ (tEnt 61 46 4 ent ++ [(la, listOf (List.replicate kk (Value.int 0 tk')).toArray 0), (L' + 1 + 1 + 1, o1), (L' + 1 + 1, _), (L' + 1, o3)]) := fun q hq => N4 q (by
    simp only [List.mem_append, List.mem_cons, List.not_mem_nil, or_false] at hq ⊢
    rcases hq with h | h | h | h | h
    · exact .inr (.inr (.inr (.inr h)))
    · exact .inl h
    · exact .inr (.inl h)
    · exact .inr (.inr (.inl h))
    · exact .inr (.inr (.inr (.inl h))))
  k_dflt refine nestDef_K ?d0 ?k0 ?a0 ?_
  case d0 => exact rfl
  case k0 => exact rfl
  case a0 => exact rfl
  (try k_fold)
  k_dflt refine' nestJ (P := 61) (qual := PySem.Str.ofString "_int2digits.<locals>.inner") F3 N5 T' (codeHd_of_K X' (c := 65) (P := 61) ?hh) rfl ?ap2 ok ?hcl ?_
  case hh => rfl
  case hcl => rfl
  case ap2 =>
    intro q hq
    simp only [List.mem_cons, List.not_mem_nil, or_false] at hq
    rcases hq with rfl | rfl | rfl | rfl <;> (refine neN ?_; dsimp only; lia)
  intro f e ctv doc h3 tk3 F4 N6 ok2 lf le lf1 lf2
  obtain ⟨c', oc⟩ := e
  simp only [tEnt, List.cons_append, List.nil_append] at N6
  have q1 : la < f := lf _ (List.Mem.head _)
  have q2 : c' < L' ∨ la < c' := le.imp (fun h => l1 (c', oc) (by rw [h]; exact List.Mem.tail _ (List.Mem.head _))) fun h => h _ (List.Mem.head _)
  have q3 : @LT.lt Nat _ c' L' ∨ @LT.lt Nat _ la c' := q2
  replace q1 := ltN q1
  have q4 := ltN lf1
  have q5 := ltN lf2
  dsimp only at q4
  clear q2 N5 N4 F3
  have cHd : CodeHd g 65 61 := codeHd_of_K X' rfl
  generalize hfo : fnMade _ _ _ _ _ _ _ _ _ _ = fo at N6
  have key : ∀ oA oI : Obj, oA.data = .cell (some (.ref la)) → oI.data = .cell (some (.ref f)) → ∀ k, InnerI w p loose mean mg mb f la [(f, fo), (L' + 1, o3), (L' + 1 + 1, oA), (L' + 1 + 1 + 1, oI), (c', oc)] n k := by
    clear N6 F4 FG' B' T' X' cHd ap hr st B F X N T N2 hret n5 q1 q3 q4 q5 need l1 d1' lf le lf1 lf2 hu hd hk d2a
    intro oA oI hoA hoI k
    induction k with
    | zero => intro x Lo Hi xs us nn tx tL tR dp un gd cn cs ad ccd cl outer A₀ base h₀ L m news s Q E h1 h2 hxs h3; lia
    | succ k ih =>
      intro x Lo Hi xs us nn tx tL tR dp un gd cn cs ad ccd cl outer A₀ base h₀ L m news s Q E h1 h2 hxs h3 hx hi B F X N hne T hk hf hd hu hret
      have N0 : News h₀ L s.heap [(la, listOf us.toArray nn)] := fun q hq => N q (by rw [List.mem_singleton.mp hq]; exact List.Mem.head _)
      have N9 : News h₀ L s.heap news := fun q hq => N q (List.Mem.tail _ hq)
      have hs : ∀ q ∈ [(f, fo), (L' + 1, o3), (L' + 1 + 1, oA), (L' + 1 + 1 + 1, oI), (c', oc)], s.heap.get? q.1 = some q.2 := fun q hq => (hf q hq).elim (F.keep _ _) fun h => (N9 _ h).1
      obtain ⟨vs2, t2, hc1, hc2⟩ := ok2
      have hcr : s.heap.CodeRec (.ref c') (PySem.Str.ofString "_int2digits.<locals>.inner") := ⟨c', oc, vs2, t2, rfl, hs (c', oc) (by first | walk_at "x_mem" | simp), hc1, hc2⟩
      have h5 : s.heap.get? f = some fo := hs (f, fo) (by first | walk_at "x_mem" | simp)
      have hgen : ∀ g1 : Heap, h₀.StaysIn g1 → (∀ q ∈ news, g1.get? q.1 = some q.2) → g1.get? f = some fo ∧ g1.get? (L' + 1) = some o3 ∧ g1.get? (L' + 1 + 1) = some oA ∧ g1.get? (L' + 1 + 1 + 1) = some oI ∧ g1.get? c' = some oc := by
        intro g1 st1 hr1
        have hg : ∀ q ∈ [(f, fo), (L' + 1, o3), (L' + 1 + 1, oA), (L' + 1 + 1 + 1, oI), (c', oc)], g1.get? q.1 = some q.2 := fun q hq => (hf q hq).elim (st1 _ _) (hr1 q)
        exact ⟨hg (f, fo) (by first | walk_at "x_mem" | simp), hg (L' + 1, o3) (by first | walk_at "x_mem" | simp), hg (L' + 1 + 1, oA) (by first | walk_at "x_mem" | simp), hg (L' + 1 + 1 + 1, oI) (by first | walk_at "x_mem" | simp), hg (c', oc) (by first | walk_at "x_mem" | simp)⟩
      refine wpAny_call ?_
      subst hfo
      with_unfolding_all refine' enterR (pre := [(la, listOf us.toArray nn)]) (r := news) B F N0 N9 (fun q hq r hr => by rw [List.mem_singleton.mp hr]; exact hne q hq) T.nolimit rfl rfl hk h5 rfl hcr ?room ?hb ?hloc ?_ ?hcell ?e1 ?e2 ?e3
      case room => ktr_room
      case hb => exact BindsTo.of_eq rfl
      case hloc => exact locs rfl
      case e1 => exact rfl
      case e2 => exact rfl
      case e3 => exact rfl
      case hcell => decide
      intro g1 L1 h₁ FG1 F1 N1 B1 st1 hr1 l1
      obtain ⟨g1f, g1d, g1n, g1i, g1c⟩ := hgen g1 st1 hr1
      have X1 := X.keeps st1
      have T1 := T.keeps st1
      clear hs h5 hcr
      have hL1 : (Lo : Int) < xs.length := by lia
      try dsimp only
      try k_fold
      k_steps
      · rename IntsAre _ (List.set _ _ _) => hI
        rename News _ _ _ _ => kN
        intro hnews
        have h6 : Hi = Lo + 1 := by lia
        subst h6
        have h7 : Lo + 1 - Lo = 1 := by lia
        rw [h7] at hx
        rw [Int.toNat_natCast, put_one n x Lo xs (by lia) (by simpa using hx)] at hI
        refine hret _ nn _ _ (by assumption) ?_ (by rw [h7]; exact hI)
        intro q hq
        rcases List.mem_cons.mp hq with rfl | hq
        · exact kN _ (List.Mem.head _)
        · exact hnews _ hq
      · refine go_ (rshift_int (by decide) ?_)
        rw [half_eq]
        have h9 : ¬ ((Lo : Int) + 1 = Hi) := by assumption
        have m1 : Lo < (Lo + Hi) / 2 := by lia
        have m2 : (Lo + Hi) / 2 < Hi := by lia
        generalize hmid : (Lo + Hi) / 2 = mid at m1 m2
        k_steps
        refine go_ ?_
        have m3 : n * (mid - Lo) ≤ 60 * 64 := Nat.mul_le_mul hn (by lia)
        have m4 := shr_bits x (n * (Hi - Lo)) (n * (mid - Lo)) hx
        have m5 : n * (Hi - Lo) ≤ 60 * 64 := Nat.mul_le_mul hn (by lia)
        rw [shift_eq _ _ _ (Nat.le_of_lt m1)]
        refine rshift_int (by lia) ?_
        rw [Int.toNat_natCast, shr_eq]
        k_steps
        refine go_ ?_
        rw [shift_eq _ _ _ (Nat.le_of_lt m1)]
        refine lshift_int (by lia) (by lia) ?_
        rw [Int.toNat_natCast]
        k_steps
        refine go_ ?_
        rw [xor_low]
        rename News _ _ _ _ => kN
        (try k_fold)
        k_dflt refine' ih (x % 2 ^ (n * (mid - Lo))) Lo mid xs us nn _ _ _ _ _ _ _ _ _ _ _ _ _ _ _ _ _ _ _ _ _ m1 (by lia) hxs (by lia) (Nat.mod_lt _ (Nat.pow_pos (by decide))) hi (by k_asm) (by k_asm) (by k_asm) kN (fun _ h => nomatch h) (by k_asm) rfl (fun q hq => .inl ((hf q hq).elim (st1 _ _) (hr1 q))) ?rm ?un ?_
        case rm => show dp + 1 + k < _; lia
        case un => show un + 3 + 8 * k < _; lia
        intro us2 nn2 h6 tk6 F6 N6 hi2
        try dsimp only
        k_steps
        refine go_ ?_
        rename News _ _ _ _ => kN2
        have e6 : (xs.take Lo ++ digs n (mid - Lo) (x % 2 ^ (n * (mid - Lo))) ++ xs.drop mid).length = xs.length := by simp [digs_len]; lia
        (try k_fold)
        k_dflt refine' ih (x / 2 ^ (n * (mid - Lo))) mid Hi _ us2 nn2 _ _ _ _ _ _ _ _ _ _ _ _ _ _ _ _ _ _ _ _ _ m2 (by rw [e6]; exact h2) (by rw [e6]; exact hxs) (by lia) (upper_lt x n Lo mid Hi (Nat.le_of_lt m1) (Nat.le_of_lt m2) hx) hi2 (by k_asm) (by k_asm) (by k_asm) kN2 (fun _ h => nomatch h) (by k_asm) rfl (fun q hq => .inl ((hf q hq).elim (st1 _ _) (hr1 q))) ?rm ?un ?_
        case rm => show dp + 1 + k < _; lia
        case un => show un + 3 + 8 * k < _; lia
        intro us3 nn3 h7 tk7 F7 N7 hi3
        try dsimp only
        k_steps
        rename News _ _ _ _ => kN3
        intro hnews
        rw [put_digs n x Lo mid Hi xs (Nat.le_of_lt m1) (Nat.le_of_lt m2) h2] at hi3
        refine hret _ nn3 _ _ (by assumption) ?_ hi3
        intro q hq
        rcases List.mem_cons.mp hq with rfl | hq
        · exact kN3 _ (List.Mem.head _)
        · exact hnews _ hq
  subst hfo
  have apE : Apart (tEnt 61 46 4 (some (c', oc))) news := by
    intro q hq r hr2
    have h61 : ∀ o, (61, o) ∈ tEnt 61 46 4 ent → q.1 ≠ 61 := fun o ho => ap q hq _ ho
    simp only [tEnt, List.mem_cons, List.not_mem_nil, or_false] at hr2
    rcases hr2 with rfl | rfl
    · cases ent with
      | none => exact h61 _ (List.Mem.head _)
      | some e => exact h61 _ (List.Mem.head _)
    · rcases le with h | h
      · exact ap q hq (c', oc) (by rw [h]; exact List.Mem.tail _ (List.Mem.head _))
      · have a1 := ltN (Heap.lt_size (hr q hq))
        have a2 := h (L' + 1, o3) (by first | walk_at "x_mem" | simp)
        have a3 : @LT.lt Nat _ (L' + 1) c' := a2
        have a4 : g.objs.size ≤ L' := F4.above
        refine neN ?_
        dsimp only
        lia
  have hown : ∀ us nn, Above L news [(la, listOf us nn)] := by
    intro us nn q hq
    rw [List.mem_singleton.mp hq]
    have a0 := fr_lt FG' F4
    refine ⟨fun r hr2 => ?_, Nat.lt_trans a0 (by refine ltN ?_; dsimp only; lia)⟩
    have a1 := ltN (Heap.lt_size (hr r hr2))
    have a4 : g.objs.size ≤ L' := F4.above
    refine ltN ?_
    dsimp only
    lia
  have hap : ∀ us nn, Apart (tEnt 61 46 4 (some (c', oc))) ([(la, listOf us nn)] ++ news) := by
    intro us nn q hq
    rcases List.mem_append.mp hq with h | h
    · rw [List.mem_singleton.mp h]
      intro r hr2
      simp only [tEnt, List.mem_cons, List.not_mem_nil, or_false] at hr2
      rcases hr2 with rfl | rfl <;> (refine neN ?_; dsimp only; lia)
    · exact apE q h
  k_steps
  · refine go_ ?_
    rename News _ _ _ _ => N9
    have N10 := news_rot3 N9
    (try k_fold)
    k_dflt refine' key _ _ (by assumption) (by assumption) kk a 0 kk (List.replicate kk 0) (List.replicate kk (Value.int 0 tk')) 0 _ _ _ _ _ _ _ _ _ _ _ _ _ _ _ _ _ _ _ _ _ ?h0 (by first | walk_at "x_mem" | simp) (by simp; lia) (by lia) (by rw [Nat.sub_zero]; exact hfit) hz (by k_asm) (by k_asm) (by k_asm) N10 ?ne (by k_asm) rfl ?fc ?rm ?un ?_
    case h0 =>
      have : kk ≠ 0 := by
        intro h
        rw [h, Nat.mul_zero] at hfit
        have : (a : Int) ≠ 0 := by assumption
        lia
      lia
    case rm => show dp + 1 + kk < _; lia
    case un => show un + 3 + 8 * kk < _; lia
    case ne =>
      intro q hq
      simp only [List.mem_cons, List.not_mem_nil, or_false] at hq
      rcases hq with rfl | rfl | rfl | rfl | rfl | rfl <;> (refine neN ?_; dsimp only; lia)
    case fc =>
      intro q hq
      simp only [List.mem_cons, List.not_mem_nil, or_false] at hq
      rcases hq with rfl | rfl | rfl | rfl | rfl <;> exact .inr (by first | walk_at "x_mem" | simp)
    intro us3 nn3 h7 tk7 F7 N7 hi3
    try dsimp only
    k_steps
    rename News _ _ _ _ => kN
    intro hnews
    refine hret _ [(la, listOf us3.toArray nn3)] (c', oc) _ _ (by assumption) ?_ (hap _ _) ok2 (hown _ _) ⟨la, us3, nn3, rfl, rfl, by simpa using hi3⟩
    intro q hq
    simp only [tEnt, List.nil_append, List.cons_append, List.mem_cons] at hq
    rcases hq with rfl | rfl | rfl | hq
    · exact kN _ (by first | walk_at "x_mem" | simp)
    · exact kN _ (by first | walk_at "x_mem" | simp)
    · exact kN _ (by first | walk_at "x_mem" | simp)
    · exact hnews _ hq
  · rename News _ _ _ _ => kN
    intro hnews
    have ha : a = 0 := by
      have : (a : Int) = 0 := by assumption
      lia
    refine hret _ [(la, listOf (List.replicate kk (Value.int 0 tk')).toArray 0)] (c', oc) _ _ (by assumption) ?_ (hap _ _) ok2 (hown _ _) ⟨la, _, 0, rfl, rfl, by rw [ha, digs_zero]; exact hz⟩
    intro q hq
    simp only [tEnt, List.nil_append, List.cons_append, List.mem_cons] at hq
    rcases hq with rfl | rfl | rfl | hq
    · exact kN _ (by first | walk_at "x_mem" | simp)
    · exact kN _ (by first | walk_at "x_mem" | simp)
    · exact kN _ (by first | walk_at "x_mem" | simp)
    · exact hnews _ hq
end Mine
end
section
open PySem PySem.W PyProof.Rows
set_option maxRecDepth 100000
set_option maxHeartbeats 8000000 
namespace Mine
theorem anew7 : True ∧ True := by
  (w_top off)
  k_with_none
  k_with "m_loc" => (refine ⟨?l1, ?l2⟩; (case l1 => (with_unfolding_all (repeat' (first | exact trivial | refine And.intro ⟨_, rfl⟩ ?_)))); (case l2 => (intro z h1 h2; have h3 := h2; (try simp only [List.forall_mem_cons, List.not_mem_nil, false_implies, implies_true, and_true, ne_eq] at h1); (try simp only [List.contains_cons, List.contains_nil, Bool.or_false, Bool.or_eq_false_iff, beq_eq_false_iff_ne, ne_eq] at h2); (simp only [kstB, h1, h2, h3, if_false, Bool.false_eq_true]; done))))
  k_with "m_has" => (with_unfolding_all (repeat' (first | exact trivial | refine And.intro ⟨_, rfl⟩ ?_)))
  k_with "y exec While BoolOp cons nil" => (refine stop_ ?_)
  k_with "y exec While Name cons nil" => (refine stop_ ?_)
  k_with "y WPost" => (dsimp only [WPost])
  k_with "y WEnd" => (refine stop_ ?_)
  k_with "y WDone" => (refine stop_ ?_)
  k_with "y subscriptTail Name Name str int" => (refine KXi.item rfl ?ma ?mb ?mc ?_; (case ma => lia); (case mb => lia); (case mc => lia); intro _)
  k_with "y call builtin:len" => ((with_reducible show wpAny _ _ (call (Value.builtin "len") [Value.str _ _]) _ _ _); refine SBL.len (by lia) ?_)
  k_with "m_sub" => (intro q hq; (repeat (first | exact hq | exact List.Mem.head _ | refine List.Mem.tail _ ?_)))
  k_with "y ite" => (first | refine PySem.W.ite_pos (by with_reducible assumption) ?_ | refine PySem.W.ite_neg (by with_reducible assumption) ?_)
  k_with "y exec FunctionDef" => (refine stop_ ?_)
  k_with "y call ref" => (refine stop_ ?_)
  k_with "y binaryOp LShift int int" => (refine stop_ ?_)
  k_with "y binaryOp RShift int int" => (refine stop_ ?_)
  k_with "y FPost" => (dsimp only [FPost])
  k_with "y FEnd" => (refine stop_ ?_)
  k_with "x_mem" => (with_reducible first | exact mm0 | exact mm1 | exact mm2 | exact mm3 | exact mm4 | exact mm5 | exact mm6 | exact mm7 | exact mm8 | assumption | (refine mm_l ?_; walk_at "x_mem") | (refine mm_r ?_; walk_at "x_mem") | (refine mm_t ?_; walk_at "x_mem"))
  k_with "x_in" => (with_reducible first | exact sub_refl | exact sub_first | exact sub_last | exact sub_tail | (refine sub_l ?_; walk_at "x_in") | (refine sub_r ?_; walk_at "x_in") | (refine sub_t ?_; walk_at "x_in"))
  k_with "x_sub" => ((try refine sub_of ?_); (with_reducible first | exact sub_refl | exact sub_nil | (refine sub_cons ?_ ?_; (walk_at "x_mem"); (walk_at "x_sub")) | (refine sub_app ?_ ?_; (walk_at "x_sub"); (walk_at "x_sub")) | walk_at "x_in"))
  k_with "y execs cons" => (first | (k_here; k_gentoks) | (k_here; k_made; walk_at "execs cons") | ((with_reducible refine wpAny_execs_cons ?_); (try dsimp only); (try k_fold)))
  k_with "y call builtin:list.append" => (k_dflt (refine' append_K ?k1 ?k2 ?k3 ?_ ?z; (case k1 => k_asm); (case k2 => k_asm); (case k3 => k_upd); (case z => assumption)); intro h' F' N')
  k_with "y call builtin:list.reverse" => (k_dflt (refine' kl_reverse ?F ?N ?e ?U ?z ?_; (case F => k_asm); (case N => k_asm); (case e => exact rfl); (case U => k_upd); (case z => assumption)); intro h' F' N')
  exact ⟨trivial, trivial⟩
local macro_rules | `(tactic| k_all) => `(tactic| assumption)
theorem c_divmod (w : World) (p : Program) (loose : List PySem.Str) (mean : ExcName → Option Value) (mg mb : PySem.Str → Option Value) (a b : Nat) (ta tb : Tok) (ha : a < 2 ^ 60) (hb : 0 < b) (hb1 : b < 2 ^ 30) :
  CtrB w p loose mean mg mb 80 [.int a ta, .int b tb] [] 80 700 (fun r own => ∃ ad t1 t2, r = .ref ad ∧ own = [(ad, tupOf [.int ((a / b : Nat) : Int) t1, .int ((a % b : Nat) : Int) t2])]) := by
  unfold CtrB
  k_fill
  intro dp un gd cn cs ad ccd cl outer A₀ base h₀ L m news e1 e2 s Q E B F X N ap1 ap2 ok1 ok2 T hk need hd hu hret
  have N1 : News h₀ L s.heap (tA e1 ++ tB e2) := news_sub N (by walk_at "x_sub")
  have N2 : News h₀ L s.heap news := news_sub N (by walk_at "x_sub")
  have ap : Apart (tA e1 ++ tB e2) news := fun q hq r hr => (List.mem_append.mp hr).elim (fun h => ap1 q (List.mem_append_right _ hq) r h) fun h => ap2 q hq r h
  refine wpAny_call ?_
  with_unfolding_all refine' enterRK (pre := tA e1 ++ tB e2) (r := news) B F X N1 T N2 ap rfl rfl hk ?ho ?hcd ?room ?hb ?hloc ?_ ?e1 ?e2 ?e3 ?hcell
  case ho => k_is
  case hcd => k_is
  case room => ktr_room
  case hb => exact BindsTo.of_eq rfl
  case hloc => exact locs rfl
  case hcell => decide
  case e1 => exact rfl
  case e2 => exact rfl
  case e3 => exact rfl
  intro g L' h₁ FG' F' N' B' X' T' st hr l1
  try dsimp only
  try k_fold
  k_steps
  refine go_ ?_
  obtain ⟨hb2, hb3⟩ := bits_spec hb
  have hb4 : Builtin.Int.intBits (b : Int) ≤ 30 := bits_small (by lia) (by exact_mod_cast hb1)
  generalize hnb : Builtin.Int.intBits (b : Int) = nb at hb2 hb3 hb4
  rename News _ _ _ _ => kN
  rename Fr _ _ _ _ => kF
  rw [hnb] at kF
  have apA : Apart (tA e1) (tB e2) := fun q hq r hr => ap1 q (List.mem_append_left _ hq) r hr
  (try k_fold)
  k_dflt refine' (c_int2digits w p loose mean mg mb a ta nb _ ha hb3 (by lia) _ rfl) _ _ _ _ _ _ _ _ _ _ _ _ _ _ (tB e2) e1 _ _ _ (by k_asm) (by k_asm) (by k_asm) kN apA ok1 (by k_asm) rfl (fun _ h => nomatch h) ?rm ?un ?_
  case rm => exact lt_add hd (by decide)
  case un => exact lt_add hu (by decide)
  intro r1 own1' c1 h2 tk2 F2 N3 apB okA owA hP
  obtain ⟨la, us, nn, rfl, rfl, hi⟩ := hP
  generalize hkk : (Builtin.Int.intBits (a : Int) + nb - 1) / nb = kk at hi
  try dsimp only
  k_steps
  rename News _ _ _ _ => N4
  rename Fr _ _ _ _ => F4
  rename_i _ _ lq _ l3 _ D _ l4
  have hlen : us.length = kk := by rw [hi.length, digs_len]
  have hfit : a < 2 ^ (nb * kk) := by
    rw [← hkk]
    refine count_digits a nb hb3 _ ?_
    by_cases h : a = 0
    · subst h; exact Nat.pow_pos (by decide)
    · exact (bits_spec (by lia)).1
  have hn0 : 0 < nb := hb3
  have hka : kk < 61 := by
    have hba : Builtin.Int.intBits (a : Int) ≤ 60 := bits_small (by lia) (by exact_mod_cast ha)
    rw [← hkk]
    exact (Nat.div_lt_iff_lt_mul hb3).mpr (by lia)
  have gL := F4.ns
  have hLa : la ≠ L' := (N4 (la, listOf us.toArray nn) (by first | walk_at "x_mem" | simp)).2.1
  have hD := N4 (D, revObj la ((us.length : Int) - 1)) (List.Mem.head _)
  have l4a : lq < D := l4.1
  have l4b := ktn_ltOf l4.2
  have hlaD : la ≠ D := Nat.ne_of_lt (l4b (la, listOf us.toArray nn) (by first | walk_at "x_mem" | simp))
  have hlq : ∀ p ∈ (la, listOf us.toArray nn) :: (tA (some c1) ++ tB e2), p.1 ≠ lq := fun p hp => Nat.ne_of_lt (l3 p (by simpa using hp))
  have N5 := news_sub N4 (b := (lq, listOf #[] 0) :: (la, listOf us.toArray nn) :: (tA (some c1) ++ tB e2)) (fun q hq => List.mem_cons_of_mem _ (by simpa using hq))
  refine' forRev (σ := Int × List Int × List Value × Nat) (l := la) (us := us) (fun c => (lq, listOf c.2.2.1.toArray c.2.2.2) :: (la, listOf us.toArray nn) :: (tA (some c1) ++ tB e2)) (fun c => [(PySem.Str.ofString "r", .int c.1)]) [PySem.Str.ofString "a_digit", PySem.Str.ofString "q_digit"]
    (fun i c => c.1 = ((a / 2 ^ (nb * (kk - i)) % b : Nat) : Int) ∧ IntsAre c.2.2.1 c.2.1 ∧ c.2.1.length = i ∧ dval nb c.2.1.reverse = ((a / 2 ^ (nb * (kk - i)) / b : Nat) : Int) ∧ ∀ d ∈ c.2.1, 0 ≤ d ∧ d < 2 ^ 60)
    (0, [], [], 0) rfl ⟨_, (N4 (la, listOf us.toArray nn) (by first | walk_at "x_mem" | simp)).1, rfl, nn, rfl⟩ hLa hD.1 hD.2.1 hD.2.2 hlaD ?hnD F4 N5 ?kk ?kp ?_ ?_
  case hnD =>
    intro p hp
    rcases List.mem_cons.mp hp with rfl | hp
    · exact Nat.ne_of_lt l4a
    · exact Nat.ne_of_lt (l4b p (by simpa using hp))
  case kk => walk_at "m_has"
  case kp =>
    refine ⟨?_, .nil, rfl, ?_, fun _ h => nomatch h⟩
    · dsimp only; rw [Nat.sub_zero, Nat.div_eq_of_lt hfit]; simp
    · dsimp only; rw [Nat.sub_zero, Nat.div_eq_of_lt hfit]; simp [dval]
  · rintro i ⟨r, qs, us2, nn2⟩ v ts u h tk own hi1 hv hz10 hoff hown hz13 F5 N6
    (try k_fold)
    obtain ⟨p1, p2, p3, p4, p5⟩ := hz10
    obtain ⟨o9, ho9⟩ := hz13
    dsimp only at p1 p2 p3 p4 p5
    have N7 := news_comm N6
    simp only [List.cons_append] at N7
    clear N6
    dsimp only [psAt, Ab.at] at F5
    subst p1
    obtain ⟨j, hj⟩ : ∃ j, j = kk - 1 - i := ⟨_, rfl⟩
    have hjk : j < kk := by lia
    have hji : kk - i = j + 1 := by lia
    have hx : (digs nb kk a)[j]? = some ((a / 2 ^ (nb * j) % 2 ^ nb : Nat) : Int) := by
      have := digs_getD nb kk a j hjk
      rw [List.getD_eq_getElem?_getD] at this
      rw [List.getElem?_eq_getElem (by rw [digs_len]; exact hjk)] at this ⊢
      simpa using this
    obtain ⟨tv, htv⟩ := hi.get j _ hx
    have hvj : v = .int ((a / 2 ^ (nb * j) % 2 ^ nb : Nat) : Int) tv := by
      rw [hlen, ← hj, htv] at hv
      exact (Option.some.inj hv).symm
    subst hvj
    have hrb : a / 2 ^ (nb * (j + 1)) % b < b := Nat.mod_lt _ hb
    have hdb : a / 2 ^ (nb * j) % 2 ^ nb < 2 ^ nb := Nat.mod_lt _ (Nat.pow_pos (by decide))
    obtain ⟨hs1, hs2⟩ := ldiv_small _ _ b nb hrb hdb (Nat.le_of_lt hb1) hb4
    obtain ⟨hd1, hd2⟩ := ldiv_step a b nb j hb
    rw [hji] at F5 p4
    generalize a / 2 ^ (nb * (j + 1)) % b = rr at F5 hrb hs1 hs2 hd1 hd2
    generalize hdd : a / 2 ^ (nb * j) % 2 ^ nb = dd at F5 hdb hs1 hs2 hd1 hd2
    have hol : ∀ p ∈ own, p.1 ≠ lq := by
      intro p hp
      have := hown p hp
      simp only [List.mem_cons, List.not_mem_nil, or_false] at this
      rcases this with e | e
      · rw [e]; exact (Nat.ne_of_lt l4a).symm
      · rw [e]; exact hlq (la, listOf us.toArray nn) (by first | walk_at "x_mem" | simp)
    have hall : ∀ p ∈ (la, listOf us.toArray nn) :: (tA (some c1) ++ tB e2 ++ own), p.1 ≠ lq := by
      intro p hp
      simp only [List.mem_cons, List.mem_append] at hp
      rcases hp with h | (h | h) | h
      · exact hlq p (by first | walk_at "x_mem" | simp [h])
      · exact hlq p (by first | walk_at "x_mem" | simp [h])
      · exact hlq p (by first | walk_at "x_mem" | simp [h])
      · exact hol p h
    have hz2 : us2.toArray.size ≤ sizeLine := by rw [List.size_toArray, p2.length, sizeLine_eq]; lia
    k_steps
    refine go_ (lshift_int (by lia) (by have := bits_le (a := (rr : Int)) (k := 30) (by lia) (by lia); lia) ?_)
    rw [Int.toNat_natCast]
    k_steps
    refine go_ ?_
    have ern : (rr : Int) * 2 ^ nb + dd = ((rr * 2 ^ nb + dd : Nat) : Int) := by rw [Int.natCast_add, Int.natCast_mul, Int.natCast_pow]; rfl
    rw [ern]
    (try k_fold)
    k_dflt refine' (c_div2n1n w _ _ _ _ _ ((rr * 2 ^ nb + dd : Nat) : Int) b nb _ _ _ (by lia) (by lia) (by lia) (by lia) (by lia)) _ _ _ _ _ _ _ _ _ _ _ _ _ _ _ _ _ _ (by k_asm) (by k_asm) (by k_asm) (by k_asm) (by k_asm) rfl (fun _ h => nomatch h) ?rm ?un ?_
    case rm => exact lt_add hd (by decide)
    case un => exact lt_add hu (by decide)
    intro r1 own2 h6 tk6 F6 N8 ow2 hP
    obtain ⟨ad9, t1, t2, rfl, rfl⟩ := hP
    simp only [List.cons_append, List.nil_append] at N8
    have n9 : @LT.lt Nat _ lq ad9 := (ow2 _ (List.Mem.head _)).1 (lq, listOf us2.toArray nn2) (List.Mem.head _)
    try dsimp only
    k_steps
    refine go_ ?_
    rename News _ _ _ _ => N9
    simp only [List.push_toArray] at N9
    have eq1 : ((rr * 2 ^ nb + dd : Nat) : Int) / b = (((rr * 2 ^ nb + dd) / b : Nat) : Int) := rfl
    have eq2 : ((rr * 2 ^ nb + dd : Nat) : Int) % b = (((rr * 2 ^ nb + dd) % b : Nat) : Int) := rfl
    refine fend (((rr * 2 ^ nb + dd) % b : Nat), qs ++ [(((rr * 2 ^ nb + dd) / b : Nat) : Int)], us2 ++ [.int (((rr * 2 ^ nb + dd) / b : Nat) : Int) t1], nn2 + 1) (by assumption) N9 ?_ ?_ (by walk_at "m_loc") ?_
    · intro p hp
      simp only [List.mem_append, List.mem_cons] at hp ⊢
      rcases hp with h | h | h | h | h
      · exact .inr (.inr (.inr (.inr h)))
      · exact .inr (.inl h)
      · exact .inr (.inr (.inl h))
      · exact .inr (.inr (.inr (.inl (.inl h))))
      · exact .inr (.inr (.inr (.inl (.inr h))))
    · intro p hp
      rcases List.mem_cons.mp hp with rfl | h
      · exact hoff (lq, listOf us2.toArray nn2) (List.Mem.head _)
      · exact hoff p (List.Mem.tail _ h)
    · refine ⟨?_, IntsAre.append p2 (.cons _ _ .nil), by simp [p3], ?_, ?_⟩
      · rw [hd1, show kk - (i + 1) = j by lia]
      · dsimp only
        rw [List.reverse_append, List.reverse_singleton, List.singleton_append, dval, p4, show kk - (i + 1) = j by lia, hd2, Int.natCast_add, Int.natCast_mul, Int.natCast_pow]; rfl
      · intro d hd
        rcases List.mem_append.mp hd with h | h
        · exact p5 d h
        · rw [List.mem_singleton.mp h]
          have : 2 ^ nb ≤ 2 ^ 30 := Nat.pow_le_pow_right (by decide) hb4
          constructor
          · exact Int.natCast_nonneg _
          · have : (rr * 2 ^ nb + dd) / b < 2 ^ 60 := by lia
            exact_mod_cast this
  · rintro ⟨r, qs, us2, nn2⟩ ts u h tk hz5 F5 N6
    (try k_fold)
    obtain ⟨p1, p2, p3, p4, p5⟩ := hz5
    dsimp only at p1 p2 p3 p4 p5
    dsimp only [psAt, Ab.at] at F5
    dsimp only at N6
    rw [hlen, Nat.sub_self, Nat.mul_zero, Nat.pow_zero, Nat.div_one] at p1 p4
    subst p1
    have hz2 : us2.toArray.toList.length ≤ sizeLine := by rw [List.toList_toArray, p2.length, sizeLine_eq]; lia
    k_steps
    refine go_ ?_
    rename News _ _ _ _ => N8
    have N10 := news_sub N8 (b := tB e2 ++ ((lq, listOf us2.reverse.toArray nn2) :: (la, listOf us.toArray nn) :: tA (some c1))) (by
      intro q hq
      simp only [List.mem_append, List.mem_cons] at hq ⊢
      rcases hq with h | h | h | h
      · exact .inr (.inr (.inr h))
      · exact .inl h
      · exact .inr (.inl h)
      · exact .inr (.inr (.inl h)))
    have ap9 : Apart (tB e2) ((lq, listOf us2.reverse.toArray nn2) :: (la, listOf us.toArray nn) :: tA (some c1)) := by
      refine all_cons ?_ (all_cons ?_ ?_)
      · intro r hr2; exact (hlq r (by first | walk_at "x_mem" | simp [hr2])).symm
      · intro r hr2; exact (Nat.ne_of_lt ((owA _ (List.Mem.head _)).1 r hr2)).symm
      · intro q h r hr2; exact (apB r (List.mem_append_right _ hr2) q h).symm
    (try k_fold)
    k_dflt refine' (c_digits2int w p loose mean mg mb lq us2.reverse nn2 qs.reverse nb _ (ints_reverse p2) (fun d hd => p5 d (List.mem_reverse.mp hd)) (by lia) (by rw [List.length_reverse]; lia)) _ _ _ _ _ _ _ _ _ _ _ _ _ _ ((lq, listOf us2.reverse.toArray nn2) :: (la, listOf us.toArray nn) :: tA (some c1)) e2 _ _ _ (by k_asm) (by k_asm) (by k_asm) N10 ap9 ok2 (by k_asm) rfl (by intro q hq; rw [List.mem_singleton.mp hq]; exact List.Mem.head _) ?rm ?un (pvP fun t5 c2 h5 tk5 F7 N11 apC okB => ?_)
    case rm => exact lt_add hd (by decide)
    case un => exact lt_add hu (by decide)
    have bl := base_lt F7 hr
    have lL := fr_lt FG' F7
    rw [p4]
    try dsimp only
    k_steps
    rename News g _ _ _ => gN
    rename News _ _ _ _ => kN
    rename (∀ p : Addr × Obj, p ∈ tEnt 68 61 4 (some c2) ++ _ → p.1 < _) => lD
    have apR := apart_of gN hr
    have lla := (owA _ (List.Mem.head _)).2
    have ldl := lD (la, listOf us.toArray nn) (by first | walk_at "x_mem" | simp)
    intro hnews
    refine hret _ [(_, tupOf [.int ((a / b : Nat) : Int) t5, .int ((a % b : Nat) : Int) (ts 0)])] c1 c2 _ _ (by assumption) ?_ ?_ ?_ okA okB (own1 (fun q hq => Nat.lt_trans (bl q hq) (Nat.lt_trans lla ldl)) (Nat.lt_trans lL (Nat.lt_trans lla ldl))) ⟨_, _, _, rfl, rfl⟩
    · refine all_app ?_ (all_app ?_ (all_app ?_ ?_))
      · exact all_cons (kN _ (by walk_at "x_mem")) all_nil
      · intro q h; exact kN _ (by first | walk_at "x_mem" | simp [h])
      · intro q h; exact kN _ (by first | walk_at "x_mem" | simp [h])
      · intro q h; exact hnews _ h
    · refine all_app ?_ (all_app ?_ ?_)
      · intro q h r hr2; exact (apC r (by first | walk_at "x_mem" | simp [hr2]) q h).symm
      · exact all_cons (fun r hr2 => (Nat.ne_of_lt (lD r (by walk_at "x_mem"))).symm) all_nil
      · intro q h r hr2; exact apR q h r (by first | walk_at "x_mem" | simp [hr2])
    · refine all_app ?_ ?_
      · exact all_cons (fun r hr2 => (Nat.ne_of_lt (lD r (by walk_at "x_mem"))).symm) all_nil
      · intro q h r hr2; exact apR q h r (by first | walk_at "x_mem" | simp [hr2])
end Mine
end
section
open PySem PySem.W PyProof.Rows
set_option maxRecDepth 100000
set_option maxHeartbeats 8000000 
namespace Mine
theorem anew8 : True ∧ True := by
  (w_top off)
  k_with_none
  k_with "m_loc" => (refine ⟨?l1, ?l2⟩; (case l1 => (with_unfolding_all (repeat' (first | exact trivial | refine And.intro ⟨_, rfl⟩ ?_)))); (case l2 => (intro z h1 h2; have h3 := h2; (try simp only [List.forall_mem_cons, List.not_mem_nil, false_implies, implies_true, and_true, ne_eq] at h1); (try simp only [List.contains_cons, List.contains_nil, Bool.or_false, Bool.or_eq_false_iff, beq_eq_false_iff_ne, ne_eq] at h2); (simp only [kstB, h1, h2, h3, if_false, Bool.false_eq_true]; done))))
  k_with "m_has" => (with_unfolding_all (repeat' (first | exact trivial | refine And.intro ⟨_, rfl⟩ ?_)))
  k_with "y exec While BoolOp cons nil" => (refine stop_ ?_)
  k_with "y exec While Name cons nil" => (refine stop_ ?_)
  k_with "y WPost" => (dsimp only [WPost])
  k_with "y WEnd" => (refine stop_ ?_)
  k_with "y WDone" => (refine stop_ ?_)
  k_with "y subscriptTail Name Name str int" => (refine KXi.item rfl ?ma ?mb ?mc ?_; (case ma => lia); (case mb => lia); (case mc => lia); intro _)
  k_with "y call builtin:len" => ((with_reducible show wpAny _ _ (call (Value.builtin "len") [Value.str _ _]) _ _ _); refine SBL.len (by lia) ?_)
  k_with "m_sub" => (intro q hq; (repeat (first | exact hq | exact List.Mem.head _ | refine List.Mem.tail _ ?_)))
  k_with "y ite" => (first | refine PySem.W.ite_pos (by with_reducible assumption) ?_ | refine PySem.W.ite_neg (by with_reducible assumption) ?_)
  k_with "y exec FunctionDef" => (refine stop_ ?_)
  k_with "y call ref" => (refine stop_ ?_)
  k_with "y binaryOp LShift int int" => (refine stop_ ?_)
  k_with "y binaryOp RShift int int" => (refine stop_ ?_)
  k_with "y FPost" => (dsimp only [FPost])
  k_with "y FEnd" => (refine stop_ ?_)
  k_with "x_mem" => (with_reducible first | exact mm0 | exact mm1 | exact mm2 | exact mm3 | exact mm4 | exact mm5 | exact mm6 | exact mm7 | exact mm8 | assumption | (refine mm_l ?_; walk_at "x_mem") | (refine mm_r ?_; walk_at "x_mem") | (refine mm_t ?_; walk_at "x_mem"))
  k_with "x_in" => (with_reducible first | exact sub_refl | exact sub_first | exact sub_last | exact sub_tail | (refine sub_l ?_; walk_at "x_in") | (refine sub_r ?_; walk_at "x_in") | (refine sub_t ?_; walk_at "x_in"))
  k_with "x_sub" => ((try refine sub_of ?_); (with_reducible first | exact sub_refl | exact sub_nil | (refine sub_cons ?_ ?_; (walk_at "x_mem"); (walk_at "x_sub")) | (refine sub_app ?_ ?_; (walk_at "x_sub"); (walk_at "x_sub")) | walk_at "x_in"))
  k_with "y execs cons" => (first | (k_here; k_gentoks) | (k_here; k_made; walk_at "execs cons") | ((with_reducible refine wpAny_execs_cons ?_); (try dsimp only); (try k_fold)))
  k_with "y newTuple" => ((refine newTuple_L (by assumption) (by assumption) (Nat.le_of_ble_eq_true rfl) ?_); intro _ _ _ _ _ _)
  k_with "y newList" => ((refine newList_L (by assumption) (by assumption) (Nat.le_of_ble_eq_true rfl) ?_); intro _ _ _ _ _ _)
  k_with "y getMethod ref" => (refine stop_ ?_)
  k_with "y getMethod bytes" => (refine stop_ ?_)
  k_with "y call type:tuple" => (refine stop_ ?_)
  k_with "y call builtin:re.Pattern.match" => (refine stop_ ?_)
  k_with "y call builtin:re.Match.group" => (refine stop_ ?_)
  k_with "y call builtin:bytes.split" => (refine stop_ ?_)
  k_with "y truthy ref" => (refine stop_ ?_)
  exact ⟨trivial, trivial⟩
theorem pat_of {w : World} {g h : Heap} {L : Addr} {m : PySem.Str → Option Value} (X : (hd.heap_39 w.params).In g) (F : Fr g L h m) : Rx.Pat h 85 84 82 := by
  refine ⟨?_, ?_⟩
  · refine ⟨_, _, _, _, F.keep _ _ (X 85 _ (by with_unfolding_all rfl)), rfl, rfl, rfl⟩
  · refine ⟨_, _, _, F.keep _ _ (X 84 _ (by with_unfolding_all rfl)), rfl, ?_⟩
    with_unfolding_all rfl
theorem gix_of {prog : Program} {w : World} {g h : Heap} {L : Addr} {m : PySem.Str → Option Value} (X : (hd.heap_39 w.params).In g) (F : Fr g L h m) : h.MapOf (PySem.strKind prog w) 82 (fun z => if z = PySem.Str.ofString "flags" then some (.int 1 420) else none) := by
  refine ⟨_, _, _, F.keep _ _ (X 82 _ (by with_unfolding_all rfl)), ⟨rfl, rfl, rfl⟩, rfl, ?_, ?_⟩
  · intro e he
    simp at he
    subst he
    exact ⟨PySem.Str.ofString "flags", by with_unfolding_all rfl, by with_unfolding_all rfl⟩
  · intro k
    unfold findBy
    rw [List.find?_toArray, List.find?_cons]
    dsimp only [PySem.strKind]
    by_cases h : k = PySem.Str.ofString "flags"
    · subst h
      simp [Value.isStrOf]
    · have : Value.isStrOf k (.str (PySem.Str.ofString "flags") 419) = false := by simp [Value.isStrOf]; exact fun e => h e.symm
      rw [this, if_neg h]; rfl
theorem c_parse_no (w : World) (p : Program) (loose : List PySem.Str) (mean : ExcName → Option Value) (mg mb : PySem.Str → Option Value) (b : List Nat) (tk : Tok) (hf : Rx.NotFound b) :
  Ctr w p loose mean mg mb 99 [.bytes (byt b) tk] [] 1 8 (fun r own => ∃ a, r = .ref a ∧ own = [(a, ({ cls := .type "tuple", data := .seq #[] } : Obj))]) := by
  unfold Ctr
  k_fill
  intro dp un gd cn cs ad ccd cl outer A₀ base h₀ L m news s Q E B F X N T hk _ hd hu hret
  refine wpAny_call ?_
  k_dflt cell_enter
  rename Fr h₀ L _ m => FG9
  rename Fr _ _ _ _ => FF9
  have hlt9 := fr_lt FG9 FF9
  k_steps
  refine go_ ?_
  rename Fr _ _ _ _ => lF'
  rename Frag.In _ _ => lX'
  (try k_fold)
  k_dflt refine' Rx.pmethod (pat_of lX' lF') ?_
  k_steps
  refine go_ ?_
  rename Fr _ _ _ _ => lF'
  (try k_fold)
  k_dflt refine' Rx.pmatch_no (pat_of lX' lF') hf ?_
  k_steps
  rename News h₀ _ _ _ => kN
  have kN' := kN
  dsimp only at kN'
  refine hret _ [_] _ _ (by assumption) kN' (own1 (by assumption) ?_) ⟨_, rfl, rfl⟩
  exact Nat.lt_trans hlt9 (by assumption)
theorem c_parse_yes (w : World) (p : Program) (loose : List PySem.Str) (mean : ExcName → Option Value) (mg mb : PySem.Str → Option Value) (b : List Nat) (tk : Tok) (p0 e : Nat) (hf : Rx.Found b p0 e) (hz : b.length < 10000) (hsp : ∃ c ∈ (b.drop (p0 + 7)).take (e - (p0 + 7)), spc c = true) :
  Ctr w p loose mean mg mb 99 [.bytes (byt b) tk] [] 1 8 (fun r own => ∃ a vs, r = .ref a ∧ own = [(a, ({ cls := .type "tuple", data := .seq vs.toArray } : Obj))] ∧ ByVals vs (wordsN (((b.drop (p0 + 7)).take (e - (p0 + 7))).length + 1) ((b.drop (p0 + 7)).take (e - (p0 + 7))))) := by
  unfold Ctr
  k_fill
  intro dp un gd cn cs ad ccd cl outer A₀ base h₀ L m news s Q E B F X N T hk _ hd hu hret
  refine wpAny_call ?_
  k_dflt cell_enter
  rename Fr h₀ L _ m => FG9
  rename Fr _ _ _ _ => FF9
  have hlt9 := fr_lt FG9 FF9
  k_steps
  refine go_ ?_
  rename Fr _ _ _ _ => lF'
  rename Frag.In _ _ => lX'
  (try k_fold)
  k_dflt refine' Rx.pmethod (pat_of lX' lF') ?_
  k_steps
  refine go_ ?_
  rename Fr _ _ _ _ => lF'
  rename News _ _ _ _ => lN'
  (try k_fold)
  k_dflt refine' Rx.pmatch_yes (pat_of lX' lF') lF' lN' hf ?_
  intro a sp h1 La F1 N1
  k_steps
  refine go_ ?_
  rename News _ _ _ _ => lN'
  (try k_fold)
  k_dflt refine' Rx.truthyM lN' (List.Mem.head _) ?_
  k_steps
  refine go_ ?_
  rename News _ _ _ _ => lN'
  (try k_fold)
  k_dflt refine' Rx.gmethod lN' (List.Mem.head _) ?_
  k_steps
  refine go_ ?_
  rename News _ _ _ _ => lN'
  rename Fr _ _ _ _ => lF'
  (try k_fold)
  k_dflt refine' Rx.mgroup rfl (pat_of lX' lF') (gix_of lX' lF') lN' (List.Mem.head _) (List.Mem.tail _ (List.Mem.head _)) hf ?_
  intro t2 k2
  k_steps
  refine go_ ?_
  (try k_fold)
  k_dflt refine' smethod ?_
  k_steps
  refine go_ ?_
  rename News _ _ _ _ => lN'
  rename Fr _ _ _ _ => lF'
  (try k_fold)
  k_dflt refine' bsplit ?_ ?_ hsp lF' lN' ?_
  · exact fun c hc => hf.byte c (List.mem_of_mem_drop (List.mem_of_mem_take hc))
  · have := (List.take_sublist (e - (p0 + 7)) (b.drop (p0 + 7))).length_le
    have := (List.drop_sublist (p0 + 7) b).length_le
    lia
  intro a3 vs h3 k3 F3 N3 hv
  have hvl : vs.length ≤ 10001 := by
    have := wordsN_length (((b.drop (p0 + 7)).take (e - (p0 + 7))).length + 1) ((b.drop (p0 + 7)).take (e - (p0 + 7)))
    have := (List.take_sublist (e - (p0 + 7)) (b.drop (p0 + 7))).length_le
    have := (List.drop_sublist (p0 + 7) b).length_le
    have e9 := hv.length
    lia
  k_steps
  refine go_ ?_
  rename News _ _ _ _ => lN'
  rename Fr _ _ _ _ => lF'
  (try k_fold)
  k_dflt refine' kde_tupleOf (zs := vs) lF' lN' (News.isList lN' (List.Mem.head _)) ?_ ?_ ?_
  · simp; lia
  · simp
  intro D4 h4 F4 N4 l4
  have l5 : L < D4 := Nat.lt_trans (Nat.lt_trans hlt9 La) (l4 _ (List.Mem.tail _ (List.Mem.head _)))
  have l6 : ∀ p ∈ news, p.1 < D4 := fun p hp => l4 p (List.Mem.tail _ (List.Mem.tail _ (List.Mem.tail _ hp)))
  clear l4
  k_steps
  rename News h₀ _ _ _ => kN
  dsimp only at kN
  refine hret _ [_] _ _ (by assumption) (fun q hq => kN q ?_) (own1 l6 l5) ⟨_, vs, rfl, rfl, hv⟩
  rcases List.mem_cons.mp hq with rfl | hq
  · exact List.Mem.head _
  · exact List.Mem.tail _ (List.Mem.tail _ (List.Mem.tail _ (List.Mem.tail _ hq)))
end Mine
end
section
open PySem PySem.W PyProof.Rows
set_option maxRecDepth 100000
set_option maxHeartbeats 8000000 
namespace Mine
theorem anew9 : True ∧ True := by
  (w_top off)
  k_with_none
  k_with "m_loc" => (refine ⟨?l1, ?l2⟩; (case l1 => (with_unfolding_all (repeat' (first | exact trivial | refine And.intro ⟨_, rfl⟩ ?_)))); (case l2 => (intro z h1 h2; have h3 := h2; (try simp only [List.forall_mem_cons, List.not_mem_nil, false_implies, implies_true, and_true, ne_eq] at h1); (try simp only [List.contains_cons, List.contains_nil, Bool.or_false, Bool.or_eq_false_iff, beq_eq_false_iff_ne, ne_eq] at h2); (simp only [kstB, h1, h2, h3, if_false, Bool.false_eq_true]; done))))
  k_with "m_has" => (with_unfolding_all (repeat' (first | exact trivial | refine And.intro ⟨_, rfl⟩ ?_)))
  k_with "y exec While BoolOp cons nil" => (refine stop_ ?_)
  k_with "y exec While Name cons nil" => (refine stop_ ?_)
  k_with "y WPost" => (dsimp only [WPost])
  k_with "y WEnd" => (refine stop_ ?_)
  k_with "y WDone" => (refine stop_ ?_)
  k_with "y subscriptTail Name Name str int" => (refine KXi.item rfl ?ma ?mb ?mc ?_; (case ma => lia); (case mb => lia); (case mc => lia); intro _)
  k_with "y call builtin:len" => ((with_reducible show wpAny _ _ (call (Value.builtin "len") [Value.str _ _]) _ _ _); refine SBL.len (by lia) ?_)
  k_with "m_sub" => (intro q hq; (repeat (first | exact hq | exact List.Mem.head _ | refine List.Mem.tail _ ?_)))
  k_with "y ite" => (first | refine PySem.W.ite_pos (by with_reducible assumption) ?_ | refine PySem.W.ite_neg (by with_reducible assumption) ?_)
  k_with "y exec FunctionDef" => (refine stop_ ?_)
  k_with "y call ref" => (refine stop_ ?_)
  k_with "y binaryOp LShift int int" => (refine stop_ ?_)
  k_with "y binaryOp RShift int int" => (refine stop_ ?_)
  k_with "y FPost" => (dsimp only [FPost])
  k_with "y FEnd" => (refine stop_ ?_)
  k_with "x_mem" => (with_reducible first | exact mm0 | exact mm1 | exact mm2 | exact mm3 | exact mm4 | exact mm5 | exact mm6 | exact mm7 | exact mm8 | assumption | (refine mm_l ?_; walk_at "x_mem") | (refine mm_r ?_; walk_at "x_mem") | (refine mm_t ?_; walk_at "x_mem"))
  k_with "x_in" => (with_reducible first | exact sub_refl | exact sub_first | exact sub_last | exact sub_tail | (refine sub_l ?_; walk_at "x_in") | (refine sub_r ?_; walk_at "x_in") | (refine sub_t ?_; walk_at "x_in"))
  k_with "x_sub" => ((try refine sub_of ?_); (with_reducible first | exact sub_refl | exact sub_nil | (refine sub_cons ?_ ?_; (walk_at "x_mem"); (walk_at "x_sub")) | (refine sub_app ?_ ?_; (walk_at "x_sub"); (walk_at "x_sub")) | walk_at "x_in"))
  k_with "y execs cons" => (first | (k_here; k_gentoks) | (k_here; k_made; walk_at "execs cons") | ((with_reducible refine wpAny_execs_cons ?_); (try dsimp only); (try k_fold)))
  k_with "y newTuple" => ((refine newTuple_L (by assumption) (by assumption) (Nat.le_of_ble_eq_true rfl) ?_); intro _ _ _ _ _ _)
  k_with "y newList" => ((refine newList_L (by assumption) (by assumption) (Nat.le_of_ble_eq_true rfl) ?_); intro _ _ _ _ _ _)
  k_with "y exec For Name Name cons nil" => ((with_unfolding_all refine' For_invVF (by assumption) ?k1 ?k2 ?_); (case k1 => exact rfl); (case k2 => exact rfl))
  k_with "y exec For Name Call cons nil" => ((with_unfolding_all refine' For_invVF (by assumption) ?k1 ?k2 ?_); (case k1 => exact rfl); (case k2 => exact rfl))
  k_with "y exec For Name Subscript cons nil" => ((with_unfolding_all refine' For_invVF (by assumption) ?k1 ?k2 ?_); (case k1 => exact rfl); (case k2 => exact rfl))
  k_with "y exec For Name List cons nil" => ((with_unfolding_all refine' For_invVF (by assumption) ?k1 ?k2 ?_); (case k1 => exact rfl); (case k2 => exact rfl))
  k_with "y exec For Name Attribute cons nil" => ((with_unfolding_all refine' For_invVF (by assumption) ?k1 ?k2 ?_); (case k1 => exact rfl); (case k2 => exact rfl))
  k_with "y pyIter ref" => (refine stop_ ?_)
  k_with "y getItem ref int" => (refine stop_ ?_)
  k_with "y setItem ref int" => (refine stop_ ?_)
  k_with "y subscriptTail Name Name ref int" => (refine stop_ ?_)
  k_with "y subscriptTail Name Constant ref int" => (refine stop_ ?_)
  k_with "y subscriptTail Name BinOp ref int" => (refine stop_ ?_)
  k_with "y subscriptTail Subscript Constant ref int" => (refine stop_ ?_)
  k_with "y subscriptTail List BinOp ref int" => (refine stop_ ?_)
  k_with "y subscriptTail Name Slice ref ref" => (refine stop_ ?_)
  k_with "y binaryOp Add bytes bytes" => (refine stop_ ?_)
  k_with "y binaryOp Add ref ref" => (refine stop_ ?_)
  k_with "y getMethod ref" => (refine stop_ ?_)
  k_with "y getMethod bytes" => (refine stop_ ?_)
  k_with "y call type:tuple" => (refine stop_ ?_)
  k_with "y pyIter str" => (refine stop_ ?_)
  k_with "y eval ListComp" => (refine stop_ ?_)
  k_with "y CEnd" => (refine stop_ ?_)
  k_with "m_clean" => (any_goals first | exact (0 : Addr) | exact PySem.Str.ofString "" | exact Value.none | exact ([] : List (MStr × Addr)))
  exact ⟨trivial, trivial⟩
theorem c_strcoll (w : World) (p : Program) (loose : List PySem.Str) (mean : ExcName → Option Value) (mg mb : PySem.Str → Option Value) (a b : PySem.Str) (ta tb : Tok) :
  Ctr w p loose mean mg mb 38 [.str a ta, .str b tb] [] 1 8 (fun r own => own = [] ∧ ∃ t, r = .int (b2i (decide (b.cps.toList < a.cps.toList)) - b2i (decide (a.cps.toList < b.cps.toList))) t) := by
  unfold Ctr
  k_fill
  intro dp un gd cn cs ad ccd cl outer A₀ base h₀ L m news s Q E B F X N T hk _ hd hu hret
  refine wpAny_call ?_
  k_dflt cell_enter
  k_steps
  exact hret _ [] _ _ (by assumption) (by assumption) own0 ⟨rfl, _, rfl⟩
end Mine
end
section
open PySem PySem.W PyProof.Rows
set_option maxRecDepth 100000
set_option maxHeartbeats 8000000 
namespace Mine
theorem anew10 : True ∧ True := by
  (w_top off)
  k_with_none
  k_with "m_loc" => (refine ⟨?l1, ?l2⟩; (case l1 => (with_unfolding_all (repeat' (first | exact trivial | refine And.intro ⟨_, rfl⟩ ?_)))); (case l2 => (intro z h1 h2; have h3 := h2; (try simp only [List.forall_mem_cons, List.not_mem_nil, false_implies, implies_true, and_true, ne_eq] at h1); (try simp only [List.contains_cons, List.contains_nil, Bool.or_false, Bool.or_eq_false_iff, beq_eq_false_iff_ne, ne_eq] at h2); (simp only [kstB, h1, h2, h3, if_false, Bool.false_eq_true]; done))))
  k_with "m_has" => (with_unfolding_all (repeat' (first | exact trivial | refine And.intro ⟨_, rfl⟩ ?_)))
  k_with "y exec While BoolOp cons nil" => (refine stop_ ?_)
  k_with "y exec While Name cons nil" => (refine stop_ ?_)
  k_with "y WPost" => (dsimp only [WPost])
  k_with "y WEnd" => (refine stop_ ?_)
  k_with "y WDone" => (refine stop_ ?_)
  k_with "y subscriptTail Name Name str int" => (refine KXi.item rfl ?ma ?mb ?mc ?_; (case ma => lia); (case mb => lia); (case mc => lia); intro _)
  k_with "y call builtin:len" => ((with_reducible show wpAny _ _ (call (Value.builtin "len") [Value.str _ _]) _ _ _); refine SBL.len (by lia) ?_)
  k_with "m_sub" => (intro q hq; (repeat (first | exact hq | exact List.Mem.head _ | refine List.Mem.tail _ ?_)))
  k_with "y ite" => (first | refine PySem.W.ite_pos (by with_reducible assumption) ?_ | refine PySem.W.ite_neg (by with_reducible assumption) ?_)
  k_with "y exec FunctionDef" => (refine stop_ ?_)
  k_with "y call ref" => (refine stop_ ?_)
  k_with "y binaryOp LShift int int" => (refine stop_ ?_)
  k_with "y binaryOp RShift int int" => (refine stop_ ?_)
  k_with "y FPost" => (dsimp only [FPost])
  k_with "y FEnd" => (refine stop_ ?_)
  k_with "x_mem" => (with_reducible first | exact mm0 | exact mm1 | exact mm2 | exact mm3 | exact mm4 | exact mm5 | exact mm6 | exact mm7 | exact mm8 | assumption | (refine mm_l ?_; walk_at "x_mem") | (refine mm_r ?_; walk_at "x_mem") | (refine mm_t ?_; walk_at "x_mem"))
  k_with "x_in" => (with_reducible first | exact sub_refl | exact sub_first | exact sub_last | exact sub_tail | (refine sub_l ?_; walk_at "x_in") | (refine sub_r ?_; walk_at "x_in") | (refine sub_t ?_; walk_at "x_in"))
  k_with "x_sub" => ((try refine sub_of ?_); (with_reducible first | exact sub_refl | exact sub_nil | (refine sub_cons ?_ ?_; (walk_at "x_mem"); (walk_at "x_sub")) | (refine sub_app ?_ ?_; (walk_at "x_sub"); (walk_at "x_sub")) | walk_at "x_in"))
  k_with "y execs cons" => (first | (k_here; k_gentoks) | (k_here; k_made; walk_at "execs cons") | ((with_reducible refine wpAny_execs_cons ?_); (try dsimp only); (try k_fold)))
  k_with "y newTuple" => ((refine newTuple_L (by assumption) (by assumption) (Nat.le_of_ble_eq_true rfl) ?_); intro _ _ _ _ _ _)
  k_with "y newList" => ((refine newList_L (by assumption) (by assumption) (Nat.le_of_ble_eq_true rfl) ?_); intro _ _ _ _ _ _)
  k_with "y exec For Name Name cons nil" => ((with_unfolding_all refine' For_invVF (by assumption) ?k1 ?k2 ?_); (case k1 => exact rfl); (case k2 => exact rfl))
  k_with "y exec For Name Call cons nil" => ((with_unfolding_all refine' For_invVF (by assumption) ?k1 ?k2 ?_); (case k1 => exact rfl); (case k2 => exact rfl))
  k_with "y exec For Name Subscript cons nil" => ((with_unfolding_all refine' For_invVF (by assumption) ?k1 ?k2 ?_); (case k1 => exact rfl); (case k2 => exact rfl))
  k_with "y exec For Name List cons nil" => ((with_unfolding_all refine' For_invVF (by assumption) ?k1 ?k2 ?_); (case k1 => exact rfl); (case k2 => exact rfl))
  k_with "y exec For Name Attribute cons nil" => ((with_unfolding_all refine' For_invVF (by assumption) ?k1 ?k2 ?_); (case k1 => exact rfl); (case k2 => exact rfl))
  k_with "y pyIter ref" => (refine stop_ ?_)
  k_with "y getItem ref int" => (refine stop_ ?_)
  k_with "y setItem ref int" => (refine stop_ ?_)
  k_with "y subscriptTail Name Name ref int" => (refine stop_ ?_)
  k_with "y subscriptTail Name Constant ref int" => (refine stop_ ?_)
  k_with "y subscriptTail Name BinOp ref int" => (refine stop_ ?_)
  k_with "y subscriptTail Subscript Constant ref int" => (refine stop_ ?_)
  k_with "y subscriptTail List BinOp ref int" => (refine stop_ ?_)
  k_with "y subscriptTail Name Slice ref ref" => (refine stop_ ?_)
  k_with "y binaryOp Add bytes bytes" => (refine stop_ ?_)
  k_with "y binaryOp Add ref ref" => (refine stop_ ?_)
  k_with "y getMethod ref" => (refine stop_ ?_)
  k_with "y getMethod bytes" => (refine stop_ ?_)
  k_with "y call type:tuple" => (refine stop_ ?_)
  k_with "y pyIter str" => (refine stop_ ?_)
  k_with "y eval ListComp" => (refine stop_ ?_)
  k_with "y CEnd" => (refine stop_ ?_)
  k_with "m_clean" => (any_goals first | exact (0 : Addr) | exact PySem.Str.ofString "" | exact Value.none | exact ([] : List (MStr × Addr)))
  k_with "y call builtin:len" => ((refine W.kun_lenL (Fr.lst ‹Fr _ _ _ _› (by assumption)) ?lk ?lz ?_); (case lk => exact congrArg Int.ofNat ‹_ = _›); (case lz => lia))
  exact ⟨trivial, trivial⟩
/-- what `_law_cells` adds up -/
noncomputable def cellsAt : Nat → List Int → List Int → List Int
  | _, cc, [] => cc
  | i, cc, x :: r => cellsAt (i + 1) (cc.set (i % 6) (cc.getD (i % 6) 0 + x)) r
theorem c_cells (w : World) (p : Program) (loose : List PySem.Str) (mean : ExcName → Option Value) (mg mb : PySem.Str → Option Value) (sl : Addr) (vs : List Value) (ns : List Int) (hi : IntsAre vs ns) (hlen : ns.length < 64) :
  ∀ (dp un : Nat) (gd : Option (List Code)) (cn : MStr) (cs : Scope) (ad : Addr) (ccd : Value) (cl : List (MStr × Addr)) (outer : List Env) (A₀ : Around) (base h₀ : Heap) (L : Addr) (m : MStr → Option Value) (news : List (Addr × Obj)) (s : Shared) (Q E : Value → Shared → Prop),
    h₀.IsList sl vs.toArray → Below A₀ base outer h₀ → Fr h₀ L s.heap m → (hd.heap_39 w.params).In h₀ → News h₀ L s.heap news → Top p loose mean mg mb h₀ → cs.kind = .function →
    dp + 1 < recursionLimit → un + 8 < cLine →
    (∀ (a : Addr) (us : List Value) (nn : Nat) (cc : List Int) (h' : Heap) (tk' : Nat), Fr h₀ L h' m → News h₀ L h' ((a, listOf us.toArray nn) :: news) → (∀ p ∈ news, p.1 < a) → L < a → IntsAre us cc → cc.length = 6 → Q (.ref a) { s with heap := h', toks := tk' }) →
    wpAny (model PySem.Challenge.rw_xj0015_01.row.prog w) (ktrTop dp un gd cn cs L ad ccd cl outer) (call (.ref 106) [.ref sl]) Q E s := by
  k_fill
  intro dp un gd cn cs ad ccd cl outer A₀ base h₀ L m news s Q E hS B F X N T hk hd hu hret
  refine wpAny_call ?_
  k_dflt cell_enter
  rename Addr => L'
  rename Fr h₀ L _ m => FG9
  rename Fr _ _ _ _ => FF9
  have hlt9 := fr_lt FG9 FF9
  have hG := FG9.lst hS
  have hsz : vs.toArray.size = ns.length := by simp [hi.length]
  k_steps
  refine go_ ?_
  rename Fr _ _ _ _ => lF'
  rename News _ _ _ _ => lN'
  rename IsRange _ _ _ _ _ _ _ _ => rg
  rename_i lc _ _ _ _ _ _ _ _ _ _ _ _
  have La : L' < lc := by assumption
  have lb : ∀ p ∈ news, p.1 < lc := by assumption
  have lN2 : ∃ ts : Nat → Tok, News _ _ _ ((lc, listOf [Value.int 400 (ts 0), Value.int 520 (ts 1), Value.int 90 (ts 2), Value.int 210 (ts 3), Value.int 330 (ts 4), Value.int 165 (ts 5)].toArray 0) :: news) := ⟨fun j => match j with | 0 => _ | 1 => _ | 2 => _ | 3 => _ | 4 => _ | _ => _, lN'⟩
  obtain ⟨ts, lN2⟩ := lN2
  refine' forRange (σ := List Value × List Int) (n := ns.length) (fun c => (lc, listOf c.1.toArray 0) :: news) (fun c => []) [PySem.Str.ofString "place"] (fun i c => IntsAre c.1 c.2 ∧ c.2.length = 6) ([_, _, _, _, _, _], [400, 520, 90, 210, 330, 165]) rfl rg ?_ ?_ lF' lN2 trivial ?_ ?_ ?_
  · exact small_up (by lia) (by lia) (by lia) (by lia)
  · rw [rangeSize_one]; split <;> lia
  · exact ⟨.cons _ _ (.cons _ _ (.cons _ _ (.cons _ _ (.cons _ _ (.cons _ _ .nil))))), rfl⟩
  · rintro i ⟨us, cc⟩ t I ts u h tk own hin hz10 hoff hown ho F5 N6
    (try k_fold)
    obtain ⟨p1, p2⟩ := hz10
    dsimp only at p1 p2
    dsimp only [psAt] at F5
    have N7 := news_comm N6
    simp only [List.cons_append] at N7
    have hwl : ∀ p ∈ news ++ own, p.1 ≠ lc := by
      intro p hp
      rcases List.mem_append.mp hp with h | h
      · exact Nat.ne_of_lt (lb p h)
      · have h1 := hown p h
        exact fun e => hoff _ (List.Mem.head _) (by rw [← e]; exact h1)
    have hm : (0 + (i : Int)).fmod 6 = ((i % 6 : Nat) : Int) := by rw [Int.fmod_eq_emod_of_nonneg _ (by decide)]; lia
    clear N6
    k_steps
    rw [hm]
    refine go_ (getN (News.isList N7 (List.Mem.head _)) p1 (by lia) (by lia) (by lia) fun t1 => ?_)
    k_steps
    refine go_ ?_
    rename Fr _ _ _ _ => lF'
    refine tailN (lF'.lst hG) hi (by lia) (by lia) (by lia) fun t2 => ?_
    k_steps
    refine go_ ?_
    rename Fr _ _ _ _ => lF'
    rename News _ _ _ _ => lN'
    refine setN lF' lN' (by lia) (by rw [p1.length]; lia) (by lia) (.head hwl) fun h' F' N' => ?_
    rw [show ((i % 6 : Nat) : Int).toNat = i % 6 from rfl] at N' 
    obtain ⟨tq, N8⟩ : ∃ tq, News _ _ h' ((lc, listOf (us.set (i % 6) (.int (cc.getD (i % 6) 0 + ns.getD (0 + (i : Int)).toNat 0) tq)).toArray 0) :: (news ++ own)) := ⟨_, N'⟩
    clear N'
    k_steps
    refine go_ (fend (us.set (i % 6) (.int (cc.getD (i % 6) 0 + ns.getD (0 + (i : Int)).toNat 0) tq), cc.set (i % 6) (cc.getD (i % 6) 0 + ns.getD (0 + (i : Int)).toNat 0)) (by assumption) N8 ?_ ?_ (by walk_at "m_loc") ⟨IntsAre_set p1 _ _ _, by simpa using p2⟩)
    · intro q hq
      simp only [List.mem_append, List.mem_cons] at hq ⊢
      rcases hq with h | h | h
      · exact .inr (.inr h)
      · exact .inl h
      · exact .inr (.inl h)
    · intro q hq
      rcases List.mem_cons.mp hq with rfl | hq
      · exact hoff (lc, listOf us.toArray 0) (List.Mem.head _)
      · exact hoff q (List.Mem.tail _ hq)
  · rintro ⟨us, cc⟩ ts u h tk hz5 F5 N6
    (try k_fold)
    obtain ⟨p1, p2⟩ := hz5
    dsimp only at p1 p2
    dsimp only [psAt] at F5
    k_steps
    rename News h₀ _ _ _ => kN
    exact hret _ us 0 cc _ _ (by assumption) kN lb (Nat.lt_trans hlt9 La) p1 p2
end Mine
end
section
open PySem PySem.W PyProof.Rows
set_option maxRecDepth 100000
set_option maxHeartbeats 8000000 
namespace Mine
theorem anew11 : True ∧ True := by
  (w_top off)
  k_with_none
  k_with "m_loc" => (refine ⟨?l1, ?l2⟩; (case l1 => (with_unfolding_all (repeat' (first | exact trivial | refine And.intro ⟨_, rfl⟩ ?_)))); (case l2 => (intro z h1 h2; have h3 := h2; (try simp only [List.forall_mem_cons, List.not_mem_nil, false_implies, implies_true, and_true, ne_eq] at h1); (try simp only [List.contains_cons, List.contains_nil, Bool.or_false, Bool.or_eq_false_iff, beq_eq_false_iff_ne, ne_eq] at h2); (simp only [kstB, h1, h2, h3, if_false, Bool.false_eq_true]; done))))
  k_with "m_has" => (with_unfolding_all (repeat' (first | exact trivial | refine And.intro ⟨_, rfl⟩ ?_)))
  k_with "y exec While BoolOp cons nil" => (refine stop_ ?_)
  k_with "y exec While Name cons nil" => (refine stop_ ?_)
  k_with "y WPost" => (dsimp only [WPost])
  k_with "y WEnd" => (refine stop_ ?_)
  k_with "y WDone" => (refine stop_ ?_)
  k_with "y subscriptTail Name Name str int" => (refine KXi.item rfl ?ma ?mb ?mc ?_; (case ma => lia); (case mb => lia); (case mc => lia); intro _)
  k_with "y call builtin:len" => ((with_reducible show wpAny _ _ (call (Value.builtin "len") [Value.str _ _]) _ _ _); refine SBL.len (by lia) ?_)
  k_with "m_sub" => (intro q hq; (repeat (first | exact hq | exact List.Mem.head _ | refine List.Mem.tail _ ?_)))
  k_with "y ite" => (first | refine PySem.W.ite_pos (by with_reducible assumption) ?_ | refine PySem.W.ite_neg (by with_reducible assumption) ?_)
  k_with "y exec FunctionDef" => (refine stop_ ?_)
  k_with "y call ref" => (refine stop_ ?_)
  k_with "y binaryOp LShift int int" => (refine stop_ ?_)
  k_with "y binaryOp RShift int int" => (refine stop_ ?_)
  k_with "y FPost" => (dsimp only [FPost])
  k_with "y FEnd" => (refine stop_ ?_)
  k_with "x_mem" => (with_reducible first | exact mm0 | exact mm1 | exact mm2 | exact mm3 | exact mm4 | exact mm5 | exact mm6 | exact mm7 | exact mm8 | assumption | (refine mm_l ?_; walk_at "x_mem") | (refine mm_r ?_; walk_at "x_mem") | (refine mm_t ?_; walk_at "x_mem"))
  k_with "x_in" => (with_reducible first | exact sub_refl | exact sub_first | exact sub_last | exact sub_tail | (refine sub_l ?_; walk_at "x_in") | (refine sub_r ?_; walk_at "x_in") | (refine sub_t ?_; walk_at "x_in"))
  k_with "x_sub" => ((try refine sub_of ?_); (with_reducible first | exact sub_refl | exact sub_nil | (refine sub_cons ?_ ?_; (walk_at "x_mem"); (walk_at "x_sub")) | (refine sub_app ?_ ?_; (walk_at "x_sub"); (walk_at "x_sub")) | walk_at "x_in"))
  k_with "y execs cons" => (first | (k_here; k_gentoks) | (k_here; k_made; walk_at "execs cons") | ((with_reducible refine wpAny_execs_cons ?_); (try dsimp only); (try k_fold)))
  k_with "y newTuple" => ((refine newTuple_L (by assumption) (by assumption) (Nat.le_of_ble_eq_true rfl) ?_); intro _ _ _ _ _ _)
  k_with "y newList" => ((refine newList_L (by assumption) (by assumption) (Nat.le_of_ble_eq_true rfl) ?_); intro _ _ _ _ _ _)
  k_with "y exec For Name Name cons nil" => ((with_unfolding_all refine' For_invVF (by assumption) ?k1 ?k2 ?_); (case k1 => exact rfl); (case k2 => exact rfl))
  k_with "y exec For Name Call cons nil" => ((with_unfolding_all refine' For_invVF (by assumption) ?k1 ?k2 ?_); (case k1 => exact rfl); (case k2 => exact rfl))
  k_with "y exec For Name Subscript cons nil" => ((with_unfolding_all refine' For_invVF (by assumption) ?k1 ?k2 ?_); (case k1 => exact rfl); (case k2 => exact rfl))
  k_with "y exec For Name List cons nil" => ((with_unfolding_all refine' For_invVF (by assumption) ?k1 ?k2 ?_); (case k1 => exact rfl); (case k2 => exact rfl))
  k_with "y exec For Name Attribute cons nil" => ((with_unfolding_all refine' For_invVF (by assumption) ?k1 ?k2 ?_); (case k1 => exact rfl); (case k2 => exact rfl))
  k_with "y pyIter ref" => (refine stop_ ?_)
  k_with "y getItem ref int" => (refine stop_ ?_)
  k_with "y setItem ref int" => (refine stop_ ?_)
  k_with "y subscriptTail Name Name ref int" => (refine stop_ ?_)
  k_with "y subscriptTail Name Constant ref int" => (refine stop_ ?_)
  k_with "y subscriptTail Name BinOp ref int" => (refine stop_ ?_)
  k_with "y subscriptTail Subscript Constant ref int" => (refine stop_ ?_)
  k_with "y subscriptTail List BinOp ref int" => (refine stop_ ?_)
  k_with "y subscriptTail Name Slice ref ref" => (refine stop_ ?_)
  k_with "y binaryOp Add bytes bytes" => (refine stop_ ?_)
  k_with "y binaryOp Add ref ref" => (refine stop_ ?_)
  k_with "y getMethod ref" => (refine stop_ ?_)
  k_with "y getMethod bytes" => (refine stop_ ?_)
  k_with "y call type:tuple" => (refine stop_ ?_)
  k_with "y pyIter str" => (refine stop_ ?_)
  k_with "y eval ListComp" => (refine stop_ ?_)
  k_with "y CEnd" => (refine stop_ ?_)
  k_with "m_clean" => (any_goals first | exact (0 : Addr) | exact PySem.Str.ofString "" | exact Value.none | exact ([] : List (MStr × Addr)))
  exact ⟨trivial, trivial⟩
noncomputable def BlT (x : List Nat) : Prop := x = [32] ∨ x = [9] ∨ x = [32, 32]
theorem joinW_snoc : ∀ (w : List Nat) (r : List (List Nat × List Nat)) (b y : List Nat), joinW w (r ++ [(b, y)]) = joinW w r ++ b ++ y
  | w, [], b, y => by simp [joinW]
  | w, (c, z) :: r, b, y => by simp [joinW, joinW_snoc z r b y]
theorem ByVals.get : ∀ {vs : List Value} {ws : List (List Nat)}, ByVals vs ws → ∀ (i : Nat) (v : Value), vs[i]? = some v → ∃ x t, ws[i]? = some x ∧ v = .bytes (byt x) t
  | [], [], _, _, _, e => by simp at e
  | v :: vs, x :: xs, h, 0, u, e => by
    obtain ⟨t, rfl⟩ := h.1
    exact ⟨x, t, rfl, by simpa using e.symm⟩
  | v :: vs, x :: xs, h, i + 1, u, e => by simpa using ByVals.get h.2 i u (by simpa using e)
theorem joinW_len {k : Nat} : ∀ (r : List (List Nat × List Nat)) (w : List Nat), w.length ≤ k → (∀ p ∈ r, p.1.length ≤ 2 ∧ p.2.length ≤ k) → (joinW w r).length ≤ (k + 2) * (r.length + 1)
  | [], w, h, _ => by simp [joinW]; lia
  | (b, y) :: r, w, h, hr => by
    have h1 := hr _ (List.Mem.head _)
    have h2 := joinW_len r y h1.2 fun p hp => hr p (List.Mem.tail _ hp)
    simp only [joinW, List.length_append, List.length_cons]
    dsimp only at h1
    rw [Nat.mul_add]
    lia
theorem menu (a b c : Tok) (j : Nat) (h : j < 3) : ∃ x t, [Value.bytes #[32] a, .bytes #[9] b, .bytes #[32, 32] c][j]? = some (.bytes (byt x) t) ∧ BlT x := by
  match j, h with
  | 0, _ => exact ⟨[32], a, rfl, .inl rfl⟩
  | 1, _ => exact ⟨[9], b, rfl, .inr (.inl rfl)⟩
  | 2, _ => exact ⟨[32, 32], c, rfl, .inr (.inr rfl)⟩
theorem c_reply (w : World) (p : Program) (loose : List PySem.Str) (mean : ExcName → Option Value) (mg mb : PySem.Str → Option Value) (lw : Addr) (nn : Nat) (v0 : Value) (vs : List Value) (w0 : List Nat) (ws : List (List Nat)) (hv : ByVals (v0 :: vs) (w0 :: ws)) (hl : ws.length = 5) (hz : ∀ x ∈ w0 :: ws, x.length ≤ 10) (mn : Int) (tm : Tok) :
  Ctr w p loose mean mg mb 113 [.ref lw, .int mn tm] [(lw, listOf (v0 :: vs).toArray nn)] 1 8 (fun r own => own = [] ∧ ∃ t l q, r = .bytes (byt l) t ∧ l = [42, 32, 51, 32, 70, 69, 84, 67, 72, 32, 40, 80, 69, 82, 77, 65, 78, 69, 78, 84, 70, 76, 65, 71, 83, 32, 40, 65, 32, 66, 41, 32, 70, 76, 65, 71, 83, 32, 40] ++ joinW w0 q ++ [41, 41, 32, 66, 79, 68, 89, 32, 40, 65, 32, 66, 41, 32, 70, 76, 65, 71, 83, 32, 40, 67] ∧ q.map (·.2) = ws ∧ ∀ p ∈ q, BlT p.1) := by
  have hvl : vs.length = 5 := by have := hv.length; simp at this; lia
  unfold Ctr
  k_fill
  intro dp un gd cn cs ad ccd cl outer A₀ base h₀ L m news s Q E B F X N T hk hnd hd hu hret
  have hn := hnd _ (List.Mem.head _)
  refine wpAny_call ?_
  k_dflt cell_enter
  rename Addr => L'
  k_steps
  refine go_ ?_
  rename News _ _ _ _ => lN'
  refine tailV (News.isList lN' hn) (by decide) rfl (by decide) ?_
  obtain ⟨t0, rfl⟩ := hv.1
  k_steps
  refine go_ ?_
  rename Fr _ _ _ _ => lF'
  rename News _ _ _ _ => lN'
  refine sliceL (s := ⟨_, _, _, _, _⟩) (zs := vs) lF' lN' (News.isList lN' hn) (by constructor) (by constructor) (by simp [kms_pick, kms_lo, kms_hi]) (by simp; lia) fun lz h1 F1 N1 La lb => ?_
  k_steps
  refine go_ ?_
  rename Fr _ _ _ _ => lF'
  rename News _ _ _ _ => lN'
  refine' forList (σ := List Nat × Int × List (List Nat × List Nat)) (us := vs) (nn := 0) (fun c => (lz, listOf vs.toArray 0) :: news) (fun c => [(PySem.Str.ofString "listed", .byt (byt c.1)), (PySem.Str.ofString "manner", .int c.2.1)]) [PySem.Str.ofString "word"]
    (fun i c => c.1 = joinW w0 c.2.2 ∧ c.2.2.map (·.2) = ws.take i ∧ ∀ p ∈ c.2.2, BlT p.1) (w0, mn, []) ?hh ?hl ?hL ?F ?N ?kk ⟨rfl, rfl, fun _ h => nomatch h⟩ ?_ ?_
  case hh => exact rfl
  case hl => exact News.isList lN' (List.Mem.head _)
  case hL => exact Nat.ne_of_gt La
  case F => exact lF'
  case N => exact lN'
  case kk => walk_at "m_has"
  · rintro i ⟨listed, manner, q⟩ v I ts u h tk own hiv hz10 hoff hown ho F5 N6
    (try k_fold)
    obtain ⟨p1, p2, p3⟩ := hz10
    dsimp only at p1 p2 p3
    dsimp only [psAt, Ab.at] at F5
    have N7 := news_comm N6
    simp only [List.cons_append] at N7
    clear N6
    obtain ⟨x, tx, hx, rfl⟩ := hv.2.get i v hiv
    k_steps
    refine go_ ?_
    have hm0 : 0 ≤ manner.fmod 3 := by rw [Int.fmod_eq_emod_of_nonneg _ (by decide)]; lia
    have hm1 : (manner.fmod 3).toNat < 3 := by rw [Int.fmod_eq_emod_of_nonneg _ (by decide)]; lia
    obtain ⟨bl, tb, hbl, hbt⟩ := menu _ _ _ _ hm1
    rename News _ _ _ _ => lN'
    refine tailV (News.isList lN' (List.Mem.head _)) hm0 hbl (by lia) ?_
    have hq : q.length = i := by
      have := congrArg List.length p2
      have h2 : i < ws.length := by
        have := List.getElem?_eq_some_iff.mp hx
        exact this.1
      simp at this; lia
    have hi5 : i < 5 := by
      have := (List.getElem?_eq_some_iff.mp hx).1
      lia
    have hb2 : bl.length ≤ 2 := by rcases hbt with rfl | rfl | rfl <;> decide
    have hxl : x.length ≤ 10 := hz x (List.Mem.tail _ (List.mem_of_getElem? hx))
    have hll : listed.length ≤ 80 := by
      have := joinW_len (k := 10) q w0 (hz _ (List.Mem.head _)) fun p hp => by
        constructor
        · rcases p3 p hp with h | h | h <;> rw [h] <;> decide
        · have : p.2 ∈ q.map (·.2) := List.mem_map_of_mem hp
          rw [p2] at this
          exact hz _ (List.Mem.tail _ (List.mem_of_mem_take this))
      rw [hq] at this
      rw [p1]
      lia
    k_steps
    refine go_ (badd rfl rfl (by lia) fun t1 k1 => ?_)
    k_steps
    refine go_ (badd rfl rfl (by simp; lia) fun t2 k2 => ?_)
    k_steps
    rename News _ _ _ _ => lN'
    refine go_ (fend (listed ++ bl ++ x, manner.fdiv 3, q ++ [(bl, x)]) (by assumption) lN' ?_ (fun p hp => hoff p hp) (by walk_at "m_loc") ⟨?_, ?_, ?_⟩)
    · intro z hz
      simp only [List.mem_append, List.mem_cons] at hz ⊢
      rcases hz with h | h | h
      · exact .inr (.inr (.inr h))
      · exact .inr (.inl h)
      · exact .inr (.inr (.inl h))
    · dsimp only
      rw [joinW_snoc, p1]
    · dsimp only
      rw [List.map_append, p2, List.take_succ, hx]
      rfl
    · intro z hz
      rcases List.mem_append.mp hz with h | h
      · exact p3 z h
      · rw [List.mem_singleton.mp h]
        exact hbt
  · rintro ⟨listed, manner, q⟩ ts u h tk hz5 F5 N6
    (try k_fold)
    obtain ⟨p1, p2, p3⟩ := hz5
    dsimp only at p1 p2 p3
    dsimp only [psAt, Ab.at] at F5
    rw [hvl, List.take_of_length_le (by lia)] at p2
    have hll : listed.length ≤ 80 := by
      have := joinW_len (k := 10) q w0 (hz _ (List.Mem.head _)) fun p hp => by
        constructor
        · rcases p3 p hp with h | h | h <;> rw [h] <;> decide
        · have : p.2 ∈ q.map (·.2) := List.mem_map_of_mem hp
          rw [p2] at this
          exact hz _ (List.Mem.tail _ this)
      have hq : q.length = 5 := by rw [← hl, ← p2]; simp
      rw [hq] at this
      rw [p1]
      lia
    k_steps
    refine go_ (badd (l := [42, 32, 51, 32, 70, 69, 84, 67, 72, 32, 40, 80, 69, 82, 77, 65, 78, 69, 78, 84, 70, 76, 65, 71, 83, 32, 40, 65, 32, 66, 41, 32, 70, 76, 65, 71, 83, 32, 40]) (by decide +kernel) rfl (by simp; lia) fun t1 k1 => ?_)
    k_steps
    refine go_ (badd (r := [41, 41, 32, 66, 79, 68, 89, 32, 40, 65, 32, 66, 41, 32, 70, 76, 65, 71, 83, 32, 40, 67]) rfl (by decide +kernel) (by simp; lia) fun t2 k2 => ?_)
    k_steps
    rename News h₀ _ _ _ => kN
    refine hret _ [] _ _ (by assumption) (fun z hz => kN z (List.Mem.tail _ hz)) own0 ⟨rfl, _, _, q, rfl, ?_, p2, p3⟩
    rw [p1]
end Mine
end
section
open PySem PySem.W PyProof.Rows
set_option maxRecDepth 100000
set_option maxHeartbeats 8000000 
namespace Mine
theorem anew12 : True ∧ True := by
  (w_top off)
  k_with_none
  k_with "m_loc" => (refine ⟨?l1, ?l2⟩; (case l1 => (with_unfolding_all (repeat' (first | exact trivial | refine And.intro ⟨_, rfl⟩ ?_)))); (case l2 => (intro z h1 h2; have h3 := h2; (try simp only [List.forall_mem_cons, List.not_mem_nil, false_implies, implies_true, and_true, ne_eq] at h1); (try simp only [List.contains_cons, List.contains_nil, Bool.or_false, Bool.or_eq_false_iff, beq_eq_false_iff_ne, ne_eq] at h2); (simp only [kstB, h1, h2, h3, if_false, Bool.false_eq_true]; done))))
  k_with "m_has" => (with_unfolding_all (repeat' (first | exact trivial | refine And.intro ⟨_, rfl⟩ ?_)))
  k_with "y exec While BoolOp cons nil" => (refine stop_ ?_)
  k_with "y exec While Name cons nil" => (refine stop_ ?_)
  k_with "y WPost" => (dsimp only [WPost])
  k_with "y WEnd" => (refine stop_ ?_)
  k_with "y WDone" => (refine stop_ ?_)
  k_with "y subscriptTail Name Name str int" => (refine KXi.item rfl ?ma ?mb ?mc ?_; (case ma => lia); (case mb => lia); (case mc => lia); intro _)
  k_with "y call builtin:len" => ((with_reducible show wpAny _ _ (call (Value.builtin "len") [Value.str _ _]) _ _ _); refine SBL.len (by lia) ?_)
  k_with "m_sub" => (intro q hq; (repeat (first | exact hq | exact List.Mem.head _ | refine List.Mem.tail _ ?_)))
  k_with "y ite" => (first | refine PySem.W.ite_pos (by with_reducible assumption) ?_ | refine PySem.W.ite_neg (by with_reducible assumption) ?_)
  k_with "y exec FunctionDef" => (refine stop_ ?_)
  k_with "y call ref" => (refine stop_ ?_)
  k_with "y binaryOp LShift int int" => (refine stop_ ?_)
  k_with "y binaryOp RShift int int" => (refine stop_ ?_)
  k_with "y FPost" => (dsimp only [FPost])
  k_with "y FEnd" => (refine stop_ ?_)
  k_with "x_mem" => (with_reducible first | exact mm0 | exact mm1 | exact mm2 | exact mm3 | exact mm4 | exact mm5 | exact mm6 | exact mm7 | exact mm8 | assumption | (refine mm_l ?_; walk_at "x_mem") | (refine mm_r ?_; walk_at "x_mem") | (refine mm_t ?_; walk_at "x_mem"))
  k_with "x_in" => (with_reducible first | exact sub_refl | exact sub_first | exact sub_last | exact sub_tail | (refine sub_l ?_; walk_at "x_in") | (refine sub_r ?_; walk_at "x_in") | (refine sub_t ?_; walk_at "x_in"))
  k_with "x_sub" => ((try refine sub_of ?_); (with_reducible first | exact sub_refl | exact sub_nil | (refine sub_cons ?_ ?_; (walk_at "x_mem"); (walk_at "x_sub")) | (refine sub_app ?_ ?_; (walk_at "x_sub"); (walk_at "x_sub")) | walk_at "x_in"))
  k_with "y execs cons" => (first | (k_here; k_gentoks) | (k_here; k_made; walk_at "execs cons") | ((with_reducible refine wpAny_execs_cons ?_); (try dsimp only); (try k_fold)))
  k_with "y newTuple" => ((refine newTuple_L (by assumption) (by assumption) (Nat.le_of_ble_eq_true rfl) ?_); intro _ _ _ _ _ _)
  k_with "y newList" => ((refine newList_L (by assumption) (by assumption) (Nat.le_of_ble_eq_true rfl) ?_); intro _ _ _ _ _ _)
  k_with "y exec For Name Name cons nil" => ((with_unfolding_all refine' For_invVF (by assumption) ?k1 ?k2 ?_); (case k1 => exact rfl); (case k2 => exact rfl))
  k_with "y exec For Name Call cons nil" => ((with_unfolding_all refine' For_invVF (by assumption) ?k1 ?k2 ?_); (case k1 => exact rfl); (case k2 => exact rfl))
  k_with "y exec For Name Subscript cons nil" => ((with_unfolding_all refine' For_invVF (by assumption) ?k1 ?k2 ?_); (case k1 => exact rfl); (case k2 => exact rfl))
  k_with "y exec For Name List cons nil" => ((with_unfolding_all refine' For_invVF (by assumption) ?k1 ?k2 ?_); (case k1 => exact rfl); (case k2 => exact rfl))
  k_with "y exec For Name Attribute cons nil" => ((with_unfolding_all refine' For_invVF (by assumption) ?k1 ?k2 ?_); (case k1 => exact rfl); (case k2 => exact rfl))
  k_with "y pyIter ref" => (refine stop_ ?_)
  k_with "y getItem ref int" => (refine stop_ ?_)
  k_with "y setItem ref int" => (refine stop_ ?_)
  k_with "y subscriptTail Name Name ref int" => (refine stop_ ?_)
  k_with "y subscriptTail Name Constant ref int" => (refine stop_ ?_)
  k_with "y subscriptTail Name BinOp ref int" => (refine stop_ ?_)
  k_with "y subscriptTail Subscript Constant ref int" => (refine stop_ ?_)
  k_with "y subscriptTail List BinOp ref int" => (refine stop_ ?_)
  k_with "y subscriptTail Name Slice ref ref" => (refine stop_ ?_)
  k_with "y binaryOp Add bytes bytes" => (refine stop_ ?_)
  k_with "y binaryOp Add ref ref" => (refine stop_ ?_)
  k_with "y getMethod ref" => (refine stop_ ?_)
  k_with "y getMethod bytes" => (refine stop_ ?_)
  k_with "y call type:tuple" => (refine stop_ ?_)
  k_with "y pyIter str" => (refine stop_ ?_)
  k_with "y eval ListComp" => (refine stop_ ?_)
  k_with "y CEnd" => (refine stop_ ?_)
  k_with "m_clean" => (any_goals first | exact (0 : Addr) | exact PySem.Str.ofString "" | exact Value.none | exact ([] : List (MStr × Addr)))
  k_with "y call builtin:ord" => (refine stop_ ?_)
  k_with "y binaryOp Add str str" => (refine stop_ ?_)
  k_with "y call builtin:str.count" => (refine stop_ ?_)
  k_with "y subscriptTail Name Slice str ref" => (refine stop_ ?_)
  exact ⟨trivial, trivial⟩


theorem c_read (w : World) (p : Program) (loose : List PySem.Str) (mean : ExcName → Option Value) (mg mb : PySem.Str → Option Value) (c : Nat) (wd : List Nat) (t : Tok) (hc : c + wd.length = 6) (hwd : ∀ x ∈ wd, 65 ≤ x ∧ x < 81) (hne : wd ≠ []) :
  CtrP 68 61 4 q2 w p loose mean mg mb 118 [.str (tx (List.replicate c 32 ++ wd)) t] [] 80 700 (fun r own => own = [] ∧ ∃ t', r = .int (rdv wd) t') := by
  unfold CtrP
  k_fill
  intro dp un gd cn cs ad ccd cl outer A₀ base h₀ L m news ent s Q E B F X N ap ok T hk _ hd hu hret
  have N2 : News h₀ L s.heap news := news_sub N (by walk_at "x_sub")
  have N1 : News h₀ L s.heap (tB ent) := news_sub N (by walk_at "x_sub")
  refine wpAny_call ?_
  with_unfolding_all refine' enterRK (pre := tB ent) (r := news) B F X N1 T N2 ap rfl rfl hk ?ho ?hcd ?room ?hb ?hloc ?_ ?e1 ?e2 ?e3 ?hcell
  case ho => k_is
  case hcd => k_is
  case room => ktr_room
  case hb => exact BindsTo.of_eq rfl
  case hloc => exact locs rfl
  case hcell => decide
  case e1 => exact rfl
  case e2 => exact rfl
  case e3 => exact rfl
  intro g L' h₁ FG' F' N' B' X' T' st hr l1
  try dsimp only
  try k_fold
  k_steps
  refine go_ (sadd (b := [32, 32]) rfl (by decide +kernel) (by simp; lia) fun t1 k1 => ?_)
  k_steps
  refine go_ (KXw.count (i := (c : Int)) ?_ fun t2 k2 => ?_)
  · rw [count_tx, List.count_append, List.count_replicate_self]
    have : wd.count 32 = 0 := List.count_eq_zero.mpr fun h => by have := hwd 32 h; lia
    rw [this]; rfl
  k_steps
  refine go_ ?_
  have hh1 : wd.head? ≠ some 32 := fun h => by
    have := hwd 32 (List.mem_of_mem_head? (by rw [h]; rfl)); lia
  have hh2 : wd.getLast? ≠ some 32 := fun h => by
    have := hwd 32 (List.mem_of_getLast? h); lia
  (try k_fold)
  k_dflt refine' (c_strip w p loose mean mg mb _ _ _ _ c 2 wd (by rw [List.append_assoc]; rfl) hne hh1 hh2 (by lia) (by lia) (by lia)) _ _ _ _ _ _ _ _ _ _ _ _ _ _ _ _ _ _ (by k_asm) (by k_asm) (by k_asm) (by k_asm) (by k_asm) rfl (fun _ h => nomatch h) ?rm ?un (pv fun t3 h2 tk2 F2 N3 => ?_)
  case rm => exact lt_add hd (by decide)
  case un => exact lt_add hu (by decide)
  have e1 : List.replicate (c - ((c : Int) + 1).toNat) 32 ++ (wd ++ List.replicate (2 - (((c : Int) + 1).toNat - c)) 32) = wd ++ [32] := by
    rw [zs c, show c - (c + 1) = 0 by lia, show 2 - (c + 1 - c) = 1 by lia]; rfl
  rw [e1]
  k_steps
  refine go_ (compL (h₀ := g) (cl := []) ?hclos ?hcell rfl ?hnames rfl ?_)
  case hclos => with_unfolding_all rfl
  case hcell => decide
  case hnames => decide
  k_steps
  refine go_ ?_
  rename Fr _ _ _ _ => lF'
  rename News _ _ _ _ => lN'
  refine slice_strK_sn (hsz := ?hsz) (s := ⟨_, _, _, _, _⟩) lF' lN' (by decide) ?_
  case hsz => rw [tx_len, sizeLine_eq]; simp; lia
  rw [rev_tx]
  intro h3 t4 k4 F3 N4
  k_steps
  refine go_ ?_
  rename Fr _ _ _ _ => lF'
  rename News _ _ _ _ => lN'
  refine' compStr (σ := Unit) (fun _ => tB ent) (fun i _ ys => IntsAre ys ((wd.reverse.take i).map fun z => ((z - 65 : Nat) : Int))) () rfl ?hz lF' lN' ?hp ?_ ?_
  case hz => simp; lia
  case hp => exact .nil
  · intro i _ v ys C D I oL E' h tk own nn hv hlen hpc hoff hown hC hD hDC hI hns hLC F5 N5
    (try k_fold)
    obtain ⟨a, u, ha, rfl⟩ := hv
    k_steps
    walk_at "m_clean"
    refine go_ ?_
    refine ord_of_one (tx_len [a]) ?_
    have ha65 : 65 ≤ a := (hwd a (List.mem_reverse.mp (List.mem_of_getElem? ha))).1
    have hsnoc : (wd.reverse.take (i + 1)).map (fun z => ((z - 65 : Nat) : Int)) = (wd.reverse.take i).map (fun z => ((z - 65 : Nat) : Int)) ++ [((a - 65 : Nat) : Int)] := by
      rw [List.take_add_one, ha]; simp
    k_steps
    rename Fr _ _ _ _ => lF'
    rename News _ _ _ _ => lN'
    refine go_ (cend () lF' lN' (fun p hp => hp) hoff ?_)
    rw [hsnoc]
    have e9 : ((#[a].getD 0 0 : Nat) : Int) - 65 = ((a - 65 : Nat) : Int) := by
      show ((a : Nat) : Int) - 65 = _
      lia
    rw [e9]
    exact IntsAre.append hpc (.cons _ _ .nil)
  · intro D h5 tk5 ys _ nn hD F5 N5 hne5 hlen hpc
    dsimp only at F5
    rw [List.take_length] at hpc
    have hDL : L' < D := Nat.lt_of_lt_of_le lF'.ns.lt hD
    k_steps
    refine go_ ?_
    rename Fr _ _ _ _ => lF'
    rename News _ _ _ _ => lN'
    have lN2 : News g L' _ (tB ent ++ [(D, listOf ys.toArray nn)]) := news_sub lN' (by intro q hq; simp only [List.mem_append, List.mem_cons, List.not_mem_nil, or_false] at hq ⊢; exact hq.symm)
    have ap9 : Apart (tB ent) [(D, listOf ys.toArray nn)] := by
      intro q hq r hr2
      rw [List.mem_singleton.mp hq]
      exact (hne5 r hr2).symm
    (try k_fold)
    k_dflt refine' (c_digits2int w p loose mean mg mb D ys nn _ 4 _ hpc (fun d hd => ?dd) (by decide) (by simp; lia)) _ _ _ _ _ _ _ _ _ _ _ _ _ _ [(D, listOf ys.toArray nn)] ent _ _ _ (by k_asm) (by k_asm) (by k_asm) lN2 ap9 ok (by k_asm) rfl (fun q hq => hq) ?rm ?un (pvP fun t5 c2 h5 tk5 F7 N11 apC okB => ?_)
    case dd =>
      obtain ⟨z, hz, rfl⟩ := List.mem_map.mp hd
      have := hwd z (List.mem_reverse.mp hz)
      lia
    case rm => exact lt_add hd (by decide)
    case un => exact lt_add hu (by decide)
    k_steps
    rename News h₀ _ _ _ => kN
    have apR := apart_of N11 hr
    intro hnews
    refine hret _ [] c2 _ _ (by assumption) ?_ ?_ okB own0 ⟨rfl, _, rfl⟩
    · intro q hq
      simp only [List.nil_append, List.mem_append] at hq
      rcases hq with h | h
      · exact kN _ (List.mem_append_left _ h)
      · exact hnews _ h
    · intro q hq r hr2
      rw [List.nil_append] at hq
      exact apR q hq r (List.mem_append_left _ hr2)
end Mine
end
section
open PySem PySem.W PyProof.Rows
theorem Mine.plain13 : True ∧ True := by
  (w_top off)
  k_with_none
  exact ⟨trivial, trivial⟩
end
section
open PySem PySem.W PySem.Calls PyProof.Rows
set_option maxRecDepth 100000
namespace Mine
theorem c_readN (w : World) (p : Program) (loose : List PySem.Str) (mean : ExcName → Option Value) (mg mb : PySem.Str → Option Value) (n : Nat) (t : Tok) (h0 : 0 < n) (h1 : n < 16 ^ 6) :
    CtrP 68 61 4 q2 w p loose mean mg mb 118 [.str (tx (lineL n)) t] [] 80 700 (fun r own => own = [] ∧ ∃ t', r = .int (n : Int) t') := by
  have hl := apL_len h1
  have := c_read w p loose mean mg mb (6 - (apL n).length) (apL n) t (by lia) (fun x hx => apL_mem hx) (ap_ne (by lia))
  rw [rdv_ap] at this
  exact this
theorem c_collN (w : World) (p : Program) (loose : List PySem.Str) (mean : ExcName → Option Value) (mg mb : PySem.Str → Option Value) (x y : Nat) (tx' ty : Tok) (hx : x < 16 ^ 6) (hy : y < 16 ^ 6) :
    Ctr w p loose mean mg mb 38 [.str (tx (lineL x)) tx', .str (tx (lineL y)) ty] [] 1 8 (fun r own => own = [] ∧ ∃ t, r = .int (cmpN x y) t) := by
  have := c_strcoll w p loose mean mg mb (tx (lineL x)) (tx (lineL y)) tx' ty
  rw [coll_line hx hy] at this
  exact this
theorem Apart.sub {t r r' : List (Addr × Obj)} (h : Apart t r) (s : ∀ q ∈ r', ∃ q' ∈ r, q'.1 = q.1) : Apart t r' := fun q hq p hp e => by
  obtain ⟨q', h1, h2⟩ := s q hq
  exact h q' h1 p hp (h2.trans e)
theorem Apart.cons {t r : List (Addr × Obj)} {a : Addr} {o : Obj} (h : Apart t r) (s : ∀ q ∈ t, q.1 < a) : Apart t ((a, o) :: r) := fun q hq p hp e => by
  rcases List.mem_cons.mp hq with rfl | hq
  · exact Nat.lt_irrefl _ (e ▸ s p hp)
  · exact h q hq p hp e
noncomputable def natsI (l : List Nat) : List Int := l.map fun n : Nat => (n : Int)
theorem natsI_set (l : List Nat) (k n : Nat) : (natsI l).set k (n : Int) = natsI (l.set k n) := by
  unfold natsI; rw [List.map_set]
theorem natsI_getD (l : List Nat) (k : Nat) : (natsI l).getD k 0 = ((l.getD k 0 : Nat) : Int) := by
  unfold natsI
  rw [List.getD_eq_getElem?_getD, List.getD_eq_getElem?_getD, List.getElem?_map]
  cases l[k]? <;> rfl
theorem natsI_append (a b : List Nat) : natsI (a ++ b) = natsI a ++ natsI b := by unfold natsI; rw [List.map_append]
noncomputable def Lns : List Value → List Nat → Prop
  | [], [] => True
  | v :: vs, x :: xs => (∃ t, v = .str (tx (lineL x)) t) ∧ Lns vs xs
  | _, _ => False
theorem Lns.len : ∀ {vs : List Value} {ws : List Nat}, Lns vs ws → vs.length = ws.length
  | [], [], _ => rfl
  | _ :: _, _ :: _, h => by simp [Lns.len h.2]
theorem Lns.get : ∀ {vs : List Value} {ws : List Nat}, Lns vs ws → ∀ (i : Nat) (x : Nat), ws[i]? = some x → ∃ t, vs[i]? = some (.str (tx (lineL x)) t)
  | [], [], _, _, _, e => nomatch e
  | _ :: _, _ :: _, h, 0, x, e => by
    obtain ⟨t, rfl⟩ := h.1
    exact ⟨t, by rw [← Option.some.inj e]; rfl⟩
  | _ :: _, _ :: _, h, i + 1, x, e => Lns.get h.2 i x e
end Mine
end
section
open PySem PySem.W PySem.Calls PyProof.Rows PyProof.V PySem.Spec
set_option maxRecDepth 100000
namespace Mine
noncomputable def bitsN (t l : Nat) : List Nat := (List.range l).map fun k => t / 2 ^ k % 2
/-- a level's word: its place's figures, the highest first, as letters -/
noncomputable def wordN (t l : Nat) : List Nat := (bitsN t l).reverse.map (65 + ·)
noncomputable def pw (top : Nat) (l : List Nat) : Nat := (l.map fun x => 2 ^ (top - x)).sum
noncomputable def turnAt (lev : List Nat) (top i : Nat) : Nat := pw top (lev.take i) / 2 ^ (top - lev.getD i 0)
noncomputable def wordAt (lev : List Nat) (top i : Nat) : List Nat := wordN (turnAt lev top i) (lev.getD i 0)
/-- what levels must be for their codes to be told -/
noncomputable def OkLev (lev : List Nat) (top : Nat) : Prop :=
  lev.length = 6 ∧ (∀ l ∈ lev, 1 ≤ l ∧ l ≤ top) ∧ top ∈ lev ∧ top ≤ 5 ∧ (∀ i, i < 6 → pw top (lev.take i) % 2 ^ (top - lev.getD i 0) = 0 ∧ turnAt lev top i < 2 ^ lev.getD i 0) ∧ pw top lev = 2 ^ top ∧
    (∀ k, k < 5 → wordAt lev top k ++ List.replicate top 66 < wordAt lev top (k + 1) ∧ wordAt lev top k < wordAt lev top (k + 1) ++ List.replicate top 65)
theorem wordN_len (t l : Nat) : (wordN t l).length = l := by simp [wordN, bitsN]
theorem wordN_small (t l : Nat) : ∀ x ∈ wordN t l, x < 128 := by
  intro x hx
  simp only [wordN, bitsN, List.mem_map, List.mem_reverse] at hx
  obtain ⟨y, ⟨k, _, rfl⟩, rfl⟩ := hx
  lia
theorem figs_eq (t l : Nat) (h : t < 2 ^ l) : digs 1 (l + 1) (t + 2 ^ l) = natsI (bitsN t l ++ [1]) := by
  apply List.ext_getElem?
  intro i
  by_cases hi : i < l + 1
  · have h1 := digs_getD 1 (l + 1) (t + 2 ^ l) i hi
    rw [List.getD_eq_getElem?_getD] at h1
    have hl : i < (digs 1 (l + 1) (t + 2 ^ l)).length := by rw [digs_len]; exact hi
    have hr : i < (natsI (bitsN t l ++ [1])).length := by simp [natsI, bitsN]; lia
    rw [List.getElem?_eq_getElem hl] at h1 ⊢
    rw [List.getElem?_eq_getElem hr]
    congr 1
    rw [Option.getD_some] at h1
    rw [h1]
    simp only [natsI, bitsN, List.getElem_map]
    congr 1
    rw [Nat.one_mul, Nat.pow_one]
    by_cases hil : i < l
    · rw [List.getElem_append_left (by simpa using hil)]
      simp only [List.getElem_map, List.getElem_range]
      have : (t + 2 ^ l) / 2 ^ i = t / 2 ^ i + 2 ^ (l - i) := by
        have e : 2 ^ l = 2 ^ i * 2 ^ (l - i) := by rw [← Nat.pow_add]; congr 1; lia
        rw [e, Nat.add_mul_div_left _ _ (Nat.pow_pos (by decide))]
      rw [this]
      have e2 : 2 ^ (l - i) = 2 * 2 ^ (l - i - 1) := by rw [← Nat.pow_succ']; congr 1; lia
      lia
    · have hil2 : i = l := by lia
      subst hil2
      rw [List.getElem_append_right (by simp)]
      simp only [List.length_map, List.length_range, Nat.sub_self, List.getElem_cons_zero]
      have : (t + 2 ^ i) / 2 ^ i = 1 := by
        rw [Nat.add_div_right _ (Nat.pow_pos (by decide)), Nat.div_eq_of_lt h]
      rw [this]
  · rw [List.getElem?_eq_none (by rw [digs_len]; lia), List.getElem?_eq_none (by simp [natsI, bitsN]; lia)]
theorem bits_log {n : Nat} (h : n ≠ 0) : Builtin.Int.intBits (n : Int) = n.log2 + 1 := by
  unfold Builtin.Int.intBits
  rw [if_neg (by simpa using h)]
  simp
theorem bits_word (t l : Nat) (h : t < 2 ^ l) : Builtin.Int.intBits ((t + 2 ^ l : Nat) : Int) = l + 1 := by
  have h0 : t + 2 ^ l ≠ 0 := by have : 0 < 2 ^ l := Nat.pow_pos (by decide); lia
  rw [bits_log h0, (Nat.log2_eq_iff (k := l) h0).mpr ⟨by lia, by rw [Nat.pow_succ]; lia⟩]
noncomputable def nv : List Nat → Nat
  | [] => 0
  | d :: r => d + 16 * nv r
theorem dval_nv : ∀ l : List Nat, dval 4 (natsI l) = (nv l : Int)
  | [] => rfl
  | d :: r => by
    show (d : Int) + 2 ^ 4 * dval 4 (natsI r) = _
    rw [dval_nv r]
    show _ = ((d + 16 * nv r : Nat) : Int)
    lia
theorem ap_nv : ∀ (l : List Nat) (c : Nat), (∀ d ∈ l, d < 16) → 0 < c → c < 16 → nv (l ++ [c]) ≠ 0 ∧ apL (nv (l ++ [c])) = (65 + c) :: l.reverse.map (65 + ·)
  | [], c, _, h0, h1 => by
    refine ⟨by show c + 16 * 0 ≠ 0; lia, ?_⟩
    show apL (c + 16 * 0) = _
    rw [apL_pos (by lia), show (c + 16 * 0) / 16 = 0 by lia, apL_zero]
    show [65 + (c + 16 * 0) % 16] = [65 + c]
    congr 1; lia
  | d :: r, c, hl, h0, h1 => by
    obtain ⟨i1, i2⟩ := ap_nv r c (fun x hx => hl x (.tail _ hx)) h0 h1
    have hd := hl d (.head _)
    have e : nv (d :: r ++ [c]) = d + 16 * nv (r ++ [c]) := rfl
    rw [e]
    refine ⟨by lia, ?_⟩
    rw [apL_pos (by lia), show (d + 16 * nv (r ++ [c])) / 16 = nv (r ++ [c]) by lia, show (d + 16 * nv (r ++ [c])) % 16 = d by lia, i2]
    simp
theorem nv_lt : ∀ (l : List Nat), (∀ d ∈ l, d < 16) → nv l < 16 ^ l.length
  | [], _ => by decide
  | d :: r, hl => by
    have h1 := nv_lt r fun x hx => hl x (.tail _ hx)
    have hd := hl d (.head _)
    show d + 16 * nv r < 16 ^ (r.length + 1)
    rw [Nat.pow_succ]; lia
theorem bitsN_small (t l : Nat) : ∀ d ∈ bitsN t l, d < 2 := by
  intro d hd
  simp only [bitsN, List.mem_map] at hd
  obtain ⟨k, _, rfl⟩ := hd
  lia
theorem ap_word (t l : Nat) : apL (nv (bitsN t l ++ [1])) = 66 :: wordN t l :=
  (ap_nv (bitsN t l) 1 (fun d hd => by have := bitsN_small t l d hd; lia) (by decide) (by decide)).2
theorem sameT (ns ms : List Int) : PySem.Spec.same (.tuple (ns.map PyData.int)) (.tuple (ms.map PyData.int)) = decide (ns = ms) := by
  simp only [PySem.Spec.same]; exact ke_sameAll ns ms
theorem shapedT (ns : List Int) : SeqAt.shaped (.tuple (ns.map PyData.int)) = true := by
  simp [SeqAt.shaped, PyData.canLay0, PyData.depth, ke_canLayAll0, ke_depthAll]
theorem readsI {h : Heap} : ∀ {vs : List Value} {ns : List Int}, IntsAre vs ns → ∃ as, ReadsAll h vs (ns.map PyData.int) as
  | _, _, .nil => ⟨_, .nil⟩
  | _, _, .cons n t r => by
    obtain ⟨as, q⟩ := readsI (h := h) r
    exact ⟨_, .cons (Reads.int n t) q⟩
section
variable {prog : Program} {w : World} {A : Around} {E : Value → Shared → Prop} {s : Shared} {h₀ : Heap} {L a b : Addr} {news : List (Addr × Obj)} {xs ys : List Value} {ns ms : List Int} {k1 k2 : Nat} {Q : Value → Shared → Prop}
theorem neT (N : News h₀ L s.heap news) (ha : (a, ({ cls := .type "tuple", data := .seq xs.toArray k1 } : Obj)) ∈ news) (hb : (b, ({ cls := .type "tuple", data := .seq ys.toArray k2 } : Obj)) ∈ news) (hi : IntsAre xs ns) (hj : IntsAre ys ms) (hu : A.units + 64 < cLine)
    (h : Q (.bool (!decide (ns = ms))) s) : wpAny (model prog w) A (compareOp .NotEq (.ref a) (.ref b)) Q E s := by
  obtain ⟨as, r1⟩ := readsI (h := s.heap) hi
  obtain ⟨bs, r2⟩ := readsI (h := s.heap) hj
  exact ne_dataH_same (reads_tuple_at (N.get ha) rfl rfl (by simpa using r1)) (reads_tuple_at (N.get hb) rfl rfl (by simpa using r2)) (shapedT _) (shapedT _) hu (SeqAt.noMix_of_shape (.tuples .int) rfl _ _ (tuples_map_has fun _ => rfl) (tuples_map_has fun _ => rfl)) (by rw [sameT]; exact h)
end
theorem mulB (x : Nat) (n : Nat) : Txt.mul (tx [x]) (n : Int) = tx (List.replicate n x) := by
  unfold Txt.mul
  by_cases h : n = 0
  · subst h; rfl
  · rw [if_neg (by lia)]
    by_cases h1 : n = 1
    · subst h1; rfl
    · have : ((n : Int) == 1 || (tx [x]).length == 0) = false := by
        rw [tx_len]
        simp; lia
      rw [if_neg (by rw [this]; simp), Int.toNat_natCast]
      show (⟨_⟩ : PySem.Str) = ⟨_⟩
      congr 1
      have key : ∀ (k : Nat) (acc : Array Nat), (List.replicate k (tx [x]).cps).foldl (· ++ ·) acc = acc ++ (List.replicate k x).toArray := by
        intro k
        induction k with
        | zero => intro acc; simp
        | succ k ih =>
          intro acc
          rw [List.replicate_succ, List.foldl_cons, ih]
          apply Array.toList_inj.mp
          simp [tx, List.replicate_succ]
      rw [key]
      simp
theorem coll_lt {a b : List Nat} (h : a < b) : b2i (decide ((tx b).cps.toList < (tx a).cps.toList)) - b2i (decide ((tx a).cps.toList < (tx b).cps.toList)) = -1 := by
  have h1 : ¬ b < a := List.lt_asymm h
  have d1 : decide ((tx b).cps.toList < (tx a).cps.toList) = false := decide_eq_false (by simpa using h1)
  have d2 : decide ((tx a).cps.toList < (tx b).cps.toList) = true := decide_eq_true (by simpa using h)
  rw [d1, d2]; decide
end Mine
end
section
open PySem PySem.W PyProof.Rows
set_option maxRecDepth 100000
set_option maxHeartbeats 8000000 
namespace Mine
theorem anew13 : True ∧ True := by
  (w_top off)
  k_with_none
  k_with "m_loc" => (refine ⟨?l1, ?l2⟩; (case l1 => (with_unfolding_all (repeat' (first | exact trivial | refine And.intro ⟨_, rfl⟩ ?_)))); (case l2 => (intro z h1 h2; have h3 := h2; (try simp only [List.forall_mem_cons, List.not_mem_nil, false_implies, implies_true, and_true, ne_eq] at h1); (try simp only [List.contains_cons, List.contains_nil, Bool.or_false, Bool.or_eq_false_iff, beq_eq_false_iff_ne, ne_eq] at h2); (simp only [kstB, h1, h2, h3, if_false, Bool.false_eq_true]; done))))
  k_with "m_has" => (with_unfolding_all (repeat' (first | exact trivial | refine And.intro ⟨_, rfl⟩ ?_)))
  k_with "y exec While BoolOp cons nil" => (refine stop_ ?_)
  k_with "y exec While Name cons nil" => (refine stop_ ?_)
  k_with "y WPost" => (dsimp only [WPost])
  k_with "y WEnd" => (refine stop_ ?_)
  k_with "y WDone" => (refine stop_ ?_)
  k_with "y subscriptTail Name Name str int" => (refine KXi.item rfl ?ma ?mb ?mc ?_; (case ma => lia); (case mb => lia); (case mc => lia); intro _)
  k_with "y call builtin:len" => ((with_reducible show wpAny _ _ (call (Value.builtin "len") [Value.str _ _]) _ _ _); refine SBL.len (by lia) ?_)
  k_with "m_sub" => (intro q hq; (repeat (first | exact hq | exact List.Mem.head _ | refine List.Mem.tail _ ?_)))
  k_with "y ite" => (first | refine PySem.W.ite_pos (by with_reducible assumption) ?_ | refine PySem.W.ite_neg (by with_reducible assumption) ?_)
  k_with "y exec FunctionDef" => (refine stop_ ?_)
  k_with "y call ref" => (refine stop_ ?_)
  k_with "y binaryOp LShift int int" => (refine stop_ ?_)
  k_with "y binaryOp RShift int int" => (refine stop_ ?_)
  k_with "y FPost" => (dsimp only [FPost])
  k_with "y FEnd" => (refine stop_ ?_)
  k_with "x_mem" => (with_reducible first | exact mm0 | exact mm1 | exact mm2 | exact mm3 | exact mm4 | exact mm5 | exact mm6 | exact mm7 | exact mm8 | assumption | (refine mm_l ?_; walk_at "x_mem") | (refine mm_r ?_; walk_at "x_mem") | (refine mm_t ?_; walk_at "x_mem"))
  k_with "x_in" => (with_reducible first | exact sub_refl | exact sub_first | exact sub_last | exact sub_tail | (refine sub_l ?_; walk_at "x_in") | (refine sub_r ?_; walk_at "x_in") | (refine sub_t ?_; walk_at "x_in"))
  k_with "x_sub" => ((try refine sub_of ?_); (with_reducible first | exact sub_refl | exact sub_nil | (refine sub_cons ?_ ?_; (walk_at "x_mem"); (walk_at "x_sub")) | (refine sub_app ?_ ?_; (walk_at "x_sub"); (walk_at "x_sub")) | walk_at "x_in"))
  k_with "y execs cons" => (first | (k_here; k_gentoks) | (k_here; k_made; walk_at "execs cons") | ((with_reducible refine wpAny_execs_cons ?_); (try dsimp only); (try k_fold)))
  k_with "y newTuple" => ((refine newTuple_L (by assumption) (by assumption) (Nat.le_of_ble_eq_true rfl) ?_); intro _ _ _ _ _ _)
  k_with "y newList" => ((refine newList_L (by assumption) (by assumption) (Nat.le_of_ble_eq_true rfl) ?_); intro _ _ _ _ _ _)
  k_with "y exec For Name Name cons nil" => ((with_unfolding_all refine' For_invVF (by assumption) ?k1 ?k2 ?_); (case k1 => exact rfl); (case k2 => exact rfl))
  k_with "y exec For Name Call cons nil" => ((with_unfolding_all refine' For_invVF (by assumption) ?k1 ?k2 ?_); (case k1 => exact rfl); (case k2 => exact rfl))
  k_with "y exec For Name Subscript cons nil" => ((with_unfolding_all refine' For_invVF (by assumption) ?k1 ?k2 ?_); (case k1 => exact rfl); (case k2 => exact rfl))
  k_with "y exec For Name List cons nil" => ((with_unfolding_all refine' For_invVF (by assumption) ?k1 ?k2 ?_); (case k1 => exact rfl); (case k2 => exact rfl))
  k_with "y exec For Name Attribute cons nil" => ((with_unfolding_all refine' For_invVF (by assumption) ?k1 ?k2 ?_); (case k1 => exact rfl); (case k2 => exact rfl))
  k_with "y pyIter ref" => (refine stop_ ?_)
  k_with "y getItem ref int" => (refine stop_ ?_)
  k_with "y setItem ref int" => (refine stop_ ?_)
  k_with "y subscriptTail Name Name ref int" => (refine stop_ ?_)
  k_with "y subscriptTail Name Constant ref int" => (refine stop_ ?_)
  k_with "y subscriptTail Name BinOp ref int" => (refine stop_ ?_)
  k_with "y subscriptTail Subscript Constant ref int" => (refine stop_ ?_)
  k_with "y subscriptTail List BinOp ref int" => (refine stop_ ?_)
  k_with "y subscriptTail Name Slice ref ref" => (refine stop_ ?_)
  k_with "y binaryOp Add bytes bytes" => (refine stop_ ?_)
  k_with "y binaryOp Add ref ref" => (refine stop_ ?_)
  k_with "y getMethod bytes" => (refine stop_ ?_)
  k_with "y call type:tuple" => (refine stop_ ?_)
  k_with "y pyIter str" => (refine stop_ ?_)
  k_with "y eval ListComp" => (refine stop_ ?_)
  k_with "y CEnd" => (refine stop_ ?_)
  k_with "m_clean" => (any_goals first | exact (0 : Addr) | exact PySem.Str.ofString "" | exact Value.none | exact ([] : List (MStr × Addr)))
  k_with "y eval Name" => ((with_reducible show wpAny _ _ (eval (.Name _ _) (compEnvC _ _ _ _)) _ _ _); (refine' nameCell ?k1 ?k2 ?k3 ‹News _ _ _ _› ?k5 ?k6 ?_); (case k1 => exact rfl); (case k2 => with_unfolding_all rfl); (case k3 => with_unfolding_all rfl); (case k5 => (repeat (first | exact List.Mem.head _ | refine List.Mem.tail _ ?_))); (case k6 => assumption))
  k_with "m_has" => (with_unfolding_all (repeat' (first | exact trivial | refine And.intro ⟨0, rfl⟩ ?_ | refine And.intro ⟨_, rfl⟩ ?_)))
  k_with "m_loc" => (refine ⟨?l1, ?l2⟩; (case l1 => walk_at "m_has"); (case l2 => (intro z h1 h2; have h3 := h2; (try simp only [List.forall_mem_cons, List.not_mem_nil, false_implies, implies_true, and_true, ne_eq] at h1); (try simp only [List.contains_cons, List.contains_nil, Bool.or_false, Bool.or_eq_false_iff, beq_eq_false_iff_ne, ne_eq] at h2); (first | (simp only [kstB, h1, h2, h3, if_false, Bool.false_eq_true]; done) | (simp [kstB, h1, h2, h3]; done)))))
  k_with "y exec Assign cons ListComp" => (refine stop_ ?_)
  k_with "y call builtin:len" => (refine stop_ ?_)
  k_with "y call builtin:sum" => (refine stop_ ?_)
  k_with "y call builtin:min" => (refine stop_ ?_)
  k_with "y call builtin:list.append" => (refine stop_ ?_)
  k_with "y exec For Name Call cons nil" => (refine For_G ?_)
  k_with "y binaryOp Mult ref int" => (refine stop_ ?_)
  k_with "y subscriptTail Subscript Name ref int" => (refine stop_ ?_)
  k_with "y subscriptTail Subscript BinOp ref int" => (refine stop_ ?_)
  k_with "y subscriptTail Name UnaryOp ref int" => (refine stop_ ?_)
  k_with "y subscriptTail Subscript Constant ref int" => (refine stop_ ?_)
  exact ⟨trivial, trivial⟩
/-- a row of `best` -/
structure RW where
  a : Addr
  us : List Value
  nn : Nat
  ds : List Int
noncomputable def RW.ent (r : RW) : Addr × Obj := (r.a, listOf r.us.toArray r.nn)
/-- what `_law_cheapest` holds between its turns -/
structure S1 where
  rows : List RW
  nb : Nat
  oS : Obj
  oK : Obj
noncomputable def S1.led (c1 c2 c3 : Addr) (oB : Obj) (ba : Addr) (news : List (Addr × Obj)) (st : S1) : List (Addr × Obj) :=
  (c1, oB) :: (c2, st.oS) :: (c3, st.oK) :: (ba, listOf (st.rows.map fun r => Value.ref r.a).toArray st.nb) :: (st.rows.map RW.ent ++ news)
noncomputable def S1.ok (ws : List Int) (ba c3 : Addr) (i : Nat) (st : S1) : Prop :=
  st.rows.length = i + 1 ∧ (∃ v, st.oS.data = .cell v) ∧ (∃ v, st.oK.data = .cell v) ∧ (∀ r ∈ st.rows, c3 < r.a ∧ r.a ≠ ba) ∧
    ∀ (j : Nat) (r : RW), st.rows[j]? = some r → IntsAre r.us r.ds ∧ r.ds.length = 6 - j ∧ ∀ k, k + (j + 1) ≤ 6 → Best ((ws.drop k).take (j + 1)) (r.ds.getD k 0)
/-- what its inner loop holds between its turns -/
structure S2 where
  tl : List Value
  tn : Nat
  td : List Int
  oK : Obj
noncomputable def S2.led (c1 c2 c3 : Addr) (oB : Obj) (ba : Addr) (oS ob : Obj) (ta : Addr) (rest : List (Addr × Obj)) (st : S2) : List (Addr × Obj) :=
  (c3, st.oK) :: (ta, listOf st.tl.toArray st.tn) :: (c1, oB) :: (c2, oS) :: (ba, ob) :: rest
noncomputable def S2.ok (ws : List Int) (i k : Nat) (st : S2) : Prop :=
  IntsAre st.tl st.td ∧ st.td.length = k ∧ (∃ v, st.oK.data = .cell v) ∧ ∀ j, j < k → Best ((ws.drop j).take (i + 2)) (st.td.getD j 0)
theorem c_cheap (w : World) (p : Program) (loose : List PySem.Str) (mean : ExcName → Option Value) (mg mb : PySem.Str → Option Value) (lw : Addr) (nn : Nat) (vs : List Value) (ws : List Int) (hi : IntsAre vs ws) (hl : ws.length = 6) :
  Ctr w p loose mean mg mb 133 [.ref lw] [(lw, listOf vs.toArray nn)] 1 8 (fun r own => own = [] ∧ ∃ c t, r = .int c t ∧ Best ws c) := by
  have hvl : vs.length = 6 := by rw [hi.length, hl]
  unfold Ctr
  k_fill
  intro dp un gd cn cs ad ccd cl outer A₀ base h₀ L m news s Q E B F X N T hk hnd hd hu hret
  have hn := hnd _ (List.Mem.head _)
  refine wpAny_call ?_
  with_unfolding_all refine' enterCK (pre := news) (r := []) B F X N T (fun _ h => nomatch h) (fun _ h => nomatch h) rfl rfl hk ?ho ?hcd ?room ?hb ?hkd ?hnd ?_ ?e1 ?e2 ?e3
  case ho => k_is
  case hcd => k_is
  case room => ktr_room
  case hb => exact BindsTo.of_eq rfl
  case hkd => exact rfl
  case hnd => decide +kernel
  case e1 => exact rfl
  case e2 => exact rfl
  case e3 => exact rfl
  intro g L' h₁ tk' cells' FG' F' N' Y' B' X' T' st hr l1
  obtain ⟨o1, o2, o3, hE, d1, d2, d3⟩ := CellsAre.three Y'
  subst hE
  have d3' : o3.data = .cell none := by with_unfolding_all exact d3
  have d2' : o2.data = .cell none := by with_unfolding_all exact d2
  have d1' : o1.data = .cell none := by with_unfolding_all exact d1
  clear d1 d2 d3 Y'
  try simp only [List.cons_append, List.nil_append] at N'
  try dsimp only
  try k_fold
  k_steps
  refine go_ ?_
  rename News _ _ _ _ => lN'
  refine W.kun_lenL (k := 6) (lstN (a := lw) (us := vs) (n := nn) lN' (by first | walk_at "x_mem" | simp [hn])) (by simp [hvl]) (by decide) ?_
  k_steps
  refine go_ (mulZ (by assumption) (by assumption) (List.Mem.head _) (by lia) (by lia) fun l0 h2 F2 N2 ll0 => ?_)
  k_steps
  rename Fr _ _ _ _ => F3
  rename News _ _ _ _ => N3
  rename_i ba _ _ lba
  have q0 := ltN (ll0 (L' + 1 + 1 + 1, o1) (by first | walk_at "x_mem" | simp))
  have q1 := ltN (lba _ (List.Mem.head _))
  dsimp only at q0 q1
  have q2 : ∀ q ∈ news, q.1 < L' := l1
  have N4 := news_sub (b := (L' + 1, o3) :: (L' + 1 + 1, o2) :: (L' + 1 + 1 + 1, o1) :: (ba, listOf #[Value.ref l0] 0) :: (l0, listOf (List.replicate (Int.toNat 6) (Value.int 0 tk')).toArray 0) :: news) N3 (by
    walk_at "x_sub")
  clear N3 lba ll0
  refine storeC F3 N4 rfl ?_ d3' ?_
  · refine all_cons ?_ (all_cons ?_ (all_cons ?_ (all_cons ?_ ?_)))
    · refine neN ?_; dsimp only; lia
    · refine neN ?_; dsimp only; lia
    · refine neN ?_; dsimp only; lia
    · refine neN ?_; dsimp only; lia
    · intro q h; have := ltN (q2 q h); refine neN ?_; lia
  intro h3 oB F5 N5 dB
  clear N4 F3
  k_steps
  refine go_ ?_
  rename News _ _ _ _ => lN'
  refine W.kun_lenL (k := 6) (lstN (a := lw) (us := vs) (n := nn) lN' (by first | walk_at "x_mem" | simp [hn])) (by simp [hvl]) (by decide) ?_
  k_steps
  refine go_ ?_
  rename News _ _ _ _ => N6
  rename Fr _ _ _ _ => F6
  rename IsRange _ _ _ _ _ _ _ _ => rg
  have N7 := news_sub (b := S1.led (L' + 1) (L' + 1 + 1) (L' + 1 + 1 + 1) oB ba news ⟨[⟨l0, List.replicate 6 (Value.int 0 tk'), 0, List.replicate 6 0⟩], 0, o2, o1⟩) N6 (fun q hq => hq)
  refine' loopRange (σ := S1) (n := 5) (S1.led (L' + 1) (L' + 1 + 1) (L' + 1 + 1 + 1) oB ba news) (fun _ => []) [PySem.Str.ofString "told", PySem.Str.ofString "cuts"] (S1.ok ws ba (L' + 1 + 1 + 1)) ⟨[⟨l0, List.replicate 6 (Value.int 0 tk'), 0, List.replicate 6 0⟩], 0, o2, o1⟩ rfl rg ?_ ?_ F6 N7 trivial ?_ ?_ ?_
  · exact small_up (by lia) (by lia) (by lia) (by lia)
  · rw [rangeSize_one]; rfl
  · refine ⟨rfl, ⟨_, d2'⟩, ⟨_, d1'⟩, ?_, ?_⟩
    · intro r hr
      rw [List.mem_singleton.mp hr]
      exact ⟨q0, Nat.ne_of_lt q1⟩
    · intro j r hj
      match j, hj with
      | 0, hj =>
        rw [← Option.some.inj hj]
        refine ⟨ints_same 0 tk' 6, rfl, fun k hk => ?_⟩
        have e1 : (List.replicate 6 (0 : Int)).getD k 0 = 0 := by
          match k, hk with
          | 0, _ => rfl
          | 1, _ => rfl
          | 2, _ => rfl
          | 3, _ => rfl
          | 4, _ => rfl
          | 5, _ => rfl
        have hkl : k < ws.length := by lia
        rw [e1, show (ws.drop k).take (0 + 1) = [ws[k]] by rw [List.drop_eq_getElem_cons hkl]; rfl]
        exact best_one _
      | j + 1, hj => exact absurd hj (by first | walk_at "x_mem" | simp)
  · rintro i ⟨rows, nb, oS, oK⟩ t I ts u h tk own hi5 hz10 hoff hown hz13 F7 N8
    (try k_fold)
    obtain ⟨p1, ⟨vS, p2⟩, ⟨vK, p3⟩, p4, p5⟩ := hz10
    obtain ⟨oI, hoI⟩ := hz13
    dsimp only at p1 p2 p3 p4 p5
    dsimp only [psAt] at F7
    have ho3 : ∀ p ∈ own, p.1 = I := fun p hp => List.mem_singleton.mp (hown p hp)
    have hI1 : L' + 1 ≠ I := fun e => hoff (L' + 1, oB) (List.Mem.head _) (by rw [← e]; exact List.Mem.head _)
    have hI2 : L' + 1 + 1 ≠ I := fun e => hoff (L' + 1 + 1, oS) (List.Mem.tail _ (List.Mem.head _)) (by rw [← e]; exact List.Mem.head _)
    have hI3 : L' + 1 + 1 + 1 ≠ I := fun e => hoff (L' + 1 + 1 + 1, oK) (List.Mem.tail _ (List.Mem.tail _ (List.Mem.head _))) (by rw [← e]; exact List.Mem.head _)
    have hIb : ba ≠ I := fun e => hoff (ba, _) (List.Mem.tail _ (List.Mem.tail _ (List.Mem.tail _ (List.Mem.head _)))) (by rw [← e]; exact List.Mem.head _)
    have hrest : ∀ p ∈ rows.map RW.ent ++ (news ++ own), p.1 ≠ L' + 1 ∧ p.1 ≠ L' + 1 + 1 ∧ p.1 ≠ L' + 1 + 1 + 1 ∧ p.1 ≠ ba := by
      intro p hp
      rcases List.mem_append.mp hp with hp | hp
      · obtain ⟨r, hr, rfl⟩ := List.mem_map.mp hp
        obtain ⟨h1, h2⟩ := p4 r hr
        have h1 := ltN h1
        refine ⟨?_, ?_, ?_, h2⟩ <;> (refine neN ?_; dsimp only [RW.ent]; lia)
      · rcases List.mem_append.mp hp with hp | hp
        · have h1 := ltN (q2 p hp)
          refine ⟨?_, ?_, ?_, ?_⟩ <;> (refine neN ?_; lia)
        · rw [ho3 p hp]
          exact ⟨hI1.symm, hI2.symm, hI3.symm, hIb.symm⟩
    have N9 := news_sub (b := (L' + 1 + 1, oS) :: (L' + 1, oB) :: (L' + 1 + 1 + 1, oK) :: (ba, listOf (rows.map fun r => Value.ref r.a).toArray nb) :: (rows.map RW.ent ++ (news ++ own))) N8 (by
      dsimp only [S1.led]; walk_at "x_sub")
    clear N8
    k_steps
    refine storeC F7 N9 rfl ?_ p2 ?_
    · refine all_cons ?_ (all_cons ?_ (all_cons ?_ ?_))
      · refine neN ?_; dsimp only; lia
      · refine neN ?_; dsimp only; lia
      · refine neN ?_; dsimp only; lia
      · intro q h; exact (hrest q h).2.1
    intro h9 oS2 F8 N10 dS
    clear N9 F7 p2
    k_steps
    refine go_ ?_
    rename News _ _ _ _ => lN'
    refine W.kun_lenL (k := 6) (lstN (a := lw) (us := vs) (n := nn) lN' (by first | walk_at "x_mem" | simp [hn])) (by simp [hvl]) (by decide) ?_
    k_steps
    refine go_ ?_
    rename News _ _ _ _ => N11
    rename Fr _ _ _ _ => F9
    rename IsRange _ _ _ _ _ _ _ _ => rg2
    rename_i ta _ lt1 lt2 _ _ _ _ _ _ _ _ _
    have hta : ∀ p ∈ rows.map RW.ent ++ (news ++ own), p.1 ≠ ta := fun p hp => Nat.ne_of_lt (lt2 p (by first | walk_at "x_mem" | (simp only [List.mem_cons]; exact .inr (.inr (.inr (.inr hp))))))
    have hta2 := ltN (lt2 (L' + 1 + 1, oS2) (by first | walk_at "x_mem" | simp))
    have hta3 := ltN (lt2 (L' + 1 + 1 + 1, oK) (by first | walk_at "x_mem" | simp))
    have hta4 := ltN (lt2 (ba, listOf (rows.map fun r => Value.ref r.a).toArray nb) (by first | walk_at "x_mem" | simp))
    dsimp only at hta2 hta3 hta4
    have N12 := news_sub (b := S2.led (L' + 1) (L' + 1 + 1) (L' + 1 + 1 + 1) oB ba oS2 (listOf (rows.map fun r => Value.ref r.a).toArray nb) ta (rows.map RW.ent ++ (news ++ own)) ⟨[], 0, [], oK⟩) N11 (by
      dsimp only [S2.led]; walk_at "x_sub")
    clear N11 lt2
    have htI : ta ≠ I := (hta (I, oI) (by first | walk_at "x_mem" | simp [hoI])).symm
    have hlenr : (rows.map fun r => Value.ref r.a).length = i + 1 := by rw [List.length_map, p1]
    refine' loopRange (σ := S2) (n := 5 - i) (S2.led (L' + 1) (L' + 1 + 1) (L' + 1 + 1 + 1) oB ba oS2 (listOf (rows.map fun r => Value.ref r.a).toArray nb) ta (rows.map RW.ent ++ (news ++ own))) (fun _ => [(PySem.Str.ofString "told", .val (.ref ta))]) [PySem.Str.ofString "cuts"] (S2.ok ws i) ⟨[], 0, [], oK⟩ rfl rg2 ?_ ?_ F9 N12 ?_ ?_ ?_ ?_
    · exact small_up (by lia) (by lia) (by lia) (by lia)
    · rw [rangeSize_one]; split <;> lia
    · walk_at "m_has"
    · exact ⟨.nil, rfl, ⟨_, p3⟩, fun k hk => absurd hk (Nat.not_lt_zero _)⟩
    · rintro k ⟨tl, tn, td, oK2⟩ t2 I2 ts2 u2 h2 tk2 own2 hk5 hz10 hoff2 hown2 _ F11 N13
      (try k_fold)
      obtain ⟨r1, r2, ⟨vK2, r3⟩, r4⟩ := hz10
      dsimp only at r1 r2 r3 r4
      dsimp only [psAt, Ab.at] at F11
      have ho4 : ∀ p ∈ own2, p.1 = I2 := fun p hp => List.mem_singleton.mp (hown2 p hp)
      have hJ3 : L' + 1 + 1 + 1 ≠ I2 := fun e => hoff2 (L' + 1 + 1 + 1, oK2) (List.Mem.head _) (by rw [← e]; exact List.Mem.head _)
      have hJt : ta ≠ I2 := fun e => hoff2 (ta, _) (List.Mem.tail _ (List.Mem.head _)) (by rw [← e]; exact List.Mem.head _)
      have N14 := news_sub (b := (L' + 1 + 1 + 1, oK2) :: (ta, listOf tl.toArray tn) :: (L' + 1, oB) :: (L' + 1 + 1, oS2) :: (ba, listOf (rows.map fun r => Value.ref r.a).toArray nb) :: (rows.map RW.ent ++ (news ++ own) ++ own2)) N13 (by
        dsimp only [S2.led]; walk_at "x_sub")
      clear N13
      k_steps
      refine storeC F11 N14 rfl ?_ r3 ?_
      · refine all_cons ?_ (all_cons ?_ (all_cons ?_ (all_cons ?_ ?_)))
        · refine neN ?_; dsimp only; lia
        · refine neN ?_; dsimp only; lia
        · refine neN ?_; dsimp only; lia
        · refine neN ?_; dsimp only; lia
        · intro q h
          rcases List.mem_append.mp h with h | h
          · exact (hrest q h).2.2.1
          · rw [ho4 q h]; exact hJ3.symm
      intro h12 oK3 F12 N15 dK
      clear N14 F11 r3
      k_steps
      refine go_ ?_
      refine' compA (h₀ := g) ?hsw ?hclos ?hcell rfl ?hnames rfl rfl rfl ?_
      case hsw => with_unfolding_all rfl
      case hclos => with_unfolding_all rfl
      case hcell => decide
      case hnames => decide
      k_steps
      refine go_ ?_
      rename News _ _ _ _ => lN'
      rename Fr _ _ _ _ => lF'
      rename IsRange _ _ _ _ _ _ _ _ => rg3
      refine' compRange (σ := Unit) (n := i + 1) (fun _ => (L' + 1 + 1 + 1, oK3) :: (ta, listOf tl.toArray tn) :: (L' + 1, oB) :: (L' + 1 + 1, oS2) :: (ba, listOf (rows.map fun r => Value.ref r.a).toArray nb) :: (rows.map RW.ent ++ (news ++ own) ++ own2)) (fun j _ ys => ∃ cs : List Int, IntsAre ys cs ∧ cs.length = j ∧ ∀ (l : Nat), l < j → ∃ a b, cs.getD l 0 = a + b ∧ Best ((ws.drop k).take (l + 1)) a ∧ Best ((ws.drop (k + (l + 1))).take (i + 2 - (l + 1))) b) () rfl rg3 ?_ ?_ (by lia) lF' lN' ?hp ?_ ?_
      · exact small_up (by lia) (by lia) (by lia) (by lia)
      · rw [rangeSize_one]; split <;> lia
      case hp => exact ⟨[], .nil, rfl, fun l hl => absurd hl (Nat.not_lt_zero _)⟩
      · intro j _ v ys C D I3 oL E' h13 tk13 own3 nn3 hji hv hlen hpc hoff3 hown3 _ hC hD hDC hI hns hLC F13 N16
        obtain ⟨t3, rfl⟩ := hv
        obtain ⟨cs3, s1, s2, s3⟩ := hpc
        have N16' : News g C h13 ((L', oL) :: (D, listOf ys.toArray nn3) :: (own3 ++ (L' + 1 + 1 + 1, oK3) :: (ta, listOf tl.toArray tn) :: (L' + 1, oB) :: (L' + 1 + 1, oS2) :: (ba, listOf (rows.map fun r => Value.ref r.a).toArray nb) :: (rows.map RW.ent ++ (news ++ own) ++ own2))) := N16
        have N17 := news_sub (b := (L' + 1, oB) :: (L' + 1 + 1, oS2) :: (L' + 1 + 1 + 1, oK3) :: (ba, listOf (rows.map fun r => Value.ref r.a).toArray nb) :: (ta, listOf tl.toArray tn) :: (L', oL) :: (D, listOf ys.toArray nn3) :: (rows.map RW.ent ++ (news ++ own) ++ own2 ++ own3)) N16' (by
          walk_at "x_sub")
        clear N16 N16'
        k_steps
        walk_at "m_clean"
        obtain ⟨ra, hra⟩ : ∃ ra, rows[j]? = some ra := ⟨rows[j]'(by lia), List.getElem?_eq_getElem (by lia)⟩
        obtain ⟨rb, hrb⟩ : ∃ rb, rows[i - j]? = some rb := ⟨rows[i - j]'(by lia), List.getElem?_eq_getElem (by lia)⟩
        obtain ⟨a1, a2, a3⟩ := p5 j ra hra
        obtain ⟨b1, b2, b3⟩ := p5 (i - j) rb hrb
        have hma : (ra.a, listOf ra.us.toArray ra.nn) ∈ rows.map RW.ent := List.mem_map_of_mem (f := RW.ent) (List.mem_of_getElem? hra)
        have hmb : (rb.a, listOf rb.us.toArray rb.nn) ∈ rows.map RW.ent := List.mem_map_of_mem (f := RW.ent) (List.mem_of_getElem? hrb)
        refine go_ ?_
        rename News _ _ _ _ => lN'
        refine tailV (lstN (us := rows.map fun r => Value.ref r.a) (n := nb) lN' (by first | walk_at "x_mem" | simp)) (by lia) (x := .ref ra.a) ?_ (by lia) ?_
        · rw [z11 j, List.getElem?_map, hra]; rfl
        k_steps
        (try walk_at "m_clean")
        refine go_ ?_
        rename News _ _ _ _ => lN'
        refine tailN (lstN (us := ra.us) (n := ra.nn) lN' (by first | walk_at "x_mem" | simp [hma])) a1 (by lia) (by lia) (by lia) fun t4 => ?_
        k_steps
        (try walk_at "m_clean")
        refine go_ ?_
        rename News _ _ _ _ => lN'
        refine tailV (lstN (us := rows.map fun r => Value.ref r.a) (n := nb) lN' (by first | walk_at "x_mem" | simp)) (by lia) (x := .ref rb.a) ?_ (by lia) ?_
        · rw [show (2 + (i : Int) - (1 + (j : Int)) - 1).toNat = i - j by lia, List.getElem?_map, hrb]; rfl
        k_steps
        (try walk_at "m_clean")
        refine go_ ?_
        rename News _ _ _ _ => lN'
        refine tailN (lstN (us := rb.us) (n := rb.nn) lN' (by first | walk_at "x_mem" | simp [hmb])) b1 (by lia) (by lia) (by lia) fun t5 => ?_
        k_steps
        (try walk_at "m_clean")
        rename News _ _ _ _ => lN'
        rename Fr _ _ _ _ => lF'
        refine go_ (cend () lF' (news_sub (b := (L', oL) :: (D, listOf ys.toArray nn3) :: (own3 ++ (L' + 1 + 1 + 1, oK3) :: (ta, listOf tl.toArray tn) :: (L' + 1, oB) :: (L' + 1 + 1, oS2) :: (ba, listOf (rows.map fun r => Value.ref r.a).toArray nb) :: (rows.map RW.ent ++ (news ++ own) ++ own2))) lN' ?sub) (fun p hp => hp) hoff3 ?_)
        case sub =>
          walk_at "x_sub"
        rw [z0 k, show (0 + (k : Int) + (1 + (j : Int))).toNat = k + (j + 1) by lia]
        refine ⟨cs3 ++ [ra.ds.getD k 0 + rb.ds.getD (k + (j + 1)) 0], IntsAre.append s1 (.cons _ _ .nil), by simp [s2], fun l hl => ?_⟩
        by_cases h : l < j
        · obtain ⟨a, b, e1, e2, e3⟩ := s3 l h
          refine ⟨a, b, ?_, e2, e3⟩
          rw [← e1, List.getD_eq_getElem?_getD, List.getElem?_append_left (by lia), ← List.getD_eq_getElem?_getD]
        · have hlj : l = j := by lia
          subst hlj
          refine ⟨ra.ds.getD k 0, rb.ds.getD (k + (l + 1)) 0, ?_, a3 k (by lia), ?_⟩
          · rw [List.getD_eq_getElem?_getD, ← s2]; simp
          · have := b3 (k + (l + 1)) (by lia)
            rw [show i - l + 1 = i + 2 - (l + 1) by lia] at this
            exact this
      · intro D h13 tk13 ys _ nn3 hD F13 N16 hne5 hlen hpc
        obtain ⟨cs3, s1, s2, s3⟩ := hpc
        have q9 : L' < D := Nat.lt_of_lt_of_le lF'.ns.lt hD
        have N17 : News g L' h13 ((D, listOf ys.toArray nn3) :: (L' + 1 + 1 + 1, oK3) :: (ta, listOf tl.toArray tn) :: (L' + 1, oB) :: (L' + 1 + 1, oS2) :: (ba, listOf (rows.map fun r => Value.ref r.a).toArray nb) :: (rows.map RW.ent ++ (news ++ own) ++ own2)) := N16
        clear N16
        k_steps
        refine go_ ?_
        rename News _ _ _ _ => lN'
        rename Fr _ _ _ _ => lF'
        refine sliceL (s := ⟨_, _, _, _, _⟩) (zs := (vs.drop k).take (i + 2)) lF' lN' (lstN (us := vs) (n := nn) lN' (by first | walk_at "x_mem" | simp [hn])) (by constructor) (by constructor) ?_ (by lia) fun lz h14 F14 N18 La lb => ?_
        · unfold kms_pick kms_lo kms_hi
          dsimp only
          rw [hvl, if_neg (by lia), if_neg (by lia), show min (0 + (k : Int)).toNat 6 = k by lia, show min (0 + (k : Int) + (2 + (i : Int))).toNat 6 - k = i + 2 by lia]
        k_steps
        refine go_ ?_
        rename News _ _ _ _ => lN'
        rename Fr _ _ _ _ => lF'
        refine LSm.sum_ints lF' lN' rfl (lstN (us := (vs.drop k).take (i + 2)) (n := 0) lN' (List.Mem.head _)) ((hi.drop k).take (i + 2)) fun h15 tk15 t6 F15 N19 => ?_
        k_steps
        refine go_ ?_
        rename News _ _ _ _ => lN'
        rename Fr _ _ _ _ => lF'
        refine kso_min lF' lN' (lstN (us := ys) (n := nn3) lN' (by first | walk_at "x_mem" | simp)) s1 (by lia) rfl fun h16 M t7 tk16 F16 N20 hM1 hM2 => ?_
        k_steps
        refine go_ ?_
        rename News _ _ _ _ => lN'
        rename Fr _ _ _ _ => lF'
        have N21 := news_sub (b := (ta, listOf tl.toArray tn) :: (L' + 1 + 1 + 1, oK3) :: (L' + 1, oB) :: (L' + 1 + 1, oS2) :: (ba, listOf (rows.map fun r => Value.ref r.a).toArray nb) :: (rows.map RW.ent ++ (news ++ own) ++ own2)) lN' (by
          walk_at "x_sub")
        refine appL lF' N21 ?_ (by rw [r1.length]; lia) fun h17 F17 N22 => ?_
        · refine all_cons ?_ (all_cons ?_ (all_cons ?_ (all_cons ?_ ?_)))
          · refine neN ?_; dsimp only; lia
          · refine neN ?_; dsimp only; lia
          · refine neN ?_; dsimp only; lia
          · refine neN ?_; dsimp only; lia
          · intro q h
            rcases List.mem_append.mp h with h | h
            · exact hta q h
            · rw [ho4 q h]; exact hJt.symm
        k_steps
        rename News _ _ _ _ => lN'
        rename Fr _ _ _ _ => lF'
        obtain ⟨t8, N23⟩ : ∃ t8, News g L' _ ((ta, listOf (tl ++ [Value.int (((ws.drop k).take (i + 2)).sum + M) t8]).toArray (tn + 1)) :: (L' + 1 + 1 + 1, oK3) :: (L' + 1, oB) :: (L' + 1 + 1, oS2) :: (ba, listOf (rows.map fun r => Value.ref r.a).toArray nb) :: (rows.map RW.ent ++ (news ++ own) ++ own2)) := ⟨_, lN'⟩
        refine go_ (fend ⟨tl ++ [Value.int (((ws.drop k).take (i + 2)).sum + M) t8], tn + 1, td ++ [((ws.drop k).take (i + 2)).sum + M], oK3⟩ lF' N23 ?_ ?_ (by walk_at "m_loc") ⟨IntsAre.append r1 (.cons _ _ .nil), by simp [r2], ⟨_, dK⟩, ?_⟩)
        · dsimp only [S2.led]; walk_at "x_sub"
        · intro q hq
          simp only [S2.led, List.mem_cons] at hq
          rcases hq with rfl | rfl | h
          · exact hoff2 (L' + 1 + 1 + 1, oK2) (List.Mem.head _)
          · exact hoff2 (ta, listOf tl.toArray tn) (List.Mem.tail _ (List.Mem.head _))
          · exact hoff2 q (by first | (dsimp only [S2.led]; walk_at "x_mem") | (simp only [S2.led, List.mem_cons]; exact .inr (.inr h)))
        · intro j hj
          dsimp only
          by_cases h : j < k
          · rw [List.getD_eq_getElem?_getD, List.getElem?_append_left (by lia), ← List.getD_eq_getElem?_getD]
            exact r4 j h
          · have hjk : j = k := by lia
            subst hjk
            have e9 : (td ++ [((ws.drop j).take (i + 2)).sum + M]).getD j 0 = ((ws.drop j).take (i + 2)).sum + M := by
              rw [List.getD_eq_getElem?_getD, ← r2]; simp
            rw [e9]
            have hxl : ((ws.drop j).take (i + 2)).length = i + 2 := by simp; lia
            refine best_cuts _ cs3 (by lia) (by lia) (fun l hl => ?_) M hM1 hM2
            obtain ⟨a, b, e1, e2, e3⟩ := s3 l (by lia)
            refine ⟨a, b, e1, ?_, ?_⟩
            · rw [List.take_take, show min (l + 1) (i + 2) = l + 1 by lia]; exact e2
            · rw [List.drop_take, List.drop_drop]; exact e3
    · rintro ⟨tl, tn, td, oK2⟩ ts2 u2 h2 tk2 hz5 F11 N13
      (try k_fold)
      obtain ⟨r1, r2, ⟨vK2, r3⟩, r4⟩ := hz5
      dsimp only at r1 r2 r3 r4
      dsimp only [psAt, Ab.at] at F11
      have N14 : News g L' h2 ((L' + 1 + 1 + 1, oK2) :: (ta, listOf tl.toArray tn) :: (L' + 1, oB) :: (L' + 1 + 1, oS2) :: (ba, listOf (rows.map fun r => Value.ref r.a).toArray nb) :: (rows.map RW.ent ++ (news ++ own))) := N13
      clear N13
      k_steps
      refine go_ ?_
      rename News _ _ _ _ => lN'
      rename Fr _ _ _ _ => lF'
      have N21 := news_sub (b := (ba, listOf (rows.map fun r => Value.ref r.a).toArray nb) :: (ta, listOf tl.toArray tn) :: (L' + 1 + 1 + 1, oK2) :: (L' + 1, oB) :: (L' + 1 + 1, oS2) :: (rows.map RW.ent ++ (news ++ own))) lN' (by
        walk_at "x_sub")
      refine appL lF' N21 ?_ (by rw [hlenr]; lia) fun h17 F17 N22 => ?_
      · refine all_cons ?_ (all_cons ?_ (all_cons ?_ (all_cons ?_ ?_)))
        · refine neN ?_; dsimp only; lia
        · refine neN ?_; dsimp only; lia
        · refine neN ?_; dsimp only; lia
        · refine neN ?_; dsimp only; lia
        · intro q h; exact (hrest q h).2.2.2
      k_steps
      rename News _ _ _ _ => lN'
      rename Fr _ _ _ _ => lF'
      have N23 := news_sub (b := S1.led (L' + 1) (L' + 1 + 1) (L' + 1 + 1 + 1) oB ba news ⟨rows ++ [⟨ta, tl, tn, td⟩], nb + 1, oS2, oK2⟩ ++ own) lN' (by
        intro q hq
        simp only [S1.led, List.map_append, List.map_cons, List.map_nil, List.mem_append, List.mem_cons, List.not_mem_nil, or_false, RW.ent] at hq ⊢
        rcases hq with (h | h | h | h | (h | h) | h) | h <;> simp [h])
      refine go_ (fend ⟨rows ++ [⟨ta, tl, tn, td⟩], nb + 1, oS2, oK2⟩ lF' N23 ?_ ?_ (by walk_at "m_loc") ⟨by simp [p1], ⟨_, dS⟩, ⟨_, r3⟩, ?_, ?_⟩)
      · intro q hq
        simp only [List.mem_append] at hq ⊢
        exact hq.symm
      · intro q hq
        simp only [S1.led, List.map_append, List.map_cons, List.map_nil, List.mem_append, List.mem_cons, List.not_mem_nil, or_false, RW.ent] at hq
        have e9 : ∀ a : Addr, (a ≠ I) → a ∉ [I] := fun a h h2 => h (List.mem_singleton.mp h2)
        rcases hq with rfl | rfl | rfl | rfl | (h | rfl) | h
        · exact e9 _ hI1
        · exact e9 _ hI2
        · exact e9 _ hI3
        · exact e9 _ hIb
        · exact hoff q (by first | (dsimp only [S1.led]; walk_at "x_mem") | (simp only [S1.led, List.mem_append, List.mem_cons]; exact .inr (.inr (.inr (.inr (.inl h))))))
        · exact e9 _ htI
        · exact hoff q (by first | (dsimp only [S1.led]; walk_at "x_mem") | (simp only [S1.led, List.mem_append, List.mem_cons]; exact .inr (.inr (.inr (.inr (.inr h))))))
      · intro r hr
        rcases List.mem_append.mp hr with h | h
        · exact p4 r h
        · rw [List.mem_singleton.mp h]
          exact ⟨hta3, Nat.ne_of_gt hta4⟩
      · intro j r hj
        dsimp only at hj
        by_cases h : j < rows.length
        · rw [List.getElem?_append_left h] at hj
          exact p5 j r hj
        · rw [List.getElem?_append_right (by lia)] at hj
          have hj0 : j = rows.length := by
            have := (List.getElem?_eq_some_iff.mp hj).1
            simp at this; lia
          subst hj0
          rw [Nat.sub_self] at hj
          rw [← Option.some.inj hj]
          refine ⟨r1, by rw [r2, p1]; lia, fun k hk => ?_⟩
          rw [p1]
          exact r4 k (by lia)
  · rintro ⟨rows, nb, oS, oK⟩ ts u h tk hz5 F7 N8
    (try k_fold)
    obtain ⟨p1, ⟨vS, p2⟩, ⟨vK, p3⟩, p4, p5⟩ := hz5
    dsimp only at p1 p2 p3 p4 p5
    dsimp only [psAt] at F7
    have N9 : News g L' h (S1.led (L' + 1) (L' + 1 + 1) (L' + 1 + 1 + 1) oB ba news ⟨rows, nb, oS, oK⟩) := N8
    dsimp only [S1.led] at N9
    have h5 : ∃ r, rows[5]? = some r := ⟨rows[5], List.getElem?_eq_getElem (by lia)⟩
    obtain ⟨r, hr5⟩ := h5
    obtain ⟨e1, e2, e3⟩ := p5 5 r hr5
    have hb := e3 0 (by lia)
    rw [List.drop_zero, List.take_of_length_le (by lia)] at hb
    have hm : (r.a, listOf r.us.toArray r.nn) ∈ rows.map RW.ent := List.mem_map_of_mem (f := RW.ent) (List.mem_of_getElem? hr5)
    k_steps
    refine go_ ?_
    refine tailBack (lstN (us := rows.map fun r => Value.ref r.a) (n := nb) N9 (by first | walk_at "x_mem" | simp)) (by simp; lia) (x := .ref r.a) ?_ ?_
    · rw [List.length_map, p1, List.getElem?_map, hr5]; rfl
    k_steps
    refine go_ ?_
    refine tailN (lstN (us := r.us) (n := r.nn) N9 (by first | walk_at "x_mem" | simp [hm])) e1 (by decide) (by lia) (by decide) fun t1 => ?_
    k_steps
    rename News h₀ _ _ _ => kN
    intro _
    exact hret _ [] _ _ (by assumption) (fun q hq => kN q (by simp only [List.nil_append] at hq; simp [S1.led, hq])) own0 ⟨rfl, _, _, rfl, hb⟩
end Mine
end
section
open PySem PySem.W PyProof.Rows
set_option maxRecDepth 100000
set_option maxHeartbeats 8000000 
namespace Mine
theorem anew14 : True ∧ True := by
  (w_top off)
  k_with_none
  k_with "m_loc" => (refine ⟨?l1, ?l2⟩; (case l1 => (with_unfolding_all (repeat' (first | exact trivial | refine And.intro ⟨_, rfl⟩ ?_)))); (case l2 => (intro z h1 h2; have h3 := h2; (try simp only [List.forall_mem_cons, List.not_mem_nil, false_implies, implies_true, and_true, ne_eq] at h1); (try simp only [List.contains_cons, List.contains_nil, Bool.or_false, Bool.or_eq_false_iff, beq_eq_false_iff_ne, ne_eq] at h2); (simp only [kstB, h1, h2, h3, if_false, Bool.false_eq_true]; done))))
  k_with "m_has" => (with_unfolding_all (repeat' (first | exact trivial | refine And.intro ⟨_, rfl⟩ ?_)))
  k_with "y exec While BoolOp cons nil" => (refine stop_ ?_)
  k_with "y exec While Name cons nil" => (refine stop_ ?_)
  k_with "y WPost" => (dsimp only [WPost])
  k_with "y WEnd" => (refine stop_ ?_)
  k_with "y WDone" => (refine stop_ ?_)
  k_with "y subscriptTail Name Name str int" => (refine KXi.item rfl ?ma ?mb ?mc ?_; (case ma => lia); (case mb => lia); (case mc => lia); intro _)
  k_with "y call builtin:len" => ((with_reducible show wpAny _ _ (call (Value.builtin "len") [Value.str _ _]) _ _ _); refine SBL.len (by lia) ?_)
  k_with "m_sub" => (intro q hq; (repeat (first | exact hq | exact List.Mem.head _ | refine List.Mem.tail _ ?_)))
  k_with "y ite" => (first | refine PySem.W.ite_pos (by with_reducible assumption) ?_ | refine PySem.W.ite_neg (by with_reducible assumption) ?_)
  k_with "y exec FunctionDef" => (refine stop_ ?_)
  k_with "y call ref" => (refine stop_ ?_)
  k_with "y binaryOp LShift int int" => (refine stop_ ?_)
  k_with "y binaryOp RShift int int" => (refine stop_ ?_)
  k_with "y FPost" => (dsimp only [FPost])
  k_with "y FEnd" => (refine stop_ ?_)
  k_with "x_mem" => (with_reducible first | exact mm0 | exact mm1 | exact mm2 | exact mm3 | exact mm4 | exact mm5 | exact mm6 | exact mm7 | exact mm8 | assumption | (refine mm_l ?_; walk_at "x_mem") | (refine mm_r ?_; walk_at "x_mem") | (refine mm_t ?_; walk_at "x_mem"))
  k_with "x_in" => (with_reducible first | exact sub_refl | exact sub_first | exact sub_last | exact sub_tail | (refine sub_l ?_; walk_at "x_in") | (refine sub_r ?_; walk_at "x_in") | (refine sub_t ?_; walk_at "x_in"))
  k_with "x_sub" => ((try refine sub_of ?_); (with_reducible first | exact sub_refl | exact sub_nil | (refine sub_cons ?_ ?_; (walk_at "x_mem"); (walk_at "x_sub")) | (refine sub_app ?_ ?_; (walk_at "x_sub"); (walk_at "x_sub")) | walk_at "x_in"))
  k_with "y execs cons" => (first | (k_here; k_gentoks) | (k_here; k_made; walk_at "execs cons") | ((with_reducible refine wpAny_execs_cons ?_); (try dsimp only); (try k_fold)))
  k_with "y newTuple" => ((refine newTuple_L (by assumption) (by assumption) (Nat.le_of_ble_eq_true rfl) ?_); intro _ _ _ _ _ _)
  k_with "y newList" => ((refine newList_L (by assumption) (by assumption) (Nat.le_of_ble_eq_true rfl) ?_); intro _ _ _ _ _ _)
  k_with "y exec For Name Name cons nil" => ((with_unfolding_all refine' For_invVF (by assumption) ?k1 ?k2 ?_); (case k1 => exact rfl); (case k2 => exact rfl))
  k_with "y exec For Name Call cons nil" => ((with_unfolding_all refine' For_invVF (by assumption) ?k1 ?k2 ?_); (case k1 => exact rfl); (case k2 => exact rfl))
  k_with "y exec For Name Subscript cons nil" => ((with_unfolding_all refine' For_invVF (by assumption) ?k1 ?k2 ?_); (case k1 => exact rfl); (case k2 => exact rfl))
  k_with "y exec For Name List cons nil" => ((with_unfolding_all refine' For_invVF (by assumption) ?k1 ?k2 ?_); (case k1 => exact rfl); (case k2 => exact rfl))
  k_with "y exec For Name Attribute cons nil" => ((with_unfolding_all refine' For_invVF (by assumption) ?k1 ?k2 ?_); (case k1 => exact rfl); (case k2 => exact rfl))
  k_with "y pyIter ref" => (refine stop_ ?_)
  k_with "y getItem ref int" => (refine stop_ ?_)
  k_with "y setItem ref int" => (refine stop_ ?_)
  k_with "y subscriptTail Name Name ref int" => (refine stop_ ?_)
  k_with "y subscriptTail Name Constant ref int" => (refine stop_ ?_)
  k_with "y subscriptTail Name BinOp ref int" => (refine stop_ ?_)
  k_with "y subscriptTail Subscript Constant ref int" => (refine stop_ ?_)
  k_with "y subscriptTail List BinOp ref int" => (refine stop_ ?_)
  k_with "y subscriptTail Name Slice ref ref" => (refine stop_ ?_)
  k_with "y binaryOp Add bytes bytes" => (refine stop_ ?_)
  k_with "y binaryOp Add ref ref" => (refine stop_ ?_)
  k_with "y getMethod bytes" => (refine stop_ ?_)
  k_with "y call type:tuple" => (refine stop_ ?_)
  k_with "y pyIter str" => (refine stop_ ?_)
  k_with "y eval ListComp" => (refine stop_ ?_)
  k_with "y CEnd" => (refine stop_ ?_)
  k_with "m_clean" => (any_goals first | exact (0 : Addr) | exact PySem.Str.ofString "" | exact Value.none | exact ([] : List (MStr × Addr)))
  k_with "m_has" => (with_unfolding_all (repeat' (first | exact trivial | refine And.intro ⟨0, rfl⟩ ?_ | refine And.intro ⟨_, rfl⟩ ?_)))
  k_with "m_loc" => (refine ⟨?l1, ?l2⟩; (case l1 => walk_at "m_has"); (case l2 => (intro z h1 h2; have h3 := h2; (try simp only [List.forall_mem_cons, List.not_mem_nil, false_implies, implies_true, and_true, ne_eq] at h1); (try simp only [List.contains_cons, List.contains_nil, Bool.or_false, Bool.or_eq_false_iff, beq_eq_false_iff_ne, ne_eq] at h2); (first | (simp only [kstB, h1, h2, h3, if_false, Bool.false_eq_true]; done) | (simp [kstB, h1, h2, h3]; done)))))
  k_with "y eval Name" => ((with_reducible show wpAny _ _ (eval (.Name _ _) (compEnvC _ _ _ _)) _ _ _); (refine' nameCell ?k1 ?k2 ?k3 ‹News _ _ _ _› ?k5 ?k6 ?_); (case k1 => exact rfl); (case k2 => with_unfolding_all rfl); (case k3 => with_unfolding_all rfl); (case k5 => (repeat (first | exact List.Mem.head _ | refine List.Mem.tail _ ?_))); (case k6 => assumption))
  k_with "y exec Assign cons ListComp" => (refine stop_ ?_)
  k_with "y call builtin:bytes.decode" => (refine stop_ ?_)
  k_with "y call builtin:str.rjust" => (refine stop_ ?_)
  k_with "y call builtin:len" => (refine stop_ ?_)
  k_with "y binaryOp Mult ref int" => (refine stop_ ?_)
  k_with "y exec While Compare cons nil" => (refine stop_ ?_)
  exact ⟨trivial, trivial⟩
/-- an entry of the row: its weight, its leaves, where it lies -/
structure Ent where
  wt : Nat
  lv : List Nat
  ta : Addr
  la : Addr
  us : List Value
  nn : Nat
  tk : Tok
noncomputable def Ent.led (e : Ent) : List (Addr × Obj) := [(e.ta, tupOf [.str (tx (lineL e.wt)) e.tk, .ref e.la]), (e.la, listOf e.us.toArray e.nn)]
noncomputable def rowLed (es : List Ent) : List (Addr × Obj) := es.flatMap Ent.led
theorem rowLed_snoc (c : List Ent) (e : Ent) : rowLed (c ++ [e]) = rowLed c ++ e.led := by
  unfold rowLed
  rw [List.flatMap_append, List.flatMap_cons, List.flatMap_nil, List.append_nil]
noncomputable def refs (es : List Ent) : List Value := es.map fun e => Value.ref e.ta
noncomputable def grow (es : List Ent) : GRow := es.map fun e => (e.wt, e.lv)
noncomputable def wA (es : List Ent) (j : Nat) : Nat := ((grow es).map (·.1)).getD j 0
theorem wA_get {es : List Ent} {j : Nat} {e : Ent} (h : es[j]? = some e) : wA es j = e.wt := by
  unfold wA grow
  rw [List.getD_eq_getElem?_getD, List.getElem?_map, List.getElem?_map, h]
  rfl
theorem refs_get {es : List Ent} {j : Nat} {e : Ent} (h : es[j]? = some e) : (refs es)[j]? = some (.ref e.ta) := by
  unfold refs
  rw [List.getElem?_map, h]; rfl
theorem led_ta {es : List Ent} {j : Nat} {e : Ent} (h : es[j]? = some e) : (e.ta, tupOf [.str (tx (lineL e.wt)) e.tk, .ref e.la]) ∈ rowLed es :=
  List.mem_flatMap.mpr ⟨e, List.mem_of_getElem? h, by simp [Ent.led]⟩
theorem led_la {es : List Ent} {j : Nat} {e : Ent} (h : es[j]? = some e) : (e.la, listOf e.us.toArray e.nn) ∈ rowLed es :=
  List.mem_flatMap.mpr ⟨e, List.mem_of_getElem? h, by simp [Ent.led]⟩
theorem wt_le {es : List Ent} {e : Ent} {n : Nat} (h : e ∈ es) (hs : ((grow es).map (·.1)).sum = n) : e.wt ≤ n := by
  rw [← hs]
  have key : ∀ (l : List Nat) (x : Nat), x ∈ l → x ≤ l.sum := by
    intro l
    induction l with
    | nil => intro x hx; cases hx
    | cons a r ih =>
      intro x hx
      rw [List.sum_cons]
      rcases List.mem_cons.mp hx with rfl | hx
      · lia
      · have := ih x hx; lia
  refine key _ _ ?_
  simp only [grow, List.map_map, List.mem_map]
  exact ⟨e, h, rfl⟩
theorem mem_le_sum : ∀ (l : List Nat) (x : Nat), x ∈ l → x ≤ l.sum := by
  intro l
  induction l with
  | nil => intro x hx; cases hx
  | cons a r ih =>
    intro x hx
    rw [List.sum_cons]
    rcases List.mem_cons.mp hx with rfl | hx
    · lia
    · have := ih x hx; lia
theorem lv_le {es : List Ent} {e : Ent} {n : Nat} (h : e ∈ es) (hs : (es.map fun e => e.lv.length).sum ≤ n) : e.lv.length ≤ n :=
  Nat.le_trans (mem_le_sum _ _ (List.mem_map_of_mem (f := fun e : Ent => e.lv.length) h)) hs
theorem map_nxt {α β : Type} (f : α → β) (r : List α) (x : α) (k p : Nat) : (nxt r x k p).map f = nxt (r.map f) (f x) k p := by
  unfold nxt
  simp [List.map_take, List.map_drop]
theorem mem_nxt {α : Type} {r : List α} {x y : α} {k p : Nat} (h : y ∈ nxt r x k p) : y = x ∨ y ∈ r := by
  unfold nxt at h
  simp only [List.mem_append, List.mem_singleton] at h
  rcases h with ((h | h) | h) | h
  · exact .inr (List.mem_of_mem_take h)
  · exact .inl h
  · exact .inr (List.mem_of_mem_drop (List.mem_of_mem_take h))
  · exact .inr (List.mem_of_mem_drop h)
theorem rowLed_nxt {es : List Ent} {e : Ent} {k p : Nat} {q : Addr × Obj} (h : q ∈ rowLed (nxt es e k p)) : q ∈ e.led ∨ q ∈ rowLed es := by
  obtain ⟨y, hy, hq⟩ := List.mem_flatMap.mp h
  rcases mem_nxt hy with rfl | hy
  · exact .inl hq
  · exact .inr (List.mem_flatMap.mpr ⟨y, hy, hq⟩)
theorem incs_snoc (j : Nat) : ∀ (l lev : List Nat), incs lev (l ++ [j]) = (incs lev l).set j ((incs lev l).getD j 0 + 1)
  | [], lev => rfl
  | i :: l, lev => by
    show incs _ (l ++ [j]) = _
    rw [incs_snoc j l]; rfl
/-- what the loop of `_law_levels` holds between its turns -/
structure S3 where
  es : List Ent
  ra : Addr
  nr : Nat
  lus : List Value
  lev : List Nat
  ent : Option (Addr × Obj)
noncomputable def S3.led (lv : Addr) (c : S3) : List (Addr × Obj) := (c.ra, listOf (refs c.es).toArray c.nr) :: (lv, listOf c.lus.toArray 0) :: (rowLed c.es ++ tB c.ent)
noncomputable def S3.ok (ws : List Nat) (lv : Addr) (c : S3) : Prop :=
  1 ≤ c.es.length ∧ c.es.length ≤ 6 ∧ (∀ e ∈ c.es, IntsAre e.us (natsI e.lv) ∧ (∀ i ∈ e.lv, i < 6) ∧ 0 < e.wt) ∧ (c.es.map fun e => e.lv.length).sum ≤ 6 ∧ ((grow c.es).map (·.1)).sum = ws.sum ∧ IntsAre c.lus (natsI c.lev) ∧ c.lev.length = 6 ∧
    (∀ l', GR (grow c.es) c.lev l' → GR (row0 ws) (List.replicate 6 0) l') ∧ Apart (tB c.ent) ((c.ra, listOf (refs c.es).toArray c.nr) :: (lv, listOf c.lus.toArray 0) :: rowLed c.es) ∧ tOk q2 c.ent ∧ c.ra ≠ lv ∧ (∀ q ∈ rowLed c.es ++ tB c.ent, q.1 ≠ lv) ∧ (c.es.length = 6 ∨ ∃ e, c.ent = some e)
theorem c_levels (w : World) (p : Program) (loose : List PySem.Str) (mean : ExcName → Option Value) (mg mb : PySem.Str → Option Value) (lw : Addr) (nn : Nat) (vs : List Value) (ws : List Nat) (hv : Lns vs ws) (hl : ws.length = 6) (hz : ws.sum < 16 ^ 5) (hpos : ∀ x ∈ ws, 0 < x) :
  CtrP 68 61 4 q2 w p loose mean mg mb 123 [.ref lw] [(lw, listOf vs.toArray nn)] 90 800 (fun r own => ∃ a la us n1 lev t, r = .ref a ∧ own = [(a, tupOf [.ref la, .str (tx (lineL ws.sum)) t]), (la, listOf us.toArray n1)] ∧ IntsAre us (natsI lev) ∧ GR (row0 ws) (List.replicate 6 0) lev) := by
  have hvl : vs.length = 6 := by rw [hv.len, hl]
  unfold CtrP
  k_fill
  intro dp un gd cn cs ad ccd cl outer A₀ base h₀ L m news ent s Q E B F X N ap ok T hk hnd hd hu hret
  have N2 : News h₀ L s.heap news := news_sub N (by walk_at "x_sub")
  have N1 : News h₀ L s.heap (tB ent) := news_sub N (by walk_at "x_sub")
  have hn := hnd _ (List.Mem.head _)
  refine wpAny_call ?_
  with_unfolding_all refine' enterCK (pre := tB ent) (r := news) B F X N1 T N2 ap rfl rfl hk ?ho ?hcd ?room ?hb ?hkd ?hnd ?_ ?e1 ?e2 ?e3
  case ho => k_is
  case hcd => k_is
  case room => ktr_room
  case hb => exact BindsTo.of_eq rfl
  case hkd => exact rfl
  case hnd => decide +kernel
  case e1 => exact rfl
  case e2 => exact rfl
  case e3 => exact rfl
  intro g L' h₁ tk' cells' FG' F' N' Y' B' X' T' st hr l1
  obtain ⟨oC, hE, dC⟩ := CellsAre.one Y'
  subst hE
  have dC' : oC.data = .cell (some (.ref lw)) := by with_unfolding_all exact dC
  clear dC Y'
  have hG : g.IsList lw vs.toArray := ⟨_, hr _ hn, rfl, nn, rfl⟩
  try simp only [List.cons_append, List.nil_append] at N'
  try dsimp only
  try k_fold
  k_steps
  refine go_ ?_
  refine' compA (h₀ := g) ?hsw ?hclos ?hcell rfl ?hnames rfl rfl rfl ?_
  case hsw => with_unfolding_all rfl
  case hclos => with_unfolding_all rfl
  case hcell => decide
  case hnames => decide
  k_steps
  refine go_ ?_
  rename Fr _ _ _ _ => lF'
  refine W.kun_lenL (k := 6) (lF'.lst hG) (by simp [hvl]) (by decide) ?_
  k_steps
  refine go_ ?_
  rename News _ _ _ _ => lN'
  rename Fr _ _ _ _ => lF'
  rename IsRange _ _ _ _ _ _ _ _ => rg
  have hLs := ltN (show L' < _ from lF'.ns.lt)
  have l68 : 68 < L' := by cases ent <;> exact l1 _ (List.Mem.head _)
  have apC : ∀ q ∈ tB ent, q.1 < L' := l1
  refine' compRange (σ := List Ent) (n := 6) (fun c => (L' + 1, oC) :: (rowLed c ++ tB ent)) (fun i c ys => ys = refs c ∧ grow c = (row0 ws).take i ∧ (∀ e ∈ c, IntsAre e.us (natsI e.lv)) ∧ ∀ q ∈ rowLed c, L' < q.1) [] rfl rg ?_ ?_ (by lia) lF' lN' ?hp ?_ ?_
  · exact small_up (by lia) (by lia) (by lia) (by lia)
  · rw [rangeSize_one]; rfl
  case hp => exact ⟨rfl, by simp [grow], (fun e h => absurd h List.not_mem_nil), (fun q h => absurd h List.not_mem_nil)⟩
  · intro i c v ys C D I oL E' h2 tk2 own nn2 hi6 hv2 hlen hpc hoff hown ⟨oI, hoI⟩ hC hD hDC hI hns hLC F2 N3
    obtain ⟨t2, rfl⟩ := hv2
    obtain ⟨rfl, p2, p3, p4⟩ := hpc
    have N4 : News g C h2 ((L', oL) :: (D, listOf (refs c).toArray nn2) :: (own ++ (L' + 1, oC) :: (rowLed c ++ tB ent))) := N3
    have N5 := news_sub (b := (L' + 1, oC) :: (L', oL) :: (D, listOf (refs c).toArray nn2) :: (rowLed c ++ (tB ent ++ own))) N4 (by
      walk_at "x_sub")
    clear N3 N4
    k_steps
    walk_at "m_clean"
    obtain ⟨x, hx⟩ : ∃ x, ws[i]? = some x := ⟨ws[i], List.getElem?_eq_getElem (by lia)⟩
    obtain ⟨tx2, hx2⟩ := hv.get i x hx
    refine go_ ?_
    rename Fr _ _ _ _ => lF'
    refine tailV (lF'.lst hG) (by lia) (x := .str (tx (lineL x)) tx2) ?_ (by lia) ?_
    · rw [z0 i]; exact hx2
    k_steps
    walk_at "m_clean"
    rename News _ _ _ _ => N6
    rename Fr _ _ _ _ => F6
    rename_i la _ _ _ lla1 lla2 ta _ lta1 lta2
    have d1 := ltN (lla2 (L', oL) (by first | walk_at "x_mem" | simp))
    have d2 := ltN (lla2 (D, listOf (refs c).toArray nn2) (by first | walk_at "x_mem" | simp))
    have d3 := ltN (lla2 (I, oI) (by first | walk_at "x_mem" | simp [hoI]))
    have d4 := ltN (lta2 (la, _) (List.Mem.head _))
    dsimp only at d1 d2 d3 d4
    have d5 : la ≠ C := Nat.ne_of_gt lla1
    have d6 : ta ≠ C := Nat.ne_of_gt lta1
    have hD' := ltN (show L' < D from Nat.lt_of_lt_of_le hLs hD)
    obtain ⟨t8, N7⟩ : ∃ t8, News g C _ ((ta, tupOf [.str (tx (lineL x)) tx2, .ref la]) :: (la, listOf [Value.int (0 + (i : Int)) t8].toArray 0) :: (L' + 1, oC) :: (L', oL) :: (D, listOf (refs c).toArray nn2) :: (rowLed c ++ (tB ent ++ own))) := ⟨_, N6⟩
    refine go_ (cend (c ++ [Ent.mk x [i] ta la [Value.int (0 + (i : Int)) t8] 0 tx2]) F6 (news_sub (b := (L', oL) :: (D, listOf (refs c).toArray nn2) :: (own ++ ((L' + 1, oC) :: (rowLed (c ++ [Ent.mk x [i] ta la [Value.int (0 + (i : Int)) t8] 0 tx2]) ++ tB ent)))) N7 ?sub) (fun p hp => hp) ?_ ?_)
    case sub =>
      rw [rowLed_snoc]
      dsimp only [blk, Ent.led]
      walk_at "x_sub"
    · have hoff2 : ∀ q ∈ (L' + 1, oC) :: (rowLed c ++ tB ent), q.1 ∉ [I] ∧ q.1 ≠ C ∧ q.1 ≠ D ∧ q.1 ≠ L' := hoff
      have e9 : ∀ a : Addr, a ≠ I → a ∉ [I] := fun a h h2 => h (List.mem_singleton.mp h2)
      rw [rowLed_snoc]
      refine all_cons (hoff2 _ mm0) (all_app (all_app (fun q h => hoff2 q (mm_t (mm_l h))) (all_cons ⟨e9 _ (neN (by lia)), d6, neN (by lia), (show ta ≠ L' from neN (by lia))⟩ (all_cons ⟨e9 _ (neN (by lia)), d5, neN (by lia), (show la ≠ L' from neN (by lia))⟩ all_nil))) (fun q h => hoff2 q (mm_t (mm_r h))))
    · refine ⟨by simp [refs], ?_, ?_, ?_⟩
      · have hi7 : i < (row0 ws).length := by simp [row0]; lia
        rw [← List.take_append_getElem hi7, ← p2]
        have : (row0 ws)[i] = (x, [i]) := by
          have hx3 := List.getElem?_eq_some_iff.mp hx
          simp [row0, hx3.2]
        rw [this]
        simp [grow]
      · intro e he
        rcases List.mem_append.mp he with h | h
        · exact p3 e h
        · rw [List.mem_singleton.mp h]
          have e2 : natsI [i] = [0 + (i : Int)] := by simp [natsI]
          dsimp only
          rw [e2]
          exact .cons _ _ .nil
      · rw [rowLed_snoc]
        exact all_app p4 (all_cons (ltN (Nat.lt_trans (ltN d1) (ltN d4))) (all_cons d1 all_nil))
  · intro D h2 tk2 ys c nn2 hD F2 N3 hne hlen hpc
    obtain ⟨rfl, p2, p3, p4⟩ := hpc
    rw [show List.take 6 (row0 ws) = row0 ws from List.take_of_length_le (by simp [row0]; lia)] at p2
    have N4 : News g L' h2 ((D, listOf (refs c).toArray nn2) :: (L' + 1, oC) :: (rowLed c ++ tB ent)) := N3
    clear N3
    k_steps
    refine go_ ?_
    rename Fr _ _ _ _ => lF'
    refine W.kun_lenL (k := 6) (lF'.lst hG) (by simp [hvl]) (by decide) ?_
    k_steps
    refine go_ (mulZ (by assumption) (by assumption) (List.Mem.head _) (by lia) (by lia) fun lv h3 F3 N5 llv => ?_)
    k_steps
    refine go_ ?_
    rename Fr _ _ _ _ => lF'
    rename News _ _ _ _ => lN'
    have q1 := ltN (llv (D, listOf (refs c).toArray nn2) (by first | walk_at "x_mem" | simp))
    dsimp only at q1
    have qD := ltN (show L' < D from Nat.lt_of_lt_of_le (ltN hLs) hD)
    have q2' : ∀ q ∈ rowLed c ++ tB ent, q.1 < lv := all_app (fun q h => llv q (by walk_at "x_mem")) (fun q h => llv q (by walk_at "x_mem"))
    have N8 := news_sub (b := S3.led lv ⟨c, D, nn2, List.replicate 6 (Value.int 0 tk2), List.replicate 6 0, ent⟩) lN' (by dsimp only [S3.led]; exact all_cons (by walk_at "x_mem") (all_cons (List.Mem.head _) (by walk_at "x_sub")))
    have hgl : c.length = 6 := by
      have := congrArg List.length p2
      simpa [grow, row0, hl] using this
    have hok : S3.ok ws lv ⟨c, D, nn2, List.replicate 6 (Value.int 0 tk2), List.replicate 6 0, ent⟩ := by
      refine ⟨by dsimp only; lia, by dsimp only; lia, ?_, ?_, ?_, ints_same 0 tk2 6, rfl, ?_, ?_, ok, ?_, ?_⟩
      · intro e he
        refine ⟨p3 e he, ?_⟩
        have : (e.wt, e.lv) ∈ grow c := List.mem_map_of_mem (f := fun e : Ent => (e.wt, e.lv)) he
        rw [p2] at this
        simp only [row0, List.mem_map, Prod.mk.injEq] at this
        obtain ⟨⟨x, i⟩, hxi, hx1, hx2⟩ := this
        have hz2 := List.mem_zipIdx hxi
        rw [← hx1, ← hx2]
        refine ⟨fun j hj => ?_, ?_⟩
        · rw [List.mem_singleton.mp hj]
          dsimp only; lia
        · obtain ⟨_, h2, h3⟩ := hz2
          dsimp only
          rw [h3]
          exact hpos _ (List.getElem_mem _)
      · have e1 : (c.map fun e => e.lv.length) = (grow c).map fun q => q.2.length := by simp [grow, List.map_map, Function.comp_def]
        dsimp only
        rw [e1, p2]
        have e2 : ((row0 ws).map fun q => q.2.length) = List.replicate 6 1 := by
          refine List.eq_replicate_iff.mpr ⟨by simp [row0, hl], fun b hb => ?_⟩
          simp only [row0, List.mem_map] at hb
          obtain ⟨_, ⟨q, _, rfl⟩, rfl⟩ := hb
          rfl
        rw [e2]; decide
      · dsimp only
        rw [p2]
        congr 1
        simp [row0, List.map_map, Function.comp_def, List.zipIdx_map_fst]
      · dsimp only
        rw [p2]
        exact fun l' h => h
      · intro q hq r hr
        have hr2 := ltN (apC r hr)
        simp only [List.mem_cons] at hq
        rcases hq with rfl | rfl | h
        · refine neN ?_; dsimp only; lia
        · refine neN ?_; dsimp only; lia
        · have := ltN (p4 q h)
          refine neN ?_; lia
      · exact Nat.ne_of_lt q1
      · exact ⟨fun q hq => Nat.ne_of_lt (q2' q hq), .inl hgl⟩
    clear N5 lN'
    refine' whl (σ := S3) (S3.led lv) (fun c => [(PySem.Str.ofString "row", .val (.ref c.ra))]) [PySem.Str.ofString "k", PySem.Str.ofString "inside", PySem.Str.ofString "leaf", PySem.Str.ofString "line", PySem.Str.ofString "place"] (S3.ok ws lv) (fun c => c.es.length) _ lF' N8 ?kk hok ?_
    case kk => walk_at "m_has"
    have hLlv : L' < lv := Nat.lt_trans (ltN qD) (ltN q1)
    clear N8 lF' hok hgl q2' q1 llv p4 p3 p2 hne F3 ok ap N1 N2
    rintro ⟨es, ra, nr, lus, lev, en⟩ ts u h tk hz5 F5 N6
    (try k_fold)
    obtain ⟨r1, r2, r3, r12, r4, r5, r6, r7, r8, r9, r10, r11, r13⟩ := hz5
    dsimp only at r1 r2 r3 r12 r4 r5 r6 r7 r8 r9 r10 r11 r13
    dsimp only [psAt, Ab.at] at F5
    have N7 : News g L' h ((ra, listOf (refs es).toArray nr) :: (lv, listOf lus.toArray 0) :: (rowLed es ++ tB en)) := N6
    clear N6
    have hrl : (refs es).length = es.length := by simp [refs]
    k_steps
    refine go_ ?_
    rename News _ _ _ _ => lN'
    refine W.kun_lenL (k := (es.length : Int)) (lstN (a := ra) (us := refs es) (n := nr) lN' (by first | walk_at "x_mem" | simp)) (by simp [hrl]) (by lia) ?_
    k_steps
    · refine go_ ?_
      rename News _ _ _ _ => lN'
      rename Fr _ _ _ _ => lF'
      have hn2 : 2 ≤ es.length := by lia
      have hz6 : ∀ x ≤ ws.sum, x < 16 ^ 6 := fun x hx => by lia
      refine' whlJ (σ := Nat) (fun _ => (ra, listOf (refs es).toArray nr) :: (lv, listOf lus.toArray 0) :: (rowLed es ++ tB en)) (fun k => [(PySem.Str.ofString "k", .int (k : Int))]) []
        (fun k => 1 ≤ k ∧ k < es.length ∧ ∀ j, 1 ≤ j → j < k → wA es (j + 1) < wA es (j - 1)) (fun k => es.length - k)
        (fun k => 1 ≤ k ∧ k < es.length ∧ (∀ j, 1 ≤ j → j < k → wA es (j + 1) < wA es (j - 1)) ∧ (k + 1 < es.length → wA es (k - 1) ≤ wA es (k + 1))) 1 lF' lN' ?kk2 ?kp2 ?_ ?_
      case kk2 => walk_at "m_has"
      case kp2 => exact ⟨by lia, by lia, fun j h1 h2 => by lia⟩
      · clear lF' lN'
        rintro k ts2 u2 h2 tk2 hz5 F7 N8
        (try k_fold)
        obtain ⟨s1, s2, s3⟩ := hz5
        try dsimp only at s1 s2 s3
        dsimp only [psAt, Ab.at] at F7
        obtain ⟨ea, hea⟩ : ∃ e, es[k - 1]? = some e := ⟨es[k - 1]'(by lia), List.getElem?_eq_getElem (by lia)⟩
        k_steps
        refine go_ ?_
        rename News _ _ _ _ => lN'
        refine W.kun_lenL (k := (es.length : Int)) (lstN (a := ra) (us := refs es) (n := nr) lN' (by first | walk_at "x_mem" | simp)) (by simp [hrl]) (by lia) ?_
        k_steps
        · obtain ⟨eb, heb⟩ : ∃ e, es[k + 1]? = some e := ⟨es[k + 1]'(by lia), List.getElem?_eq_getElem (by lia)⟩
          refine go_ ?_
          rename News _ _ _ _ => lN'
          refine tailV (lstN (us := refs es) (n := nr) lN' (by first | walk_at "x_mem" | simp)) (by lia) (x := .ref ea.ta) ?_ (by lia) ?_
          · rw [zp k]; exact refs_get hea
          k_steps
          refine go_ ?_
          rename News _ _ _ _ => lN'
          refine tailT (tupN (n := 0) (us := [.str (tx (lineL ea.wt)) ea.tk, .ref ea.la]) lN' (by have z9 := led_ta hea; first | walk_at "x_mem" | simp [z9])) (by decide) rfl (by decide) ?_
          k_steps
          refine go_ ?_
          rename News _ _ _ _ => lN'
          refine tailV (lstN (us := refs es) (n := nr) lN' (by first | walk_at "x_mem" | simp)) (by lia) (x := .ref eb.ta) ?_ (by lia) ?_
          · rw [zs k]; exact refs_get heb
          k_steps
          refine go_ ?_
          rename News _ _ _ _ => lN'
          refine tailT (tupN (n := 0) (us := [.str (tx (lineL eb.wt)) eb.tk, .ref eb.la]) lN' (by have z9 := led_ta heb; first | walk_at "x_mem" | simp [z9])) (by decide) rfl (by decide) ?_
          k_steps
          refine go_ ?_
          (try k_fold)
          k_dflt refine' (c_strcoll w p loose mean mg mb _ _ _ _) _ _ _ _ _ _ _ _ _ _ _ _ _ _ _ _ _ _ (by k_asm) (by k_asm) (by k_asm) (by k_asm) (by k_asm) rfl (fun _ h => nomatch h) ?rm ?un (pv fun t9 h9 tk9 F9 N9 => ?_)
          case rm => exact lt_add hd (by decide)
          case un => exact lt_add hu (by decide)
          rw [coll_line (hz6 _ (wt_le (List.mem_of_getElem? hea) r4)) (hz6 _ (wt_le (List.mem_of_getElem? heb) r4))]
          by_cases hc : eb.wt < ea.wt
          · rw [show cmpN ea.wt eb.wt = 1 by simp [cmpN, hc]]
            k_steps
            rename News _ _ _ _ => lN'
            rename Fr _ _ _ _ => lF'
            refine go_ (wend (k + 1) lF' lN' (fun q hq => hq) (by walk_at "m_loc") ?_ ?_)
            · refine ⟨by lia, by lia, fun j h1 h2 => ?_⟩
              by_cases h : j < k
              · exact s3 j h1 h
              · have hjk : j = k := by lia
                subst hjk
                rw [wA_get heb, wA_get hea]; exact hc
            · lia
          · have hc2 : ¬ cmpN ea.wt eb.wt = 1 := by unfold cmpN; rw [if_neg hc]; split <;> decide
            k_steps
            · rename cmpN _ _ = 1 => hx; exact absurd hx hc2
            · rename News _ _ _ _ => lN'
              rename Fr _ _ _ _ => lF'
              refine go_ (wdone k lF' lN' (fun q hq => hq) (by walk_at "m_loc") ⟨s1, s2, s3, fun _ => ?_⟩)
              rw [wA_get heb, wA_get hea]; lia
        · rename News _ _ _ _ => lN'
          rename Fr _ _ _ _ => lF'
          refine go_ (wdone k lF' lN' (fun q hq => hq) (by walk_at "m_loc") ⟨s1, s2, s3, fun h => ?_⟩)
          lia
      · clear lF' lN'
        rintro k ts2 u2 h2 tk2 hz5 F7 N8
        (try k_fold)
        obtain ⟨s1, s2, s3, s4⟩ := hz5
        try dsimp only at s1 s2 s3 s4
        dsimp only [psAt, Ab.at] at F7
        obtain ⟨ea, hea⟩ : ∃ e, es[k - 1]? = some e := ⟨es[k - 1]'(by lia), List.getElem?_eq_getElem (by lia)⟩
        obtain ⟨eb, heb⟩ : ∃ e, es[k]? = some e := ⟨es[k]'(by lia), List.getElem?_eq_getElem (by lia)⟩
        obtain ⟨ua, va, xa⟩ := r3 ea (List.mem_of_getElem? hea)
        obtain ⟨ub, vb, xb⟩ := r3 eb (List.mem_of_getElem? heb)
        have ya := lv_le (List.mem_of_getElem? hea) r12
        have yb := lv_le (List.mem_of_getElem? heb) r12
        have lua : ea.us.length = ea.lv.length := by rw [ua.length]; simp [natsI]
        have lub : eb.us.length = eb.lv.length := by rw [ub.length]; simp [natsI]
        k_steps
        refine go_ ?_
        rename News _ _ _ _ => lN'
        refine tailV (lstN (us := refs es) (n := nr) lN' (by first | walk_at "x_mem" | simp)) (by lia) (x := .ref ea.ta) ?_ (by lia) ?_
        · rw [zp k]; exact refs_get hea
        k_steps
        refine go_ ?_
        rename News _ _ _ _ => lN'
        refine tailT (tupN (n := 0) (us := [.str (tx (lineL ea.wt)) ea.tk, .ref ea.la]) lN' (by have z9 := led_ta hea; first | walk_at "x_mem" | simp [z9])) (by decide) rfl (by decide) ?_
        k_steps
        refine go_ ?_
        rename News _ _ _ _ => lN'
        refine tailV (lstN (us := refs es) (n := nr) lN' (by first | walk_at "x_mem" | simp)) (by lia) (x := .ref eb.ta) (refs_get heb) (by lia) ?_
        k_steps
        refine go_ ?_
        rename News _ _ _ _ => lN'
        refine tailT (tupN (n := 0) (us := [.str (tx (lineL eb.wt)) eb.tk, .ref eb.la]) lN' (by have z9 := led_ta heb; first | walk_at "x_mem" | simp [z9])) (by decide) rfl (by decide) ?_
        k_steps
        refine go_ ?_
        rename News _ _ _ _ => lN'
        rename Fr _ _ _ _ => lF'
        refine addL lF' lN' (lstN (us := ea.us) (n := ea.nn) lN' (by have z9 := led_la hea; first | walk_at "x_mem" | simp [z9])) (lstN (us := eb.us) (n := eb.nn) lN' (by have z9 := led_la heb; first | walk_at "x_mem" | simp [z9])) (by lia) fun il h9 F9 N9 Lil lil => ?_
        k_steps
        refine go_ ?_
        rename News _ _ _ _ => lN'
        rename Fr _ _ _ _ => lF'
        have hil := ltN (lil (lv, listOf lus.toArray 0) (by first | walk_at "x_mem" | simp))
        have hil2 := ltN (lil (ra, listOf (refs es).toArray nr) (by first | walk_at "x_mem" | simp))
        dsimp only at hil hil2
        have hirest : ∀ q ∈ rowLed es ++ tB en, q.1 < il := fun q hq => lil q (List.Mem.tail _ (List.Mem.tail _ hq))
        have hii : IntsAre (ea.us ++ eb.us) (natsI (ea.lv ++ eb.lv)) := by rw [natsI_append]; exact IntsAre.append ua ub
        have N10 := news_sub (b := (lv, listOf lus.toArray 0) :: (il, listOf (ea.us ++ eb.us).toArray 0) :: (ra, listOf (refs es).toArray nr) :: (rowLed es ++ tB en)) lN' (by
          walk_at "x_sub")
        refine' forList (σ := List Value × List Nat) (us := ea.us ++ eb.us) (nn := 0) (fun c => (lv, listOf c.1.toArray 0) :: (il, listOf (ea.us ++ eb.us).toArray 0) :: (ra, listOf (refs es).toArray nr) :: (rowLed es ++ tB en)) (fun _ => []) [PySem.Str.ofString "leaf"]
          (fun i c => IntsAre c.1 (natsI c.2) ∧ c.2.length = 6 ∧ c.2 = incs lev ((ea.lv ++ eb.lv).take i)) (lus, lev) rfl (lstN (us := ea.us ++ eb.us) (n := 0) N10 (by first | walk_at "x_mem" | simp)) (Nat.ne_of_gt Lil) lF' N10 trivial ⟨r5, r6, rfl⟩ ?_ ?_
        · rintro i ⟨lu2, lev2⟩ v I ts3 u3 h10 tk10 own3 hiv hz10 hoff hown hz13 F10 N11
          (try k_fold)
          obtain ⟨t1, t2, t3⟩ := hz10
          obtain ⟨oI, hoI⟩ := hz13
          dsimp only at t1 t2 t3
          dsimp only [psAt] at F10
          have hi9 : i < (ea.lv ++ eb.lv).length := by
            have := (List.getElem?_eq_some_iff.mp hiv).1
            simp at this ⊢; lia
          obtain ⟨lf, hlf⟩ : ∃ lf, (ea.lv ++ eb.lv)[i]? = some lf := ⟨_, List.getElem?_eq_getElem hi9⟩
          have hlf6 : lf < 6 := by
            have := List.mem_of_getElem? hlf
            rcases List.mem_append.mp this with h | h
            · exact va lf h
            · exact vb lf h
          obtain ⟨tv, htv⟩ := hii.get i (lf : Int) (by unfold natsI; rw [List.getElem?_map, hlf]; rfl)
          have hvv : v = .int (lf : Int) tv := by rw [htv] at hiv; exact (Option.some.inj hiv).symm
          subst hvv
          have hIl : lv ≠ I := fun e => hoff (lv, listOf lu2.toArray 0) (List.Mem.head _) (by rw [← e]; exact List.Mem.head _)
          have N12 := news_sub (b := (lv, listOf lu2.toArray 0) :: ((il, listOf (ea.us ++ eb.us).toArray 0) :: (ra, listOf (refs es).toArray nr) :: (rowLed es ++ tB en ++ own3))) N11 (by
            walk_at "x_sub")
          clear N11
          k_steps
          refine go_ ?_
          rename News _ _ _ _ => lN'
          refine getN (lstN (us := lu2) (n := 0) lN' (by first | walk_at "x_mem" | simp)) t1 (by lia) (by simp [natsI]; lia) (by lia) fun t4 => ?_
          rw [Int.toNat_natCast, natsI_getD]
          k_steps
          refine go_ ?_
          rename News _ _ _ _ => lN'
          rename Fr _ _ _ _ => lF'
          refine setN lF' lN' (by lia) (by rw [Int.toNat_natCast, t1.length]; simp [natsI]; lia) (by lia) (.head ?_) fun h11 F11 N13 => ?_
          · intro q hq
            simp only [List.mem_cons, List.mem_append] at hq
            rcases hq with rfl | rfl | (h | h) | h
            · exact neN (by dsimp only; lia)
            · exact r10
            · exact r11 q (List.mem_append_left _ h)
            · exact r11 q (List.mem_append_right _ h)
            · have h1 := hown q h
              simp only [List.mem_cons, List.not_mem_nil, or_false] at h1
              rcases h1 with h1 | h1
              · rw [h1]; exact hIl.symm
              · rw [h1]; exact neN (by lia)
          rw [Int.toNat_natCast] at N13
          k_steps
          rename News _ _ _ _ => lN'
          rename Fr _ _ _ _ => lF'
          obtain ⟨tq, N14⟩ : ∃ tq, News g L' _ ((lv, listOf (lu2.set lf (.int (((lev2.getD lf 0 + 1 : Nat) : Int)) tq)).toArray 0) :: ((il, listOf (ea.us ++ eb.us).toArray 0) :: (ra, listOf (refs es).toArray nr) :: (rowLed es ++ tB en ++ own3))) := ⟨_, lN'⟩
          refine go_ (fend (lu2.set lf (.int (((lev2.getD lf 0 + 1 : Nat) : Int)) tq), lev2.set lf (lev2.getD lf 0 + 1)) lF' N14 ?_ ?_ (by walk_at "m_loc") ⟨?_, by simpa using t2, ?_⟩)
          · walk_at "x_sub"
          · intro q hq
            rcases List.mem_cons.mp hq with rfl | hq
            · exact hoff (lv, listOf lu2.toArray 0) (List.Mem.head _)
            · exact hoff q (List.Mem.tail _ hq)
          · dsimp only
            rw [← natsI_set]
            exact IntsAre_set t1 _ _ _
          · dsimp only
            rw [List.take_add_one, hlf]
            show _ = incs lev (_ ++ [lf])
            rw [incs_snoc, ← t3]
        · rintro ⟨lu2, lev2⟩ ts3 u3 h10 tk10 hz5 F10 N11
          (try k_fold)
          obtain ⟨t1, t2, t3⟩ := hz5
          dsimp only at t1 t2 t3
          dsimp only [psAt] at F10
          rw [show (ea.us ++ eb.us).length = (ea.lv ++ eb.lv).length by simp [lua, lub], List.take_length] at t3
          have hS1 : ea.wt + eb.wt ≤ ws.sum := by
            have h8 := nxt_sum ((grow es).map (·.1)) k 0 s1 (by simpa [grow] using s2) (by lia)
            have e1 : ((grow es).map (·.1)).getD (k - 1) 0 = ea.wt := wA_get hea
            have e2 : ((grow es).map (·.1)).getD k 0 = eb.wt := wA_get heb
            rw [e1, e2, r4] at h8
            rw [← h8]
            unfold nxt
            simp only [List.sum_append, List.sum_cons, List.sum_nil]
            lia
          have N12 : News g L' h10 ((lv, listOf lu2.toArray 0) :: (il, listOf (ea.us ++ eb.us).toArray 0) :: (ra, listOf (refs es).toArray nr) :: (rowLed es ++ tB en)) := N11
          clear N11
          k_steps
          refine go_ ?_
          rename News _ _ _ _ => lN'
          refine tailV (lstN (us := refs es) (n := nr) lN' (by first | walk_at "x_mem" | simp)) (by lia) (x := .ref ea.ta) ?_ (by lia) ?_
          · rw [zp k]; exact refs_get hea
          k_steps
          refine go_ ?_
          rename News _ _ _ _ => lN'
          refine tailT (tupN (n := 0) (us := [.str (tx (lineL ea.wt)) ea.tk, .ref ea.la]) lN' (by have z9 := led_ta hea; first | walk_at "x_mem" | simp [z9])) (by decide) rfl (by decide) ?_
          k_steps
          refine go_ ?_
          rename News _ _ _ _ => lN'
          have N13 := news_sub (b := tB en ++ ((lv, listOf lu2.toArray 0) :: (il, listOf (ea.us ++ eb.us).toArray 0) :: (ra, listOf (refs es).toArray nr) :: rowLed es)) lN' (by
            walk_at "x_sub")
          have ap1 : Apart (tB en) ((lv, listOf lu2.toArray 0) :: (il, listOf (ea.us ++ eb.us).toArray 0) :: (ra, listOf (refs es).toArray nr) :: rowLed es) := by
            refine Apart.sub (r := (il, listOf (ea.us ++ eb.us).toArray 0) :: (ra, listOf (refs es).toArray nr) :: (lv, listOf lus.toArray 0) :: rowLed es) (Apart.cons r8 fun q hq => hirest q (List.mem_append_right _ hq)) fun q hq => ?_
            simp only [List.mem_cons] at hq
            rcases hq with rfl | rfl | rfl | h
            · exact ⟨(lv, listOf lus.toArray 0), by simp, rfl⟩
            · exact ⟨(il, listOf (ea.us ++ eb.us).toArray 0), by simp, rfl⟩
            · exact ⟨(ra, listOf (refs es).toArray nr), by simp, rfl⟩
            · exact ⟨q, by simp [h], rfl⟩
          (try k_fold)
          k_dflt refine' (c_readN w p loose mean mg mb ea.wt _ xa (hz6 _ (wt_le (List.mem_of_getElem? hea) r4))) _ _ _ _ _ _ _ _ _ _ _ _ _ _ ((lv, listOf lu2.toArray 0) :: (il, listOf (ea.us ++ eb.us).toArray 0) :: (ra, listOf (refs es).toArray nr) :: rowLed es) en _ _ _ (by k_asm) (by k_asm) (by k_asm) N13 ap1 r9 (by k_asm) rfl (fun _ h => nomatch h) ?rm ?un (pvP fun t6 en1 h12 tk12 F12 N14 ap2 ok2 => ?_)
          case rm => exact lt_add hd (by decide)
          case un => exact lt_add hu (by decide)
          try clear N13
          k_steps
          refine go_ ?_
          rename News _ _ _ _ => lN'
          refine tailV (lstN (us := refs es) (n := nr) lN' (by first | walk_at "x_mem" | simp)) (by lia) (x := .ref eb.ta) (refs_get heb) (by lia) ?_
          k_steps
          refine go_ ?_
          rename News _ _ _ _ => lN'
          refine tailT (tupN (n := 0) (us := [.str (tx (lineL eb.wt)) eb.tk, .ref eb.la]) lN' (by have z9 := led_ta heb; first | walk_at "x_mem" | simp [z9])) (by decide) rfl (by decide) ?_
          k_steps
          refine go_ ?_
          rename News _ _ _ _ => lN'
          (try k_fold)
          k_dflt refine' (c_readN w p loose mean mg mb eb.wt _ xb (hz6 _ (wt_le (List.mem_of_getElem? heb) r4))) _ _ _ _ _ _ _ _ _ _ _ _ _ _ ((lv, listOf lu2.toArray 0) :: (il, listOf (ea.us ++ eb.us).toArray 0) :: (ra, listOf (refs es).toArray nr) :: rowLed es) (some en1) _ _ _ (by k_asm) (by k_asm) (by k_asm) lN' ap2 ok2 (by k_asm) rfl (fun _ h => nomatch h) ?rm ?un (pvP fun t7 en2 h13 tk13 F13 N15 ap3 ok3 => ?_)
          case rm => exact lt_add hd (by decide)
          case un => exact lt_add hu (by decide)
          try clear ap2 ok2
          k_steps
          refine go_ ?_
          obtain ⟨S, hS⟩ : ∃ S, S = ea.wt + eb.wt := ⟨_, rfl⟩
          have hSn : ((ea.wt : Int) + (eb.wt : Int)).natAbs = S := by lia
          have hS5 : S < 16 ^ 5 := by lia
          have hSl := apL_len hS5
          have hS0 : S ≠ 0 := by lia
          (try k_fold)
          k_dflt refine' (c_ap w p loose mean mg mb ((ea.wt : Int) + (eb.wt : Int)) _ (by lia)) _ _ _ _ _ _ _ _ _ _ _ _ _ _ _ _ _ _ (by k_asm) (by k_asm) (by k_asm) (by k_asm) (by k_asm) rfl (fun _ h => nomatch h) ?rm ?un (pv fun t8 h14 tk14 F14 N16 => ?_)
          case rm => exact lt_add hd (by decide)
          case un => exact lt_add hu (by decide)
          rw [hSn]
          k_steps
          refine go_ (KBd.method ?_)
          k_steps
          refine go_ (decA (l := apL S) (fun x hx => by have := apL_mem hx; lia) (by lia) (ap_ne hS0) fun t9 k9 => ?_)
          k_steps
          refine go_ (KXw.rjust (y := tx (lineL S)) (rjust_tx _ (by lia)) (by decide) fun t10 k10 => ?_)
          k_steps
          refine go_ ?_
          rename News _ _ _ _ => lN'
          rename Fr _ _ _ _ => lF'
          refine' whlJ (σ := Nat) (fun _ => tEnt 68 61 4 (some en2) ++ ((lv, listOf lu2.toArray 0) :: (il, listOf (ea.us ++ eb.us).toArray 0) :: (ra, listOf (refs es).toArray nr) :: rowLed es)) (fun p => [(PySem.Str.ofString "place", .int (p : Int))]) []
            (fun p => p ≤ k - 1 ∧ ∀ j, p ≤ j → j < k - 1 → wA es j < S) (fun p => p) (fun p => p ≤ k - 1 ∧ (∀ j, p ≤ j → j < k - 1 → wA es j < S) ∧ (0 < p → S ≤ wA es (p - 1))) (k - 1) lF' lN' ?kk3 ?kp3 ?_ ?_
          case kk3 => (rw [show ((k - 1 : Nat) : Int) = (k : Int) - 1 by lia]); walk_at "m_has"
          case kp3 => exact ⟨Nat.le_refl _, fun j h1 h2 => by lia⟩
          · clear lF' lN'
            rintro pl ts5 u5 h15 tk15 hz5 F15 N17
            (try k_fold)
            obtain ⟨y1, y2⟩ := hz5
            try dsimp only at y1 y2
            dsimp only [psAt, Ab.at] at F15
            k_steps
            · obtain ⟨ep, hep⟩ : ∃ e, es[pl - 1]? = some e := ⟨es[pl - 1]'(by lia), List.getElem?_eq_getElem (by lia)⟩
              have hepw := wt_le (List.mem_of_getElem? hep) r4
              refine go_ ?_
              rename News _ _ _ _ => lN'
              refine tailV (lstN (us := refs es) (n := nr) lN' (by first | walk_at "x_mem" | simp)) (by lia) (x := .ref ep.ta) ?_ (by lia) ?_
              · rw [zp pl]; exact refs_get hep
              k_steps
              refine go_ ?_
              rename News _ _ _ _ => lN'
              refine tailT (tupN (n := 0) (us := [.str (tx (lineL ep.wt)) ep.tk, .ref ep.la]) lN' (by have z9 := led_ta hep; first | walk_at "x_mem" | simp [z9])) (by decide) rfl (by decide) ?_
              k_steps
              refine go_ ?_
              (try k_fold)
              k_dflt refine' (c_collN w p loose mean mg mb ep.wt S _ _ (hz6 _ hepw) (hz6 _ (by lia))) _ _ _ _ _ _ _ _ _ _ _ _ _ _ _ _ _ _ (by k_asm) (by k_asm) (by k_asm) (by k_asm) (by k_asm) rfl (fun _ h => nomatch h) ?rm ?un (pv fun t9 h9 tk9 F9 N9 => ?_)
              case rm => exact lt_add hd (by decide)
              case un => exact lt_add hu (by decide)
              by_cases hc : ep.wt < S
              · rw [show cmpN ep.wt S = -1 by unfold cmpN; rw [if_neg (by lia), if_pos hc]]
                k_steps
                rename News _ _ _ _ => lN'
                rename Fr _ _ _ _ => lF'
                have hpl : ((pl : Int) - 1) = ((pl - 1 : Nat) : Int) := by lia
                refine go_ (wend (pl - 1) lF' lN' (fun q hq => hq) (by (rw [← hpl]); walk_at "m_loc") ?_ ?_)
                · refine ⟨by lia, fun j h1 h2 => ?_⟩
                  by_cases h : pl ≤ j
                  · exact y2 j h h2
                  · have hjk : j = pl - 1 := by lia
                    subst hjk
                    rw [wA_get hep]; exact hc
                · lia
              · have hc2 : ¬ cmpN ep.wt S = -1 := by unfold cmpN; simp only [hc, if_false]; split <;> decide
                k_steps
                · rename cmpN _ _ = -1 => hx; exact absurd hx hc2
                · rename News _ _ _ _ => lN'
                  rename Fr _ _ _ _ => lF'
                  refine go_ (wdone pl lF' lN' (fun q hq => hq) (by walk_at "m_loc") ⟨y1, y2, fun _ => ?_⟩)
                  rw [wA_get hep]; lia
            · rename News _ _ _ _ => lN'
              rename Fr _ _ _ _ => lF'
              refine go_ (wdone pl lF' lN' (fun q hq => hq) (by walk_at "m_loc") ⟨y1, y2, fun h => ?_⟩)
              lia
          · clear lF' lN'
            rintro pl ts5 u5 h15 tk15 hz5 F15 N17
            (try k_fold)
            obtain ⟨y1, y2, y3⟩ := hz5
            have hr6 : (refs es).length ≤ 6 := by rw [hrl]; assumption
            try dsimp only at y1 y2 y3
            dsimp only [psAt, Ab.at] at F15
            k_steps
            refine go_ ?_
            rename News _ _ _ _ => lN'
            rename Fr _ _ _ _ => lF'
            refine sliceL (s := ⟨_, _, _, _, _⟩) (zs := (refs es).take pl) lF' lN' (lstN (us := refs es) (n := nr) lN' (by first | walk_at "x_mem" | simp)) (by constructor) (by constructor) ?_ (by lia) fun l1 h16 F16 N18 La1 lb1 => ?_
            · unfold kms_pick kms_lo kms_hi
              dsimp only
              rw [hrl, if_neg (by lia), List.drop_zero, Nat.sub_zero, cut_lo _ _ _ y1 s2]
            k_steps
            refine go_ ?_
            rename News _ _ _ _ => lN'
            rename Fr _ _ _ _ => lF'
            rename_i tn _ _ _ ltn1 ltn2 l2 _ ll1 ll2
            have g1 := ltN (ltn2 (lv, listOf lu2.toArray 0) (by first | walk_at "x_mem" | simp))
            dsimp only at g1
            have g2 : ∀ q ∈ tEnt 68 61 4 (some en2), q.1 < tn := fun q hq => ltn2 q (List.mem_cons_of_mem _ (List.mem_append_left _ hq))
            refine addL lF' lN' (lstN (us := (refs es).take pl) (n := 0) lN' (by first | walk_at "x_mem" | simp)) (lstN (us := [.ref tn]) (n := 0) lN' (List.Mem.head _)) (sz_a _ hr6 _ _) fun l3 h17 F17 N19 La3 lb3 => ?_
            k_steps
            refine go_ ?_
            rename News _ _ _ _ => lN'
            rename Fr _ _ _ _ => lF'
            refine sliceL (s := ⟨_, _, _, _, _⟩) (zs := ((refs es).drop pl).take (k - 1 - pl)) lF' lN' (lstN (us := refs es) (n := nr) lN' (by first | walk_at "x_mem" | simp)) (by constructor) (by constructor) ?_ (by lia) fun l4 h18 F18 N20 La4 lb4 => ?_
            · unfold kms_pick kms_lo kms_hi
              dsimp only
              rw [hrl, if_neg (by lia), if_neg (by lia), cut_lo _ _ _ y1 s2, cut_hi _ _ s1 s2]
            k_steps
            refine go_ ?_
            rename News _ _ _ _ => lN'
            rename Fr _ _ _ _ => lF'
            refine addL lF' lN' (lstN (us := (refs es).take pl ++ [.ref tn]) (n := 0) lN' (by first | walk_at "x_mem" | simp)) (lstN (us := ((refs es).drop pl).take (k - 1 - pl)) (n := 0) lN' (List.Mem.head _)) (sz_b _ hr6 _ _ _) fun l5 h19 F19 N21 La5 lb5 => ?_
            k_steps
            refine go_ ?_
            rename News _ _ _ _ => lN'
            rename Fr _ _ _ _ => lF'
            refine sliceL (s := ⟨_, _, _, _, _⟩) (zs := (refs es).drop (k + 1)) lF' lN' (lstN (us := refs es) (n := nr) lN' (by first | walk_at "x_mem" | simp)) (by constructor) (by constructor) ?_ (by lia) fun l6 h20 F20 N22 La6 lb6 => ?_
            · unfold kms_pick kms_lo kms_hi
              dsimp only
              rw [hrl, if_neg (by lia), cut_up _ _ s2, List.take_of_length_le (by simp; lia)]
            k_steps
            refine go_ ?_
            rename News _ _ _ _ => lN'
            rename Fr _ _ _ _ => lF'
            refine addL lF' lN' (lstN (us := (refs es).take pl ++ [.ref tn] ++ ((refs es).drop pl).take (k - 1 - pl)) (n := 0) lN' (by first | walk_at "x_mem" | simp)) (lstN (us := (refs es).drop (k + 1)) (n := 0) lN' (List.Mem.head _)) (sz_c _ hr6 _ _ _ _) fun l7 h21 F21 N23 La7 lb7 => ?_
            k_steps
            rename News _ _ _ _ => lN'
            rename Fr _ _ _ _ => lF'
            have hL6 : (l6, listOf ((refs es).drop (k + 1)).toArray 0) ∈ (l6, listOf ((refs es).drop (k + 1)).toArray 0) :: (l5, listOf ((refs es).take pl ++ [Value.ref tn] ++ ((refs es).drop pl).take (k - 1 - pl)).toArray 0) :: (l4, listOf (((refs es).drop pl).take (k - 1 - pl)).toArray 0) :: (l3, listOf ((refs es).take pl ++ [Value.ref tn]).toArray 0) :: (l2, listOf [Value.ref tn].toArray 0) :: (tn, tupOf [.str (tx (lineL S)) t10, .ref il]) :: (l1, listOf ((refs es).take pl).toArray 0) :: (tEnt 68 61 4 (some en2) ++ ((lv, listOf lu2.toArray 0) :: (il, listOf (ea.us ++ eb.us).toArray 0) :: (ra, listOf (refs es).toArray nr) :: rowLed es)) := List.Mem.head _
            clear hL6
            have f1 := ltN (lb7 (lv, listOf lu2.toArray 0) (by first | walk_at "x_mem" | simp))
            have f2 : ∀ q ∈ tEnt 68 61 4 (some en2), q.1 < l7 := fun q hq => lb7 q (by first | walk_at "x_mem" | (simp only [List.mem_cons, List.mem_append]; exact .inr (.inr (.inr (.inr (.inr (.inr (.inr (.inl hq)))))))))
            dsimp only at f1
            obtain ⟨enew, hen⟩ : ∃ e : Ent, e = Ent.mk S (ea.lv ++ eb.lv) tn il (ea.us ++ eb.us) 0 t10 := ⟨_, rfl⟩
            have hrefs : (refs es).take pl ++ [Value.ref tn] ++ ((refs es).drop pl).take (k - 1 - pl) ++ (refs es).drop (k + 1) = refs (nxt es enew k pl) := by
              unfold refs
              rw [map_nxt, hen]; rfl
            have hgrow : grow (nxt es enew k pl) = nxt (grow es) (S, ea.lv ++ eb.lv) k pl := by
              unfold grow
              rw [map_nxt, hen]
            have henl : enew.led = [(tn, tupOf [.str (tx (lineL S)) t10, .ref il]), (il, listOf (ea.us ++ eb.us).toArray 0)] := by rw [hen]; rfl
            have hlen : (nxt es enew k pl).length + 1 = es.length := nxt_len es enew k pl s1 s2 (by lia)
            rw [hrefs] at lN'
            have gga : (grow es).getD (k - 1) (0, []) = (ea.wt, ea.lv) := by
              unfold grow
              rw [List.getD_eq_getElem?_getD, List.getElem?_map, hea]; rfl
            have ggb : (grow es).getD k (0, []) = (eb.wt, eb.lv) := by
              unfold grow
              rw [List.getD_eq_getElem?_getD, List.getElem?_map, heb]; rfl
            have hstep : StepOk ((grow es).map (·.1)) k pl := by
              have hgl : ((grow es).map (·.1)).length = es.length := by simp [grow]
              refine ⟨s1, by rw [hgl]; exact s2, by lia, s3, by rw [hgl]; exact s4, ?_, ?_⟩
              · intro j h1 h2
                have e1 : ((grow es).map (·.1)).getD (k - 1) 0 = ea.wt := wA_get hea
                have e2 : ((grow es).map (·.1)).getD k 0 = eb.wt := wA_get heb
                rw [e1, e2, ← hS]
                exact y2 j h1 h2
              · intro h1
                have e1 : ((grow es).map (·.1)).getD (k - 1) 0 = ea.wt := wA_get hea
                have e2 : ((grow es).map (·.1)).getD k 0 = eb.wt := wA_get heb
                rw [e1, e2, ← hS]
                exact y3 h1
            refine go_ (wend (S3.mk (nxt es enew k pl) l7 0 lu2 lev2 (some en2)) lF' (news_sub (b := S3.led lv (S3.mk (nxt es enew k pl) l7 0 lu2 lev2 (some en2))) lN' ?sub) (fun q hq => hq) (by walk_at "m_loc") ?_ ?_)
            case sub =>
              dsimp only [S3.led]
              refine all_cons (by walk_at "x_mem") (all_cons (by walk_at "x_mem") (all_app (fun q h => ?_) (by walk_at "x_sub")))
              rcases rowLed_nxt h with h | h
              · rw [henl] at h
                exact all_cons (by walk_at "x_mem") (all_cons (by walk_at "x_mem") all_nil) q h
              · walk_at "x_mem"
            · refine ⟨by dsimp only; lia, by dsimp only; lia, ?_, ?_, ?_, t1, t2, ?_, ?_, ok3, ?_, ?_⟩
              · intro e he
                rcases mem_nxt he with rfl | he
                · rw [hen]
                  refine ⟨hii, fun i hi => ?_, by dsimp only; lia⟩
                  rcases List.mem_append.mp hi with h | h
                  · exact va i h
                  · exact vb i h
                · exact r3 e he
              · dsimp only
                rw [map_nxt, hen]
                have e1 : (es.map fun e => e.lv.length).getD (k - 1) 0 = ea.lv.length := by
                  rw [List.getD_eq_getElem?_getD, List.getElem?_map, hea]; rfl
                have e2 : (es.map fun e => e.lv.length).getD k 0 = eb.lv.length := by
                  rw [List.getD_eq_getElem?_getD, List.getElem?_map, heb]; rfl
                have := nxt_sum (es.map fun e => e.lv.length) k pl s1 (by simpa using s2) (by lia)
                rw [e1, e2] at this
                dsimp only
                rw [List.length_append, this]
                exact r12
              · dsimp only
                rw [hgrow, map_nxt]
                have e1 : ((grow es).map (·.1)).getD (k - 1) 0 = ea.wt := wA_get hea
                have e2 : ((grow es).map (·.1)).getD k 0 = eb.wt := wA_get heb
                have := nxt_sum ((grow es).map (·.1)) k pl s1 (by simpa [grow] using s2) (by lia)
                rw [e1, e2, ← hS] at this
                rw [this]
                exact r4
              · intro l' hgr
                refine r7 l' (GR.step k pl hstep ?_)
                rw [gga, ggb]
                dsimp only
                rw [← hS, ← hgrow, ← t3]
                exact hgr
              · have ap4 : Apart (tEnt 68 61 4 (some en2)) ((tn, tupOf [.str (tx (lineL S)) t10, .ref il]) :: (lv, listOf lu2.toArray 0) :: (il, listOf (ea.us ++ eb.us).toArray 0) :: (ra, listOf (refs es).toArray nr) :: rowLed es) := Apart.cons ap3 g2
                refine Apart.cons (r := (lv, listOf lu2.toArray 0) :: rowLed (nxt es enew k pl)) (Apart.sub ap4 fun q hq => ⟨q, ?_, rfl⟩) f2
                revert q
                refine all_cons (by walk_at "x_mem") fun q h => ?_
                rcases rowLed_nxt h with h | h
                · rw [henl] at h
                  exact all_cons (by walk_at "x_mem") (all_cons (by walk_at "x_mem") all_nil) q h
                · walk_at "x_mem"
              · exact neN (by dsimp only; lia)
              · refine ⟨?_, .inr ⟨en2, rfl⟩⟩
                intro q hq
                rcases List.mem_append.mp hq with h | h
                · rcases rowLed_nxt h with h | h
                  · rw [henl] at h
                    exact all_cons (P := fun q => q.1 ≠ lv) (neN (by lia)) (all_cons (neN (by lia)) all_nil) q h
                  · exact r11 q (List.mem_append_left _ h)
                · exact (ap3 (lv, listOf lu2.toArray 0) (List.Mem.head _) q h).symm
            · dsimp only; lia
    · obtain ⟨e0, he0⟩ : ∃ e, es[0]? = some e := ⟨es[0]'(by lia), List.getElem?_eq_getElem (by lia)⟩
      have hes1 : es = [e0] := by
        match es, he0, r1 with
        | [e], h, _ => rw [← Option.some.inj h]
        | a :: b :: r, _, _ => simp at *; lia
      refine go_ ?_
      rename News _ _ _ _ => lN'
      refine tailV (lstN (us := refs es) (n := nr) lN' (by first | walk_at "x_mem" | simp)) (by decide) (x := .ref e0.ta) (refs_get he0) (by decide) ?_
      k_steps
      refine go_ ?_
      rename News _ _ _ _ => lN'
      refine tailT (tupN (n := 0) (us := [.str (tx (lineL e0.wt)) e0.tk, .ref e0.la]) lN' (by simp [led_ta he0])) (by decide) rfl (by decide) ?_
      k_steps
      rename News g L' _ _ => gN
      rename Fr g L' _ _ => gF
      rename News h₀ L _ _ => kN
      rename_i ad2 _ lad1 lad2 _ _ _
      have hwsum : e0.wt = ws.sum := by rw [← r4, hes1]; simp [grow]
      have hgrf := r7 lev (GR.done (by rw [hes1]; simp [grow]))
      obtain ⟨e9, he9⟩ : ∃ e, en = some e := by
        rcases r13 with h | h
        · rw [hes1] at h; simp at h
        · exact h
      subst he9
      have bl := base_lt gF hr
      have lL := fr_lt FG' gF
      have apR := apart_of gN hr
      intro hnews
      have h8a := ltN (lad2 (lv, listOf lus.toArray 0) (by first | walk_at "x_mem" | simp))
      dsimp only at h8a
      have h8b := ltN hLlv
      refine hret _ [(ad2, tupOf [.ref lv, .str (tx (lineL e0.wt)) e0.tk]), (lv, listOf lus.toArray 0)] e9 _ _ (by assumption) ?_ ?_ r9 ?_ ⟨ad2, lv, lus, 0, lev, e0.tk, rfl, by rw [hwsum], r5, hgrf⟩
      · exact all_app (all_cons (kN _ (by walk_at "x_mem")) (all_cons (kN _ (by walk_at "x_mem")) all_nil)) (all_app (fun q h => kN q (by walk_at "x_mem")) hnews)
      · intro q hq r hr2
        simp only [List.mem_append, List.mem_cons, List.not_mem_nil, or_false] at hq
        rcases hq with (rfl | rfl) | h
        · exact Nat.ne_of_gt (lad2 r (by first | walk_at "x_mem" | simp [hr2]))
        · exact (r11 r (List.mem_append_right _ hr2)).symm
        · exact apR q h r (by first | walk_at "x_mem" | simp [hr2])
      · intro q hq
        simp only [List.mem_cons, List.not_mem_nil, or_false] at hq
        rcases hq with rfl | rfl
        · refine ⟨fun p hp => ?_, ?_⟩
          · have := ltN (bl p hp)
            exact ltN (by dsimp only; lia)
          · have := ltN lL
            exact ltN (by dsimp only; lia)
        · refine ⟨fun p hp => ?_, ?_⟩
          · have := ltN (bl p hp)
            exact ltN (by dsimp only; lia)
          · have := ltN lL
            exact ltN (by dsimp only; lia)
end Mine
end
section
open PySem PySem.W PyProof.Rows
set_option maxRecDepth 100000
set_option maxHeartbeats 8000000 
namespace Mine
theorem anew15 : True ∧ True := by
  (w_top off)
  k_with_none
  k_with "m_loc" => (refine ⟨?l1, ?l2⟩; (case l1 => (with_unfolding_all (repeat' (first | exact trivial | refine And.intro ⟨_, rfl⟩ ?_)))); (case l2 => (intro z h1 h2; have h3 := h2; (try simp only [List.forall_mem_cons, List.not_mem_nil, false_implies, implies_true, and_true, ne_eq] at h1); (try simp only [List.contains_cons, List.contains_nil, Bool.or_false, Bool.or_eq_false_iff, beq_eq_false_iff_ne, ne_eq] at h2); (simp only [kstB, h1, h2, h3, if_false, Bool.false_eq_true]; done))))
  k_with "m_has" => (with_unfolding_all (repeat' (first | exact trivial | refine And.intro ⟨_, rfl⟩ ?_)))
  k_with "y exec While BoolOp cons nil" => (refine stop_ ?_)
  k_with "y exec While Name cons nil" => (refine stop_ ?_)
  k_with "y WPost" => (dsimp only [WPost])
  k_with "y WEnd" => (refine stop_ ?_)
  k_with "y WDone" => (refine stop_ ?_)
  k_with "y subscriptTail Name Name str int" => (refine KXi.item rfl ?ma ?mb ?mc ?_; (case ma => lia); (case mb => lia); (case mc => lia); intro _)
  k_with "y call builtin:len" => ((with_reducible show wpAny _ _ (call (Value.builtin "len") [Value.str _ _]) _ _ _); refine SBL.len (by lia) ?_)
  k_with "m_sub" => (intro q hq; (repeat (first | exact hq | exact List.Mem.head _ | refine List.Mem.tail _ ?_)))
  k_with "y ite" => (first | refine PySem.W.ite_pos (by with_reducible assumption) ?_ | refine PySem.W.ite_neg (by with_reducible assumption) ?_)
  k_with "y exec FunctionDef" => (refine stop_ ?_)
  k_with "y call ref" => (refine stop_ ?_)
  k_with "y binaryOp LShift int int" => (refine stop_ ?_)
  k_with "y binaryOp RShift int int" => (refine stop_ ?_)
  k_with "y FPost" => (dsimp only [FPost])
  k_with "y FEnd" => (refine stop_ ?_)
  k_with "x_mem" => (with_reducible first | exact mm0 | exact mm1 | exact mm2 | exact mm3 | exact mm4 | exact mm5 | exact mm6 | exact mm7 | exact mm8 | assumption | (refine mm_l ?_; walk_at "x_mem") | (refine mm_r ?_; walk_at "x_mem") | (refine mm_t ?_; walk_at "x_mem"))
  k_with "x_in" => (with_reducible first | exact sub_refl | exact sub_first | exact sub_last | exact sub_tail | (refine sub_l ?_; walk_at "x_in") | (refine sub_r ?_; walk_at "x_in") | (refine sub_t ?_; walk_at "x_in"))
  k_with "x_sub" => ((try refine sub_of ?_); (with_reducible first | exact sub_refl | exact sub_nil | (refine sub_cons ?_ ?_; (walk_at "x_mem"); (walk_at "x_sub")) | (refine sub_app ?_ ?_; (walk_at "x_sub"); (walk_at "x_sub")) | walk_at "x_in"))
  k_with "y execs cons" => (first | (k_here; k_gentoks) | (k_here; k_made; walk_at "execs cons") | ((with_reducible refine wpAny_execs_cons ?_); (try dsimp only); (try k_fold)))
  k_with "y newTuple" => ((refine newTuple_L (by assumption) (by assumption) (Nat.le_of_ble_eq_true rfl) ?_); intro _ _ _ _ _ _)
  k_with "y newList" => ((refine newList_L (by assumption) (by assumption) (Nat.le_of_ble_eq_true rfl) ?_); intro _ _ _ _ _ _)
  k_with "y exec For Name Name cons nil" => ((with_unfolding_all refine' For_invVF (by assumption) ?k1 ?k2 ?_); (case k1 => exact rfl); (case k2 => exact rfl))
  k_with "y exec For Name Call cons nil" => ((with_unfolding_all refine' For_invVF (by assumption) ?k1 ?k2 ?_); (case k1 => exact rfl); (case k2 => exact rfl))
  k_with "y exec For Name Subscript cons nil" => ((with_unfolding_all refine' For_invVF (by assumption) ?k1 ?k2 ?_); (case k1 => exact rfl); (case k2 => exact rfl))
  k_with "y exec For Name List cons nil" => ((with_unfolding_all refine' For_invVF (by assumption) ?k1 ?k2 ?_); (case k1 => exact rfl); (case k2 => exact rfl))
  k_with "y exec For Name Attribute cons nil" => ((with_unfolding_all refine' For_invVF (by assumption) ?k1 ?k2 ?_); (case k1 => exact rfl); (case k2 => exact rfl))
  k_with "y pyIter ref" => (refine stop_ ?_)
  k_with "y getItem ref int" => (refine stop_ ?_)
  k_with "y setItem ref int" => (refine stop_ ?_)
  k_with "y subscriptTail Name Name ref int" => (refine stop_ ?_)
  k_with "y subscriptTail Name Constant ref int" => (refine stop_ ?_)
  k_with "y subscriptTail Name BinOp ref int" => (refine stop_ ?_)
  k_with "y subscriptTail Subscript Constant ref int" => (refine stop_ ?_)
  k_with "y subscriptTail List BinOp ref int" => (refine stop_ ?_)
  k_with "y subscriptTail Name Slice ref ref" => (refine stop_ ?_)
  k_with "y binaryOp Add bytes bytes" => (refine stop_ ?_)
  k_with "y binaryOp Add ref ref" => (refine stop_ ?_)
  k_with "y getMethod bytes" => (refine stop_ ?_)
  k_with "y call type:tuple" => (refine stop_ ?_)
  k_with "y pyIter str" => (refine stop_ ?_)
  k_with "y eval ListComp" => (refine stop_ ?_)
  k_with "y CEnd" => (refine stop_ ?_)
  k_with "m_clean" => (any_goals first | exact (0 : Addr) | exact PySem.Str.ofString "" | exact Value.none | exact ([] : List (MStr × Addr)))
  k_with "m_has" => (with_unfolding_all (repeat' (first | exact trivial | refine And.intro ⟨0, rfl⟩ ?_ | refine And.intro ⟨_, rfl⟩ ?_)))
  k_with "m_loc" => (refine ⟨?l1, ?l2⟩; (case l1 => walk_at "m_has"); (case l2 => (intro z h1 h2; have h3 := h2; (try simp only [List.forall_mem_cons, List.not_mem_nil, false_implies, implies_true, and_true, ne_eq] at h1); (try simp only [List.contains_cons, List.contains_nil, Bool.or_false, Bool.or_eq_false_iff, beq_eq_false_iff_ne, ne_eq] at h2); (first | (simp only [kstB, h1, h2, h3, if_false, Bool.false_eq_true]; done) | (simp [kstB, h1, h2, h3]; done)))))
  k_with "y eval Name" => ((with_reducible show wpAny _ _ (eval (.Name _ _) (compEnvC _ _ _ _)) _ _ _); (refine' nameCell ?k1 ?k2 ?k3 ‹News _ _ _ _› ?k5 ?k6 ?_); (case k1 => exact rfl); (case k2 => with_unfolding_all rfl); (case k3 => with_unfolding_all rfl); (case k5 => (repeat (first | exact List.Mem.head _ | refine List.Mem.tail _ ?_))); (case k6 => assumption))
  k_with "y subscriptTail Call Slice bytes ref" => (refine stop_ ?_)
  k_with "y binaryOp FloorDiv int int" => (refine stop_ ?_)
  k_with "y binaryOp Add str str" => (refine stop_ ?_)
  k_with "y call builtin:max" => (refine stop_ ?_)
  k_with "y call builtin:len" => (refine stop_ ?_)
  k_with "y call builtin:list.append" => (refine stop_ ?_)
  k_with "y call builtin:bytes.decode" => (refine stop_ ?_)
  k_with "y binaryOp Mult str int" => (refine stop_ ?_)
  k_with "y binaryOp Mult int int" => (refine stop_ ?_)
  k_with "y binaryOp Pow int int" => (refine stop_ ?_)
  k_with "y compareOp NotEq ref ref" => (refine stop_ ?_)
  k_with "y subscriptTail Name UnaryOp ref int" => (refine stop_ ?_)
  exact ⟨trivial, trivial⟩
/-- texts by their signs' numbers -/
noncomputable def Txs : List Value → List (List Nat) → Prop
  | [], [] => True
  | v :: vs, x :: xs => (∃ t, v = .str (tx x) t) ∧ Txs vs xs
  | _, _ => False
theorem Txs.len : ∀ {vs : List Value} {ws : List (List Nat)}, Txs vs ws → vs.length = ws.length
  | [], [], _ => rfl
  | _ :: _, _ :: _, h => by simp [Txs.len h.2]
theorem Txs.get : ∀ {vs : List Value} {ws : List (List Nat)}, Txs vs ws → ∀ (i : Nat) (x : List Nat), ws[i]? = some x → ∃ t, vs[i]? = some (.str (tx x) t)
  | [], [], _, _, _, e => nomatch e
  | _ :: _, _ :: _, h, 0, x, e => by
    obtain ⟨t, rfl⟩ := h.1
    exact ⟨t, by rw [← Option.some.inj e]; rfl⟩
  | _ :: _, _ :: _, h, i + 1, x, e => Txs.get h.2 i x e
theorem Txs.snoc : ∀ {vs : List Value} {ws : List (List Nat)} (x : List Nat) (t : Tok), Txs vs ws → Txs (vs ++ [.str (tx x) t]) (ws ++ [x])
  | [], [], _, t, _ => ⟨⟨t, rfl⟩, trivial⟩
  | _ :: _, _ :: _, x, t, h => ⟨h.1, Txs.snoc x t h.2⟩
structure S4 where
  pl : Nat
  cus : List Value
  cn : Nat
  oT : Obj
  e1 : Option (Addr × Obj)
  e2 : Option (Addr × Obj)
noncomputable def S4.led (cT ca : Addr) (c : S4) : List (Addr × Obj) := tA c.e1 ++ (tB c.e2 ++ [(cT, c.oT), (ca, listOf c.cus.toArray c.cn)])
noncomputable def S4.ok (lev : List Nat) (top : Nat) (cT ca : Addr) (i : Nat) (c : S4) : Prop :=
  c.pl = 3 * pw top (lev.take i) ∧ Txs c.cus ((List.range i).map (wordAt lev top)) ∧ (∃ v, c.oT.data = .cell v) ∧ Apart (tA c.e1) (tB c.e2 ++ [(cT, c.oT), (ca, listOf c.cus.toArray c.cn)]) ∧ Apart (tB c.e2) [(cT, c.oT), (ca, listOf c.cus.toArray c.cn)] ∧ tOk q1 c.e1 ∧ tOk q2 c.e2
theorem c_codes (w : World) (p : Program) (loose : List PySem.Str) (mean : ExcName → Option Value) (mg mb : PySem.Str → Option Value) (lw : Addr) (nn : Nat) (vs : List Value) (lev : List Nat) (top : Nat) (hi : IntsAre vs (natsI lev)) (hok : OkLev lev top) :
  CtrB w p loose mean mg mb 128 [.ref lw] [(lw, listOf vs.toArray nn)] 90 800 (fun r own => ∃ a us n1, r = .ref a ∧ own = [(a, listOf us.toArray n1)] ∧ Txs us ((List.range 6).map (wordAt lev top))) := by
  obtain ⟨o1, o2, o3, o4, o5, o6, o7⟩ := hok
  have hvl : vs.length = 6 := by rw [hi.length]; simp [natsI, o1]
  unfold CtrB
  k_fill
  intro dp un gd cn cs ad ccd cl outer A₀ base h₀ L m news e1 e2 s Q E B F X N ap1 ap2 ok1 ok2 T hk hnd hd hu hret
  have N1 : News h₀ L s.heap (tA e1 ++ tB e2) := news_sub N (by walk_at "x_sub")
  have N2 : News h₀ L s.heap news := news_sub N (by walk_at "x_sub")
  have ap : Apart (tA e1 ++ tB e2) news := fun q hq r hr => (List.mem_append.mp hr).elim (fun h => ap1 q (List.mem_append_right _ hq) r h) fun h => ap2 q hq r h
  have hn := hnd _ (List.Mem.head _)
  refine wpAny_call ?_
  with_unfolding_all refine' enterCK (pre := tA e1 ++ tB e2) (r := news) B F X N1 T N2 ap rfl rfl hk ?ho ?hcd ?room ?hb ?hkd ?hnd ?_ ?e1 ?e2 ?e3
  case ho => k_is
  case hcd => k_is
  case room => ktr_room
  case hb => exact BindsTo.of_eq rfl
  case hkd => exact rfl
  case hnd => decide +kernel
  case e1 => exact rfl
  case e2 => exact rfl
  case e3 => exact rfl
  intro g L' h₁ tk' cells' FG' F' N' Y' B' X' T' st hr l1
  obtain ⟨oT, hE, dT⟩ := CellsAre.one Y'
  subst hE
  have dT' : oT.data = .cell none := by with_unfolding_all exact dT
  clear dT Y'
  have hG : g.IsList lw vs.toArray := ⟨_, hr _ hn, rfl, nn, rfl⟩
  try simp only [List.cons_append, List.nil_append] at N'
  try dsimp only
  try k_fold
  k_steps
  refine go_ ?_
  rename News _ _ _ _ => lN'
  rename Fr _ _ _ _ => lF'
  refine kso_max lF' lN' (lF'.lst hG) hi (by simp [natsI, o1]) rfl fun h2 M t2 tk2 F2 N2' hM1 hM2 => ?_
  have hMt : M = (top : Int) := by
    have h1 : (top : Int) ≤ M := hM2 _ (List.mem_map_of_mem (f := fun n : Nat => (n : Int)) o3)
    obtain ⟨x, hx, hx2⟩ := List.mem_map.mp hM1
    have := (o2 x hx).2
    lia
  subst hMt
  k_steps
  refine go_ ?_
  rename News _ _ _ _ => lN'
  rename Fr _ _ _ _ => lF'
  rename_i _ _ _ ca _ lca1 lca2 _ 
  have hcT := ltN (lca2 (L' + 1, oT) (List.Mem.head _))
  dsimp only at hcT
  have hc1 : ∀ q ∈ tA e1 ++ tB e2, q.1 < L' := l1
  have hlwL : lw ≠ L' := Nat.ne_of_lt (Nat.lt_of_lt_of_le (Heap.lt_size (hr _ hn)) lF'.above)
  have N3 := news_sub (b := S4.led (L' + 1) ca ⟨0, [], 0, oT, e1, e2⟩) lN' (by
    dsimp only [S4.led]; walk_at "x_sub")
  have hfar : ∀ q ∈ [(L' + 1, oT), (ca, listOf ([] : List Value).toArray 0)], L' < q.1 := by
    refine all_cons ?_ (all_cons ?_ all_nil)
    · exact Nat.lt_succ_self _
    · exact lca1
  refine' forList (σ := S4) (us := vs) (nn := nn) (S4.led (L' + 1) ca) (fun c => [(PySem.Str.ofString "place", .int (c.pl : Int))]) [PySem.Str.ofString "level", PySem.Str.ofString "part", PySem.Str.ofString "rest", PySem.Str.ofString "figures"]
    (S4.ok lev top (L' + 1) ca) ⟨0, [], 0, oT, e1, e2⟩ rfl (lF'.lst hG) hlwL lF' N3 ?kk ?kp ?_ ?_
  case kk => walk_at "m_has"
  case kp =>
    refine ⟨by simp [pw], trivial, ⟨_, dT'⟩, ?_, ?_, ok1, ok2⟩
    · intro q hq r hr2
      rcases List.mem_append.mp hq with h | h
      · exact ap1 q (List.mem_append_left _ h) r hr2
      · exact Nat.ne_of_gt (Nat.lt_trans (hc1 r (List.mem_append_left _ hr2)) (hfar q h))
    · intro q hq r hr2
      exact Nat.ne_of_gt (Nat.lt_trans (hc1 r (List.mem_append_right _ hr2)) (hfar q hq))
  · clear N3 lN' lF' hfar
    rintro i ⟨pl, cus, cn, oT2, a1, a2⟩ v I ts u h tk own hiv hz10 hoff hown hz13 F5 N6
    (try k_fold)
    obtain ⟨p1, p2, ⟨vT, p3⟩, p4, p5, p6, p7⟩ := hz10
    obtain ⟨oI, hoI⟩ := hz13
    dsimp only at p1 p2 p3 p4 p5 p6 p7
    dsimp only [psAt, Ab.at] at F5
    have hi6 : i < 6 := by have := (List.getElem?_eq_some_iff.mp hiv).1; lia
    obtain ⟨lf, hlf⟩ : ∃ lf, lf = lev.getD i 0 := ⟨_, rfl⟩
    have hlf2 : lev[i]? = some lf := by rw [hlf, List.getD_eq_getElem?_getD, List.getElem?_eq_getElem (by lia)]; rfl
    obtain ⟨tv, htv⟩ := hi.get i (lf : Int) (by unfold natsI; rw [List.getElem?_map, hlf2]; rfl)
    have hvv : v = .int (lf : Int) tv := by rw [htv] at hiv; exact (Option.some.inj hiv).symm
    subst hvv
    obtain ⟨hlf3, hlf4⟩ := o2 lf (List.mem_of_getElem? hlf2)
    obtain ⟨hdv, htl⟩ := o5 i hi6
    rw [← hlf] at hdv htl
    have N7 := news_sub (b := (L' + 1, oT2) :: (ca, listOf cus.toArray cn) :: (tA a1 ++ (tB a2 ++ own))) N6 (by
      dsimp only [S4.led]; walk_at "x_sub")
    clear N6
    obtain ⟨pt, hpt⟩ : ∃ pt, pt = 3 * 2 ^ (top - lf) := ⟨_, rfl⟩
    have hp32 : 2 ^ (top - lf) ≤ 2 ^ 5 := Nat.pow_le_pow_right (by decide) (by lia)
    have hp0 : 0 < 2 ^ (top - lf) := Nat.pow_pos (by decide)
    have hpw : pw top (lev.take i) ≤ 2 ^ top := by
      rw [← o6]
      conv => rhs; rw [← List.take_append_drop i lev]
      unfold pw
      rw [List.map_append, List.sum_append]
      lia
    have ht32 : 2 ^ top ≤ 2 ^ 5 := Nat.pow_le_pow_right (by decide) o4
    obtain ⟨tr, htr⟩ : ∃ tr, tr = turnAt lev top i := ⟨_, rfl⟩
    rw [← htr] at htl
    have hpl : pl = tr * pt := by
      have e1 : pw top (lev.take i) = 2 ^ (top - lf) * tr := by
        rw [htr, turnAt, ← hlf]
        have := Nat.div_add_mod (pw top (lev.take i)) (2 ^ (top - lf))
        lia
      rw [p1, e1, hpt, Nat.mul_comm tr, Nat.mul_assoc]
    have hpt0 : 0 < pt := by lia
    have hd1 : (pl + pt - 1) / pt = tr := by
      rw [hpl, show tr * pt + pt - 1 = (pt - 1) + pt * tr by rw [Nat.mul_comm]; lia, Nat.add_mul_div_left _ _ hpt0, Nat.div_eq_of_lt (by lia), Nat.zero_add]
    have hm1 : (pl + pt - 1) % pt = pt - 1 := by
      rw [hpl, show tr * pt + pt - 1 = (pt - 1) + pt * tr by rw [Nat.mul_comm]; lia, Nat.add_mul_mod_self_left, Nat.mod_eq_of_lt (by lia)]
    have hd2 : pl / pt = tr := by rw [hpl, Nat.mul_div_cancel _ hpt0]
    have hm2 : pl % pt = 0 := by rw [hpl, Nat.mul_mod_left]
    have hl32 : 2 ^ lf ≤ 2 ^ 5 := Nat.pow_le_pow_right (by decide) (by lia)
    have hpls : pl ≤ 96 := by lia
    k_steps
    refine go_ (pow_int_small (by lia) (by lia) (by decide) ?_)
    rw [zm top lf]
    k_steps
    refine go_ (PyProof.Rows.mul_int ?_ (IntMulOk.of_left (by decide)))
    rw [show (3 : Int) * 2 ^ (top - lf) = (pt : Int) by rw [hpt, Int.natCast_mul, Int.natCast_pow]; rfl]
    k_steps
    refine go_ ?_
    rename News _ _ _ _ => lN'
    have hIown : ∀ q ∈ own, q.1 = I := by
      intro q hq
      have h1 := hown q hq
      simp only [List.mem_cons, List.not_mem_nil, or_false] at h1
      rcases h1 with h1 | h1
      · exact h1
      · have h2 := (lN' q (by first | walk_at "x_mem" | simp [hq])).2.2
        rw [h1, hr _ hn] at h2
        cases h2
    have hoffI : ∀ q ∈ tA a1 ++ (tB a2 ++ [(L' + 1, oT2), (ca, listOf cus.toArray cn)]), q.1 ≠ I := fun q hq e => hoff q hq (by rw [e]; exact List.Mem.head _)
    have N8 := news_sub (b := tA a1 ++ (tB a2 ++ ((L' + 1, oT2) :: (ca, listOf cus.toArray cn) :: own))) lN' (by
      walk_at "x_sub")
    have ap3 : Apart (tA a1) (tB a2 ++ ((L' + 1, oT2) :: (ca, listOf cus.toArray cn) :: own)) := by
      refine all_app ?_ (all_cons ?_ (all_cons ?_ ?_))
      · intro q h r hr2; exact p4 q (by walk_at "x_mem") r hr2
      · intro r hr2; exact p4 _ (by walk_at "x_mem") r hr2
      · intro r hr2; exact p4 _ (by walk_at "x_mem") r hr2
      · intro q h r hr2; rw [hIown q h]; exact (hoffI r (by first | walk_at "x_mem" | simp [hr2])).symm
    have ap4 : Apart (tB a2) ((L' + 1, oT2) :: (ca, listOf cus.toArray cn) :: own) := by
      refine all_cons ?_ (all_cons ?_ ?_)
      · intro r hr2; exact p5 _ (by walk_at "x_mem") r hr2
      · intro r hr2; exact p5 _ (by walk_at "x_mem") r hr2
      · intro q h r hr2; rw [hIown q h]; exact (hoffI r (by first | walk_at "x_mem" | simp [hr2])).symm
    rw [show ((pl : Int) + pt - 1) = ((pl + pt - 1 : Nat) : Int) by lia]
    (try k_fold)
    k_dflt refine' (c_divmod w p loose mean mg mb (pl + pt - 1) pt _ _ (by lia) hpt0 (by lia)) _ _ _ _ _ _ _ _ _ _ _ _ _ _ ((L' + 1, oT2) :: (ca, listOf cus.toArray cn) :: own) a1 a2 _ _ _ (by k_asm) (by k_asm) (by k_asm) N8 ap3 ap4 p6 p7 (by k_asm) rfl (fun _ h => nomatch h) ?rm ?un ?_
    case rm => exact lt_add hd (by decide)
    case un => exact lt_add hu (by decide)
    intro r1 own1 b1 b2 h6 tk6 F6 N9 ap5 ap6 ok5 ok6 ow1 hP
    obtain ⟨ad1, t1, t2, rfl, rfl⟩ := hP
    rw [hd1, hm1, show ((pt - 1 : Nat) : Int) = (pt : Int) - 1 by lia] at N9 ap5 ap6
    have hI1 : L' + 1 ≠ I := hoffI (L' + 1, oT2) (by first | walk_at "x_mem" | simp)
    have hIc : ca ≠ I := hoffI (ca, listOf cus.toArray cn) (by first | walk_at "x_mem" | simp)
    have had1 := ltN ((ow1 _ (List.Mem.head _)).1 (ca, listOf cus.toArray cn) (by first | walk_at "x_mem" | simp))
    have had2 := ltN ((ow1 _ (List.Mem.head _)).1 (L' + 1, oT2) (by first | walk_at "x_mem" | simp))
    dsimp only at had1 had2
    k_steps
    rename News _ _ _ _ => lN'
    rename Fr _ _ _ _ => lF'
    have N10 := news_sub (b := (L' + 1, oT2) :: (ad1, tupOf [.int (tr : Int) t1, .int ((pt : Int) - 1) t2]) :: (ca, listOf cus.toArray cn) :: (tA (some b1) ++ (tB (some b2) ++ own))) lN' (by
      walk_at "x_sub")
    refine storeC lF' N10 rfl ?_ p3 ?_
    · refine all_cons ?_ (all_cons ?_ (all_app ?_ (all_app ?_ ?_)))
      · exact neN (by dsimp only; lia)
      · exact neN (by dsimp only; lia)
      · intro q h; exact (ap5 (L' + 1, oT2) (by first | walk_at "x_mem" | simp) q h).symm
      · intro q h; exact (ap6 (L' + 1, oT2) (by first | walk_at "x_mem" | simp) q h).symm
      · intro q h; rw [hIown q h]; exact hI1.symm
    intro h7 oT3 F7 N11 dT3
    clear N10 lF'
    k_steps
    all_goals try (exfalso; lia)
    refine go_ ?_
    rename News _ _ _ _ => lN'
    have N12 := news_sub (b := tA (some b1) ++ (tB (some b2) ++ ((L' + 1, oT3) :: (ca, listOf cus.toArray cn) :: own))) lN' (by
      walk_at "x_sub")
    have ap7 : Apart (tA (some b1)) (tB (some b2) ++ ((L' + 1, oT3) :: (ca, listOf cus.toArray cn) :: own)) := by
      refine Apart.sub ap5 fun q hq => ?_
      simp only [List.mem_append, List.mem_cons] at hq
      rcases hq with h | h | h | h
      · exact ⟨q, by simp [h], rfl⟩
      · exact ⟨(L' + 1, oT2), by simp, by rw [h]⟩
      · exact ⟨q, by simp [h], rfl⟩
      · exact ⟨q, by simp [h], rfl⟩
    have ap8 : Apart (tB (some b2)) ((L' + 1, oT3) :: (ca, listOf cus.toArray cn) :: own) := by
      refine Apart.sub ap6 fun q hq => ?_
      simp only [List.mem_cons] at hq
      rcases hq with h | h | h
      · exact ⟨(L' + 1, oT2), by simp, by rw [h]⟩
      · exact ⟨q, by simp [h], rfl⟩
      · exact ⟨q, by simp [h], rfl⟩
    clear ap5 ap6
    (try k_fold)
    k_dflt refine' (c_divmod w p loose mean mg mb pl pt _ _ (by lia) hpt0 (by lia)) _ _ _ _ _ _ _ _ _ _ _ _ _ _ ((L' + 1, oT3) :: (ca, listOf cus.toArray cn) :: own) (some b1) (some b2) _ _ _ (by k_asm) (by k_asm) (by k_asm) N12 ap7 ap8 ok5 ok6 (by k_asm) rfl (fun _ h => nomatch h) ?rm ?un ?_
    case rm => exact lt_add hd (by decide)
    case un => exact lt_add hu (by decide)
    intro r1 own1 c1 c2 h8 tk8 F8 N13 ap9 ap10 ok7 ok8 ow2 hP
    obtain ⟨ad2, t3, t4, rfl, rfl⟩ := hP
    rw [hd2, hm2] at N13 ap9 ap10
    clear N12 ap7 ap8 ok5 ok6 ow1
    have had3 := ltN ((ow2 _ (List.Mem.head _)).1 (ca, listOf cus.toArray cn) (by first | walk_at "x_mem" | simp))
    have had4 := ltN ((ow2 _ (List.Mem.head _)).1 (L' + 1, oT3) (by first | walk_at "x_mem" | simp))
    dsimp only at had3 had4
    have N14 := news_sub (b := (L' + 1, oT3) :: (ad2, tupOf [.int (tr : Int) t3, .int ((0 : Nat) : Int) t4]) :: (ca, listOf cus.toArray cn) :: (tA (some c1) ++ (tB (some c2) ++ own))) N13 (by
      walk_at "x_sub")
    clear N13
    k_steps
    refine go_ ?_
    rename News _ _ _ _ => lN'
    refine neT (xs := [.int (tr : Int) t3, .int ((0 : Nat) : Int) t4]) (k1 := 0) (ys := [_, _]) (k2 := 0) (ns := [(tr : Int), ((0 : Nat) : Int)]) (ms := [(tr : Int), 0]) lN' (by first | walk_at "x_mem" | simp) (List.Mem.head _) (.cons _ _ (.cons _ _ .nil)) (.cons _ _ (.cons _ _ .nil)) (by show un + 3 + 64 < _; lia) ?_
    rw [show (!decide (([(tr : Int), ((0 : Nat) : Int)] : List Int) = [(tr : Int), 0])) = false by simp]
    have N15 := news_sub (b := (L' + 1, oT3) :: (ca, listOf cus.toArray cn) :: (tA (some c1) ++ (tB (some c2) ++ own))) lN' (by
      walk_at "x_sub")
    clear lN'
    k_steps
    refine go_ (pow_int_small (by lia) (by lia) (by decide) ?_)
    rw [Int.toNat_natCast]
    k_steps
    refine go_ ?_
    rename News _ _ _ _ => lN'
    have N16 := news_sub (b := tA (some c1) ++ (tB (some c2) ++ ((L' + 1, oT3) :: (ca, listOf cus.toArray cn) :: own))) lN' (by
      walk_at "x_sub")
    have ap11 : Apart (tA (some c1)) (tB (some c2) ++ ((L' + 1, oT3) :: (ca, listOf cus.toArray cn) :: own)) :=
      Apart.sub ap9 fun q hq => ⟨q, by simp only [List.mem_append] at hq ⊢; rcases hq with h | h <;> simp [h], rfl⟩
    have ap12 : Apart (tB (some c2)) ((L' + 1, oT3) :: (ca, listOf cus.toArray cn) :: own) :=
      Apart.sub ap10 fun q hq => ⟨q, by simp only [List.mem_append]; exact .inr hq, rfl⟩
    rw [show ((tr : Int) + 2 ^ lf) = ((tr + 2 ^ lf : Nat) : Int) by rw [Int.natCast_add, Int.natCast_pow]; rfl]
    (try k_fold)
    k_dflt refine' (c_int2digits w p loose mean mg mb (tr + 2 ^ lf) _ 1 _ (by lia) (by decide) (by decide) (lf + 1) (by rw [bits_word tr lf htl]; lia)) _ _ _ _ _ _ _ _ _ _ _ _ _ _ (tB (some c2) ++ ((L' + 1, oT3) :: (ca, listOf cus.toArray cn) :: own)) (some c1) _ _ _ (by k_asm) (by k_asm) (by k_asm) N16 ap11 ok7 (by k_asm) rfl (fun _ h => nomatch h) ?rm ?un ?_
    case rm => exact lt_add hd (by decide)
    case un => exact lt_add hu (by decide)
    intro r1 own1 d1 h9 tk9 F9 N17 ap13 ok9 ow3 hP
    obtain ⟨fl, fus, fn, rfl, rfl, hfi⟩ := hP
    rw [figs_eq tr lf htl] at hfi
    clear N16 ap11 ap9 ap10 ow2 ok7
    have hfl : ∀ q ∈ tB (some c2) ++ ((L' + 1, oT3) :: (ca, listOf cus.toArray cn) :: own), q.1 < fl := fun q hq => (ow3 _ (List.Mem.head _)).1 q hq
    have hfl1 := ltN (hfl (L' + 1, oT3) (by first | walk_at "x_mem" | simp))
    have hfl2 := ltN (hfl (ca, listOf cus.toArray cn) (by first | walk_at "x_mem" | simp))
    dsimp only at hfl1 hfl2
    k_steps
    refine go_ ?_
    rename News _ _ _ _ => lN'
    have N18 := news_sub (b := tB (some c2) ++ ((fl, listOf fus.toArray fn) :: (L' + 1, oT3) :: (ca, listOf cus.toArray cn) :: (tA (some d1) ++ own))) lN' (by
      walk_at "x_sub")
    have ap14 : Apart (tB (some c2)) ((fl, listOf fus.toArray fn) :: (L' + 1, oT3) :: (ca, listOf cus.toArray cn) :: (tA (some d1) ++ own)) := by
      refine all_cons ?_ (all_cons ?_ (all_cons ?_ (all_app ?_ ?_)))
      · intro r hr2; exact Nat.ne_of_gt (hfl r (by first | walk_at "x_mem" | simp [hr2]))
      · intro r hr2; exact ap12 _ (by walk_at "x_mem") r hr2
      · intro r hr2; exact ap12 _ (by walk_at "x_mem") r hr2
      · intro q h r hr2; exact (ap13 r (by first | walk_at "x_mem" | simp [hr2]) q h).symm
      · intro q h r hr2; exact ap12 q (by first | walk_at "x_mem" | simp [h]) r hr2
    (try k_fold)
    k_dflt refine' (c_digits2int w p loose mean mg mb fl fus fn (natsI (bitsN tr lf ++ [1])) 4 _ hfi (fun d hd => ?dd) (by decide) (by simp [natsI, bitsN]; lia)) _ _ _ _ _ _ _ _ _ _ _ _ _ _ ((fl, listOf fus.toArray fn) :: (L' + 1, oT3) :: (ca, listOf cus.toArray cn) :: (tA (some d1) ++ own)) (some c2) _ _ _ (by k_asm) (by k_asm) (by k_asm) N18 ap14 ok8 (by k_asm) rfl (fun q hq => by rw [List.mem_singleton.mp hq]; exact List.Mem.head _) ?rm ?un (pvP fun t5 d2 h10 tk10 F10 N19 ap15 ok10 => ?_)
    case dd =>
      obtain ⟨z, hz, rfl⟩ := List.mem_map.mp hd
      rcases List.mem_append.mp hz with h | h
      · have := bitsN_small tr lf z h; lia
      · rw [List.mem_singleton.mp h]; decide
    case rm => exact lt_add hd (by decide)
    case un => exact lt_add hu (by decide)
    rw [dval_nv]
    clear N18 ap14 ok8 ap12
    k_steps
    refine go_ ?_
    have hnvlt := nv_lt (bitsN tr lf ++ [1]) (fun d hd => by
      rcases List.mem_append.mp hd with h | h
      · have := bitsN_small tr lf d h; lia
      · rw [List.mem_singleton.mp h]; decide)
    have hnv6 : 16 ^ (bitsN tr lf ++ [1]).length ≤ 16 ^ 6 := Nat.pow_le_pow_right (by decide) (by simp [bitsN]; lia)
    (try k_fold)
    k_dflt refine' (c_ap w p loose mean mg mb ((nv (bitsN tr lf ++ [1]) : Nat) : Int) _ (by rw [Int.natAbs_natCast]; lia)) _ _ _ _ _ _ _ _ _ _ _ _ _ _ _ _ _ _ (by k_asm) (by k_asm) (by k_asm) (by k_asm) (by k_asm) rfl (fun _ h => nomatch h) ?rm ?un (pv fun t6 h11 tk11 F11 N20 => ?_)
    case rm => exact lt_add hd (by decide)
    case un => exact lt_add hu (by decide)
    rw [Int.natAbs_natCast, ap_word]
    have hwl := wordN_len tr lf
    have hws := wordN_small tr lf
    k_steps
    refine go_ ?_
    rename News _ _ _ _ => lN'
    rename Fr _ _ _ _ => lF'
    refine bslice (s := ⟨_, _, _, _, _⟩) (l := 66 :: wordN tr lf) (r := wordN tr lf) lF' lN' rfl (fun x hx => by rcases List.mem_cons.mp hx with rfl | hx; decide; have := hws x hx; lia) (by constructor) (by constructor) (by simp; lia) ?_ fun h12 t7 k12 F12 N21 => ?_
    · have : clipAt ((wordN tr lf).length + 1) 1 = 1 := by simp [clipAt]; lia
      simp [this]
    k_steps
    refine go_ (KBd.method ?_)
    k_steps
    refine go_ (decA (l := wordN tr lf) hws (by lia) (fun e => by rw [e] at hwl; simp at hwl; lia) fun t9 k9 => ?_)
    k_steps
    refine go_ ?_
    rename News _ _ _ _ => lN'
    rename Fr _ _ _ _ => lF'
    have N22 := news_sub (b := (ca, listOf cus.toArray cn) :: (fl, listOf fus.toArray fn) :: (L' + 1, oT3) :: (tA (some d1) ++ (tB (some d2) ++ own))) lN' (by
      walk_at "x_sub")
    have hcl : cus.length = i := by rw [p2.len]; simp
    refine appL lF' N22 ?_ (by lia) fun h13 F13 N23 => ?_
    · refine all_cons ?_ (all_cons ?_ (all_app ?_ (all_app ?_ ?_)))
      · exact neN (by dsimp only; lia)
      · exact neN (by dsimp only; lia)
      · intro q h; exact (ap13 (ca, listOf cus.toArray cn) (by first | walk_at "x_mem" | simp) q h).symm
      · intro q h; exact (ap15 (ca, listOf cus.toArray cn) (by first | walk_at "x_mem" | simp) q h).symm
      · intro q h; rw [hIown q h]; exact hIc.symm
    clear N22 lN' lF'
    have N24 := news_sub (b := (L' + 1, oT3) :: (fl, listOf fus.toArray fn) :: (ca, listOf (cus ++ [Value.str (tx (wordN tr lf)) t9]).toArray (cn + 1)) :: (tA (some d1) ++ (tB (some d2) ++ own))) N23 (by
      walk_at "x_sub")
    clear N23
    k_steps
    refine go_ ?_
    refine' compL (h₀ := g) ?hclos ?hcell rfl ?hnames rfl ?_
    case hclos => with_unfolding_all rfl
    case hcell => decide
    case hnames => decide
    k_steps
    refine go_ ?_
    rename News _ _ _ _ => lN'
    rename Fr _ _ _ _ => lF'
    rename IsRange _ _ _ _ _ _ _ _ => rg3
    refine' compRange (σ := Unit) (n := lf) (fun _ => (L' + 1, oT3) :: (fl, listOf fus.toArray fn) :: (ca, listOf (cus ++ [Value.str (tx (wordN tr lf)) t9]).toArray (cn + 1)) :: (tA (some d1) ++ (tB (some d2) ++ own))) (fun j _ ys => IntsAre ys (natsI ((bitsN tr lf).take j))) () rfl rg3 ?_ ?_ (by lia) lF' lN' ?hp ?_ ?_
    · exact small_up (by lia) (by lia) (by lia) (by lia)
    · rw [rangeSize_one]; split <;> lia
    case hp => exact .nil
    · intro j _ v ys C D I3 oL E' h14 tk14 own5 nn5 hji hv hlen hpc hoff5 hown5 _ hC hD hDC hI hns hLC F14 N25
      obtain ⟨t10, rfl⟩ := hv
      have N26 : News g C h14 ((L', oL) :: (D, listOf ys.toArray nn5) :: (own5 ++ ((L' + 1, oT3) :: (fl, listOf fus.toArray fn) :: (ca, listOf (cus ++ [Value.str (tx (wordN tr lf)) t9]).toArray (cn + 1)) :: (tA (some d1) ++ (tB (some d2) ++ own))))) := N25
      have N27 := news_sub (b := (L' + 1, oT3) :: (L', oL) :: (D, listOf ys.toArray nn5) :: (own5 ++ ((fl, listOf fus.toArray fn) :: (ca, listOf (cus ++ [Value.str (tx (wordN tr lf)) t9]).toArray (cn + 1)) :: (tA (some d1) ++ (tB (some d2) ++ own))))) N26 (by
        walk_at "x_sub")
      clear N25 N26
      k_steps
      (try walk_at "m_clean")
      refine go_ (pow_int_small (by lia) (by lia) (by decide) ?_)
      rw [z0 j]
      k_steps
      (try walk_at "m_clean")
      have h2j : (0 : Int) < 2 ^ j := Int.pow_pos (by decide)
      refine go_ (floordiv_int (by lia) ?_ ?hp)
      case hp =>
        have h2jn : 2 ^ j ≤ 2 ^ 5 := Nat.pow_le_pow_right (by decide) (by lia)
        have h2ji : (2 : Int) ^ j ≤ 32 := by exact_mod_cast h2jn
        exact Or.inl (PyProof.noPylong_small (by lia))
      rw [shr_eq]
      k_steps
      (try walk_at "m_clean")
      rename News _ _ _ _ => lN'
      rename Fr _ _ _ _ => lF'
      refine go_ (cend () lF' (news_sub (b := (L', oL) :: (D, listOf ys.toArray nn5) :: (own5 ++ ((L' + 1, oT3) :: (fl, listOf fus.toArray fn) :: (ca, listOf (cus ++ [Value.str (tx (wordN tr lf)) t9]).toArray (cn + 1)) :: (tA (some d1) ++ (tB (some d2) ++ own))))) lN' ?sub) (fun p hp => hp) hoff5 ?_)
      case sub =>
        walk_at "x_sub"
      have hbj : (bitsN tr lf)[j]? = some (tr / 2 ^ j % 2) := by
        unfold bitsN
        rw [List.getElem?_map, List.getElem?_range hji]; rfl
      rw [List.take_add_one, hbj, natsI_append]
      have efm : (((tr / 2 ^ j : Nat) : Int)).fmod 2 = ((tr / 2 ^ j % 2 : Nat) : Int) := by
        rw [Int.fmod_eq_emod_of_nonneg _ (by decide)]; lia
      rw [efm]
      exact IntsAre.append hpc (.cons _ _ .nil)
    · intro D h14 tk14 ys _ nn5 hD F14 N25 hne5 hlen hpc
      have N26 : News g L' h14 ((D, listOf ys.toArray nn5) :: (L' + 1, oT3) :: (fl, listOf fus.toArray fn) :: (ca, listOf (cus ++ [Value.str (tx (wordN tr lf)) t9]).toArray (cn + 1)) :: (tA (some d1) ++ (tB (some d2) ++ own))) := N25
      clear N25
      rw [show (bitsN tr lf).take lf = bitsN tr lf from List.take_of_length_le (by simp [bitsN])] at hpc
      k_steps
      refine go_ ?_
      rename News _ _ _ _ => lN'
      rename Fr _ _ _ _ => lF'
      refine addL lF' lN' (lstN (us := ys) (n := nn5) lN' (by first | walk_at "x_mem" | simp)) (lstN (us := [_]) (n := 0) lN' (List.Mem.head _)) (by simp; lia) fun l3 h15 F15 N27 La3 lb3 => ?_
      k_steps
      refine go_ ?_
      rename News _ _ _ _ => lN'
      rename Fr _ _ _ _ => lF'
      refine ke_ne_ints (lstN (us := fus) (n := fn) lN' (by first | walk_at "x_mem" | simp)) (lstN (us := ys ++ [_]) (n := 0) lN' (List.Mem.head _)) hfi (ms := natsI (bitsN tr lf ++ [1])) (by rw [natsI_append]; exact IntsAre.append hpc (.cons _ _ .nil)) (by show un + 3 + 64 < _; lia) ?_
      rw [show (!decide (natsI (bitsN tr lf ++ [1]) = natsI (bitsN tr lf ++ [1]))) = false by simp]
      k_steps
      refine go_ ?_
      rename News _ _ _ _ => lN'
      refine tailBack (lstN (us := cus ++ [Value.str (tx (wordN tr lf)) t9]) (n := cn + 1) lN' (by first | walk_at "x_mem" | simp)) (by first | walk_at "x_mem" | simp) (x := .str (tx (wordN tr lf)) t9) (by first | walk_at "x_mem" | simp) ?_
      k_steps
      refine go_ (SBL.len (by rw [tx_len]; lia) ?_)
      rw [tx_len, hwl]
      k_steps
      all_goals try (exfalso; lia)
      rename News _ _ _ _ => lN'
      rename Fr _ _ _ _ => lF'
      refine go_ (fend (S4.mk (pl + pt) (cus ++ [Value.str (tx (wordN tr lf)) t9]) (cn + 1) oT3 (some d1) (some d2)) lF' (news_sub (b := S4.led (L' + 1) ca (S4.mk (pl + pt) (cus ++ [Value.str (tx (wordN tr lf)) t9]) (cn + 1) oT3 (some d1) (some d2)) ++ own) lN' ?sub) ?_ ?_ (by (rw [show (((pl + pt : Nat) : Int)) = (pl : Int) + pt by lia]); walk_at "m_loc") ?_)
      case sub =>
        dsimp only [S4.led]; walk_at "x_sub"
      · intro q hq
        simp only [List.mem_append] at hq ⊢
        exact hq.symm
      · have ap20 : Apart (tA (some d1)) (tB (some d2) ++ [(L' + 1, oT3), (ca, listOf (cus ++ [Value.str (tx (wordN tr lf)) t9]).toArray (cn + 1))]) := by
          refine all_app ?_ (all_cons ?_ (all_cons ?_ all_nil))
          · intro q h r hr2; exact fun e => ap15 r (by first | walk_at "x_mem" | simp [hr2]) q h e.symm
          · intro r hr2; exact ap13 (L' + 1, oT3) (by first | walk_at "x_mem" | simp) r hr2
          · intro r hr2; exact ap13 (ca, listOf cus.toArray cn) (by first | walk_at "x_mem" | simp) r hr2
        intro q hq hqI
        have hqI := List.mem_singleton.mp hqI
        simp only [S4.led, List.mem_append, List.mem_cons, List.not_mem_nil, or_false] at hq
        rcases hq with h | h | rfl | rfl
        · exact ap13 (I, oI) (by first | walk_at "x_mem" | simp [hoI]) q h hqI.symm
        · exact ap15 (I, oI) (by first | walk_at "x_mem" | simp [hoI]) q h hqI.symm
        · exact hI1 hqI
        · exact hIc hqI
      · refine ⟨?_, ?_, ⟨_, dT3⟩, ?_, ?_, ok9, ok10⟩
        · dsimp only
          rw [List.take_add_one, hlf2]
          unfold pw at p1 ⊢
          simp only [Option.toList, List.map_append, List.map_cons, List.map_nil, List.sum_append, List.sum_cons, List.sum_nil]
          lia
        · dsimp only
          rw [List.range_succ, List.map_append]
          have e9 : wordAt lev top i = wordN tr lf := by rw [wordAt, ← htr, ← hlf]
          rw [List.map_cons, List.map_nil, e9]
          exact Txs.snoc _ _ p2
        · refine all_app ?_ (all_cons ?_ (all_cons ?_ all_nil))
          · intro q h r hr2; exact fun e => ap15 r (by first | walk_at "x_mem" | simp [hr2]) q h e.symm
          · intro r hr2; exact ap13 (L' + 1, oT3) (by first | walk_at "x_mem" | simp) r hr2
          · intro r hr2; exact ap13 (ca, listOf cus.toArray cn) (by first | walk_at "x_mem" | simp) r hr2
        · refine all_cons ?_ (all_cons ?_ all_nil)
          · intro r hr2; exact ap15 (L' + 1, oT3) (by first | walk_at "x_mem" | simp) r hr2
          · intro r hr2; exact ap15 (ca, listOf cus.toArray cn) (by first | walk_at "x_mem" | simp) r hr2
  · rintro ⟨pl, cus, cn, oT2, a1, a2⟩ ts u h tk hz5 F5 N6
    (try k_fold)
    obtain ⟨p1, p2, ⟨vT, p3⟩, p4, p5, p6, p7⟩ := hz5
    dsimp only at p1 p2 p3 p4 p5 p6 p7
    dsimp only [psAt, Ab.at] at F5
    rw [hvl, show lev.take 6 = lev from List.take_of_length_le (by lia), o6] at p1
    rw [hvl] at p2
    have ht0 : 0 < 2 ^ top := Nat.pow_pos (by decide)
    have ht32 : 2 ^ top ≤ 2 ^ 5 := Nat.pow_le_pow_right (by decide) o4
    have N7 := news_sub (b := tA a1 ++ (tB a2 ++ [(ca, listOf cus.toArray cn)])) N6 (by
      dsimp only [S4.led]; walk_at "x_sub")
    clear N6
    k_steps
    refine go_ (pow_int_small (by lia) (by lia) (by decide) ?_)
    rw [Int.toNat_natCast]
    k_steps
    refine go_ (PyProof.Rows.mul_int ?_ (IntMulOk.of_left (by decide)))
    rw [show (3 : Int) * 2 ^ top = ((3 * 2 ^ top : Nat) : Int) by rw [Int.natCast_mul, Int.natCast_pow]; rfl]
    k_steps
    refine go_ ?_
    rename News _ _ _ _ => lN'
    have ap3 : Apart (tA a1) (tB a2 ++ [(ca, listOf cus.toArray cn)]) := Apart.sub p4 fun q hq => ⟨q, by simp only [List.mem_append, List.mem_cons, List.not_mem_nil, or_false] at hq ⊢; rcases hq with h | h <;> simp [h], rfl⟩
    have ap4 : Apart (tB a2) [(ca, listOf cus.toArray cn)] := Apart.sub p5 fun q hq => ⟨q, by simp only [List.mem_cons, List.not_mem_nil, or_false] at hq ⊢; simp [hq], rfl⟩
    (try k_fold)
    k_dflt refine' (c_divmod w p loose mean mg mb pl (3 * 2 ^ top) _ _ (by lia) (by lia) (by lia)) _ _ _ _ _ _ _ _ _ _ _ _ _ _ [(ca, listOf cus.toArray cn)] a1 a2 _ _ _ (by k_asm) (by k_asm) (by k_asm) lN' ap3 ap4 p6 p7 (by k_asm) rfl (fun _ h => nomatch h) ?rm ?un ?_
    case rm => exact lt_add hd (by decide)
    case un => exact lt_add hu (by decide)
    intro r1 own1 b1 b2 h6 tk6 F6 N9 ap5 ap6 ok5 ok6 ow1 hP
    obtain ⟨ad1, t1, t2, rfl, rfl⟩ := hP
    rw [p1, Nat.div_self (by lia), Nat.mod_self] at N9 ap5 ap6
    k_steps
    refine go_ ?_
    rename News _ _ _ _ => lN'
    refine neT (xs := [.int ((1 : Nat) : Int) t1, .int ((0 : Nat) : Int) t2]) (k1 := 0) (ys := [_, _]) (k2 := 0) (ns := [((1 : Nat) : Int), ((0 : Nat) : Int)]) (ms := [1, 0]) lN' (by first | walk_at "x_mem" | simp) (List.Mem.head _) (.cons _ _ (.cons _ _ .nil)) (.cons _ _ (.cons _ _ .nil)) (by show un + 3 + 64 < _; lia) ?_
    rw [show (!decide (([((1 : Nat) : Int), ((0 : Nat) : Int)] : List Int) = [1, 0])) = false by decide]
    k_steps
    refine go_ ?_
    rename News _ _ _ _ => lN'
    have hcl : cus.length = 6 := by rw [p2.len]; simp
    refine W.kun_lenL (k := 6) (lstN (a := ca) (us := cus) (n := cn) lN' (by first | walk_at "x_mem" | simp)) (by simp [hcl]) (by decide) ?_
    k_steps
    refine go_ ?_
    rename Fr _ _ _ _ => lF'
    rename IsRange _ _ _ _ _ _ _ _ => rg
    rename_i lN9 _
    have N10 := news_sub (b := (ca, listOf cus.toArray cn) :: (tA (some b1) ++ tB (some b2))) lN9 (by
      walk_at "x_sub")
    refine' forRange (σ := Unit) (n := 5) (fun _ => (ca, listOf cus.toArray cn) :: (tA (some b1) ++ tB (some b2))) (fun _ => []) [PySem.Str.ofString "k"] (fun _ _ => True) () rfl rg ?_ ?_ lF' N10 trivial trivial ?_ ?_
    · exact small_up (by lia) (by lia) (by lia) (by lia)
    · rw [rangeSize_one]; rfl
    · rintro i _ t3 I ts3 u3 h7 tk7 own3 hi5 _ hoff hown hz13 F7 N11
      (try k_fold)
      obtain ⟨oI, hoI⟩ := hz13
      dsimp only [psAt] at F7
      obtain ⟨x7, x8⟩ := o7 i hi5
      obtain ⟨ta3, hta⟩ := p2.get i (wordAt lev top i) (by rw [List.getElem?_map, List.getElem?_range (by lia)]; rfl)
      obtain ⟨tb3, htb⟩ := p2.get (i + 1) (wordAt lev top (i + 1)) (by rw [List.getElem?_map, List.getElem?_range (by lia)]; rfl)
      have hgl : ∀ j, j < 6 → lev.getD j 0 ≤ 5 := by
        intro j hj
        have h1 : lev[j]? = some (lev.getD j 0) := by rw [List.getD_eq_getElem?_getD, List.getElem?_eq_getElem (by lia)]; rfl
        have := (o2 _ (List.mem_of_getElem? h1)).2
        lia
      have hwa : (wordAt lev top i).length ≤ 5 := by rw [wordAt, wordN_len]; exact hgl i (by lia)
      have hwb : (wordAt lev top (i + 1)).length ≤ 5 := by rw [wordAt, wordN_len]; exact hgl (i + 1) (by lia)
      generalize wordAt lev top i = wa at x7 x8 hta hwa
      generalize wordAt lev top (i + 1) = wb at x7 x8 htb hwb
      have hmo : ∀ c ∈ [PySem.Str.ofString "A", PySem.Str.ofString "B"], MulOk c (top : Int) := by
        have h1 : ∀ m : Nat, m < 6 → ∀ c ∈ [PySem.Str.ofString "A", PySem.Str.ofString "B"], MulOk c (m : Int) := by
          intro m hm c hc
          simp only [List.mem_cons, List.not_mem_nil, or_false] at hc
          match m, hm with
          | 0, _ => rcases hc with rfl | rfl <;> exact ⟨by decide +kernel, fun h => absurd (by decide) h, fun h => absurd (by decide) h⟩
          | 1, _ => rcases hc with rfl | rfl <;> exact ⟨by decide +kernel, fun _ _ => by decide +kernel, fun _ _ => by decide +kernel⟩
          | 2, _ => rcases hc with rfl | rfl <;> exact ⟨by decide +kernel, fun _ _ => by decide +kernel, fun _ _ => by decide +kernel⟩
          | 3, _ => rcases hc with rfl | rfl <;> exact ⟨by decide +kernel, fun _ _ => by decide +kernel, fun _ _ => by decide +kernel⟩
          | 4, _ => rcases hc with rfl | rfl <;> exact ⟨by decide +kernel, fun _ _ => by decide +kernel, fun _ _ => by decide +kernel⟩
          | 5, _ => rcases hc with rfl | rfl <;> exact ⟨by decide +kernel, fun _ _ => by decide +kernel, fun _ _ => by decide +kernel⟩
        exact h1 top (by lia)
      have N12 := news_sub (b := (ca, listOf cus.toArray cn) :: (tA (some b1) ++ (tB (some b2) ++ own3))) N11 (by
        walk_at "x_sub")
      clear N11
      k_steps
      refine go_ ?_
      rename News _ _ _ _ => lN'
      refine tailV (lstN (us := cus) (n := cn) lN' (by first | walk_at "x_mem" | simp)) (by lia) (x := .str (tx wa) ta3) ?_ (by lia) ?_
      · rw [z11 i]; exact hta
      k_steps
      refine go_ (SB.mul (hmo _ (by first | walk_at "x_mem" | simp)) fun t5 k5 => ?_)
      rw [show Txt.mul (PySem.Str.ofString "B") (top : Int) = tx (List.replicate top 66) by rw [show PySem.Str.ofString "B" = tx [66] by decide +kernel, mulB]]
      k_steps
      refine go_ (sadd rfl rfl (by simp; lia) fun t6 k6 => ?_)
      k_steps
      refine go_ ?_
      rename News _ _ _ _ => lN'
      refine tailV (lstN (us := cus) (n := cn) lN' (by first | walk_at "x_mem" | simp)) (by lia) (x := .str (tx wb) tb3) ?_ (by lia) ?_
      · rw [z1 i]; exact htb
      k_steps
      refine go_ ?_
      (try k_fold)
      k_dflt refine' (c_strcoll w p loose mean mg mb _ _ _ _) _ _ _ _ _ _ _ _ _ _ _ _ _ _ _ _ _ _ (by k_asm) (by k_asm) (by k_asm) (by k_asm) (by k_asm) rfl (fun _ h => nomatch h) ?rm ?un (pv fun t7 h8 tk8 F8 N13 => ?_)
      case rm => exact lt_add hd (by decide)
      case un => exact lt_add hu (by decide)
      rw [coll_lt x7]
      k_steps
      refine go_ ?_
      rename News _ _ _ _ => lN'
      refine tailV (lstN (us := cus) (n := cn) lN' (by first | walk_at "x_mem" | simp)) (by lia) (x := .str (tx wa) ta3) ?_ (by lia) ?_
      · rw [z11 i]; exact hta
      k_steps
      refine go_ ?_
      rename News _ _ _ _ => lN'
      refine tailV (lstN (us := cus) (n := cn) lN' (by first | walk_at "x_mem" | simp)) (by lia) (x := .str (tx wb) tb3) ?_ (by lia) ?_
      · rw [z1 i]; exact htb
      k_steps
      refine go_ (SB.mul (hmo _ (by first | walk_at "x_mem" | simp)) fun t8 k8 => ?_)
      rw [show Txt.mul (PySem.Str.ofString "A") (top : Int) = tx (List.replicate top 65) by rw [show PySem.Str.ofString "A" = tx [65] by decide +kernel, mulB]]
      k_steps
      refine go_ (sadd rfl rfl (by simp; lia) fun t9 k9 => ?_)
      k_steps
      refine go_ ?_
      (try k_fold)
      k_dflt refine' (c_strcoll w p loose mean mg mb _ _ _ _) _ _ _ _ _ _ _ _ _ _ _ _ _ _ _ _ _ _ (by k_asm) (by k_asm) (by k_asm) (by k_asm) (by k_asm) rfl (fun _ h => nomatch h) ?rm ?un (pv fun t10 h9 tk9 F9 N14 => ?_)
      case rm => exact lt_add hd (by decide)
      case un => exact lt_add hu (by decide)
      rw [coll_lt x8]
      k_steps
      rename News _ _ _ _ => lN'
      rename Fr _ _ _ _ => lF'
      refine go_ (fend () lF' (news_sub (b := own3 ++ ((ca, listOf cus.toArray cn) :: (tA (some b1) ++ tB (some b2)))) lN' ?sub) (fun q hq => hq) ?_ (by walk_at "m_loc") trivial)
      case sub =>
        walk_at "x_sub"
      exact hoff
    · rintro _ ts3 u3 h7 tk7 _ F7 N11
      dsimp only [psAt] at F7
      have hLca : L' < ca := lca1
      k_steps
      rename News g L' _ _ => gN
      rename Fr g L' _ _ => gF
      rename News h₀ L _ _ => kN
      have bl := base_lt gF hr
      have lL := fr_lt FG' gF
      have apR := apart_of gN hr
      intro hnews
      refine hret _ [(ca, listOf cus.toArray cn)] b1 b2 _ _ (by assumption) ?_ ?_ ?_ ok5 ok6 (own1 (fun q hq => Nat.lt_trans (bl q hq) hLca) (Nat.lt_trans lL hLca)) ⟨ca, cus, cn, rfl, rfl, p2⟩
      · refine all_app ?_ (all_app ?_ (all_app ?_ ?_))
        · exact all_cons (kN _ (by walk_at "x_mem")) all_nil
        · intro q h; exact kN q (by walk_at "x_mem")
        · intro q h; exact kN q (by walk_at "x_mem")
        · intro q h; exact hnews q h
      · refine all_app ?_ (all_app ?_ ?_)
        · intro q h r hr2; exact ap5 q (by walk_at "x_mem") r hr2
        · exact all_cons (fun r hr2 => ap5 _ (by walk_at "x_mem") r hr2) all_nil
        · intro q h r hr2; exact apR q h r (by first | walk_at "x_mem" | simp [hr2])
      · refine all_app ?_ ?_
        · exact all_cons (fun r hr2 => ap6 _ (by walk_at "x_mem") r hr2) all_nil
        · intro q h r hr2; exact apR q h r (by first | walk_at "x_mem" | simp [hr2])
end Mine
end
section
open PySem PySem.W PyProof.Rows
theorem Mine.plain15 : True ∧ True := by
  (w_top off)
  k_with_none
  exact ⟨trivial, trivial⟩
end
section
open PySem PySem.W PySem.Calls PyProof.Rows PyProof.V PySem.Spec
set_option maxRecDepth 100000
namespace Mine
/-- two frames change their places in the ledger -/
theorem swapF {g h : Heap} {L C : Addr} {m mC : MStr → Option Value} {o : Obj} {rest : List (Addr × Obj)} (F : Fr g L h m) (N : News g L h ((C, o) :: rest)) (hns : ∀ h' : Heap, h'.get? C = some o → h'.Ns C mC) (hab : g.objs.size ≤ C) (hr : ∀ q ∈ rest, q.1 ≠ C) :
    ∃ oL, Fr g C h mC ∧ News g C h ((L, oL) :: rest) ∧ ∀ h' : Heap, h'.get? L = some oL → h'.Ns L m := by
  obtain ⟨oL, es, ep, hoL, hoL2⟩ := F.ns
  have hC := N (C, o) (List.Mem.head _)
  refine ⟨oL, ⟨hns h hC.1, F.keep, hab⟩, ?_, fun h' e => ⟨oL, es, ep, e, hoL2⟩⟩
  intro p hp
  rcases List.mem_cons.mp hp with rfl | hp
  · refine ⟨hoL, hC.2.1.symm, ?_⟩
    cases e : g.get? L with
    | none => rfl
    | some o' => exact absurd (Heap.lt_size e) (Nat.not_lt.mpr F.above)
  · exact ⟨(N p (List.mem_cons_of_mem _ hp)).1, hr p hp, (N p (List.mem_cons_of_mem _ hp)).2.2⟩
section
variable {prog : Program} {w : World} {A : Around} {E : Value → Shared → Prop} {s : Shared} {h₀ : Heap} {L a b : Addr} {news : List (Addr × Obj)} {xs ys : List Value} {Q : Value → Shared → Prop}
theorem eqAtB {B : Around} {c : Array UInt8} {t u : Tok} : SeqAt.EqAt B s (.bytes c t) (.bytes c u) true := fun prog w E Q h => eqBool_bytes (by simpa using h)
theorem eqAtS {B : Around} {x : MStr} {t u : Tok} : SeqAt.EqAt B s (.str x t) (.str x u) true := fun prog w E Q h => wpAny_eqBool_str (by simpa using h)
theorem eqAt_by : ∀ {xs ys : List Value} {ws : List (List Nat)} {B : Around}, ByVals xs ws → ByVals ys ws → ∀ j (h1 : j < xs.toArray.size) (h2 : j < ys.toArray.size), SeqAt.EqAt B s xs.toArray[j] ys.toArray[j] true := by
  intro xs ys ws B hx hy j h1 h2
  have h1' : j < xs.length := by simpa using h1
  have h2' : j < ys.length := by simpa using h2
  obtain ⟨x, t, e1, e2⟩ := hx.get j xs[j] (List.getElem?_eq_getElem h1')
  obtain ⟨y, u, e3, e4⟩ := hy.get j ys[j] (List.getElem?_eq_getElem h2')
  rw [e1] at e3
  cases Option.some.inj e3
  have g1 : xs.toArray[j] = xs[j] := by simp
  have g2 : ys.toArray[j] = ys[j] := by simp
  rw [g1, g2, e2, e4]
  exact eqAtB
theorem neFalseT (ht : s.heap.IsTuple a xs.toArray) (hb : s.heap.IsTuple b ys.toArray) (hlen : xs.length = ys.length) (hu : A.units < cLine)
    (he : ∀ j (h1 : j < xs.toArray.size) (h2 : j < ys.toArray.size), SeqAt.EqAt A.in1 s xs.toArray[j] ys.toArray[j] true) (h : Q (.bool false) s) : wpAny (model prog w) A (compareOp .NotEq (.ref a) (.ref b)) Q E s := by
  refine SeqAt.RcNeAt.tuples (e := fun _ => true) ht hb hu he prog w E Q ?_
  rw [show (!((List.range (min xs.toArray.size ys.toArray.size)).all (fun _ => true) && xs.toArray.size == ys.toArray.size)) = false by simp [hlen]]
  exact h
theorem neFalseL (ht : s.heap.IsList a xs.toArray) (hb : s.heap.IsList b ys.toArray) (hlen : xs.length = ys.length) (hu : A.units < cLine)
    (he : ∀ j (h1 : j < xs.toArray.size) (h2 : j < ys.toArray.size), SeqAt.EqAt A.in1 s xs.toArray[j] ys.toArray[j] true) (h : Q (.bool false) s) : wpAny (model prog w) A (compareOp .NotEq (.ref a) (.ref b)) Q E s := by
  refine SeqAt.RcNeAt.lists (e := fun _ => true) ht hb (by simpa using hlen) hu he prog w E Q ?_
  rw [show (!((List.range xs.toArray.size).all (fun _ => true))) = false by simp]
  exact h
end
theorem serves {h : Heap} {L : Addr} {oL oL' : Obj} {m₁ : MStr → Option Value} (h0 : h.get? L = some oL) (h1 : ∀ h' : Heap, h'.get? L = some oL → h'.Ns L m₁) (h2 : ∀ h' : Heap, h'.get? L = some oL' → h'.Ns L m₁) :
    ∀ m : MStr → Option Value, (∀ h'' : Heap, h''.get? L = some oL → h''.Ns L m) → ∀ h'' : Heap, h''.get? L = some oL' → h''.Ns L m := by
  intro m H h'' e
  have : m = m₁ := by
    obtain ⟨o, es, ep, e1, e2, e3, e4⟩ := H h h0
    obtain ⟨o', es', ep', e1', e2', e3', e4'⟩ := h1 h h0
    rw [e1] at e1'
    cases Option.some.inj e1'
    rw [e2] at e2'
    injection e2' with e5 e6
    subst e5
    funext z
    rw [← e4, ← e4']
  rw [this]
  exact h2 h'' e
theorem callC {w : World} {p : Program} {loose : List MStr} {mean : ExcName → Option Value} {mg mb : MStr → Option Value} {f : Addr} {vs : List Value} {need : List (Addr × Obj)} {dd uu : Nat} {Post : Value → List (Addr × Obj) → Prop} (K : Ctr w p loose mean mg mb f vs need dd uu Post)
    {dp un : Nat} {gd : Option (List Code)} {cn : MStr} {cs : Scope} {ad : Addr} {ccd : Value} {cl : List (MStr × Addr)} {outer : List Env} {A₀ : Around} {base g : Heap} {L C : Addr} {m mC : MStr → Option Value} {oL : Obj} {rest : List (Addr × Obj)} {s : Shared} {Q E : Value → Shared → Prop}
    (B : Below A₀ base outer g) (F : Fr g C s.heap mC) (X : (hd.heap_39 w.params).In g) (N : News g C s.heap ((L, oL) :: rest)) (hns : ∀ h' : Heap, h'.get? L = some oL → h'.Ns L m) (hL : g.objs.size ≤ L) (hr : ∀ q ∈ rest, q.1 ≠ L) (T : Top p loose mean mg mb g) (hk : cs.kind = .function)
    (hnd : ∀ q ∈ need, q ∈ rest) (hd1 : dp + dd < recursionLimit) (hu : un + uu < cLine)
    (h : ∀ (r : Value) (own : List (Addr × Obj)) (h' : Heap) (tk' : Nat) (oL' : Obj), Fr g C h' mC → News g C h' ((L, oL') :: (own ++ rest)) → (∀ m : MStr → Option Value, (∀ h'' : Heap, h''.get? L = some oL → h''.Ns L m) → ∀ h'' : Heap, h''.get? L = some oL' → h''.Ns L m) → (∀ q ∈ own, ∀ p ∈ rest, p.1 < q.1) → Post r own → Q r { s with heap := h', toks := tk' }) :
    wpAny (model PySem.Challenge.rw_xj0015_01.row.prog w) (ktrTop dp un gd cn cs L ad ccd cl outer) (call (.ref f) vs) Q E s := by
  obtain ⟨oC, F1, N1, hC⟩ := swapF F N hns hL hr
  refine K _ _ _ _ _ _ _ _ _ _ _ _ _ _ _ _ _ _ B F1 X N1 T hk (fun q hq => List.mem_cons_of_mem _ (hnd q hq)) hd1 hu fun r own h' tk' F2 N2 ab hP => ?_
  have hCg : g.objs.size ≤ C := F.above
  have N3 := news_sub (b := (C, oC) :: (own ++ rest)) N2 (by
    intro q hq
    simp only [List.mem_append, List.mem_cons] at hq ⊢
    rcases hq with h | h | h <;> simp [h])
  obtain ⟨oL', F3, N4, hL'⟩ := swapF F2 N3 hC hCg (by
    intro q hq
    rcases List.mem_append.mp hq with h | h
    · exact Nat.ne_of_gt ((ab q h).1 (C, oC) (List.Mem.head _))
    · exact (N q (List.mem_cons_of_mem _ h)).2.1)
  exact h r own h' tk' oL' F3 N4 (serves (N (L, oL) (List.Mem.head _)).1 hns hL') (fun q hq p hp => (ab q hq).1 p (List.mem_cons_of_mem _ hp)) hP
theorem callCP {P : Addr} {line col : Int} {qn : MStr} {w : World} {p : Program} {loose : List MStr} {mean : ExcName → Option Value} {mg mb : MStr → Option Value} {f : Addr} {vs : List Value} {need : List (Addr × Obj)} {dd uu : Nat} {Post : Value → List (Addr × Obj) → Prop} (K : CtrP P line col qn w p loose mean mg mb f vs need dd uu Post)
    {dp un : Nat} {gd : Option (List Code)} {cn : MStr} {cs : Scope} {ad : Addr} {ccd : Value} {cl : List (MStr × Addr)} {outer : List Env} {A₀ : Around} {base g : Heap} {L C : Addr} {m mC : MStr → Option Value} {oL : Obj} {rest : List (Addr × Obj)} {ent : Option (Addr × Obj)} {s : Shared} {Q E : Value → Shared → Prop}
    (B : Below A₀ base outer g) (F : Fr g C s.heap mC) (X : (hd.heap_39 w.params).In g) (N : News g C s.heap ((L, oL) :: (tEnt P line col ent ++ rest))) (ap : Apart (tEnt P line col ent) rest) (ok : tOk qn ent) (hns : ∀ h' : Heap, h'.get? L = some oL → h'.Ns L m) (hL : g.objs.size ≤ L) (hr : ∀ q ∈ tEnt P line col ent ++ rest, q.1 ≠ L) (T : Top p loose mean mg mb g) (hk : cs.kind = .function)
    (hnd : ∀ q ∈ need, q ∈ rest) (hd1 : dp + dd < recursionLimit) (hu : un + uu < cLine)
    (h : ∀ (r : Value) (own : List (Addr × Obj)) (e : Addr × Obj) (h' : Heap) (tk' : Nat) (oL' : Obj), Fr g C h' mC → News g C h' ((L, oL') :: (own ++ (tEnt P line col (some e) ++ rest))) → Apart (tEnt P line col (some e)) ((L, oL) :: (own ++ rest)) → (∀ q ∈ tEnt P line col (some e), q.1 ≠ C) → tOk qn (some e) → (∀ m : MStr → Option Value, (∀ h'' : Heap, h''.get? L = some oL → h''.Ns L m) → ∀ h'' : Heap, h''.get? L = some oL' → h''.Ns L m) → (∀ q ∈ own, ∀ p ∈ rest, p.1 < q.1) → Post r own → Q r { s with heap := h', toks := tk' }) :
    wpAny (model PySem.Challenge.rw_xj0015_01.row.prog w) (ktrTop dp un gd cn cs L ad ccd cl outer) (call (.ref f) vs) Q E s := by
  obtain ⟨oC, F1, N1, hC⟩ := swapF F N hns hL hr
  have N1' := news_sub (b := tEnt P line col ent ++ ((C, oC) :: rest)) N1 (by
    intro q hq
    simp only [List.mem_append, List.mem_cons] at hq ⊢
    rcases hq with h | h | h <;> simp [h])
  have ap1 : Apart (tEnt P line col ent) ((C, oC) :: rest) := by
    intro q hq r hr2
    rcases List.mem_cons.mp hq with rfl | h
    · exact ((N r (List.mem_cons_of_mem _ (List.mem_append_left _ hr2))).2.1).symm
    · exact ap q h r hr2
  refine K _ _ _ _ _ _ _ _ _ _ _ _ _ _ _ _ _ _ _ B F1 X N1' ap1 ok T hk (fun q hq => List.mem_cons_of_mem _ (hnd q hq)) hd1 hu fun r own e h' tk' F2 N2 ap2 ok2 ab hP => ?_
  have hCg : g.objs.size ≤ C := F.above
  have N3 := news_sub (b := (C, oC) :: (own ++ (tEnt P line col (some e) ++ rest))) N2 (by
    intro q hq
    simp only [List.mem_append, List.mem_cons] at hq ⊢
    rcases hq with h | h | h | h <;> simp [h])
  have hCt : ∀ q ∈ tEnt P line col (some e), q.1 ≠ C := fun q hq => (ap2 (C, oC) (by simp) q hq).symm
  obtain ⟨oL', F3, N4, hL'⟩ := swapF F2 N3 hC hCg (by
    intro q hq
    rcases List.mem_append.mp hq with h | h
    · exact Nat.ne_of_gt ((ab q h).1 (C, oC) (List.Mem.head _))
    · rcases List.mem_append.mp h with h | h
      · exact hCt q h
      · exact (N q (List.mem_cons_of_mem _ (List.mem_append_right _ h))).2.1)
  refine h r own e h' tk' oL' F3 N4 ?_ hCt ok2 (serves (N (L, oL) (List.Mem.head _)).1 hns hL') (fun q hq p hp => (ab q hq).1 p (List.mem_cons_of_mem _ hp)) hP
  intro q hq r hr2
  rcases List.mem_cons.mp hq with rfl | hq
  · exact ((N2 r (List.mem_append_right _ (List.mem_append_left _ hr2))).2.1).symm
  · refine ap2 q ?_ r hr2
    rcases List.mem_append.mp hq with h | h
    · exact List.mem_append_left _ h
    · exact List.mem_append_right _ (List.mem_cons_of_mem _ h)
end Mine
end
section
open PySem PySem.W PySem.Calls PyProof.Rows
set_option maxRecDepth 100000
namespace Mine
theorem getD3 (P J S : List Nat) (i : Nat) : (P ++ J ++ S).toArray.getD i 0 = if i < P.length then P.getD i 0 else if i < P.length + J.length then J.getD (i - P.length) 0 else S.getD (i - P.length - J.length) 0 := by
  have e : (P ++ J ++ S).toArray.getD i 0 = (P ++ J ++ S).getD i 0 := by simp [Array.getD_eq_getD_getElem?, List.getD_eq_getElem?_getD]
  rw [e, List.getD_eq_getElem?_getD]
  by_cases h1 : i < P.length
  · rw [if_pos h1, List.append_assoc, List.getElem?_append_left h1, List.getD_eq_getElem?_getD]
  · rw [if_neg h1]
    by_cases h2 : i < P.length + J.length
    · rw [if_pos h2, List.getElem?_append_left (by simp; lia), List.getElem?_append_right (by lia), List.getD_eq_getElem?_getD]
    · rw [if_neg h2, List.getElem?_append_right (by simp; lia), List.getD_eq_getElem?_getD, List.length_append, Nat.sub_sub]
theorem getD_in {J : List Nat} {i : Nat} (h : i < J.length) : J.getD i 0 ∈ J := by
  rw [List.getD_eq_getElem?_getD, List.getElem?_eq_getElem h]; exact List.getElem_mem h
/-- where the pattern's last list lies -/
theorem foundG (P J S : List Nat) (p0 : Nat) (hP : P.length = p0 + 7) (hPl : ∀ i, i < 7 → P.getD (p0 + i) 0 = Rx.lits.getD i 0) (hPb : ∀ x ∈ P, x < 256 ∧ x ≠ 10) (hSb : ∀ x ∈ S, x < 256 ∧ x ≠ 10) (hS0 : S.getD 0 0 = 41) (hSn : 1 ≤ S.length)
    (hJ : ∀ x ∈ J, x < 256 ∧ x ≠ 10 ∧ x ≠ 40 ∧ x ≠ 41) (hz : (P ++ J ++ S).length < 1000000)
    (hS : ∀ k, k < S.length → S.getD k 0 = 40 → (∀ j, j < S.length → k < j → S.getD j 0 ≠ 41) ∨ (2 ≤ k ∧ S.getD (k - 2) 0 ≠ 83)) : Rx.Found (P ++ J ++ S) p0 (P.length + J.length) := by
  have hlen : (P ++ J ++ S).length = P.length + J.length + S.length := by simp; lia
  refine ⟨by lia, hz, ?_, ?_, ?_, by lia, by lia, ?_, ?_, ?_⟩
  · intro x hx
    simp only [List.mem_append] at hx
    rcases hx with (h | h) | h
    · exact (hPb x h).1
    · exact (hJ x h).1
    · exact (hSb x h).1
  · intro x hx
    simp only [List.mem_append] at hx
    rcases hx with (h | h) | h
    · exact (hPb x h).2
    · exact (hJ x h).2.1
    · exact (hSb x h).2
  · intro i hi
    refine ⟨by simp; lia, ?_⟩
    rw [getD3, if_pos (by lia)]
    exact hPl i hi
  · rw [getD3, if_neg (by lia), if_neg (by lia), show P.length + J.length - P.length - J.length = 0 by lia]
    exact hS0
  · intro q h1 h2
    rw [getD3, if_neg (by lia), if_pos h2]
    exact (hJ _ (getD_in (by lia))).2.2.2
  · intro p hp hit q h1 h2
    obtain ⟨h6a, h6⟩ := hit 6 (by decide)
    obtain ⟨h4a, h4⟩ := hit 4 (by decide)
    rw [getD3, if_neg (by lia)] at h6
    have e6 : Rx.lits.getD 6 0 = 40 := rfl
    have e4 : Rx.lits.getD 4 0 = 83 := rfl
    rw [e6] at h6
    rw [e4] at h4
    by_cases hm : p + 6 < P.length + J.length
    · rw [if_pos hm] at h6
      exact absurd h6 (hJ _ (getD_in (by lia))).2.2.1
    · rw [if_neg hm] at h6
      have hk : p + 6 - P.length - J.length < S.length := by
        have : p + 6 < (P ++ J ++ S).length := by simpa using h6a
        lia
      rcases hS _ hk h6 with h | ⟨h7, h8⟩
      · rw [getD3, if_neg (by lia), if_neg (by lia)]
        exact h _ (by lia) (by lia)
      · rw [getD3, if_neg (by lia), if_neg (by lia), show p + 4 - P.length - J.length = p + 6 - P.length - J.length - 2 by lia] at h4
        exact absurd h4 h8
theorem notFoundG (l : List Nat) (h8 : 8 ≤ l.length) (hz : l.length < 1000000) (hl : ∀ x ∈ l, x < 256 ∧ x ≠ 10 ∧ x ≠ 41) : Rx.NotFound l := by
  refine ⟨h8, hz, fun x hx => (hl x hx).1, fun x hx => (hl x hx).2.1, fun p _ q _ hq => ?_⟩
  have e : l.toArray.getD q 0 = l.getD q 0 := by simp [Array.getD_eq_getD_getElem?, List.getD_eq_getElem?_getD]
  rw [e]
  exact (hl _ (getD_in hq)).2.2
end Mine
end
section
open PySem PySem.W PySem.Calls PyProof.Rows
set_option maxRecDepth 100000
namespace Mine
theorem joinW_mem : ∀ (q : List (List Nat × List Nat)) (w : List Nat) (x : Nat), x ∈ joinW w q → x ∈ w ∨ ∃ p ∈ q, x ∈ p.1 ∨ x ∈ p.2
  | [], w, x, h => .inl h
  | (b, y) :: r, w, x, h => by
    simp only [joinW, List.mem_append] at h
    rcases h with (h | h) | h
    · exact .inl h
    · exact .inr ⟨_, List.Mem.head _, .inl h⟩
    · rcases joinW_mem r y x h with h | ⟨p, hp, h⟩
      · exact .inr ⟨_, List.Mem.head _, .inr h⟩
      · exact .inr ⟨p, List.Mem.tail _ hp, h⟩
noncomputable def Let (w : List Nat) : Prop := w ≠ [] ∧ ∀ x ∈ w, 65 ≤ x ∧ x < 81
theorem let_ap {n : Nat} (h : n ≠ 0) : Let (apL n) := ⟨ap_ne h, fun _ hx => apL_mem hx⟩
theorem let_wd {w : List Nat} (h : Let w) : Wd w := ⟨h.1, fun c hc => by
  have := h.2 c hc
  simp only [spc, Bool.or_eq_false_iff, Bool.and_eq_false_iff, beq_eq_false_iff_ne, decide_eq_false_iff_not]
  lia⟩
theorem blt_bl {b : List Nat} (h : BlT b) : Bl b := by
  rcases h with rfl | rfl | rfl <;> exact ⟨by decide, by decide⟩
noncomputable def PA : List Nat := [42, 32, 51, 32, 70, 69, 84, 67, 72, 32, 40, 80, 69, 82, 77, 65, 78, 69, 78, 84, 70, 76, 65, 71, 83, 32, 40, 65, 32, 66, 41, 32, 70, 76, 65, 71, 83, 32, 40]
noncomputable def SA : List Nat := [41, 41, 32, 66, 79, 68, 89, 32, 40, 65, 32, 66, 41, 32, 70, 76, 65, 71, 83, 32, 40, 67]
theorem mid_eq (P J S : List Nat) (p0 : Nat) (hP : P.length = p0 + 7) : ((P ++ J ++ S).drop (p0 + 7)).take (P.length + J.length - (p0 + 7)) = J := by
  rw [← hP, List.append_assoc, List.drop_left, show P.length + J.length - P.length = J.length by lia, List.take_left]
theorem joinW_ok {w0 : List Nat} {q : List (List Nat × List Nat)} (hb : ∀ p ∈ q, BlT p.1) (h0 : Let w0) (hw : ∀ p ∈ q, Let p.2) : ∀ x ∈ joinW w0 q, x < 256 ∧ x ≠ 10 ∧ x ≠ 40 ∧ x ≠ 41 := by
  intro x hx
  have lt : ∀ w : List Nat, Let w → x ∈ w → x < 256 ∧ x ≠ 10 ∧ x ≠ 40 ∧ x ≠ 41 := fun w h hm => by have := h.2 x hm; lia
  rcases joinW_mem q w0 x hx with h | ⟨p, hp, h | h⟩
  · exact lt _ h0 h
  · rcases hb p hp with e | e | e <;> rw [e] at h <;> simp at h <;> lia
  · exact lt _ (hw p hp) h
/-- the reply's last closed list -/
theorem reply_ok {w0 : List Nat} {ws : List (List Nat)} {q : List (List Nat × List Nat)} (hq : q.map (·.2) = ws) (hb : ∀ p ∈ q, BlT p.1) (h0 : Let w0) (hw : ∀ x ∈ ws, Let x) (hlen : (joinW w0 q).length ≤ 9000) (hne : q ≠ []) :
    Rx.Found (PA ++ joinW w0 q ++ SA) 32 (PA.length + (joinW w0 q).length) ∧ (PA ++ joinW w0 q ++ SA).length < 10000 ∧
      (∃ c ∈ ((PA ++ joinW w0 q ++ SA).drop (32 + 7)).take (PA.length + (joinW w0 q).length - (32 + 7)), spc c = true) ∧
      wordsN ((((PA ++ joinW w0 q ++ SA).drop (32 + 7)).take (PA.length + (joinW w0 q).length - (32 + 7))).length + 1) (((PA ++ joinW w0 q ++ SA).drop (32 + 7)).take (PA.length + (joinW w0 q).length - (32 + 7))) = w0 :: ws := by
  have hw' : ∀ p ∈ q, Let p.2 := fun p hp => hw _ (hq ▸ List.mem_map_of_mem hp)
  have hPl : PA.length = 32 + 7 := by decide
  have hSl : SA.length = 22 := by decide
  rw [mid_eq PA (joinW w0 q) SA 32 hPl]
  have hlen2 : (PA ++ joinW w0 q ++ SA).length < 10000 := by simp [hPl, hSl]; lia
  refine ⟨foundG PA (joinW w0 q) SA 32 hPl (by decide) (by decide) (by decide) (by decide) (by decide) (joinW_ok hb h0 hw') (by lia) (by decide), hlen2, ?_, ?_⟩
  · cases q with
    | nil => exact absurd rfl hne
    | cons p r =>
      obtain ⟨b, y⟩ := p
      obtain ⟨b1, b2⟩ := blt_bl (hb _ (List.Mem.head _))
      cases b with
      | nil => exact absurd rfl b1
      | cons c bs => exact ⟨c, by simp [joinW], b2 c (List.Mem.head _)⟩
  · rw [← hq]
    have hjl : q.length < (joinW w0 q).length + 1 := by
      have key : ∀ (q : List (List Nat × List Nat)) (w : List Nat), (∀ p ∈ q, BlT p.1) → q.length ≤ (joinW w q).length := by
        intro q
        induction q with
        | nil => intro w _; simp
        | cons p r ih =>
          intro w hb
          obtain ⟨b, y⟩ := p
          have h1 := ih y fun p hp => hb p (List.Mem.tail _ hp)
          have h2 : 1 ≤ b.length := by rcases hb _ (List.Mem.head _) with e | e | e <;> (dsimp only at e; rw [e]; decide)
          simp only [joinW, List.length_append, List.length_cons]
          lia
      have := key q w0 hb
      lia
    exact words_join q [] w0 _ hjl (by simp) (let_wd h0) fun p hp => ⟨blt_bl (hb p hp), let_wd (hw' p hp)⟩
noncomputable def PB : List Nat := [42, 32, 79, 75, 32, 91, 80, 69, 82, 77, 65, 78, 69, 78, 84, 70, 76, 65, 71, 83, 32, 40]
theorem perm_ok {a b : List Nat} (ha : Let a) (hb : Let b) (hl : a.length ≤ 100) (hl2 : b.length ≤ 100) :
    Rx.Found (PB ++ joinW a [([32], b)] ++ [41, 93]) 15 (PB.length + (joinW a [([32], b)]).length) ∧ (PB ++ joinW a [([32], b)] ++ [41, 93]).length < 10000 ∧
      (∃ c ∈ ((PB ++ joinW a [([32], b)] ++ [41, 93]).drop (15 + 7)).take (PB.length + (joinW a [([32], b)]).length - (15 + 7)), spc c = true) ∧
      wordsN ((((PB ++ joinW a [([32], b)] ++ [41, 93]).drop (15 + 7)).take (PB.length + (joinW a [([32], b)]).length - (15 + 7))).length + 1) (((PB ++ joinW a [([32], b)] ++ [41, 93]).drop (15 + 7)).take (PB.length + (joinW a [([32], b)]).length - (15 + 7))) = [a, b] := by
  have hPl : PB.length = 15 + 7 := by decide
  have hq : ∀ p ∈ [(([32] : List Nat), b)], BlT p.1 := by intro p hp; rw [List.mem_singleton.mp hp]; exact .inl rfl
  have hw' : ∀ p ∈ [(([32] : List Nat), b)], Let p.2 := by intro p hp; rw [List.mem_singleton.mp hp]; exact hb
  have hjl : (joinW a [([32], b)]).length = a.length + 1 + b.length := by simp [joinW]; lia
  rw [mid_eq PB (joinW a [([32], b)]) [41, 93] 15 hPl]
  have hlen2 : (PB ++ joinW a [([32], b)] ++ [41, 93]).length < 10000 := by simp [hPl, hjl]; lia
  refine ⟨foundG PB (joinW a [([32], b)]) [41, 93] 15 hPl (by decide) (by decide) (by decide) (by decide) (by decide) (joinW_ok hq ha hw') (by lia) (by decide), hlen2, ⟨32, by simp [joinW], by decide⟩, ?_⟩
  exact words_join [([32], b)] [] a _ (by simp [hjl]; lia) (by simp) (let_wd ha) fun p hp => ⟨blt_bl (hq p hp), let_wd (hw' p hp)⟩
noncomputable def PC : List Nat := [42, 32, 51, 32, 70, 69, 84, 67, 72, 32, 40, 70, 76, 65, 71, 83, 32, 40]
theorem open_no {a : List Nat} (ha : Let a) (hl : a.length ≤ 100) : Rx.NotFound (PC ++ a) := by
  have hPl : PC.length = 18 := by decide
  refine notFoundG _ (by simp [hPl]; lia) (by simp [hPl]; lia) fun x hx => ?_
  rcases List.mem_append.mp hx with h | h
  · have : ∀ x ∈ PC, x < 256 ∧ x ≠ 10 ∧ x ≠ 41 := by decide
    exact this x h
  · have := ha.2 x h; lia
end Mine
end
section
open PySem PySem.W PySem.Calls PyProof.Rows PySem.Builtin.Str
set_option maxRecDepth 100000
namespace Mine
theorem letters_ends (x : Nat) : (apL x).head? ≠ some 32 ∧ (apL x).getLast? ≠ some 32 :=
  ⟨fun h => by have := apL_mem (List.mem_of_mem_head? (by rw [h]; rfl) : 32 ∈ apL x); lia, fun h => by have := apL_mem (List.mem_of_getLast? h); lia⟩
theorem c_strip1 (w : World) (p : Program) (loose : List PySem.Str) (mean : ExcName → Option Value) (mg mb : PySem.Str → Option Value) (x : Nat) (xt tk : Tok) (h0 : 0 < x) (h1 : x < 16 ^ 5) :
    Ctr w p loose mean mg mb 45 [.str (tx (lineL x)) xt, .int 1 tk] [] 1 8 (fun r own => own = [] ∧ ∃ t', r = .str (tx ((lineL x).drop 1)) t') := by
  have hl := apL_len h1
  have := c_strip w p loose mean mg mb (tx (lineL x)) xt 1 tk (6 - (apL x).length) 0 (apL x) (by simp [lineW]) (ap_ne (by lia)) (letters_ends x).1 (letters_ends x).2 (by decide) (by decide) (by lia)
  have e : List.replicate (6 - (apL x).length - (1 : Int).toNat) 32 ++ (apL x ++ List.replicate (0 - ((1 : Int).toNat - (6 - (apL x).length))) 32) = (lineL x).drop 1 := by
    unfold lineL lineW
    rw [List.drop_append_of_le_length (by simp; lia), List.drop_replicate]
    simp
  rw [e] at this
  exact this
theorem c_strip7 (w : World) (p : Program) (loose : List PySem.Str) (mean : ExcName → Option Value) (mg mb : PySem.Str → Option Value) (x : Nat) (xt tk : Tok) (h0 : 0 < x) (h1 : x < 16 ^ 5) :
    Ctr w p loose mean mg mb 45 [.str (tx (lineL x ++ [32])) xt, .int 7 tk] [] 1 8 (fun r own => own = [] ∧ ∃ t', r = .str (tx (apL x)) t') := by
  have hl := apL_len h1
  have := c_strip w p loose mean mg mb (tx (lineL x ++ [32])) xt 7 tk (6 - (apL x).length) 1 (apL x) (by simp [lineW]) (ap_ne (by lia)) (letters_ends x).1 (letters_ends x).2 (by decide) (by decide) (by lia)
  have hne : 0 < (apL x).length := List.length_pos_iff.mpr (ap_ne (by lia))
  have e : List.replicate (6 - (apL x).length - (7 : Int).toNat) 32 ++ (apL x ++ List.replicate (1 - ((7 : Int).toNat - (6 - (apL x).length))) 32) = apL x := by
    have e1 : 6 - (apL x).length - (7 : Int).toNat = 0 := by lia
    have e2 : 1 - ((7 : Int).toNat - (6 - (apL x).length)) = 0 := by lia
    rw [e1, e2]; simp
  rw [e] at this
  exact this
theorem slice_from (l : List Nat) (h : 1 ≤ l.length) : Txt.slice (tx l) (some 1) none = tx (l.drop 1) := by
  have e : strSliceIndices (some 1) none 1 (tx l).length = (List.range (l.length - 1)).map fun k => 1 + k := by
    unfold strSliceIndices sliceRange
    rw [tx_len]
    simp only [show ¬ ((1 : Int) < 0) by decide, if_false, show (1 : Int) > 0 by decide, if_true]
    have b1 : max 0 (min 1 (l.length : Int)) = 1 := by lia
    rw [b1]
    by_cases c : (1 : Int) < l.length
    · rw [if_pos c]
      have : ((l.length : Int) - 1 + 1 - 1) / 1 = (l.length : Int) - 1 := by simp
      rw [this]
      have e2 : ((l.length : Int) - 1).toNat = l.length - 1 := by lia
      rw [e2]
      apply List.map_congr_left
      intro k _
      lia
    · rw [if_neg c]
      have : l.length - 1 = 0 := by lia
      rw [this]; rfl
  have q := range_pick l (l.length - 1) 1 (by lia)
  unfold Txt.slice
  rw [e, tx_len]
  split
  · rename_i hc
    simp at hc
    lia
  · show (⟨_⟩ : PySem.Str) = ⟨_⟩
    congr 1
    have e3 : (l.drop 1).take (l.length - 1) = l.drop 1 := List.take_of_length_le (by simp)
    rw [← e3, ← q]
    simp [tx]
/-- texts that are those of a list of lists -/
theorem eqAt_tx {s : Shared} : ∀ {xs ys : List Value} {ws : List (List Nat)} {B : Around}, Txs xs ws → Txs ys ws → ∀ j (h1 : j < xs.toArray.size) (h2 : j < ys.toArray.size), SeqAt.EqAt B s xs.toArray[j] ys.toArray[j] true := by
  intro xs ys ws B hx hy j h1 h2
  have h1' : j < xs.length := by simpa using h1
  have h2' : j < ys.length := by simpa using h2
  have hw : j < ws.length := by rw [← hx.len]; exact h1'
  obtain ⟨t, e1⟩ := hx.get j ws[j] (List.getElem?_eq_getElem hw)
  obtain ⟨u, e2⟩ := hy.get j ws[j] (List.getElem?_eq_getElem hw)
  rw [List.getElem?_eq_getElem h1'] at e1
  rw [List.getElem?_eq_getElem h2'] at e2
  have g1 : xs.toArray[j] = xs[j] := by simp
  have g2 : ys.toArray[j] = ys[j] := by simp
  rw [g1, g2, Option.some.inj e1, Option.some.inj e2]
  exact eqAtS
end Mine
end
section
set_option maxRecDepth 100000
namespace Mine
/-- sums of weights by their coefficients -/
noncomputable abbrev Vec := List Nat
noncomputable def vadd : Vec → Vec → Vec
  | [], b => b
  | x :: a, [] => x :: a
  | x :: a, y :: b => (x + y) :: vadd a b
noncomputable def vscale (c : Nat) : Vec → Vec
  | [] => []
  | x :: a => c * x :: vscale c a
noncomputable def vle : Vec → Vec → Bool
  | [], _ => true
  | x :: a, [] => Nat.beq x 0 && vle a []
  | x :: a, y :: b => Nat.ble x y && vle a b
noncomputable def dn : Vec → List Nat → Nat
  | x :: a, y :: b => x * y + dn a b
  | _, _ => 0
theorem dn_nil (w : List Nat) : dn [] w = 0 := by cases w <;> rfl
theorem dn_nil' (a : Vec) : dn a [] = 0 := by cases a <;> rfl
theorem dn_vadd : ∀ (a b : Vec) (w : List Nat), dn (vadd a b) w = dn a w + dn b w
  | [], b, w => by rw [dn_nil, Nat.zero_add]; rfl
  | x :: a, [], w => by rw [dn_nil, Nat.add_zero]; rfl
  | x :: a, y :: b, [] => rfl
  | x :: a, y :: b, u :: w => by
    show (x + y) * u + dn (vadd a b) w = x * u + dn a w + (y * u + dn b w)
    rw [dn_vadd a b w, Nat.add_mul]
    lia
theorem dn_vscale (c : Nat) : ∀ (a : Vec) (w : List Nat), dn (vscale c a) w = c * dn a w
  | [], w => by rw [dn_nil]; exact dn_nil w
  | x :: a, [] => rfl
  | x :: a, u :: w => by
    show c * x * u + dn (vscale c a) w = c * (x * u + dn a w)
    rw [dn_vscale c a w, Nat.mul_add, Nat.mul_assoc]
theorem vle_nil : ∀ (a : Vec) (w : List Nat), vle a [] = true → dn a w = 0
  | [], w, _ => dn_nil w
  | x :: a, [], _ => rfl
  | x :: a, u :: w, h => by
    have h' : Nat.beq x 0 = true ∧ vle a [] = true := by simpa [vle] using h
    have h1 : x = 0 := Nat.eq_of_beq_eq_true h'.1
    show x * u + dn a w = 0
    rw [vle_nil a w h'.2, h1]
    lia
theorem vle_le : ∀ (a b : Vec) (w : List Nat), vle a b = true → dn a w ≤ dn b w
  | [], b, w, _ => by rw [dn_nil]; exact Nat.zero_le _
  | x :: a, [], w, h => by rw [vle_nil _ w h]; exact Nat.zero_le _
  | x :: a, y :: b, [], _ => Nat.le_refl _
  | x :: a, y :: b, u :: w, h => by
    have h' : Nat.ble x y = true ∧ vle a b = true := by simpa [vle] using h
    have h1 := Nat.mul_le_mul_right u (Nat.le_of_ble_eq_true h'.1)
    have h2 := vle_le a b w h'.2
    show x * u + dn a w ≤ y * u + dn b w
    lia
noncomputable def ones (w : List Nat) : List Nat := w.map fun _ => 1
theorem ones_le : ∀ (a : Vec) (w : List Nat), (∀ x ∈ w, 0 < x) → dn a (ones w) ≤ dn a w
  | [], w, _ => by rw [dn_nil]; exact Nat.zero_le _
  | x :: a, [], _ => Nat.le_refl _
  | x :: a, u :: w, h => by
    have h1 := ones_le a w fun y hy => h y (.tail _ hy)
    have h2 : x * 1 ≤ x * u := Nat.mul_le_mul_left x (h u (.head _))
    show x * 1 + dn a (ones w) ≤ x * u + dn a w
    lia
/-- what a bound of coefficients leaves at weights of 1 and more -/
theorem vle_gap : ∀ (a b : Vec) (w : List Nat), (∀ x ∈ w, 0 < x) → vle a b = true → dn a w + dn b (ones w) ≤ dn b w + dn a (ones w)
  | [], b, w, hw, _ => by rw [dn_nil, dn_nil]; have := ones_le b w hw; lia
  | x :: a, [], w, hw, h => by rw [vle_nil _ w h, vle_nil _ _ h, dn_nil, dn_nil]; exact Nat.le_refl _
  | x :: a, y :: b, [], _, _ => Nat.le_refl _
  | x :: a, y :: b, u :: w, hw, h => by
    have h' : Nat.ble x y = true ∧ vle a b = true := by simpa [vle] using h
    have h1 := vle_gap a b w (fun z hz => hw z (.tail _ hz)) h'.2
    obtain ⟨d, rfl⟩ := Nat.exists_eq_add_of_le (Nat.le_of_ble_eq_true h'.1)
    have h2 : d * 1 ≤ d * u := Nat.mul_le_mul_left d (hw u (.head _))
    have h3 : (x + d) * u = x * u + d * u := Nat.add_mul ..
    show x * u + dn a w + ((x + d) * 1 + dn b (ones w)) ≤ (x + d) * u + dn b w + (x * 1 + dn a (ones w))
    lia
/-- a bound: the first sum, and the strict one's 1, come to no more than the second -/
noncomputable abbrev Cn := Nat × Vec × Vec
noncomputable def Hold (w : List Nat) (c : Cn) : Prop := dn c.2.1 w + c.1 ≤ dn c.2.2 w
noncomputable def sumLo : List Nat → List Cn → Vec
  | 0 :: ms, _ :: cs => sumLo ms cs
  | (m + 1) :: ms, c :: cs => vadd (vscale (m + 1) c.2.1) (sumLo ms cs)
  | _, _ => []
noncomputable def sumHi : List Nat → List Cn → Vec
  | 0 :: ms, _ :: cs => sumHi ms cs
  | (m + 1) :: ms, c :: cs => vadd (vscale (m + 1) c.2.2) (sumHi ms cs)
  | _, _ => []
noncomputable def sumS : List Nat → List Cn → Nat
  | 0 :: ms, _ :: cs => sumS ms cs
  | (m + 1) :: ms, c :: cs => (m + 1) * c.1 + sumS ms cs
  | _, _ => 0
theorem sum_hold (w : List Nat) : ∀ (ms : List Nat) (cs : List Cn), (∀ c ∈ cs, Hold w c) → dn (sumLo ms cs) w + sumS ms cs ≤ dn (sumHi ms cs) w
  | [], cs, _ => by cases cs <;> (show dn [] w + 0 ≤ dn [] w; lia)
  | 0 :: ms, [], _ => by show dn [] w + 0 ≤ dn [] w; lia
  | (m + 1) :: ms, [], _ => by show dn [] w + 0 ≤ dn [] w; lia
  | 0 :: ms, c :: cs, h => sum_hold w ms cs fun x hx => h x (.tail _ hx)
  | (m + 1) :: ms, c :: cs, h => by
    have h1 := sum_hold w ms cs fun x hx => h x (.tail _ hx)
    have h2 := Nat.mul_le_mul_left (m + 1) (h c (.head _))
    rw [Nat.mul_add] at h2
    show dn (vadd (vscale (m + 1) c.2.1) (sumLo ms cs)) w + ((m + 1) * c.1 + sumS ms cs) ≤ dn (vadd (vscale (m + 1) c.2.2) (sumHi ms cs)) w
    rw [dn_vadd, dn_vadd, dn_vscale, dn_vscale]
    lia
/-- the bounds of a step -/
noncomputable def consOf (vs : List Vec) (k p : Nat) : List Cn :=
  ((List.range (k - 1)).map fun j => (1, vs.getD (j + 2) [], vs.getD j [])) ++
  ((if k + 1 < vs.length then [(0, vs.getD (k - 1) [], vs.getD (k + 1) [])] else []) ++
  (((List.range (k - 1 - p)).map fun j => (1, vs.getD (p + j) [], vadd (vs.getD (k - 1) []) (vs.getD k []))) ++
  (if 0 < p then [(0, vadd (vs.getD (k - 1) []) (vs.getD k []), vs.getD (p - 1) [])] else [])))
theorem getD_dn (w : List Nat) (vs : List Vec) (i : Nat) : (vs.map (dn · w)).getD i 0 = dn (vs.getD i []) w := by
  rw [List.getD_eq_getElem?_getD, List.getD_eq_getElem?_getD, List.getElem?_map]
  cases vs[i]? with
  | none => exact (dn_nil w).symm
  | some v => rfl
theorem cons_hold (w : List Nat) (vs : List Vec) (k p : Nat) (h : StepOk (vs.map (dn · w)) k p) : ∀ c ∈ consOf vs k p, Hold w c := by
  obtain ⟨h1, h2, h3, h4, h5, h6, h7⟩ := h
  intro c hc
  simp only [getD_dn] at h4 h5 h6 h7
  simp only [List.length_map] at h5
  unfold consOf at hc
  rcases List.mem_append.mp hc with hc | hc
  · obtain ⟨j, hj, rfl⟩ := List.mem_map.mp hc
    have hj := List.mem_range.mp hj
    have := h4 (j + 1) (by lia) (by lia)
    rw [show j + 1 - 1 = j by lia] at this
    exact this
  rcases List.mem_append.mp hc with hc | hc
  · split at hc
    · rename_i hk
      obtain rfl := List.mem_singleton.mp hc
      exact h5 hk
    · cases hc
  rcases List.mem_append.mp hc with hc | hc
  · obtain ⟨j, hj, rfl⟩ := List.mem_map.mp hc
    have hj := List.mem_range.mp hj
    have := h6 (p + j) (by lia) (by lia)
    rw [← dn_vadd] at this
    exact this
  · split at hc
    · rename_i hk
      obtain rfl := List.mem_singleton.mp hc
      have := h7 hk
      rw [← dn_vadd] at this
      exact this
    · cases hc
/-- the level lists of the trees of n leaves -/
noncomputable def TT : Nat → List (List Nat)
  | 1 => [[0]]
  | 2 => [[1,1]]
  | 3 => [[1,2,2],[2,2,1]]
  | 4 => [[1,2,3,3],[1,3,3,2],[2,2,2,2],[2,3,3,1],[3,3,2,1]]
  | 5 => [[1,2,3,4,4],[1,2,4,4,3],[1,3,3,3,3],[1,3,4,4,2],[1,4,4,3,2],[2,2,2,3,3],[2,2,3,3,2],[2,3,3,2,2],[3,3,2,2,2],[2,3,4,4,1],[2,4,4,3,1],[3,3,3,3,1],[3,4,4,2,1],[4,4,3,2,1]]
  | 6 => [[1,2,3,4,5,5],[1,2,3,5,5,4],[1,2,4,4,4,4],[1,2,4,5,5,3],[1,2,5,5,4,3],[1,3,3,3,4,4],[1,3,3,4,4,3],[1,3,4,4,3,3],[1,4,4,3,3,3],[1,3,4,5,5,2],[1,3,5,5,4,2],[1,4,4,4,4,2],[1,4,5,5,3,2],[1,5,5,4,3,2],[2,2,2,3,4,4],[2,2,2,4,4,3],[2,2,3,3,3,3],[2,2,3,4,4,2],[2,2,4,4,3,2],[2,3,3,2,3,3],[2,3,3,3,3,2],[3,3,2,2,3,3],[3,3,2,3,3,2],[2,3,4,4,2,2],[2,4,4,3,2,2],[3,3,3,3,2,2],[3,4,4,2,2,2],[4,4,3,2,2,2],[2,3,4,5,5,1],[2,3,5,5,4,1],[2,4,4,4,4,1],[2,4,5,5,3,1],[2,5,5,4,3,1],[3,3,3,4,4,1],[3,3,4,4,3,1],[3,4,4,3,3,1],[4,4,3,3,3,1],[3,4,5,5,2,1],[3,5,5,4,2,1],[4,4,4,4,2,1],[4,5,5,3,2,1],[5,5,4,3,2,1]]
  | _ => []
theorem tt_join : ∀ a < 7, ∀ b < 7, a + b < 7 → ∀ s ∈ TT a, ∀ t ∈ TT b, (s ++ t).map (· + 1) ∈ TT (a + b) := by decide +kernel
theorem lev_tt {t : List Nat} (h : Lev t) : t.length < 7 → t ∈ TT t.length := by
  induction h with
  | leaf => intro _; decide
  | @node a b ha hb iha ihb =>
    intro hl
    simp only [List.length_map, List.length_append] at hl ⊢
    exact tt_join _ (by lia) _ (by lia) hl _ (iha (by lia)) _ (ihb (by lia))
theorem tt_split : ∀ n < 7, 2 ≤ n → ∀ t ∈ TT n, ∃ l, l < n ∧ ∃ a, a ∈ TT l ∧ ∃ b, b ∈ TT (n - l) ∧ (a ++ b).map (· + 1) = t := by
  have : ∀ n < 7, 2 ≤ n → ∀ t ∈ TT n, ((List.range n).any fun l => (TT l).any fun a => (TT (n - l)).any fun b => decide ((a ++ b).map (· + 1) = t)) = true := by decide +kernel
  intro n hn h2 t ht
  obtain ⟨l, hl, h⟩ := List.any_eq_true.mp (this n hn h2 t ht)
  obtain ⟨a, ha, h⟩ := List.any_eq_true.mp h
  obtain ⟨b, hb, h⟩ := List.any_eq_true.mp h
  exact ⟨l, List.mem_range.mp hl, a, ha, b, hb, of_decide_eq_true h⟩
theorem tt_lev : ∀ n, n < 7 → ∀ t ∈ TT n, Lev t ∧ t.length = n := by
  intro n
  induction n using Nat.strongRecOn with
  | _ n ih =>
    intro hn t ht
    rcases Nat.lt_or_ge n 2 with h | h
    · have : n = 0 ∨ n = 1 := by lia
      rcases this with rfl | rfl
      · cases ht
      · obtain rfl := List.mem_singleton.mp ht
        exact ⟨.leaf, rfl⟩
    · obtain ⟨l, hl, a, ha, b, hb, rfl⟩ := tt_split n hn h t ht
      have hl0 : l ≠ 0 := by rintro rfl; cases ha
      obtain ⟨i1, i2⟩ := ih l hl (by lia) a ha
      obtain ⟨i3, i4⟩ := ih (n - l) (by lia) (by lia) b hb
      refine ⟨.node i1 i3, ?_⟩
      simp [i2, i4]
      lia
end Mine
end
section
set_option maxRecDepth 100000
namespace Mine
noncomputable def costV : List Vec → List Nat → Vec
  | r :: rs, x :: t => vadd (vscale x r) (costV rs t)
  | _, _ => []
theorem dn_cost (w : List Nat) : ∀ (rs : List Vec) (t : List Nat), dn (costV rs t) w = dn t (rs.map (dn · w))
  | [], t => by rw [List.map_nil, dn_nil']; exact dn_nil w
  | r :: rs, [] => by rw [dn_nil]; exact dn_nil w
  | r :: rs, x :: t => by
    show dn (vadd (vscale x r) (costV rs t)) w = x * dn r w + dn t (rs.map (dn · w))
    rw [dn_vadd, dn_vscale, dn_cost w rs t]
theorem nxt_map {α β : Type} (f : α → β) (r : List α) (x : α) (k p : Nat) : nxt (r.map f) (f x) k p = (nxt r x k p).map f := by
  unfold nxt
  simp [List.map_take, List.map_drop]
noncomputable def okA (vs : List Vec) (k p : Nat) (t : List Nat) (c : List Nat × List Nat) : Bool :=
  vle (vadd (vadd (costV (nxt vs (vadd (vs.getD (k - 1) []) (vs.getD k [])) k p) c.1) (vadd (vs.getD (k - 1) []) (vs.getD k []))) (sumHi c.2 (consOf vs k p))) (vadd t (sumLo c.2 (consOf vs k p)))
theorem okA_le (w : List Nat) (vs : List Vec) (hw : w = vs.map (dn · w)) (k p : Nat) (t : List Nat) (c : List Nat × List Nat) (hs : StepOk w k p) (h : okA vs k p t c = true) :
    dn c.1 (nxt w (w.getD (k - 1) 0 + w.getD k 0) k p) + (w.getD (k - 1) 0 + w.getD k 0) ≤ dn t w := by
  have e1 : ∀ i, w.getD i 0 = dn (vs.getD i []) w := fun i => by conv => lhs; rw [hw]; rw [getD_dn]
  have h1 := vle_le _ _ w h
  rw [dn_vadd, dn_vadd, dn_vadd, dn_cost, ← nxt_map, ← hw, dn_vadd, dn_vadd, ← e1, ← e1] at h1
  have h2 := sum_hold w c.2 (consOf vs k p) (cons_hold w vs k p (by rw [← hw]; exact hs))
  lia
noncomputable def units : Nat → List Vec
  | 2 => [[1,0],[0,1]]
  | 3 => [[1,0,0],[0,1,0],[0,0,1]]
  | 4 => [[1,0,0,0],[0,1,0,0],[0,0,1,0],[0,0,0,1]]
  | 5 => [[1,0,0,0,0],[0,1,0,0,0],[0,0,1,0,0],[0,0,0,1,0],[0,0,0,0,1]]
  | 6 => [[1,0,0,0,0,0],[0,1,0,0,0,0],[0,0,1,0,0,0],[0,0,0,1,0,0],[0,0,0,0,1,0],[0,0,0,0,0,1]]
  | _ => []
theorem units_eq (w : List Nat) (h1 : 2 ≤ w.length) (h2 : w.length < 7) : w = (units w.length).map (dn · w) := by
  match w, h1, h2 with
  | [a, b], _, _ => simp [units, dn]
  | [a, b, c], _, _ => simp [units, dn]
  | [a, b, c, d], _, _ => simp [units, dn]
  | [a, b, c, d, e], _, _ => simp [units, dn]
  | [a, b, c, d, e, f], _, _ => simp [units, dn]
  | _ :: _ :: _ :: _ :: _ :: _ :: _ :: _, _, h => simp at h; lia
/-- for each tree a tree of one leaf less, and how often each bound goes in -/
noncomputable def chkA (n k p : Nat) : List (List Nat) → List (List Nat × List Nat) → Bool
  | [], _ => true
  | _ :: _, [] => false
  | t :: ts, c :: cs => (okA (units n) k p t c && (TT (n - 1)).contains c.1) && chkA n k p ts cs
theorem chkA_get (n k p : Nat) : ∀ (ts : List (List Nat)) (cs : List (List Nat × List Nat)), chkA n k p ts cs = true → ∀ t ∈ ts, ∃ c : List Nat × List Nat, okA (units n) k p t c = true ∧ c.1 ∈ TT (n - 1)
  | [], _, _, t, ht => nomatch ht
  | _ :: _, [], h, _, _ => nomatch h
  | t :: ts, c :: cs, h, u, hu => by
    have h' : ((okA (units n) k p t c && (TT (n - 1)).contains c.1) && chkA n k p ts cs) = true := h
    rw [Bool.and_eq_true, Bool.and_eq_true] at h'
    rcases List.mem_cons.mp hu with rfl | hu
    · exact ⟨c, h'.1.1, by simpa using h'.1.2⟩
    · exact chkA_get n k p ts cs h'.2 u hu
theorem a210 : chkA 2 1 0 (TT 2) [([0],[])] = true := by decide +kernel
theorem a310 : chkA 3 1 0 (TT 3) [([1,1],[1]),([1,1],[0])] = true := by decide +kernel
theorem a320 : chkA 3 2 0 (TT 3) [([1,1],[0,0]),([1,1],[1,0])] = true := by decide +kernel
theorem a321 : chkA 3 2 1 (TT 3) [([1,1],[0,0]),([1,1],[1,0])] = true := by decide +kernel
theorem a410 : chkA 4 1 0 (TT 4) [([1,2,2],[1]),([1,2,2],[1]),([1,2,2],[0]),([2,2,1],[1]),([2,2,1],[0])] = true := by decide +kernel
theorem a420 : chkA 4 2 0 (TT 4) [([1,2,2],[0,1,1]),([1,2,2],[0,0,1]),([1,2,2],[0,0,0]),([2,2,1],[0,0,0]),([2,2,1],[1,0,0])] = true := by decide +kernel
theorem a421 : chkA 4 2 1 (TT 4) [([1,2,2],[0,1,0]),([1,2,2],[0,0,0]),([1,2,2],[0,0,1]),([2,2,1],[0,0,0]),([2,2,1],[1,0,0])] = true := by decide +kernel
theorem a430 : chkA 4 3 0 (TT 4) [([1,2,2],[0,0,1,0]),([1,2,2],[0,1,1,0]),([1,2,2],[0,0,0,0]),([1,2,2],[0,1,0,0]),([1,2,2],[0,1,0,0])] = true := by decide +kernel
theorem a431 : chkA 4 3 1 (TT 4) [([1,2,2],[0,0,0,0]),([1,2,2],[0,1,0,0]),([1,2,2],[0,0,0,1]),([1,2,2],[0,1,0,1]),([1,2,2],[0,0,0,2])] = true := by decide +kernel
theorem a432 : chkA 4 3 2 (TT 4) [([1,2,2],[0,0,0]),([1,2,2],[0,1,0]),([2,2,1],[0,0,0]),([2,2,1],[0,1,0]),([2,2,1],[0,1,0])] = true := by decide +kernel
theorem a510 : chkA 5 1 0 (TT 5) [([1,2,3,3],[1]),([1,2,3,3],[1]),([1,2,3,3],[1]),([1,3,3,2],[1]),([1,3,3,2],[1]),([1,2,3,3],[0]),([1,3,3,2],[0]),([2,2,2,2],[1]),([2,2,2,2],[0]),([2,3,3,1],[1]),([2,3,3,1],[1]),([2,3,3,1],[0]),([3,3,2,1],[1]),([3,3,2,1],[0])] = true := by decide +kernel
theorem a520 : chkA 5 2 0 (TT 5) [([1,2,3,3],[0,1,1]),([1,2,3,3],[0,1,1]),([1,2,3,3],[0,0,1]),([2,2,2,2],[0,1,1]),([2,2,2,2],[0,0,1]),([1,2,3,3],[0,0,0]),([2,2,2,2],[0,1,0]),([2,2,2,2],[0,0,0]),([2,2,2,2],[1,0,0]),([2,3,3,1],[0,1,1]),([2,3,3,1],[0,0,1]),([2,3,3,1],[0,0,0]),([3,3,2,1],[0,0,0]),([3,3,2,1],[1,0,0])] = true := by decide +kernel
theorem a521 : chkA 5 2 1 (TT 5) [([1,2,3,3],[0,1,0]),([1,2,3,3],[0,1,0]),([1,2,3,3],[0,0,0]),([1,3,3,2],[0,1,0]),([1,3,3,2],[0,0,0]),([1,2,3,3],[0,0,1]),([2,2,2,2],[0,1,0]),([2,2,2,2],[0,0,0]),([2,2,2,2],[1,0,0]),([2,3,3,1],[0,1,0]),([2,3,3,1],[0,0,0]),([2,3,3,1],[0,0,1]),([3,3,2,1],[0,0,0]),([3,3,2,1],[1,0,0])] = true := by decide +kernel
theorem a530 : chkA 5 3 0 (TT 5) [([2,2,2,2],[0,0,1,1,0]),([2,2,2,2],[0,0,0,1,0]),([1,2,3,3],[0,0,0,1,0]),([2,2,2,2],[0,0,0,1,0]),([2,2,2,2],[0,1,0,1,0]),([2,2,2,2],[0,0,1,0,0]),([2,2,2,2],[0,0,0,0,0]),([2,2,2,2],[0,1,0,0,0]),([1,3,3,2],[0,0,0,0,0]),([2,3,3,1],[0,0,0,1,0]),([2,3,3,1],[0,1,0,1,0]),([2,3,3,1],[0,0,0,0,0]),([2,3,3,1],[0,1,0,0,0]),([2,3,3,1],[0,1,0,0,0])] = true := by decide +kernel
theorem a531 : chkA 5 3 1 (TT 5) [([1,2,3,3],[0,0,1,1,0]),([1,2,3,3],[0,0,0,1,0]),([1,2,3,3],[0,0,0,0,0]),([1,3,3,2],[0,0,0,0,0]),([1,3,3,2],[0,1,0,0,0]),([2,2,2,2],[0,0,1,0,0]),([2,2,2,2],[0,0,0,0,0]),([2,2,2,2],[0,1,0,0,0]),([2,2,2,2],[0,0,0,0,1]),([2,3,3,1],[0,0,0,0,0]),([2,3,3,1],[0,1,0,0,0]),([2,3,3,1],[0,0,0,0,1]),([2,3,3,1],[0,1,0,0,1]),([2,3,3,1],[0,0,0,0,2])] = true := by decide +kernel
theorem a532 : chkA 5 3 2 (TT 5) [([1,2,3,3],[0,0,1,0]),([1,2,3,3],[0,0,0,0]),([1,2,3,3],[0,0,0,1]),([1,3,3,2],[0,0,0,0]),([1,3,3,2],[0,1,0,0]),([2,2,2,2],[0,0,1,0]),([2,2,2,2],[0,0,0,0]),([2,2,2,2],[0,1,0,0]),([2,2,2,2],[0,0,0,1]),([2,3,3,1],[0,0,0,0]),([2,3,3,1],[0,1,0,0]),([3,3,2,1],[0,0,0,0]),([3,3,2,1],[0,1,0,0]),([3,3,2,1],[0,1,0,0])] = true := by decide +kernel
theorem a540 : chkA 5 4 0 (TT 5) [([2,2,2,2],[0,0,0,1,0,0]),([2,2,2,2],[0,0,1,1,0,0]),([1,2,3,3],[0,0,0,1,0,0]),([1,2,3,3],[0,0,1,1,0,0]),([1,2,3,3],[0,0,1,1,0,0]),([2,2,2,2],[0,0,0,0,0,0]),([2,2,2,2],[0,0,1,0,0,0]),([1,2,3,3],[0,0,0,0,0,0]),([1,3,3,2],[0,0,0,0,0,0]),([1,2,3,3],[0,0,1,0,0,0]),([1,2,3,3],[0,0,1,0,0,0]),([1,3,3,2],[0,0,1,0,0,0]),([1,2,3,3],[0,0,1,0,0,0]),([1,3,3,2],[0,0,1,0,0,0])] = true := by decide +kernel
theorem a541 : chkA 5 4 1 (TT 5) [([1,2,3,3],[0,0,0,1,0,0]),([1,2,3,3],[0,0,1,1,0,0]),([1,2,3,3],[0,0,0,0,0,0]),([1,2,3,3],[0,0,1,0,0,0]),([1,2,3,3],[0,0,1,0,0,0]),([2,2,2,2],[0,0,0,0,0,0]),([2,2,2,2],[0,0,1,0,0,0]),([1,2,3,3],[0,0,0,0,0,1]),([2,2,2,2],[0,0,0,0,0,1]),([1,2,3,3],[0,0,1,0,0,1]),([1,2,3,3],[0,0,1,0,0,1]),([1,2,3,3],[0,0,0,0,0,2]),([1,2,3,3],[0,0,0,0,0,2]),([1,2,3,3],[0,0,0,0,0,2])] = true := by decide +kernel
theorem a542 : chkA 5 4 2 (TT 5) [([1,2,3,3],[0,0,0,0,0]),([1,2,3,3],[0,0,1,0,0]),([1,2,3,3],[0,0,0,0,1]),([1,2,3,3],[0,0,1,0,1]),([1,2,3,3],[0,0,0,0,2]),([2,2,2,2],[0,0,0,0,0]),([2,2,2,2],[0,0,1,0,0]),([2,2,2,2],[0,0,0,0,1]),([2,2,2,2],[0,0,0,0,1]),([2,2,2,2],[0,0,1,0,1]),([2,2,2,2],[0,0,0,0,2]),([2,2,2,2],[0,0,1,0,1]),([2,2,2,2],[0,0,0,0,2]),([2,2,2,2],[0,0,0,0,2])] = true := by decide +kernel
theorem a543 : chkA 5 4 3 (TT 5) [([1,2,3,3],[0,0,0,0]),([1,2,3,3],[0,0,1,0]),([1,3,3,2],[0,0,0,0]),([1,3,3,2],[0,0,1,0]),([1,3,3,2],[0,0,1,0]),([2,2,2,2],[0,0,0,0]),([2,2,2,2],[0,0,1,0]),([2,3,3,1],[0,0,0,0]),([3,3,2,1],[0,0,0,0]),([2,3,3,1],[0,0,1,0]),([2,3,3,1],[0,0,1,0]),([3,3,2,1],[0,0,1,0]),([2,3,3,1],[0,0,1,0]),([3,3,2,1],[0,0,1,0])] = true := by decide +kernel
theorem a610 : chkA 6 1 0 (TT 6) [([1,2,3,4,4],[1]),([1,2,3,4,4],[1]),([1,2,3,4,4],[1]),([1,2,4,4,3],[1]),([1,2,4,4,3],[1]),([1,2,3,4,4],[1]),([1,2,4,4,3],[1]),([1,3,3,3,3],[1]),([1,3,3,3,3],[1]),([1,3,4,4,2],[1]),([1,3,4,4,2],[1]),([1,3,4,4,2],[1]),([1,4,4,3,2],[1]),([1,4,4,3,2],[1]),([1,2,3,4,4],[0]),([1,2,4,4,3],[0]),([1,3,3,3,3],[0]),([1,3,4,4,2],[0]),([1,4,4,3,2],[0]),([2,2,2,3,3],[1]),([2,2,3,3,2],[1]),([2,2,2,3,3],[0]),([2,2,3,3,2],[0]),([2,3,3,2,2],[1]),([2,3,3,2,2],[1]),([2,3,3,2,2],[0]),([3,3,2,2,2],[1]),([3,3,2,2,2],[0]),([2,3,4,4,1],[1]),([2,3,4,4,1],[1]),([2,3,4,4,1],[1]),([2,4,4,3,1],[1]),([2,4,4,3,1],[1]),([2,3,4,4,1],[0]),([2,4,4,3,1],[0]),([3,3,3,3,1],[1]),([3,3,3,3,1],[0]),([3,4,4,2,1],[1]),([3,4,4,2,1],[1]),([3,4,4,2,1],[0]),([4,4,3,2,1],[1]),([4,4,3,2,1],[0])] = true := by decide +kernel
theorem a620 : chkA 6 2 0 (TT 6) [([1,2,3,4,4],[0,1,1]),([1,2,3,4,4],[0,1,1]),([1,2,3,4,4],[0,1,1]),([1,2,4,4,3],[0,1,1]),([1,2,4,4,3],[0,1,1]),([1,2,3,4,4],[0,0,1]),([1,2,4,4,3],[0,0,1]),([2,2,2,3,3],[0,1,1]),([2,2,2,3,3],[0,0,1]),([2,2,3,3,2],[0,1,1]),([2,2,3,3,2],[0,1,1]),([2,2,3,3,2],[0,0,1]),([2,2,3,3,2],[0,0,1]),([2,2,3,3,2],[0,0,1]),([1,2,3,4,4],[0,0,0]),([1,2,4,4,3],[0,0,0]),([2,2,2,3,3],[0,1,0]),([2,2,3,3,2],[0,1,0]),([2,2,3,3,2],[0,1,0]),([2,2,2,3,3],[0,0,0]),([2,2,3,3,2],[0,0,0]),([2,2,2,3,3],[1,0,0]),([2,2,3,3,2],[1,0,0]),([2,3,3,2,2],[0,1,1]),([2,3,3,2,2],[0,0,1]),([2,3,3,2,2],[0,0,0]),([3,3,2,2,2],[0,0,0]),([3,3,2,2,2],[1,0,0]),([2,3,4,4,1],[0,1,1]),([2,3,4,4,1],[0,1,1]),([2,3,4,4,1],[0,0,1]),([3,3,3,3,1],[0,1,1]),([3,3,3,3,1],[0,0,1]),([2,3,4,4,1],[0,0,0]),([3,3,3,3,1],[0,1,0]),([3,3,3,3,1],[0,0,0]),([3,3,3,3,1],[1,0,0]),([3,4,4,2,1],[0,1,1]),([3,4,4,2,1],[0,0,1]),([3,4,4,2,1],[0,0,0]),([4,4,3,2,1],[0,0,0]),([4,4,3,2,1],[1,0,0])] = true := by decide +kernel
theorem a621 : chkA 6 2 1 (TT 6) [([1,2,3,4,4],[0,1,0]),([1,2,3,4,4],[0,1,0]),([1,2,3,4,4],[0,1,0]),([1,2,4,4,3],[0,1,0]),([1,2,4,4,3],[0,1,0]),([1,2,3,4,4],[0,0,0]),([1,2,4,4,3],[0,0,0]),([1,3,3,3,3],[0,1,0]),([1,3,3,3,3],[0,0,0]),([1,3,4,4,2],[0,1,0]),([1,3,4,4,2],[0,1,0]),([1,3,4,4,2],[0,0,0]),([1,4,4,3,2],[0,1,0]),([1,4,4,3,2],[0,0,0]),([1,2,3,4,4],[0,0,1]),([1,2,4,4,3],[0,0,1]),([2,2,2,3,3],[0,1,0]),([2,2,3,3,2],[0,1,0]),([2,2,3,3,2],[0,1,0]),([2,2,2,3,3],[0,0,0]),([2,2,3,3,2],[0,0,0]),([2,2,2,3,3],[1,0,0]),([2,2,3,3,2],[1,0,0]),([2,3,3,2,2],[0,1,0]),([2,3,3,2,2],[0,0,0]),([2,3,3,2,2],[0,0,1]),([3,3,2,2,2],[0,0,0]),([3,3,2,2,2],[1,0,0]),([2,3,4,4,1],[0,1,0]),([2,3,4,4,1],[0,1,0]),([2,3,4,4,1],[0,0,0]),([2,4,4,3,1],[0,1,0]),([2,4,4,3,1],[0,0,0]),([2,3,4,4,1],[0,0,1]),([3,3,3,3,1],[0,1,0]),([3,3,3,3,1],[0,0,0]),([3,3,3,3,1],[1,0,0]),([3,4,4,2,1],[0,1,0]),([3,4,4,2,1],[0,0,0]),([3,4,4,2,1],[0,0,1]),([4,4,3,2,1],[0,0,0]),([4,4,3,2,1],[1,0,0])] = true := by decide +kernel
theorem a630 : chkA 6 3 0 (TT 6) [([2,2,2,3,3],[0,0,1,1,0]),([2,2,2,3,3],[0,0,1,1,0]),([2,2,2,3,3],[0,0,0,1,0]),([2,2,2,3,3],[0,0,0,1,0]),([2,2,2,3,3],[0,0,0,1,0]),([1,2,3,4,4],[0,0,0,1,0]),([2,2,2,3,3],[0,0,1,1,0]),([2,2,2,3,3],[0,0,0,1,0]),([2,2,2,3,3],[0,1,0,1,0]),([2,2,3,3,2],[0,0,0,1,0]),([2,2,3,3,2],[0,0,0,1,0]),([2,2,3,3,2],[0,0,0,1,0]),([2,2,3,3,2],[0,0,0,1,0]),([2,2,3,3,2],[0,0,0,1,0]),([2,2,2,3,3],[0,0,1,0,0]),([2,2,2,3,3],[0,0,1,0,0]),([2,2,2,3,3],[0,0,0,0,0]),([2,2,3,3,2],[0,0,1,0,1]),([2,2,3,3,2],[0,0,0,0,1]),([2,2,2,3,3],[0,1,0,0,0]),([2,2,3,3,2],[0,0,0,0,0]),([1,3,3,3,3],[0,0,0,0,0]),([2,2,3,3,2],[1,0,0,0,0]),([2,3,3,2,2],[0,0,0,1,0]),([2,3,3,2,2],[0,1,0,1,0]),([2,3,3,2,2],[0,0,0,0,0]),([2,3,3,2,2],[0,1,0,0,0]),([2,3,3,2,2],[0,1,0,0,0]),([3,3,3,3,1],[0,0,1,1,0]),([3,3,3,3,1],[0,0,0,1,0]),([2,3,4,4,1],[0,0,0,1,0]),([3,3,3,3,1],[0,0,0,1,0]),([3,3,3,3,1],[0,1,0,1,0]),([3,3,3,3,1],[0,0,1,0,0]),([3,3,3,3,1],[0,0,0,0,0]),([3,3,3,3,1],[0,1,0,0,0]),([2,4,4,3,1],[0,0,0,0,0]),([3,4,4,2,1],[0,0,0,1,0]),([3,4,4,2,1],[0,1,0,1,0]),([3,4,4,2,1],[0,0,0,0,0]),([3,4,4,2,1],[0,1,0,0,0]),([3,4,4,2,1],[0,1,0,0,0])] = true := by decide +kernel
theorem a631 : chkA 6 3 1 (TT 6) [([1,2,3,4,4],[0,0,1,1,0]),([1,2,3,4,4],[0,0,1,1,0]),([1,2,3,4,4],[0,0,0,1,0]),([1,3,3,3,3],[0,0,1,1,0]),([1,3,3,3,3],[0,0,0,1,0]),([1,2,3,4,4],[0,0,0,0,0]),([1,3,3,3,3],[0,0,1,0,0]),([1,3,3,3,3],[0,0,0,0,0]),([1,3,3,3,3],[0,1,0,0,0]),([1,3,4,4,2],[0,0,1,1,0]),([1,3,4,4,2],[0,0,0,1,0]),([1,3,4,4,2],[0,0,0,0,0]),([1,4,4,3,2],[0,0,0,0,0]),([1,4,4,3,2],[0,1,0,0,0]),([2,2,2,3,3],[0,0,1,0,0]),([2,2,2,3,3],[0,0,1,0,0]),([2,2,2,3,3],[0,0,0,0,0]),([2,2,3,3,2],[0,0,1,1,0]),([2,2,3,3,2],[0,0,0,1,0]),([2,2,2,3,3],[0,1,0,0,0]),([2,2,3,3,2],[0,0,0,0,0]),([2,2,2,3,3],[0,0,0,0,1]),([2,2,3,3,2],[0,0,0,0,1]),([2,3,3,2,2],[0,0,0,0,0]),([2,3,3,2,2],[0,1,0,0,0]),([2,3,3,2,2],[0,0,0,0,1]),([2,3,3,2,2],[0,1,0,0,1]),([2,3,3,2,2],[0,0,0,0,2]),([2,3,4,4,1],[0,0,1,1,0]),([2,3,4,4,1],[0,0,0,1,0]),([2,3,4,4,1],[0,0,0,0,0]),([2,4,4,3,1],[0,0,0,0,0]),([2,4,4,3,1],[0,1,0,0,0]),([3,3,3,3,1],[0,0,1,0,0]),([3,3,3,3,1],[0,0,0,0,0]),([3,3,3,3,1],[0,1,0,0,0]),([3,3,3,3,1],[0,0,0,0,1]),([3,4,4,2,1],[0,0,0,0,0]),([3,4,4,2,1],[0,1,0,0,0]),([3,4,4,2,1],[0,0,0,0,1]),([3,4,4,2,1],[0,1,0,0,1]),([3,4,4,2,1],[0,0,0,0,2])] = true := by decide +kernel
theorem a632 : chkA 6 3 2 (TT 6) [([1,2,3,4,4],[0,0,1,0]),([1,2,3,4,4],[0,0,1,0]),([1,2,3,4,4],[0,0,0,0]),([1,2,4,4,3],[0,0,1,0]),([1,2,4,4,3],[0,0,0,0]),([1,2,3,4,4],[0,0,0,1]),([1,3,3,3,3],[0,0,1,0]),([1,3,3,3,3],[0,0,0,0]),([1,3,3,3,3],[0,1,0,0]),([1,3,4,4,2],[0,0,1,0]),([1,3,4,4,2],[0,0,0,0]),([1,3,4,4,2],[0,0,0,1]),([1,4,4,3,2],[0,0,0,0]),([1,4,4,3,2],[0,1,0,0]),([2,2,2,3,3],[0,0,1,0]),([2,2,2,3,3],[0,0,1,0]),([2,2,2,3,3],[0,0,0,0]),([2,2,3,3,2],[0,0,1,0]),([2,2,3,3,2],[0,0,0,0]),([2,2,2,3,3],[0,1,0,0]),([2,2,3,3,2],[0,0,0,1]),([2,2,2,3,3],[0,0,0,1]),([3,3,2,2,2],[0,0,1,0]),([2,3,3,2,2],[0,0,0,0]),([2,3,3,2,2],[0,1,0,0]),([3,3,2,2,2],[0,0,0,0]),([3,3,2,2,2],[0,1,0,0]),([3,3,2,2,2],[0,1,0,0]),([2,3,4,4,1],[0,0,1,0]),([2,3,4,4,1],[0,0,0,0]),([2,3,4,4,1],[0,0,0,1]),([2,4,4,3,1],[0,0,0,0]),([2,4,4,3,1],[0,1,0,0]),([3,3,3,3,1],[0,0,1,0]),([3,3,3,3,1],[0,0,0,0]),([3,3,3,3,1],[0,1,0,0]),([3,3,3,3,1],[0,0,0,1]),([3,4,4,2,1],[0,0,0,0]),([3,4,4,2,1],[0,1,0,0]),([4,4,3,2,1],[0,0,0,0]),([4,4,3,2,1],[0,1,0,0]),([4,4,3,2,1],[0,1,0,0])] = true := by decide +kernel
theorem a640 : chkA 6 4 0 (TT 6) [([2,2,2,3,3],[0,0,0,0,1,0,0]),([2,2,2,3,3],[0,0,0,0,1,0,0]),([2,2,2,3,3],[0,0,0,0,1,0,0]),([2,2,2,3,3],[0,0,0,0,1,0,0]),([2,2,2,3,3],[0,0,0,0,1,0,0]),([2,2,2,3,3],[0,1,0,0,1,0,0]),([2,2,2,3,3],[0,0,0,0,1,0,0]),([2,2,2,3,3],[0,0,1,0,1,0,0]),([1,2,4,4,3],[0,0,0,0,1,0,0]),([2,2,3,3,2],[0,0,0,0,1,0,0]),([2,2,3,3,2],[0,0,0,0,1,0,0]),([2,2,3,3,2],[0,0,0,0,1,0,0]),([2,2,3,3,2],[0,0,1,0,1,0,0]),([2,2,3,3,2],[0,0,1,0,1,0,0]),([2,2,2,3,3],[0,0,0,1,0,0,1]),([2,2,2,3,3],[0,0,0,0,0,0,1]),([2,2,2,3,3],[0,0,0,0,0,0,0]),([2,2,3,3,2],[0,0,0,0,0,1,0]),([2,2,3,3,2],[0,0,1,0,0,1,0]),([2,2,2,3,3],[0,1,0,0,0,0,0]),([2,2,3,3,2],[0,0,0,0,0,0,0]),([2,3,3,2,2],[0,0,0,1,0,0,0]),([2,3,3,2,2],[0,0,0,0,0,0,0]),([2,2,3,3,2],[0,0,1,0,0,0,0]),([2,2,3,3,2],[0,0,1,0,0,0,0]),([2,3,3,2,2],[0,0,1,0,0,0,0]),([1,3,4,4,2],[0,0,0,0,0,0,0]),([1,4,4,3,2],[0,0,0,0,0,0,0]),([3,3,3,3,1],[0,0,0,0,1,0,0]),([3,3,3,3,1],[0,0,1,0,1,0,0]),([2,3,4,4,1],[0,0,0,0,1,0,0]),([2,3,4,4,1],[0,0,1,0,1,0,0]),([2,3,4,4,1],[0,0,1,0,1,0,0]),([3,3,3,3,1],[0,0,0,0,0,0,0]),([3,3,3,3,1],[0,0,1,0,0,0,0]),([2,3,4,4,1],[0,0,0,0,0,0,0]),([2,4,4,3,1],[0,0,0,0,0,0,0]),([2,3,4,4,1],[0,0,1,0,0,0,0]),([2,3,4,4,1],[0,0,1,0,0,0,0]),([2,4,4,3,1],[0,0,1,0,0,0,0]),([2,3,4,4,1],[0,0,1,0,0,0,0]),([2,4,4,3,1],[0,0,1,0,0,0,0])] = true := by decide +kernel
theorem a641 : chkA 6 4 1 (TT 6) [([1,3,3,3,3],[0,0,0,1,1,0,0]),([1,3,3,3,3],[0,0,0,0,1,0,0]),([1,2,3,4,4],[0,0,0,0,1,0,0]),([1,3,3,3,3],[0,0,0,0,1,0,0]),([1,3,3,3,3],[0,0,1,0,1,0,0]),([1,3,3,3,3],[0,0,0,1,0,0,0]),([1,3,3,3,3],[0,0,0,0,0,0,0]),([1,3,3,3,3],[0,0,1,0,0,0,0]),([1,2,4,4,3],[0,0,0,0,0,0,0]),([1,3,4,4,2],[0,0,0,0,1,0,0]),([1,3,4,4,2],[0,0,1,0,1,0,0]),([1,3,4,4,2],[0,0,0,0,0,0,0]),([1,3,4,4,2],[0,0,1,0,0,0,0]),([1,3,4,4,2],[0,0,1,0,0,0,0]),([2,2,2,3,3],[0,0,0,1,0,1,0]),([2,2,2,3,3],[0,0,0,0,0,1,0]),([2,2,2,3,3],[0,0,0,0,0,0,0]),([2,2,3,3,2],[0,0,0,0,1,0,0]),([2,2,3,3,2],[0,0,1,0,1,0,0]),([2,2,2,3,3],[0,1,0,0,0,0,0]),([2,2,3,3,2],[0,0,0,0,0,0,0]),([2,2,2,3,3],[1,1,0,0,0,0,0]),([2,2,3,3,2],[1,0,0,0,0,0,0]),([2,2,3,3,2],[0,0,1,0,0,0,0]),([2,2,3,3,2],[0,0,1,0,0,0,0]),([2,2,3,3,2],[0,0,0,0,0,0,1]),([2,2,3,3,2],[0,0,0,0,0,0,1]),([2,2,3,3,2],[0,0,0,0,0,0,1]),([2,3,4,4,1],[0,0,0,0,1,0,0]),([2,3,4,4,1],[0,0,1,0,1,0,0]),([2,3,4,4,1],[0,0,0,0,0,0,0]),([2,3,4,4,1],[0,0,1,0,0,0,0]),([2,3,4,4,1],[0,0,1,0,0,0,0]),([3,3,3,3,1],[0,0,0,0,0,0,0]),([3,3,3,3,1],[0,0,1,0,0,0,0]),([2,3,4,4,1],[0,0,0,0,0,0,1]),([3,3,3,3,1],[0,0,0,0,0,0,1]),([2,3,4,4,1],[0,0,1,0,0,0,1]),([2,3,4,4,1],[0,0,1,0,0,0,1]),([2,3,4,4,1],[0,0,0,0,0,0,2]),([2,3,4,4,1],[0,0,0,0,0,0,2]),([2,3,4,4,1],[0,0,0,0,0,0,2])] = true := by decide +kernel
theorem a642 : chkA 6 4 2 (TT 6) [([1,2,3,4,4],[0,0,0,1,1,0]),([1,2,3,4,4],[0,0,0,0,1,0]),([1,2,3,4,4],[0,0,0,0,0,0]),([1,2,4,4,3],[0,0,0,0,0,0]),([1,2,4,4,3],[0,0,1,0,0,0]),([1,3,3,3,3],[0,0,0,1,0,0]),([1,3,3,3,3],[0,0,0,0,0,0]),([1,3,3,3,3],[0,0,1,0,0,0]),([1,3,3,3,3],[0,0,0,0,0,1]),([1,3,4,4,2],[0,0,0,0,0,0]),([1,3,4,4,2],[0,0,1,0,0,0]),([1,3,4,4,2],[0,0,0,0,0,1]),([1,3,4,4,2],[0,0,1,0,0,1]),([1,3,4,4,2],[0,0,0,0,0,2]),([2,2,2,3,3],[0,0,0,1,1,0]),([2,2,2,3,3],[0,0,0,0,1,0]),([2,2,2,3,3],[0,0,0,0,0,0]),([2,2,3,3,2],[0,0,0,0,0,0]),([2,2,3,3,2],[0,0,1,0,0,0]),([2,2,2,3,3],[0,0,0,0,0,1]),([2,2,3,3,2],[0,0,0,0,0,1]),([3,3,2,2,2],[0,0,0,1,0,0]),([3,3,2,2,2],[0,0,0,0,0,0]),([2,2,3,3,2],[0,0,1,0,0,1]),([2,2,3,3,2],[0,0,0,0,0,2]),([3,3,2,2,2],[0,0,1,0,0,0]),([3,3,2,2,2],[0,0,0,0,0,1]),([3,3,2,2,2],[0,0,0,0,0,1]),([2,3,4,4,1],[0,0,0,0,0,0]),([2,3,4,4,1],[0,0,1,0,0,0]),([2,3,4,4,1],[0,0,0,0,0,1]),([2,3,4,4,1],[0,0,1,0,0,1]),([2,3,4,4,1],[0,0,0,0,0,2]),([3,3,3,3,1],[0,0,0,0,0,0]),([3,3,3,3,1],[0,0,1,0,0,0]),([3,3,3,3,1],[0,0,0,0,0,1]),([3,3,3,3,1],[0,0,0,0,0,1]),([3,3,3,3,1],[0,0,1,0,0,1]),([3,3,3,3,1],[0,0,0,0,0,2]),([3,3,3,3,1],[0,0,1,0,0,1]),([3,3,3,3,1],[0,0,0,0,0,2]),([3,3,3,3,1],[0,0,0,0,0,2])] = true := by decide +kernel
theorem a643 : chkA 6 4 3 (TT 6) [([1,2,3,4,4],[0,0,0,1,0]),([1,2,3,4,4],[0,0,0,0,0]),([1,2,3,4,4],[0,0,0,0,1]),([1,2,4,4,3],[0,0,0,0,0]),([1,2,4,4,3],[0,0,1,0,0]),([1,3,3,3,3],[0,0,0,1,0]),([1,3,3,3,3],[0,0,0,0,0]),([1,3,3,3,3],[0,0,1,0,0]),([1,3,3,3,3],[0,0,0,0,1]),([1,3,4,4,2],[0,0,0,0,0]),([1,3,4,4,2],[0,0,1,0,0]),([1,4,4,3,2],[0,0,0,0,0]),([1,4,4,3,2],[0,0,1,0,0]),([1,4,4,3,2],[0,0,1,0,0]),([2,2,2,3,3],[0,0,0,1,0]),([2,2,2,3,3],[0,0,0,0,0]),([2,2,2,3,3],[0,0,0,0,1]),([2,2,3,3,2],[0,0,0,0,0]),([2,2,3,3,2],[0,0,1,0,0]),([2,3,3,2,2],[0,0,0,1,0]),([2,3,3,2,2],[0,0,0,0,0]),([3,3,2,2,2],[0,0,0,1,0]),([3,3,2,2,2],[0,0,0,0,0]),([2,3,3,2,2],[0,0,1,0,0]),([2,3,3,2,2],[0,0,1,0,0]),([3,3,2,2,2],[0,0,1,0,0]),([2,3,3,2,2],[0,0,0,0,1]),([3,3,2,2,2],[0,0,0,0,1]),([2,3,4,4,1],[0,0,0,0,0]),([2,3,4,4,1],[0,0,1,0,0]),([2,4,4,3,1],[0,0,0,0,0]),([2,4,4,3,1],[0,0,1,0,0]),([2,4,4,3,1],[0,0,1,0,0]),([3,3,3,3,1],[0,0,0,0,0]),([3,3,3,3,1],[0,0,1,0,0]),([3,4,4,2,1],[0,0,0,0,0]),([4,4,3,2,1],[0,0,0,0,0]),([3,4,4,2,1],[0,0,1,0,0]),([3,4,4,2,1],[0,0,1,0,0]),([4,4,3,2,1],[0,0,1,0,0]),([3,4,4,2,1],[0,0,1,0,0]),([4,4,3,2,1],[0,0,1,0,0])] = true := by decide +kernel
theorem a650 : chkA 6 5 0 (TT 6) [([2,2,2,3,3],[0,0,0,0,1,0,0,0]),([2,2,2,3,3],[0,0,0,0,1,0,0,0]),([2,2,2,3,3],[0,0,0,0,1,0,0,0]),([2,2,2,3,3],[0,0,0,1,1,0,0,0]),([2,2,2,3,3],[0,0,0,1,1,0,0,0]),([2,2,2,3,3],[0,0,0,0,1,0,0,0]),([2,2,2,3,3],[0,0,0,1,1,0,0,0]),([1,2,3,4,4],[0,0,0,0,1,0,0,0]),([1,2,4,4,3],[0,0,0,0,1,0,0,0]),([1,2,3,4,4],[0,0,0,1,1,0,0,0]),([1,2,3,4,4],[0,0,0,1,1,0,0,0]),([1,2,4,4,3],[0,0,0,1,1,0,0,0]),([1,2,3,4,4],[0,0,0,1,1,0,0,0]),([1,2,4,4,3],[0,0,0,1,1,0,0,0]),([2,2,2,3,3],[0,0,0,0,0,0,1,0]),([2,2,2,3,3],[0,0,0,1,0,0,1,0]),([2,2,2,3,3],[0,0,0,0,0,0,0,0]),([2,2,2,3,3],[0,0,0,1,0,0,0,0]),([2,2,2,3,3],[0,0,0,1,0,0,0,0]),([2,2,3,3,2],[0,0,0,0,0,0,0,0]),([2,2,3,3,2],[0,0,0,1,0,0,0,0]),([2,3,3,2,2],[0,0,0,0,0,0,0,0]),([2,3,3,2,2],[0,0,0,1,0,0,0,0]),([1,2,3,4,4],[0,0,0,0,0,0,0,0]),([1,2,4,4,3],[0,0,0,0,0,0,0,0]),([1,3,3,3,3],[0,0,0,0,0,0,0,0]),([1,3,4,4,2],[0,0,0,0,0,0,0,0]),([1,4,4,3,2],[0,0,0,0,0,0,0,0]),([1,2,3,4,4],[0,0,0,1,0,0,0,0]),([1,2,3,4,4],[0,0,0,1,0,0,0,0]),([1,2,4,4,3],[0,0,0,1,0,0,0,0]),([1,2,3,4,4],[0,0,0,1,0,0,0,0]),([1,2,4,4,3],[0,0,0,1,0,0,0,0]),([1,3,3,3,3],[0,0,0,1,0,0,0,0]),([1,3,3,3,3],[0,0,0,1,0,0,0,0]),([1,3,4,4,2],[0,0,0,1,0,0,0,0]),([1,4,4,3,2],[0,0,0,1,0,0,0,0]),([1,2,3,4,4],[0,0,0,1,0,0,0,0]),([1,2,4,4,3],[0,0,0,1,0,0,0,0]),([1,2,4,4,3],[0,0,0,1,0,0,0,0]),([1,3,4,4,2],[0,0,0,1,0,0,0,0]),([1,3,4,4,2],[0,0,0,1,0,0,0,0])] = true := by decide +kernel
theorem a651 : chkA 6 5 1 (TT 6) [([1,3,3,3,3],[0,0,0,0,1,0,0,0]),([1,3,3,3,3],[0,0,0,1,1,0,0,0]),([1,2,3,4,4],[0,0,0,0,1,0,0,0]),([1,2,3,4,4],[0,0,0,1,1,0,0,0]),([1,2,3,4,4],[0,0,0,1,1,0,0,0]),([1,3,3,3,3],[0,0,0,0,0,0,0,0]),([1,3,3,3,3],[0,0,0,1,0,0,0,0]),([1,2,3,4,4],[0,0,0,0,0,0,0,0]),([1,2,4,4,3],[0,0,0,0,0,0,0,0]),([1,2,3,4,4],[0,0,0,1,0,0,0,0]),([1,2,3,4,4],[0,0,0,1,0,0,0,0]),([1,2,4,4,3],[0,0,0,1,0,0,0,0]),([1,2,3,4,4],[0,0,0,1,0,0,0,0]),([1,2,4,4,3],[0,0,0,1,0,0,0,0]),([2,2,2,3,3],[0,0,0,0,0,1,0,0]),([2,2,2,3,3],[0,0,0,1,0,1,0,0]),([2,2,2,3,3],[0,0,0,0,0,0,0,0]),([2,2,2,3,3],[0,0,0,1,0,0,0,0]),([2,2,2,3,3],[0,0,0,1,0,0,0,0]),([2,2,3,3,2],[0,0,0,0,0,0,0,0]),([2,2,3,3,2],[0,0,0,1,0,0,0,0]),([2,2,3,3,2],[1,0,0,0,0,0,0,0]),([2,2,3,3,2],[1,0,0,1,0,0,0,0]),([1,2,3,4,4],[0,0,0,0,0,0,0,1]),([1,2,4,4,3],[0,0,0,0,0,0,0,1]),([2,2,2,3,3],[0,0,0,0,0,0,0,1]),([2,2,3,3,2],[0,0,0,0,0,0,0,1]),([2,2,3,3,2],[0,0,0,0,0,0,0,1]),([1,2,3,4,4],[0,0,0,1,0,0,0,1]),([1,2,3,4,4],[0,0,0,1,0,0,0,1]),([1,2,4,4,3],[0,0,0,1,0,0,0,1]),([1,2,3,4,4],[0,0,0,1,0,0,0,1]),([1,2,4,4,3],[0,0,0,1,0,0,0,1]),([2,2,2,3,3],[0,0,0,1,0,0,0,1]),([1,2,3,4,4],[0,0,0,0,0,0,0,2]),([1,2,4,4,3],[0,0,0,0,0,0,0,2]),([2,2,2,3,3],[0,0,0,0,0,0,0,2]),([1,2,3,4,4],[0,0,0,1,0,0,0,1]),([1,2,3,4,4],[0,0,0,0,0,0,0,2]),([1,2,3,4,4],[0,0,0,0,0,0,0,2]),([1,2,4,4,3],[0,0,0,0,0,0,0,2]),([1,2,4,4,3],[0,0,0,0,0,0,0,2])] = true := by decide +kernel
theorem a652 : chkA 6 5 2 (TT 6) [([1,2,3,4,4],[0,0,0,0,1,0,0]),([1,2,3,4,4],[0,0,0,1,1,0,0]),([1,2,3,4,4],[0,0,0,0,0,0,0]),([1,2,3,4,4],[0,0,0,1,0,0,0]),([1,2,3,4,4],[0,0,0,1,0,0,0]),([1,3,3,3,3],[0,0,0,0,0,0,0]),([1,3,3,3,3],[0,0,0,1,0,0,0]),([1,2,3,4,4],[0,0,0,0,0,0,1]),([1,3,3,3,3],[0,0,0,0,0,0,1]),([1,2,3,4,4],[0,0,0,1,0,0,1]),([1,2,3,4,4],[0,0,0,1,0,0,1]),([1,2,3,4,4],[0,0,0,0,0,0,2]),([1,2,3,4,4],[0,0,0,0,0,0,2]),([1,2,3,4,4],[0,0,0,0,0,0,2]),([2,2,2,3,3],[0,0,0,0,1,0,0]),([2,2,2,3,3],[0,0,0,1,1,0,0]),([2,2,2,3,3],[0,0,0,0,0,0,0]),([2,2,2,3,3],[0,0,0,1,0,0,0]),([2,2,2,3,3],[0,0,0,1,0,0,0]),([2,2,2,3,3],[0,1,0,0,0,0,0]),([2,2,2,3,3],[0,0,0,0,0,0,1]),([3,3,2,2,2],[0,0,0,0,0,0,0]),([3,3,2,2,2],[0,0,0,1,0,0,0]),([2,2,2,3,3],[0,0,0,0,0,0,1]),([2,2,2,3,3],[0,0,0,0,0,0,1]),([2,2,2,3,3],[0,0,0,0,0,0,1]),([3,3,2,2,2],[0,0,0,0,0,0,1]),([3,3,2,2,2],[0,0,0,0,0,0,1]),([2,2,2,3,3],[0,0,0,1,0,0,1]),([2,2,2,3,3],[0,0,0,1,0,0,1]),([2,2,2,3,3],[0,0,0,0,0,0,2]),([2,2,2,3,3],[0,0,0,0,0,0,2]),([2,2,2,3,3],[0,0,0,0,0,0,2]),([2,2,2,3,3],[0,0,0,1,0,0,1]),([2,2,2,3,3],[0,0,0,1,0,0,1]),([2,2,2,3,3],[0,0,0,0,0,0,2]),([2,2,2,3,3],[0,0,0,0,0,0,2]),([2,2,2,3,3],[0,0,0,0,0,0,2]),([2,2,2,3,3],[0,0,0,0,0,0,2]),([2,2,2,3,3],[0,0,0,0,0,0,2]),([2,2,2,3,3],[0,0,0,0,0,0,2]),([2,2,2,3,3],[0,0,0,0,0,0,2])] = true := by decide +kernel
theorem a653 : chkA 6 5 3 (TT 6) [([1,2,3,4,4],[0,0,0,0,0,0]),([1,2,3,4,4],[0,0,0,1,0,0]),([1,2,3,4,4],[0,0,0,0,0,1]),([1,2,3,4,4],[0,0,0,1,0,1]),([1,2,3,4,4],[0,0,0,0,0,2]),([1,3,3,3,3],[0,0,0,0,0,0]),([1,3,3,3,3],[0,0,0,1,0,0]),([1,3,3,3,3],[0,0,0,0,0,1]),([1,3,3,3,3],[0,0,0,0,0,1]),([1,3,3,3,3],[0,0,0,1,0,1]),([1,3,3,3,3],[0,0,0,0,0,2]),([1,3,3,3,3],[0,0,0,1,0,1]),([1,3,3,3,3],[0,0,0,0,0,2]),([1,3,3,3,3],[0,0,0,0,0,2]),([2,2,2,3,3],[0,0,0,0,0,0]),([2,2,2,3,3],[0,0,0,1,0,0]),([2,2,2,3,3],[0,0,0,0,0,1]),([2,2,2,3,3],[0,0,0,1,0,1]),([2,2,2,3,3],[0,0,0,0,0,2]),([2,3,3,2,2],[0,0,0,0,0,0]),([2,3,3,2,2],[0,0,0,1,0,0]),([3,3,2,2,2],[0,0,0,0,0,0]),([3,3,2,2,2],[0,0,0,1,0,0]),([2,3,3,2,2],[0,0,0,0,0,1]),([2,3,3,2,2],[0,0,0,0,0,1]),([3,3,2,2,2],[0,0,0,0,0,1]),([2,3,3,2,2],[0,0,0,0,0,1]),([3,3,2,2,2],[0,0,0,0,0,1]),([2,3,3,2,2],[0,0,0,1,0,1]),([2,3,3,2,2],[0,0,0,0,0,2]),([2,3,3,2,2],[0,0,0,1,0,1]),([2,3,3,2,2],[0,0,0,0,0,2]),([2,3,3,2,2],[0,0,0,0,0,2]),([2,3,3,2,2],[0,0,0,2,0,0]),([2,3,3,2,2],[0,0,0,1,0,1]),([2,3,3,2,2],[0,0,0,1,0,1]),([3,3,2,2,2],[0,0,0,1,0,1]),([2,3,3,2,2],[0,0,0,1,0,1]),([2,3,3,2,2],[0,0,0,1,0,1]),([2,3,3,2,2],[0,0,0,1,0,1]),([2,3,3,2,2],[0,0,0,1,0,1]),([2,3,3,2,2],[0,0,0,1,0,1])] = true := by decide +kernel
theorem a654 : chkA 6 5 4 (TT 6) [([1,2,3,4,4],[0,0,0,0,0]),([1,2,3,4,4],[0,0,0,1,0]),([1,2,4,4,3],[0,0,0,0,0]),([1,2,4,4,3],[0,0,0,1,0]),([1,2,4,4,3],[0,0,0,1,0]),([1,3,3,3,3],[0,0,0,0,0]),([1,3,3,3,3],[0,0,0,1,0]),([1,3,4,4,2],[0,0,0,0,0]),([1,4,4,3,2],[0,0,0,0,0]),([1,3,4,4,2],[0,0,0,1,0]),([1,3,4,4,2],[0,0,0,1,0]),([1,4,4,3,2],[0,0,0,1,0]),([1,3,4,4,2],[0,0,0,1,0]),([1,4,4,3,2],[0,0,0,1,0]),([2,2,2,3,3],[0,0,0,0,0]),([2,2,2,3,3],[0,0,0,1,0]),([2,2,3,3,2],[0,0,0,0,0]),([2,2,3,3,2],[0,0,0,1,0]),([2,2,3,3,2],[0,0,0,1,0]),([2,3,3,2,2],[0,0,0,0,0]),([2,3,3,2,2],[0,0,0,1,0]),([3,3,2,2,2],[0,0,0,0,0]),([3,3,2,2,2],[0,0,0,1,0]),([2,3,4,4,1],[0,0,0,0,0]),([2,4,4,3,1],[0,0,0,0,0]),([3,3,3,3,1],[0,0,0,0,0]),([3,4,4,2,1],[0,0,0,0,0]),([4,4,3,2,1],[0,0,0,0,0]),([2,3,4,4,1],[0,0,0,1,0]),([2,3,4,4,1],[0,0,0,1,0]),([2,4,4,3,1],[0,0,0,1,0]),([2,3,4,4,1],[0,0,0,1,0]),([2,4,4,3,1],[0,0,0,1,0]),([3,3,3,3,1],[0,0,0,1,0]),([3,3,3,3,1],[0,0,0,1,0]),([3,4,4,2,1],[0,0,0,1,0]),([4,4,3,2,1],[0,0,0,1,0]),([2,3,4,4,1],[0,0,0,1,0]),([2,4,4,3,1],[0,0,0,1,0]),([2,4,4,3,1],[0,0,0,1,0]),([3,4,4,2,1],[0,0,0,1,0]),([3,4,4,2,1],[0,0,0,1,0])] = true := by decide +kernel
theorem all_A (n k p : Nat) (h2 : 2 ≤ n) (h7 : n < 7) (h1 : 1 ≤ k) (hk : k < n) (hp : p < k) : ∃ cs, chkA n k p (TT n) cs = true := by
  rcases (show n = 2 ∨ n = 3 ∨ n = 4 ∨ n = 5 ∨ n = 6 by lia) with rfl | rfl | rfl | rfl | rfl
  · obtain rfl : k = 1 := by lia
    obtain rfl : p = 0 := by lia
    exact ⟨_, a210⟩
  · rcases (show k = 1 ∨ k = 2 by lia) with rfl | rfl
    · obtain rfl : p = 0 := by lia
      exact ⟨_, a310⟩
    · rcases (show p = 0 ∨ p = 1 by lia) with rfl | rfl
      · exact ⟨_, a320⟩
      · exact ⟨_, a321⟩
  · rcases (show k = 1 ∨ k = 2 ∨ k = 3 by lia) with rfl | rfl | rfl
    · obtain rfl : p = 0 := by lia
      exact ⟨_, a410⟩
    · rcases (show p = 0 ∨ p = 1 by lia) with rfl | rfl
      · exact ⟨_, a420⟩
      · exact ⟨_, a421⟩
    · rcases (show p = 0 ∨ p = 1 ∨ p = 2 by lia) with rfl | rfl | rfl
      · exact ⟨_, a430⟩
      · exact ⟨_, a431⟩
      · exact ⟨_, a432⟩
  · rcases (show k = 1 ∨ k = 2 ∨ k = 3 ∨ k = 4 by lia) with rfl | rfl | rfl | rfl
    · obtain rfl : p = 0 := by lia
      exact ⟨_, a510⟩
    · rcases (show p = 0 ∨ p = 1 by lia) with rfl | rfl
      · exact ⟨_, a520⟩
      · exact ⟨_, a521⟩
    · rcases (show p = 0 ∨ p = 1 ∨ p = 2 by lia) with rfl | rfl | rfl
      · exact ⟨_, a530⟩
      · exact ⟨_, a531⟩
      · exact ⟨_, a532⟩
    · rcases (show p = 0 ∨ p = 1 ∨ p = 2 ∨ p = 3 by lia) with rfl | rfl | rfl | rfl
      · exact ⟨_, a540⟩
      · exact ⟨_, a541⟩
      · exact ⟨_, a542⟩
      · exact ⟨_, a543⟩
  · rcases (show k = 1 ∨ k = 2 ∨ k = 3 ∨ k = 4 ∨ k = 5 by lia) with rfl | rfl | rfl | rfl | rfl
    · obtain rfl : p = 0 := by lia
      exact ⟨_, a610⟩
    · rcases (show p = 0 ∨ p = 1 by lia) with rfl | rfl
      · exact ⟨_, a620⟩
      · exact ⟨_, a621⟩
    · rcases (show p = 0 ∨ p = 1 ∨ p = 2 by lia) with rfl | rfl | rfl
      · exact ⟨_, a630⟩
      · exact ⟨_, a631⟩
      · exact ⟨_, a632⟩
    · rcases (show p = 0 ∨ p = 1 ∨ p = 2 ∨ p = 3 by lia) with rfl | rfl | rfl | rfl
      · exact ⟨_, a640⟩
      · exact ⟨_, a641⟩
      · exact ⟨_, a642⟩
      · exact ⟨_, a643⟩
    · rcases (show p = 0 ∨ p = 1 ∨ p = 2 ∨ p = 3 ∨ p = 4 by lia) with rfl | rfl | rfl | rfl | rfl
      · exact ⟨_, a650⟩
      · exact ⟨_, a651⟩
      · exact ⟨_, a652⟩
      · exact ⟨_, a653⟩
      · exact ⟨_, a654⟩
theorem step_A (w : List Nat) (h2 : 2 ≤ w.length) (h7 : w.length < 7) (k p : Nat) (hs : StepOk w k p) (t : List Nat) (ht : t ∈ TT w.length) :
    ∃ t', t' ∈ TT (w.length - 1) ∧ dn t' (nxt w (w.getD (k - 1) 0 + w.getD k 0) k p) + (w.getD (k - 1) 0 + w.getD k 0) ≤ dn t w := by
  obtain ⟨cs, hc⟩ := all_A w.length k p h2 h7 hs.1 hs.2.1 hs.2.2.1
  obtain ⟨c, h1, h3⟩ := chkA_get _ _ _ _ _ hc t ht
  exact ⟨c.1, h3, okA_le w _ (units_eq w h2 h7) k p t c hs h1⟩
end Mine
end
section
set_option maxRecDepth 100000
namespace Mine
inductive Tr
  | no (ms : List Nat)
  | ok
  | br (ts : List Tr)
noncomputable abbrev SRow := List (Vec × List Nat)
noncomputable def noB (ms : List Nat) (cs : List Cn) : Bool :=
  vle (sumHi ms cs) (sumLo ms cs) && Nat.ble (dn (sumHi ms cs) [1,1,1,1,1,1] + 1) (sumS ms cs + dn (sumLo ms cs) [1,1,1,1,1,1])
noncomputable def kids {α : Type} (f : α → Nat → Nat → Bool) : List α → List (Nat × Nat) → Bool
  | _, [] => true
  | [], _ :: _ => false
  | t :: ts, q :: qs => f t q.1 q.2 && kids f ts qs
noncomputable def pairs (n : Nat) : List (Nat × Nat) := (List.range (n - 1)).flatMap fun k => (List.range (k + 1)).map fun p => (k + 1, p)
noncomputable def inside (r : SRow) (k : Nat) : List Nat := (r.getD (k - 1) ([], [])).2 ++ (r.getD k ([], [])).2
noncomputable def both (r : SRow) (k : Nat) : Vec := vadd (r.getD (k - 1) ([], [])).1 (r.getD k ([], [])).1
noncomputable def chkB : Nat → Tr → SRow → List Nat → List Cn → Bool
  | _, .no ms, _, _, cs => noB ms cs
  | _, .ok, r, lev, _ => Nat.beq r.length 1 && (TT 6).contains lev
  | 0, .br _, _, _, _ => false
  | n + 1, .br ts, r, lev, cs => Nat.ble 2 r.length && kids (fun t k p => chkB n t (nxt r (both r k, inside r k) k p) (incs lev (inside r k)) (consOf (r.map (·.1)) k p ++ cs)) ts (pairs r.length)
theorem noB_false (w : List Nat) (h6 : w.length = 6) (hp : ∀ x ∈ w, 0 < x) (ms : List Nat) (cs : List Cn) (h : noB ms cs = true) (hc : ∀ c ∈ cs, Hold w c) : False := by
  have ho : ones w = [1,1,1,1,1,1] := by
    obtain ⟨a, b, c, d, e, f, hw⟩ := six_of w h6
    rw [hw]; rfl
  unfold noB at h
  rw [Bool.and_eq_true] at h
  have h1 := vle_gap _ _ w hp h.1
  have h2 := Nat.le_of_ble_eq_true h.2
  have h3 := sum_hold w ms cs hc
  rw [ho] at h1
  lia
theorem kids_get {α : Type} (f : α → Nat → Nat → Bool) : ∀ (ts : List α) (qs : List (Nat × Nat)), kids f ts qs = true → ∀ q ∈ qs, ∃ t, f t q.1 q.2 = true
  | _, [], _, q, hq => nomatch hq
  | [], _ :: _, h, _, _ => nomatch h
  | t :: ts, q :: qs, h, r, hr => by
    have h' : (f t q.1 q.2 && kids f ts qs) = true := h
    rw [Bool.and_eq_true] at h'
    rcases List.mem_cons.mp hr with rfl | hr
    · exact ⟨t, h'.1⟩
    · exact kids_get f ts qs h'.2 r hr
theorem mem_pairs (n k p : Nat) (h1 : 1 ≤ k) (h2 : k < n) (h3 : p < k) : (k, p) ∈ pairs n := by
  refine List.mem_flatMap.mpr ⟨k - 1, List.mem_range.mpr (by lia), List.mem_map.mpr ⟨p, List.mem_range.mpr (by lia), ?_⟩⟩
  rw [Nat.sub_add_cancel h1]
/-- what a row of sums weighs -/
noncomputable def wrow (w : List Nat) (r : SRow) : GRow := r.map fun q => (dn q.1 w, q.2)
theorem wrow_fst (w : List Nat) (r : SRow) : (wrow w r).map (·.1) = (r.map (·.1)).map (dn · w) := by
  simp [wrow]
theorem wrow_getD (w : List Nat) (r : SRow) (i : Nat) : (wrow w r).getD i (0, []) = (dn (r.getD i ([], [])).1 w, (r.getD i ([], [])).2) := by
  rw [List.getD_eq_getElem?_getD, List.getD_eq_getElem?_getD, wrow, List.getElem?_map]
  cases r[i]? with
  | none => show (0, []) = (dn [] w, []); rw [dn_nil]
  | some v => rfl
theorem GR_one {r : GRow} {lev lev' : List Nat} (h : GR r lev lev') (h1 : r.length ≤ 1) : lev' = lev := by
  cases h with
  | done _ => rfl
  | step k p hs _ => have := hs.1; have := hs.2.1; simp at this; lia
theorem chkB_tt (w : List Nat) (h6 : w.length = 6) (hp : ∀ x ∈ w, 0 < x) : ∀ (n : Nat) (t : Tr) (r : SRow) (lev : List Nat) (cs : List Cn), chkB n t r lev cs = true → (∀ c ∈ cs, Hold w c) → ∀ lev', GR (wrow w r) lev lev' → lev' ∈ TT 6 := by
  have hok : ∀ (r : SRow) (lev : List Nat), (Nat.beq r.length 1 && (TT 6).contains lev) = true → ∀ lev', GR (wrow w r) lev lev' → lev' ∈ TT 6 := by
    intro r lev h lev' hg
    rw [Bool.and_eq_true] at h
    have h1 := Nat.eq_of_beq_eq_true h.1
    rw [GR_one hg (by simp [wrow, h1])]
    simpa using h.2
  intro n
  induction n with
  | zero =>
    intro t r lev cs h hc lev' hg
    cases t with
    | no ms => exact (noB_false w h6 hp ms cs h hc).elim
    | ok => exact hok r lev h lev' hg
    | br ts => exact Bool.noConfusion h
  | succ n ih =>
    intro t r lev cs h hc lev' hg
    cases t with
    | no ms => exact (noB_false w h6 hp ms cs h hc).elim
    | ok => exact hok r lev h lev' hg
    | br ts =>
      have h' : (Nat.ble 2 r.length && kids (fun t k p => chkB n t (nxt r (both r k, inside r k) k p) (incs lev (inside r k)) (consOf (r.map (·.1)) k p ++ cs)) ts (pairs r.length)) = true := h
      rw [Bool.and_eq_true] at h'
      have h2 := Nat.le_of_ble_eq_true h'.1
      generalize hr : wrow w r = gr at hg
      cases hg with
      | done hl => rw [← hr] at hl; simp [wrow] at hl; lia
      | step k p hs hg =>
        rw [← hr] at hs hg
        have hs1 := hs.1
        have hs2 : k < r.length := by simpa [wrow] using hs.2.1
        obtain ⟨t, ht⟩ := kids_get _ _ _ h'.2 (k, p) (mem_pairs _ _ _ hs1 hs2 hs.2.2.1)
        have e1 : ∀ i, ((wrow w r).getD i (0, [])).1 = dn (r.getD i ([], [])).1 w := fun i => by rw [wrow_getD]
        have e2 : ∀ i, ((wrow w r).getD i (0, [])).2 = (r.getD i ([], [])).2 := fun i => by rw [wrow_getD]
        rw [e1, e1, e2, e2, ← dn_vadd] at hg
        have e3 := nxt_map (fun q : Vec × List Nat => (dn q.1 w, q.2)) r (both r k, inside r k) k p
        have e4 : nxt (wrow w r) (dn (vadd (r.getD (k - 1) ([], [])).1 (r.getD k ([], [])).1) w, (r.getD (k - 1) ([], [])).2 ++ (r.getD k ([], [])).2) k p = wrow w (nxt r (both r k, inside r k) k p) := e3
        rw [e4] at hg
        refine ih t _ _ _ ht ?_ lev' hg
        intro c hcm
        rcases List.mem_append.mp hcm with hcm | hcm
        · exact cons_hold w _ k p (by rw [← wrow_fst]; exact hs) c hcm
        · exact hc c hcm
noncomputable def srow0 : SRow := [([1,0,0,0,0,0],[0]),([0,1,0,0,0,0],[1]),([0,0,1,0,0,0],[2]),([0,0,0,1,0,0],[3]),([0,0,0,0,1,0],[4]),([0,0,0,0,0,1],[5])]
theorem row0_eq (w : List Nat) (h6 : w.length = 6) : row0 w = wrow w srow0 := by
  obtain ⟨a, b, c, d, e, f, hw⟩ := six_of w h6
  rw [hw]; simp [row0, wrow, srow0, dn, List.zipIdx]
theorem chk_br (n : Nat) (ts : List Tr) (r : SRow) (lev : List Nat) (cs : List Cn) (h2 : Nat.ble 2 r.length = true)
    (h : kids (fun t k p => chkB n t (nxt r (both r k, inside r k) k p) (incs lev (inside r k)) (consOf (r.map (·.1)) k p ++ cs)) ts (pairs r.length) = true) : chkB (n + 1) (.br ts) r lev cs = true := by
  show (Nat.ble 2 r.length && _) = true
  rw [h2, h]; rfl
theorem kids_n {α : Type} (f : α → Nat → Nat → Bool) (ts : List α) : kids f ts [] = true := by cases ts <;> rfl
theorem kids_c {α : Type} {f : α → Nat → Nat → Bool} {t : α} {ts : List α} {q : Nat × Nat} {qs : List (Nat × Nat)} (h : f t q.1 q.2 = true) (h2 : kids f ts qs = true) : kids f (t :: ts) (q :: qs) = true := by
  show (f t q.1 q.2 && kids f ts qs) = true
  rw [h, h2]; rfl
theorem b_10 : ∃ t, chkB 4 t [([1,1,0,0,0,0],[0,1]),([0,0,1,0,0,0],[2]),([0,0,0,1,0,0],[3]),([0,0,0,0,1,0],[4]),([0,0,0,0,0,1],[5])] [1,1,0,0,0,0] [(0,[1,0,0,0,0,0],[0,0,1,0,0,0])] = true := ⟨.br [.br [.br [.br [.ok],.br [.ok],.br [.ok]],.br [.br [.ok],.br [.ok],.no [0,1,1,1]],.br [.br [.ok],.br [.ok],.br [.ok]],.br [.no [1,0,0,0,1],.br [.ok],.no [0,1,1,1]],.br [.no [1,0,0,1,1],.br [.ok],.br [.ok]],.br [.br [.ok],.br [.ok],.br [.ok]]],.br [.br [.br [.ok],.br [.ok],.br [.ok]],.br [.br [.ok],.br [.ok],.no [0,1,1,1]],.no [0,0,1,1,1],.br [.no [1,0,0,1,0,0,0,1],.br [.ok],.no [0,1,1,1]],.br [.no [1,0,0,0,0,0,0,1],.br [.ok],.no [0,1,0,0,0,0,1,1]],.br [.no [1,0,0,1,0,0,1],.br [.ok],.no [0,1,0,0,0,1,1]]],.br [.br [.br [.ok],.br [.ok],.br [.ok]],.br [.br [.ok],.br [.ok],.no [0,1,1,1]],.br [.br [.ok],.br [.ok],.br [.ok]],.br [.no [1,0,0,0,1],.br [.ok],.no [0,1,1,1]],.br [.no [1,0,0,1,1],.br [.ok],.br [.ok]],.br [.br [.ok],.br [.ok],.br [.ok]]],.br [.no [1,0,0,0,0,1],.br [.br [.ok],.br [.ok],.no [0,1,1,1]],.no [0,0,1,1,1],.br [.no [1,0,0,1,0,0,0,0,1],.br [.ok],.no [0,1,1,1]],.no [0,0,0,1,0,1,1],.no [0,0,1,0,1,1,1]],.br [.no [1,0,0,0,1,1],.br [.br [.ok],.br [.ok],.no [0,1,1,1]],.br [.br [.ok],.br [.ok],.br [.ok]],.br [.no [1,0,0,0,1],.br [.ok],.no [0,1,1,1]],.br [.no [1,0,0,1,1],.br [.ok],.br [.ok]],.no [0,0,1,0,1,1]],.br [.br [.br [.ok],.br [.ok],.br [.ok]],.br [.br [.ok],.br [.ok],.no [0,1,1,1]],.br [.br [.ok],.br [.ok],.br [.ok]],.br [.no [1,0,0,0,1],.br [.ok],.no [0,1,1,1]],.br [.no [1,0,0,1,1],.br [.ok],.br [.ok]],.br [.br [.ok],.br [.ok],.br [.ok]]],.br [.no [1,0,0,0,0,1],.no [0,1,0,1],.no [0,0,1,1,1,1],.br [.no [1,0,0,0,0,0,1,1,1],.br [.ok],.no [0,1,1,1]],.no [0,0,0,1,0,1,1],.no [0,0,1,0,1,1,1]],.br [.no [1,0,0,0,1,0,1],.no [0,1,0,0,0,0,0,1],.no [0,1,0,0,0,0,0,1],.br [.no [1,0,0,0,0,0,1,1],.br [.ok],.no [0,1,0,0,0,0,1,0,0,1]],.br [.no [1,0,0,0,1,0,1,1],.br [.ok],.br [.ok]],.no [0,0,1,0,1,1]],.br [.br [.no [1,0,1],.no [0,1,0,1,0,0,0,1],.br [.ok]],.no [0,1,0,0,0,0,1,1],.no [0,1,0,0,0,0,1,1],.br [.no [1,0,0,0,1],.br [.ok],.no [0,1,1,1]],.br [.no [1,0,0,1,1],.br [.ok],.br [.ok]],.br [.br [.ok],.br [.ok],.br [.ok]]],.br [.no [1,1],.br [.no [1,0,0,0,0,1,1],.br [.ok],.no [0,1,1,1]],.br [.no [1,0,0,1,0,1,1],.br [.ok],.br [.ok]],.br [.no [1,0,0,0,1],.br [.ok],.no [0,1,1,1]],.br [.no [1,0,0,1,1],.br [.ok],.br [.ok]],.br [.br [.ok],.br [.ok],.br [.ok]]]], by decide +kernel⟩
theorem b_20 : ∃ t, chkB 4 t [([0,1,1,0,0,0],[1,2]),([1,0,0,0,0,0],[0]),([0,0,0,1,0,0],[3]),([0,0,0,0,1,0],[4]),([0,0,0,0,0,1],[5])] [0,1,1,0,0,0] [(1,[0,0,1,0,0,0],[1,0,0,0,0,0]),(0,[0,1,0,0,0,0],[0,0,0,1,0,0]),(1,[1,0,0,0,0,0],[0,1,1,0,0,0])] = true := ⟨.br [.br [.br [.br [.ok],.br [.ok],.br [.ok]],.br [.br [.ok],.br [.ok],.no [0,1,1,1]],.br [.br [.ok],.br [.ok],.no [0,1,0,1,0,2,0,0,1]],.br [.no [1,0,0,0,1],.br [.ok],.no [0,1,1,1]],.br [.no [1,0,0,1,1],.br [.ok],.no [0,1,0,0,1,0,2,0,0,1]],.br [.br [.ok],.br [.ok],.br [.ok]]],.br [.br [.br [.ok],.br [.ok],.br [.ok]],.br [.br [.ok],.br [.ok],.no [0,1,1,1]],.no [0,0,1,1,1],.br [.no [1,0,0,1,0,0,0,1],.br [.ok],.no [0,1,1,1]],.br [.no [1,0,0,0,0,0,0,1],.br [.ok],.no [0,1,0,0,1,0,1,0,0,0,0,1]],.br [.no [1,0,0,1,0,0,1],.br [.ok],.no [0,1,0,0,0,1,1]]],.no [0,0,1,1,1],.br [.no [1,0,0,0,1,0,0,0,1],.br [.br [.ok],.br [.ok],.no [0,1,0,1,0,0,0,0,1,0,0,0,1]],.no [0,0,1,1,1],.br [.no [1,0,0,1,0,0,0,0,1],.br [.ok],.no [0,1,0,1,0,0,0,0,0,1,0,0,0,1]],.no [0,0,0,1,0,1,1],.no [0,0,1,0,1,1,1]],.br [.no [1,0,0,0,0,0,0,0,1],.br [.br [.ok],.br [.ok],.no [0,1,1,1]],.no [0,0,1,0,0,0,0,0,1,1],.br [.no [1,0,0,0,1],.br [.ok],.no [0,1,1,1]],.no [0,0,0,1,0,0,1,0,0,1,1],.no [0,0,1,0,1,1]],.br [.no [1,0,0,0,1,0,0,1],.br [.br [.ok],.br [.ok],.no [0,1,1,1]],.no [0,0,1,0,0,0,0,1,1],.br [.no [1,0,0,1,0,0,0,0,0,0,0,1],.br [.ok],.no [0,1,1,1]],.br [.no [1,0,0,0,0,0,0,0,0,0,0,1],.br [.ok],.no [0,1,0,0,0,0,0,0,0,0,1,1]],.br [.no [1,0,0,1,0,0,0,0,0,0,1],.br [.ok],.no [0,1,0,0,0,0,0,0,0,1,1]]],.br [.no [1,0,0,0,1,0,0,0,0,1],.no [0,1,0,1],.no [0,0,1,1,1,1],.br [.no [1,0,0,0,0,0,1,1,1],.br [.ok],.no [0,1,0,1,0,0,0,0,0,1,0,0,0,0,1]],.no [0,0,0,1,0,1,1],.no [0,0,1,0,1,1,1]],.br [.no [1,0,0,0,0,0,0,0,0,1],.no [0,1,0,0,0,0,0,1],.no [0,1,0,0,0,0,0,1],.br [.no [1,0,0,0,0,0,1,1],.br [.ok],.no [0,1,1,1]],.no [0,0,0,1,0,0,0,0,0,0,1,1],.no [0,0,1,0,1,1]],.br [.no [1,0,0,0,0,1,0,0,1],.no [0,1,0,0,0,0,1,1],.no [0,0,1,0,0,0,1,0,1,1],.br [.no [1,0,0,1,0,0,0,0,0,0,0,0,1],.br [.ok],.no [0,1,1,1]],.br [.no [1,0,0,0,0,0,0,0,0,0,0,0,1],.br [.ok],.no [0,1,0,0,0,0,0,0,0,0,0,1,1]],.br [.no [1,0,0,1,0,0,0,0,0,0,0,1],.br [.ok],.no [0,1,0,0,0,0,0,0,0,0,1,1]]],.br [.no [1,1],.br [.no [1,0,0,0,0,1,0,1],.br [.ok],.no [0,1,1,1]],.no [0,0,1,0,0,0,0,1,1],.br [.no [1,0,0,1,0,0,0,0,0,0,0,1],.br [.ok],.no [0,1,1,1]],.br [.no [1,0,0,0,0,0,0,0,0,0,0,1],.br [.ok],.no [0,1,0,0,0,0,0,0,0,0,1,1]],.br [.no [1,0,0,1,0,0,0,0,0,0,1],.br [.ok],.no [0,1,0,0,0,0,0,0,0,1,1]]]], by decide +kernel⟩
theorem b_21 : ∃ t, chkB 4 t [([1,0,0,0,0,0],[0]),([0,1,1,0,0,0],[1,2]),([0,0,0,1,0,0],[3]),([0,0,0,0,1,0],[4]),([0,0,0,0,0,1],[5])] [0,1,1,0,0,0] [(1,[0,0,1,0,0,0],[1,0,0,0,0,0]),(0,[0,1,0,0,0,0],[0,0,0,1,0,0]),(0,[0,1,1,0,0,0],[1,0,0,0,0,0])] = true := ⟨.br [.br [.br [.br [.ok],.br [.ok],.br [.ok]],.br [.br [.ok],.br [.ok],.no [0,1,1,1]],.br [.br [.ok],.br [.ok],.no [0,1,0,1,0,2,0,0,1]],.br [.no [1,0,0,0,1],.br [.ok],.no [0,1,1,1]],.br [.no [1,0,0,1,1],.br [.ok],.no [0,1,0,0,1,0,2,0,0,1]],.br [.br [.ok],.br [.ok],.br [.ok]]],.br [.br [.br [.ok],.br [.ok],.br [.ok]],.br [.br [.ok],.br [.ok],.no [0,1,1,1]],.no [0,0,1,1,1],.br [.no [1,0,0,1,0,0,0,1],.br [.ok],.no [0,1,1,1]],.br [.no [1,0,0,0,0,0,0,1],.br [.ok],.no [0,1,0,0,0,0,1,1]],.br [.no [1,0,0,1,0,0,1],.br [.ok],.no [0,1,0,0,0,1,1]]],.br [.br [.br [.ok],.br [.ok],.br [.ok]],.br [.br [.ok],.br [.ok],.no [0,1,1,1]],.br [.br [.ok],.br [.ok],.br [.ok]],.br [.no [1,0,0,0,1],.br [.ok],.no [0,1,1,1]],.br [.no [1,0,0,1,1],.br [.ok],.br [.ok]],.br [.br [.ok],.br [.ok],.br [.ok]]],.br [.no [1,0,0,0,0,1],.br [.br [.ok],.br [.ok],.no [0,1,1,1]],.no [0,0,1,1,1],.br [.no [1,0,0,1,0,0,0,0,1],.br [.ok],.no [0,1,1,1]],.no [0,0,0,1,0,1,1],.no [0,0,1,0,1,1,1]],.br [.no [1,0,0,0,1,1],.br [.br [.ok],.br [.ok],.no [0,1,1,1]],.br [.br [.ok],.br [.ok],.br [.ok]],.br [.no [1,0,0,0,1],.br [.ok],.no [0,1,1,1]],.br [.no [1,0,0,1,1],.br [.ok],.br [.ok]],.no [0,0,1,0,1,1]],.br [.br [.br [.ok],.br [.ok],.br [.ok]],.br [.br [.ok],.br [.ok],.no [0,1,1,1]],.br [.br [.ok],.br [.ok],.br [.ok]],.br [.no [1,0,0,0,1],.br [.ok],.no [0,1,1,1]],.br [.no [1,0,0,1,1],.br [.ok],.br [.ok]],.br [.br [.ok],.br [.ok],.br [.ok]]],.br [.no [1,0,0,0,0,1],.no [0,1,0,1],.no [0,0,1,1,1,1],.br [.no [1,0,0,0,0,0,1,1,1],.br [.ok],.no [0,1,1,1]],.no [0,0,0,1,0,1,1],.no [0,0,1,0,1,1,1]],.br [.no [1,0,0,0,1,0,1],.no [0,1,0,0,0,0,0,1],.no [0,1,0,0,0,0,0,1],.br [.no [1,0,0,0,0,0,1,1],.br [.ok],.no [0,1,1,1]],.br [.no [1,0,0,0,1,0,1,1],.br [.ok],.br [.ok]],.no [0,0,1,0,1,1]],.br [.br [.no [1,0,1],.no [0,1,0,1,0,0,0,1],.br [.ok]],.no [0,1,0,0,0,0,1,1],.no [0,1,0,0,0,0,1,1],.br [.no [1,0,0,0,1],.br [.ok],.no [0,1,1,1]],.br [.no [1,0,0,1,1],.br [.ok],.br [.ok]],.br [.br [.ok],.br [.ok],.br [.ok]]],.br [.no [1,1],.br [.no [1,0,0,0,0,0,0,1],.br [.ok],.no [0,1,1,1]],.br [.no [1,0,0,1,0,0,0,1],.br [.ok],.br [.ok]],.br [.no [1,0,0,0,1],.br [.ok],.no [0,1,1,1]],.br [.no [1,0,0,1,1],.br [.ok],.br [.ok]],.br [.br [.ok],.br [.ok],.br [.ok]]]], by decide +kernel⟩
theorem b_30 : ∃ t, chkB 4 t [([0,0,1,1,0,0],[2,3]),([1,0,0,0,0,0],[0]),([0,1,0,0,0,0],[1]),([0,0,0,0,1,0],[4]),([0,0,0,0,0,1],[5])] [0,0,1,1,0,0] [(1,[0,0,1,0,0,0],[1,0,0,0,0,0]),(1,[0,0,0,1,0,0],[0,1,0,0,0,0]),(0,[0,0,1,0,0,0],[0,0,0,0,1,0]),(1,[1,0,0,0,0,0],[0,0,1,1,0,0]),(1,[0,1,0,0,0,0],[0,0,1,1,0,0])] = true := ⟨.br [.no [1,0,0,0,0,1],.br [.br [.br [.ok],.br [.ok],.br [.ok]],.br [.br [.ok],.br [.ok],.no [0,1,1,1]],.no [0,0,1,1,1],.br [.no [1,0,0,1,0,0,0,0,1,1],.br [.ok],.no [0,1,1,1]],.br [.no [1,0,0,0,0,0,0,0,1,1],.br [.ok],.no [0,1,0,0,1,0,1,0,0,0,0,0,1]],.br [.no [1,0,0,1,0,0,0,1,1],.br [.ok],.no [0,1,0,0,0,1,1]]],.no [0,0,1,1,1],.br [.no [1,0,0,0,1,0,0,0,0,1],.br [.br [.ok],.br [.ok],.no [0,1,0,1,0,0,0,0,1,0,0,0,0,1]],.no [0,0,1,1,1],.br [.no [1,0,0,1,0,0,0,0,1],.br [.ok],.no [0,1,0,1,0,0,0,0,0,1,0,0,0,0,1]],.no [0,0,0,1,0,1,1],.no [0,0,1,0,0,1,0,0,1,1]],.no [0,0,0,0,1,0,1,1],.no [0,0,0,1,0,1,1,1],.br [.no [1,0,0,0,1,0,0,0,0,0,1],.no [0,1,0,1],.no [0,0,1,1,1,1],.br [.no [1,0,0,0,0,0,1,1,1],.br [.ok],.no [0,1,0,1,0,0,0,0,0,1,0,0,0,0,0,1]],.no [0,0,0,1,0,1,1],.no [0,0,1,0,1,1,1]],.br [.no [1,0,0,0,0,0,0,0,0,0,1],.no [0,1,0,0,0,0,0,1],.no [0,0,1,0,0,0,0,1,0,1,1],.br [.no [1,0,0,0,0,0,1,1],.br [.ok],.no [0,1,1,1]],.no [0,0,0,1,0,0,0,0,0,0,1,1],.no [0,0,1,0,1,1]],.br [.no [1,0,0,0,0,1,0,0,0,1],.no [0,1,0,0,0,0,1,1],.no [0,0,1,0,0,0,1,0,1,1],.br [.no [1,0,0,0,0,0,0,0,0,0,0,1,1,1],.br [.ok],.no [0,1,1,1]],.no [0,0,0,1,0,0,0,0,0,0,1,1],.no [0,0,1,0,0,0,0,0,0,1,1,1]],.br [.no [1,1],.br [.no [1,0,0,0,0,0,0,1,1],.br [.ok],.no [0,1,1,1]],.no [0,0,1,0,0,0,0,1,1],.br [.no [1,0,0,0,0,0,0,0,0,0,1,1,1],.br [.ok],.no [0,1,1,1]],.no [0,0,0,1,0,0,0,0,0,1,1],.no [0,0,1,0,0,0,0,0,1,1,1]]], by decide +kernel⟩
theorem b_31 : ∃ t, chkB 4 t [([1,0,0,0,0,0],[0]),([0,0,1,1,0,0],[2,3]),([0,1,0,0,0,0],[1]),([0,0,0,0,1,0],[4]),([0,0,0,0,0,1],[5])] [0,0,1,1,0,0] [(1,[0,0,1,0,0,0],[1,0,0,0,0,0]),(1,[0,0,0,1,0,0],[0,1,0,0,0,0]),(0,[0,0,1,0,0,0],[0,0,0,0,1,0]),(1,[0,1,0,0,0,0],[0,0,1,1,0,0]),(0,[0,0,1,1,0,0],[1,0,0,0,0,0])] = true := ⟨.br [.no [1,0,0,0,1,1],.br [.br [.br [.ok],.br [.ok],.br [.ok]],.br [.br [.ok],.br [.ok],.no [0,1,1,1]],.no [0,0,1,1,1],.br [.no [1,0,0,1,0,0,0,1],.br [.ok],.no [0,1,1,1]],.br [.no [1,0,0,0,0,0,0,1],.br [.ok],.no [0,1,0,0,0,0,1,1]],.br [.no [1,0,0,1,0,0,1],.br [.ok],.no [0,1,0,0,0,1,1]]],.br [.br [.br [.ok],.br [.ok],.br [.ok]],.br [.br [.ok],.br [.ok],.no [0,1,1,1]],.br [.br [.ok],.br [.ok],.br [.ok]],.br [.no [1,0,0,0,1],.br [.ok],.no [0,1,1,1]],.br [.no [1,0,0,1,1],.br [.ok],.br [.ok]],.br [.br [.ok],.br [.ok],.br [.ok]]],.br [.no [1,0,0,0,0,1],.br [.br [.ok],.br [.ok],.no [0,1,1,1]],.no [0,0,1,1,1],.br [.no [1,0,0,1,0,0,0,0,1],.br [.ok],.no [0,1,1,1]],.no [0,0,0,1,0,1,1],.no [0,0,1,0,1,1,1]],.br [.no [1,0,0,0,1,1],.br [.br [.ok],.br [.ok],.no [0,1,1,1]],.br [.br [.ok],.br [.ok],.br [.ok]],.br [.no [1,0,0,0,1],.br [.ok],.no [0,1,1,1]],.br [.no [1,0,0,1,1],.br [.ok],.br [.ok]],.no [0,0,1,0,1,1]],.no [0,0,0,1,0,1,1],.br [.no [1,0,0,0,0,1],.no [0,1,0,1],.no [0,0,1,1,1,1],.br [.no [1,0,0,0,0,0,1,1,1],.br [.ok],.no [0,1,1,1]],.no [0,0,0,1,0,1,1],.no [0,0,1,0,1,1,1]],.br [.no [1,0,0,0,1,0,1],.no [0,1,0,0,0,0,1,0,0,0,0,0,1],.no [0,1,0,0,0,0,1,0,0,0,0,0,1],.br [.no [1,0,0,0,0,0,1,1],.br [.ok],.no [0,1,1,0,0,0,0,0,0,1,0,0,0,0,0,1]],.br [.no [1,0,0,0,1,0,1,1],.br [.ok],.br [.ok]],.no [0,0,1,0,1,1]],.br [.br [.no [1,0,1],.no [0,1,0,1,0,0,0,1],.br [.ok]],.no [0,1,0,0,0,0,0,0,0,0,0,1],.no [0,1,0,0,0,0,0,0,0,0,0,1],.br [.no [1,0,0,0,0,0,0,0,0,0,0,1,1],.br [.ok],.no [0,1,1,1]],.br [.no [1,0,0,0,1,0,0,0,0,0,0,1,1],.br [.ok],.br [.ok]],.no [0,0,1,0,0,0,0,0,0,1,1]],.br [.no [1,1],.no [0,1,0,0,0,0,1,0,0,0,1],.no [0,1,0,0,0,0,1,0,0,0,1],.br [.no [1,0,0,0,0,0,0,0,0,0,1,1],.br [.ok],.no [0,1,1,1]],.br [.no [1,0,0,0,1,0,0,0,0,0,1,1],.br [.ok],.br [.ok]],.no [0,0,1,0,0,0,0,0,1,1]]], by decide +kernel⟩
theorem b_32 : ∃ t, chkB 4 t [([1,0,0,0,0,0],[0]),([0,1,0,0,0,0],[1]),([0,0,1,1,0,0],[2,3]),([0,0,0,0,1,0],[4]),([0,0,0,0,0,1],[5])] [0,0,1,1,0,0] [(1,[0,0,1,0,0,0],[1,0,0,0,0,0]),(1,[0,0,0,1,0,0],[0,1,0,0,0,0]),(0,[0,0,1,0,0,0],[0,0,0,0,1,0]),(0,[0,0,1,1,0,0],[0,1,0,0,0,0])] = true := ⟨.br [.br [.br [.br [.ok],.br [.ok],.br [.ok]],.br [.br [.ok],.br [.ok],.no [0,1,1,1]],.br [.br [.ok],.br [.ok],.br [.ok]],.br [.no [1,0,0,1,0,0,1,0,0,1],.br [.ok],.no [0,1,1,1]],.br [.no [1,0,0,0,0,0,1,0,0,1],.br [.ok],.br [.ok]],.br [.no [1,0,0,1,0,1,1],.br [.ok],.br [.ok]]],.br [.br [.br [.ok],.br [.ok],.br [.ok]],.br [.br [.ok],.br [.ok],.no [0,1,1,1]],.no [0,0,1,1,1],.br [.no [1,0,0,1,0,0,0,1],.br [.ok],.no [0,1,1,1]],.br [.no [1,0,0,0,0,0,0,1],.br [.ok],.no [0,1,0,0,0,0,1,1]],.br [.no [1,0,0,1,0,0,1],.br [.ok],.no [0,1,0,0,0,1,1]]],.br [.br [.br [.ok],.br [.ok],.br [.ok]],.br [.br [.ok],.br [.ok],.no [0,1,1,1]],.br [.br [.ok],.br [.ok],.br [.ok]],.br [.no [1,0,0,0,1],.br [.ok],.no [0,1,1,1]],.br [.no [1,0,0,1,1],.br [.ok],.br [.ok]],.br [.br [.ok],.br [.ok],.br [.ok]]],.br [.no [1,0,0,0,0,1],.br [.br [.ok],.br [.ok],.no [0,1,1,1]],.no [0,0,1,1,1],.br [.no [1,0,0,1,0,0,0,0,1],.br [.ok],.no [0,1,1,1]],.no [0,0,0,1,0,1,1],.no [0,0,1,0,1,1,1]],.br [.no [1,0,0,0,1,1],.br [.br [.ok],.br [.ok],.no [0,1,1,1]],.br [.br [.ok],.br [.ok],.br [.ok]],.br [.no [1,0,0,0,1],.br [.ok],.no [0,1,1,1]],.br [.no [1,0,0,1,1],.br [.ok],.br [.ok]],.no [0,0,1,0,1,1]],.br [.br [.br [.ok],.br [.ok],.br [.ok]],.br [.br [.ok],.br [.ok],.no [0,1,1,1]],.br [.br [.ok],.br [.ok],.br [.ok]],.br [.no [1,0,0,0,1],.br [.ok],.no [0,1,1,1]],.br [.no [1,0,0,1,1],.br [.ok],.br [.ok]],.br [.br [.ok],.br [.ok],.br [.ok]]],.br [.no [1,0,0,0,0,1],.no [0,1,0,1],.no [0,0,1,1,1,1],.br [.no [1,0,0,0,0,0,1,1,1],.br [.ok],.no [0,1,1,1]],.no [0,0,0,1,0,1,1],.no [0,0,1,0,1,1,1]],.br [.no [1,0,0,0,1,0,1],.no [0,1,0,0,0,0,0,1],.no [0,1,0,0,0,0,0,1],.br [.no [1,0,0,0,0,0,1,1],.br [.ok],.no [0,1,1,1]],.br [.no [1,0,0,0,1,0,1,1],.br [.ok],.br [.ok]],.no [0,0,1,0,1,1]],.br [.br [.no [1,0,1,0,0,1,1],.no [0,1,0,1,0,0,0,1],.br [.ok]],.no [0,1,0,0,0,0,1,1],.no [0,1,0,0,0,0,1,1],.br [.no [1,0,0,0,1],.br [.ok],.no [0,1,1,1]],.br [.no [1,0,0,1,1],.br [.ok],.br [.ok]],.br [.br [.ok],.br [.ok],.br [.ok]]],.br [.no [1,1],.br [.no [1,0,0,0,0,0,0,1,0,1],.br [.ok],.no [0,1,1,1]],.br [.no [1,0,0,1,0,0,0,1,0,1],.br [.ok],.br [.ok]],.br [.no [1,0,0,0,1],.br [.ok],.no [0,1,1,1]],.br [.no [1,0,0,1,1],.br [.ok],.br [.ok]],.br [.br [.ok],.br [.ok],.br [.ok]]]], by decide +kernel⟩
theorem b_40 : ∃ t, chkB 4 t [([0,0,0,1,1,0],[3,4]),([1,0,0,0,0,0],[0]),([0,1,0,0,0,0],[1]),([0,0,1,0,0,0],[2]),([0,0,0,0,0,1],[5])] [0,0,0,1,1,0] [(1,[0,0,1,0,0,0],[1,0,0,0,0,0]),(1,[0,0,0,1,0,0],[0,1,0,0,0,0]),(1,[0,0,0,0,1,0],[0,0,1,0,0,0]),(0,[0,0,0,1,0,0],[0,0,0,0,0,1]),(1,[1,0,0,0,0,0],[0,0,0,1,1,0]),(1,[0,1,0,0,0,0],[0,0,0,1,1,0]),(1,[0,0,1,0,0,0],[0,0,0,1,1,0])] = true := ⟨.br [.no [1,0,0,0,0,0,1],.no [0,1,0,1],.no [0,0,1,1,1,1],.br [.no [1,0,0,0,0,0,0,1,1,0,1],.br [.br [.ok],.br [.ok],.no [0,1,0,1,0,0,0,0,0,0,0,1,1,0,1]],.no [0,0,1,1,1],.br [.no [1,0,0,1,0,0,0,0,0,0,0,1,1],.br [.ok],.no [0,1,0,1,0,0,0,0,0,0,0,0,1,1,0,1]],.no [0,0,0,1,0,1,1],.no [0,0,1,0,1,1,0,0,0,1,1]],.no [0,0,0,0,1,0,1,1],.no [0,0,0,1,0,1,1,0,1],.br [.no [1,0,0,0,1,0,0,0,0,0,0,1],.no [0,1,0,1],.no [0,0,1,1,1,1],.br [.no [1,0,0,0,0,0,1,1,1],.br [.ok],.no [0,1,0,1,0,0,0,0,0,1,0,0,0,0,0,0,1]],.no [0,0,0,1,0,1,1],.no [0,0,1,0,1,1,1]],.no [0,0,0,0,0,1,0,0,1,1],.no [0,0,0,0,1,0,0,1,1,1],.no [1,0,0,1,0,0,1,1]], by decide +kernel⟩
theorem b_41 : ∃ t, chkB 4 t [([1,0,0,0,0,0],[0]),([0,0,0,1,1,0],[3,4]),([0,1,0,0,0,0],[1]),([0,0,1,0,0,0],[2]),([0,0,0,0,0,1],[5])] [0,0,0,1,1,0] [(1,[0,0,1,0,0,0],[1,0,0,0,0,0]),(1,[0,0,0,1,0,0],[0,1,0,0,0,0]),(1,[0,0,0,0,1,0],[0,0,1,0,0,0]),(0,[0,0,0,1,0,0],[0,0,0,0,0,1]),(1,[0,1,0,0,0,0],[0,0,0,1,1,0]),(1,[0,0,1,0,0,0],[0,0,0,1,1,0]),(0,[0,0,0,1,1,0],[1,0,0,0,0,0])] = true := ⟨.br [.no [1,0,0,0,0,1,0,1],.no [0,1,0,0,0,0,0,0,1],.no [0,1,0,0,0,0,0,0,1],.br [.no [1,0,0,0,0,0,0,1,1],.br [.br [.ok],.br [.ok],.no [0,1,0,1,0,0,0,0,0,0,0,1,1]],.no [0,0,1,1,1],.br [.no [1,0,0,1,0,0,0,0,1],.br [.ok],.no [0,1,0,1,0,0,0,0,0,0,0,0,1,1]],.no [0,0,0,1,0,1,1],.no [0,0,1,0,1,1,1]],.br [.no [1,0,0,0,0,1,0,1,1],.br [.br [.ok],.br [.ok],.no [0,1,0,1,0,0,0,0,0,1,0,1,1]],.br [.br [.ok],.br [.ok],.br [.ok]],.br [.no [1,0,0,0,1],.br [.ok],.no [0,1,1,1]],.br [.no [1,0,0,1,1],.br [.ok],.br [.ok]],.no [0,0,1,0,1,1]],.no [0,0,0,1,0,1,1],.br [.no [1,0,0,0,0,1],.no [0,1,0,1],.no [0,0,1,0,0,1,0,0,0,1,0,0,0,1],.br [.no [1,0,0,0,0,0,1,1,1],.br [.ok],.no [0,1,1,1]],.no [0,0,0,1,0,1,1],.no [0,0,1,0,1,1,1]],.br [.no [1,0,0,0,1,0,1],.no [0,1,0,0,0,0,1,0,0,0,0,0,0,1],.no [0,1,0,0,0,0,1,0,0,0,0,0,0,1],.br [.no [1,0,0,0,0,0,1,1],.br [.ok],.no [0,1,1,0,0,0,0,0,0,1,0,0,0,0,0,0,1]],.br [.no [1,0,0,0,1,0,1,1],.br [.ok],.br [.ok]],.no [0,0,1,0,1,1]],.no [0,0,0,0,1,0,0,1,1],.no [0,0,0,1,0,0,1,1,1]], by decide +kernel⟩
theorem b_42 : ∃ t, chkB 4 t [([1,0,0,0,0,0],[0]),([0,1,0,0,0,0],[1]),([0,0,0,1,1,0],[3,4]),([0,0,1,0,0,0],[2]),([0,0,0,0,0,1],[5])] [0,0,0,1,1,0] [(1,[0,0,1,0,0,0],[1,0,0,0,0,0]),(1,[0,0,0,1,0,0],[0,1,0,0,0,0]),(1,[0,0,0,0,1,0],[0,0,1,0,0,0]),(0,[0,0,0,1,0,0],[0,0,0,0,0,1]),(1,[0,0,1,0,0,0],[0,0,0,1,1,0]),(0,[0,0,0,1,1,0],[0,1,0,0,0,0])] = true := ⟨.br [.br [.no [1,0,1,1],.no [0,0,1,0,1,0,0,0,0,1],.br [.br [.ok],.br [.ok],.br [.ok]],.no [0,1,1,0,0,1,0,0,0,0,1],.br [.no [1,0,0,0,0,0,1,0,1,0,0,1],.br [.ok],.br [.ok]],.no [0,0,1,0,0,0,1,1]],.no [0,1,0,0,0,0,0,1,1],.no [0,1,0,0,0,0,0,1,1],.br [.no [1,0,0,0,0,1],.br [.br [.ok],.br [.ok],.no [0,1,1,1]],.no [0,0,1,1,1],.br [.no [1,0,0,1,0,0,0,0,1],.br [.ok],.no [0,1,1,1]],.no [0,0,0,1,0,1,1],.no [0,0,1,0,1,1,1]],.br [.no [1,0,0,0,1,1],.br [.br [.ok],.br [.ok],.no [0,1,1,1]],.br [.br [.ok],.br [.ok],.br [.ok]],.br [.no [1,0,0,0,1],.br [.ok],.no [0,1,1,1]],.br [.no [1,0,0,1,1],.br [.ok],.br [.ok]],.no [0,0,1,0,1,1]],.br [.br [.br [.ok],.br [.ok],.br [.ok]],.br [.br [.ok],.br [.ok],.no [0,1,1,1]],.br [.br [.ok],.br [.ok],.br [.ok]],.br [.no [1,0,0,0,1],.br [.ok],.no [0,1,1,1]],.br [.no [1,0,0,1,1],.br [.ok],.br [.ok]],.br [.br [.ok],.br [.ok],.br [.ok]]],.br [.no [1,0,0,0,0,1],.no [0,1,0,1],.no [0,0,1,1,1,1],.br [.no [1,0,0,0,0,0,1,1,1],.br [.ok],.no [0,1,1,1]],.no [0,0,0,1,0,1,1],.no [0,0,1,0,1,1,1]],.br [.no [1,0,0,0,1,0,1],.no [0,1,0,0,0,0,0,1],.no [0,1,0,0,0,0,0,1],.br [.no [1,0,0,0,0,0,1,1],.br [.ok],.no [0,1,0,0,0,0,1,0,0,1]],.br [.no [1,0,0,0,1,0,1,1],.br [.ok],.br [.ok]],.no [0,0,1,0,1,1]],.br [.br [.no [1,0,1,0,0,0,0,0,0,0,0,0,1],.no [0,1,0,1,0,0,0,1],.br [.ok]],.no [0,1,0,0,0,0,1,1],.no [0,1,0,0,0,0,1,1],.br [.no [1,0,0,0,1],.br [.ok],.no [0,1,1,1]],.br [.no [1,0,0,1,1],.br [.ok],.br [.ok]],.br [.br [.ok],.br [.ok],.br [.ok]]],.no [0,0,0,1,0,0,1,1]], by decide +kernel⟩
theorem b_43 : ∃ t, chkB 4 t [([1,0,0,0,0,0],[0]),([0,1,0,0,0,0],[1]),([0,0,1,0,0,0],[2]),([0,0,0,1,1,0],[3,4]),([0,0,0,0,0,1],[5])] [0,0,0,1,1,0] [(1,[0,0,1,0,0,0],[1,0,0,0,0,0]),(1,[0,0,0,1,0,0],[0,1,0,0,0,0]),(1,[0,0,0,0,1,0],[0,0,1,0,0,0]),(0,[0,0,0,1,0,0],[0,0,0,0,0,1]),(0,[0,0,0,1,1,0],[0,0,1,0,0,0])] = true := ⟨.br [.no [1,1],.br [.no [1,0,0,0,0,1,1],.br [.br [.ok],.br [.ok],.no [0,1,0,1,0,0,0,0,0,1,0,0,1]],.no [0,0,1,1,1],.br [.no [1,0,0,1,0,0,0,1],.br [.ok],.no [0,1,0,1,0,0,0,0,0,0,1,0,0,1]],.br [.no [1,0,0,0,0,0,0,1],.br [.ok],.no [0,1,0,0,0,0,1,1]],.br [.no [1,0,0,1,0,0,1],.br [.ok],.no [0,1,0,0,0,1,1]]],.br [.no [1,0,0,1,0,1,1],.br [.br [.ok],.br [.ok],.no [0,1,0,1,0,0,0,1,0,1,0,0,1]],.br [.br [.ok],.br [.ok],.br [.ok]],.br [.no [1,0,0,0,1],.br [.ok],.no [0,1,1,1]],.br [.no [1,0,0,1,1],.br [.ok],.br [.ok]],.br [.br [.ok],.br [.ok],.br [.ok]]],.br [.no [1,0,0,0,0,1],.br [.br [.ok],.br [.ok],.no [0,1,1,1]],.no [0,0,1,1,1],.br [.no [1,0,0,1,0,0,0,0,1],.br [.ok],.no [0,1,1,1]],.no [0,0,0,1,0,1,1],.no [0,0,1,0,1,1,1]],.br [.no [1,0,0,0,1,1],.br [.br [.ok],.br [.ok],.no [0,1,1,1]],.br [.br [.ok],.br [.ok],.br [.ok]],.br [.no [1,0,0,0,1],.br [.ok],.no [0,1,1,1]],.br [.no [1,0,0,1,1],.br [.ok],.br [.ok]],.no [0,0,1,0,1,1]],.br [.br [.br [.ok],.br [.ok],.br [.ok]],.br [.br [.ok],.br [.ok],.no [0,1,1,1]],.br [.br [.ok],.br [.ok],.br [.ok]],.br [.no [1,0,0,0,1],.br [.ok],.no [0,1,1,1]],.br [.no [1,0,0,1,1],.br [.ok],.br [.ok]],.br [.br [.ok],.br [.ok],.br [.ok]]],.br [.no [1,0,0,0,0,1],.no [0,1,0,1],.no [0,0,1,1,1,1],.br [.no [1,0,0,0,0,0,1,1,1],.br [.ok],.no [0,1,1,1]],.no [0,0,0,1,0,1,1],.no [0,0,1,0,1,1,1]],.br [.no [1,0,0,0,1,0,1],.no [0,1,0,0,0,0,0,1],.no [0,1,0,0,0,0,0,1],.br [.no [1,0,0,0,0,0,1,1],.br [.ok],.no [0,1,0,0,0,0,1,0,0,1]],.br [.no [1,0,0,0,1,0,1,1],.br [.ok],.br [.ok]],.no [0,0,1,0,1,1]],.br [.br [.no [1,0,1,0,0,0,1],.no [0,1,0,1,0,0,0,1],.br [.ok]],.no [0,1,0,0,0,0,1,1],.no [0,1,0,0,0,0,1,1],.br [.no [1,0,0,0,1],.br [.ok],.no [0,1,1,1]],.br [.no [1,0,0,1,1],.br [.ok],.br [.ok]],.br [.br [.ok],.br [.ok],.br [.ok]]],.br [.no [1,1],.br [.no [1,0,0,0,0,1,0,1],.br [.ok],.no [0,1,1,1]],.br [.no [1,0,0,1,0,1,0,1],.br [.ok],.br [.ok]],.br [.no [1,0,0,0,1],.br [.ok],.no [0,1,1,1]],.br [.no [1,0,0,1,1],.br [.ok],.br [.ok]],.br [.br [.ok],.br [.ok],.br [.ok]]]], by decide +kernel⟩
theorem b_50 : ∃ t, chkB 4 t [([0,0,0,0,1,1],[4,5]),([1,0,0,0,0,0],[0]),([0,1,0,0,0,0],[1]),([0,0,1,0,0,0],[2]),([0,0,0,1,0,0],[3])] [0,0,0,0,1,1] [(1,[0,0,1,0,0,0],[1,0,0,0,0,0]),(1,[0,0,0,1,0,0],[0,1,0,0,0,0]),(1,[0,0,0,0,1,0],[0,0,1,0,0,0]),(1,[0,0,0,0,0,1],[0,0,0,1,0,0]),(1,[1,0,0,0,0,0],[0,0,0,0,1,1]),(1,[0,1,0,0,0,0],[0,0,0,0,1,1]),(1,[0,0,1,0,0,0],[0,0,0,0,1,1]),(1,[0,0,0,1,0,0],[0,0,0,0,1,1])] = true := ⟨.br [.no [1,0,0,0,0,0,1],.no [0,1,0,1],.no [0,0,1,1,1,1,1],.no [0,0,1,0,0,0,1],.no [0,0,0,0,1,0,1,1,1],.no [0,0,0,1,0,1,1,1,1],.br [.no [1,0,0,0,0,0,0,0,0,1,1,1],.no [0,1,0,1],.no [0,0,1,1,1,1],.br [.no [1,0,0,0,0,0,1,1,0,0,0,0,0,1,1],.br [.ok],.no [0,1,0,1,0,0,0,0,0,0,0,0,0,0,1,1,1]],.no [0,0,0,1,0,1,1],.no [0,0,1,0,1,1,0,0,0,0,0,1,1]],.no [0,0,0,0,0,1,0,0,1,1],.no [0,0,0,0,1,0,0,1,1,1],.no [1,0,0,1,0,0,1,1]], by decide +kernel⟩
theorem b_51 : ∃ t, chkB 4 t [([1,0,0,0,0,0],[0]),([0,0,0,0,1,1],[4,5]),([0,1,0,0,0,0],[1]),([0,0,1,0,0,0],[2]),([0,0,0,1,0,0],[3])] [0,0,0,0,1,1] [(1,[0,0,1,0,0,0],[1,0,0,0,0,0]),(1,[0,0,0,1,0,0],[0,1,0,0,0,0]),(1,[0,0,0,0,1,0],[0,0,1,0,0,0]),(1,[0,0,0,0,0,1],[0,0,0,1,0,0]),(1,[0,1,0,0,0,0],[0,0,0,0,1,1]),(1,[0,0,1,0,0,0],[0,0,0,0,1,1]),(1,[0,0,0,1,0,0],[0,0,0,0,1,1]),(0,[0,0,0,0,1,1],[1,0,0,0,0,0])] = true := ⟨.br [.no [1,0,0,0,0,1,0,0,1],.no [0,1,0,0,0,0,0,0,1],.no [0,1,0,0,0,0,0,0,1],.no [0,0,1,0,0,0,1],.no [0,0,1,0,0,0,1],.no [0,0,0,1,0,1,1,1],.br [.no [1,0,0,0,0,0,0,0,0,1,1],.no [0,1,0,1],.no [0,0,1,0,0,1,0,0,0,1,0,0,0,1],.br [.no [1,0,0,0,0,0,1,1,1],.br [.ok],.no [0,1,0,1,0,0,0,0,0,0,0,0,0,0,1,1]],.no [0,0,0,1,0,1,1],.no [0,0,1,0,1,1,1]],.br [.no [1,0,0,0,0,0,1,0,0,1,1],.no [0,1,0,0,0,0,0,0,0,0,0,1,1,1],.no [0,1,0,0,0,0,0,0,0,0,0,1,1,1],.br [.no [1,0,0,0,0,0,1,1],.br [.ok],.no [0,1,1,0,0,0,0,0,0,0,0,0,0,0,1,1,1]],.br [.no [1,0,0,0,1,0,1,1],.br [.ok],.br [.ok]],.no [0,0,1,0,1,1]],.no [0,0,0,0,1,0,0,1,1],.no [0,0,0,1,0,0,1,1,1]], by decide +kernel⟩
theorem b_52 : ∃ t, chkB 4 t [([1,0,0,0,0,0],[0]),([0,1,0,0,0,0],[1]),([0,0,0,0,1,1],[4,5]),([0,0,1,0,0,0],[2]),([0,0,0,1,0,0],[3])] [0,0,0,0,1,1] [(1,[0,0,1,0,0,0],[1,0,0,0,0,0]),(1,[0,0,0,1,0,0],[0,1,0,0,0,0]),(1,[0,0,0,0,1,0],[0,0,1,0,0,0]),(1,[0,0,0,0,0,1],[0,0,0,1,0,0]),(1,[0,0,1,0,0,0],[0,0,0,0,1,1]),(1,[0,0,0,1,0,0],[0,0,0,0,1,1]),(0,[0,0,0,0,1,1],[0,1,0,0,0,0])] = true := ⟨.br [.br [.no [1,0,1,1,0,1],.no [0,1,1,0,1,1],.no [0,1,0,0,0,0,0,0,0,1],.no [0,0,1,0,0,1,1],.br [.no [1,0,0,0,0,0,1,1,1,1],.br [.ok],.br [.ok]],.no [0,0,1,0,0,0,1,1]],.no [0,1,0,0,0,0,0,1,0,1],.no [0,1,0,0,0,0,0,1,0,1],.no [0,0,1,0,0,0,0,0,0,0,1],.no [0,0,1,0,0,0,0,0,0,0,1],.no [0,0,1,0,0,0,0,0,0,1],.br [.no [1,0,0,0,0,1],.no [0,1,0,1],.no [0,0,1,1,0,0,0,0,0,0,1,0,0,1],.br [.no [1,0,0,0,0,0,0,0,1,0,0,0,1,0,0,1],.br [.ok],.no [0,1,1,1]],.no [0,0,0,1,0,0,0,0,0,0,0,1,0,0,1],.no [0,0,1,0,1,1,1]],.br [.no [1,0,0,0,1,0,1],.no [0,1,0,0,0,0,0,0,0,0,0,1,1],.no [0,1,0,0,0,0,0,0,0,0,0,1,1],.br [.no [1,0,0,0,0,0,1,1],.br [.ok],.no [0,1,1,0,0,0,0,0,0,0,0,0,0,0,1,1]],.br [.no [1,0,0,0,1,0,1,1],.br [.ok],.br [.ok]],.no [0,0,1,0,1,1]],.br [.br [.no [1,0,1,0,0,0,0,0,0,0,0,0,0,1],.no [0,1,0,1,0,0,0,1],.br [.ok]],.no [0,1,0,0,0,0,0,1,0,0,1,1],.no [0,1,0,0,0,0,0,1,0,0,1,1],.br [.no [1,0,0,0,1],.br [.ok],.no [0,1,1,1]],.br [.no [1,0,0,1,1],.br [.ok],.br [.ok]],.br [.br [.ok],.br [.ok],.br [.ok]]],.no [0,0,0,1,0,0,1,1]], by decide +kernel⟩
theorem b_53 : ∃ t, chkB 4 t [([1,0,0,0,0,0],[0]),([0,1,0,0,0,0],[1]),([0,0,1,0,0,0],[2]),([0,0,0,0,1,1],[4,5]),([0,0,0,1,0,0],[3])] [0,0,0,0,1,1] [(1,[0,0,1,0,0,0],[1,0,0,0,0,0]),(1,[0,0,0,1,0,0],[0,1,0,0,0,0]),(1,[0,0,0,0,1,0],[0,0,1,0,0,0]),(1,[0,0,0,0,0,1],[0,0,0,1,0,0]),(1,[0,0,0,1,0,0],[0,0,0,0,1,1]),(0,[0,0,0,0,1,1],[0,0,1,0,0,0])] = true := ⟨.br [.no [1,1],.br [.no [1,0,0,0,0,1,1,1],.no [0,1,0,1,0,0,0,0,0,0,1,1],.no [0,1,0,1,0,0,0,0,0,0,1,1],.no [0,0,1,0,0,0,0,0,1,0,0,0,1],.br [.no [1,0,0,1,0,0,0,0,0,1,0,0,0,1],.br [.ok],.no [0,1,0,0,0,0,1,1,0,0,0,0,1]],.br [.no [1,0,0,0,0,0,0,0,1,0,0,0,1],.br [.ok],.no [0,1,0,0,0,1,1,0,0,0,0,1]]],.br [.no [1,0,0,1,0,1,1,1],.no [0,1,0,0,0,0,0,1],.no [0,1,0,0,0,0,0,1,1],.no [0,0,0,1,0,0,0,0,1,0,0,0,1],.no [0,0,1,0,0,0,0,0,1,0,0,0,1],.br [.no [1,0,0,0,0,0,1,0,1,0,0,0,1],.br [.ok],.br [.ok]]],.no [0,0,1,0,0,0,0,0,0,1,1],.no [0,0,1,0,0,0,0,0,0,1,1],.no [0,0,1,0,0,0,0,0,1,1],.br [.no [1,0,0,0,0,1],.no [0,1,0,1],.no [0,0,1,1,1,1],.br [.no [1,0,0,0,0,0,1,1,1],.br [.ok],.no [0,1,1,1]],.no [0,0,0,1,0,1,1],.no [0,0,1,0,1,1,1]],.br [.no [1,0,0,0,1,0,1],.no [0,1,0,0,0,0,0,1],.no [0,1,0,0,0,0,0,1],.br [.no [1,0,0,0,0,0,1,1],.br [.ok],.no [0,1,1,1]],.br [.no [1,0,0,0,1,0,1,1],.br [.ok],.br [.ok]],.no [0,0,1,0,1,1]],.br [.br [.no [1,0,1,1],.no [0,1,0,1,0,0,0,1],.br [.ok]],.no [0,1,0,0,0,0,1,1],.no [0,1,0,0,0,0,1,1],.br [.no [1,0,0,0,1],.br [.ok],.no [0,1,1,1]],.br [.no [1,0,0,1,1],.br [.ok],.br [.ok]],.br [.br [.ok],.br [.ok],.br [.ok]]],.br [.no [1,1],.br [.no [1,0,0,0,0,1,0,1],.br [.ok],.no [0,1,1,1]],.br [.no [1,0,0,1,0,1,0,1],.br [.ok],.br [.ok]],.br [.no [1,0,0,0,1],.br [.ok],.no [0,1,1,1]],.br [.no [1,0,0,1,1],.br [.ok],.br [.ok]],.br [.br [.ok],.br [.ok],.br [.ok]]]], by decide +kernel⟩
theorem b_54 : ∃ t, chkB 4 t [([1,0,0,0,0,0],[0]),([0,1,0,0,0,0],[1]),([0,0,1,0,0,0],[2]),([0,0,0,1,0,0],[3]),([0,0,0,0,1,1],[4,5])] [0,0,0,0,1,1] [(1,[0,0,1,0,0,0],[1,0,0,0,0,0]),(1,[0,0,0,1,0,0],[0,1,0,0,0,0]),(1,[0,0,0,0,1,0],[0,0,1,0,0,0]),(1,[0,0,0,0,0,1],[0,0,0,1,0,0]),(0,[0,0,0,0,1,1],[0,0,0,1,0,0])] = true := ⟨.br [.no [1,1],.no [0,1,0,0,1],.no [0,1,0,0,1],.br [.no [1,0,0,0,0,1],.br [.no [1,0,0,0,1,1,0,0,0,0,0,1,1],.br [.ok],.no [0,1,1,1]],.no [0,0,1,1,1],.br [.no [1,0,0,1,0,0,0,0,1],.br [.ok],.no [0,1,1,1]],.no [0,0,0,1,0,1,1],.no [0,0,1,0,1,1,1]],.br [.no [1,0,0,0,1,1],.no [0,1,0,0,0,0,0,0,0,0,1,1],.no [0,1,0,0,0,0,0,0,0,0,1,1],.br [.no [1,0,0,0,1],.br [.ok],.no [0,1,1,0,0,0,0,0,0,0,0,0,0,1,0,1]],.br [.no [1,0,0,1,1],.br [.ok],.br [.ok]],.no [0,0,1,0,1,1]],.br [.br [.no [1,0,1,0,0,1,0,0,2,0,1],.br [.ok],.br [.ok]],.no [0,1,0,0,0,0,1,0,0,1,1],.no [0,1,0,0,0,0,1,0,0,1,1],.br [.no [1,0,0,0,1],.br [.ok],.no [0,1,1,1]],.br [.no [1,0,0,1,1],.br [.ok],.br [.ok]],.br [.br [.ok],.br [.ok],.br [.ok]]],.br [.no [1,0,0,0,0,1],.no [0,1,0,1],.no [0,0,1,1,1,1],.br [.no [1,0,0,0,0,0,1,1,1],.br [.ok],.no [0,1,1,1]],.no [0,0,0,1,0,1,1],.no [0,0,1,0,1,1,1]],.br [.no [1,0,0,0,1,0,1],.no [0,1,0,0,0,0,0,1],.no [0,1,0,0,0,0,0,1],.br [.no [1,0,0,0,0,0,1,1],.br [.ok],.no [0,1,1,1]],.br [.no [1,0,0,0,1,0,1,1],.br [.ok],.br [.ok]],.no [0,0,1,0,1,1]],.br [.br [.no [1,0,1,0,0,0,1],.no [0,1,0,1,0,0,0,1],.br [.ok]],.no [0,1,0,0,0,0,1,1],.no [0,1,0,0,0,0,1,1],.br [.no [1,0,0,0,1],.br [.ok],.no [0,1,1,1]],.br [.no [1,0,0,1,1],.br [.ok],.br [.ok]],.br [.br [.ok],.br [.ok],.br [.ok]]],.br [.no [1,1],.br [.no [1,0,0,0,0,1,0,1,0,0,0,1],.br [.ok],.no [0,1,1,1]],.br [.no [1,0,0,1,0,1,0,1,0,0,0,1],.br [.ok],.br [.ok]],.br [.no [1,0,0,0,1],.br [.ok],.no [0,1,1,1]],.br [.no [1,0,0,1,1],.br [.ok],.br [.ok]],.br [.br [.ok],.br [.ok],.br [.ok]]]], by decide +kernel⟩
theorem b : ∃ t, chkB 5 t [([1,0,0,0,0,0],[0]),([0,1,0,0,0,0],[1]),([0,0,1,0,0,0],[2]),([0,0,0,1,0,0],[3]),([0,0,0,0,1,0],[4]),([0,0,0,0,0,1],[5])] [0,0,0,0,0,0] [] = true := by
  obtain ⟨t0, h0⟩ := b_10
  obtain ⟨t1, h1⟩ := b_20
  obtain ⟨t2, h2⟩ := b_21
  obtain ⟨t3, h3⟩ := b_30
  obtain ⟨t4, h4⟩ := b_31
  obtain ⟨t5, h5⟩ := b_32
  obtain ⟨t6, h6⟩ := b_40
  obtain ⟨t7, h7⟩ := b_41
  obtain ⟨t8, h8⟩ := b_42
  obtain ⟨t9, h9⟩ := b_43
  obtain ⟨t10, h10⟩ := b_50
  obtain ⟨t11, h11⟩ := b_51
  obtain ⟨t12, h12⟩ := b_52
  obtain ⟨t13, h13⟩ := b_53
  obtain ⟨t14, h14⟩ := b_54
  refine ⟨.br [t0,t1,t2,t3,t4,t5,t6,t7,t8,t9,t10,t11,t12,t13,t14], chk_br _ _ _ _ _ rfl ?_⟩
  exact kids_c h0 (kids_c h1 (kids_c h2 (kids_c h3 (kids_c h4 (kids_c h5 (kids_c h6 (kids_c h7 (kids_c h8 (kids_c h9 (kids_c h10 (kids_c h11 (kids_c h12 (kids_c h13 (kids_c h14 (kids_n _ _)))))))))))))))
theorem gr_tt (w : List Nat) (h6 : w.length = 6) (hp : ∀ x ∈ w, 0 < x) (lev : List Nat) (h : GR (row0 w) (List.replicate 6 0) lev) : lev ∈ TT 6 := by
  rw [row0_eq w h6] at h
  obtain ⟨t, ht⟩ := b
  exact chkB_tt w h6 hp _ t srow0 _ _ ht (fun _ h => nomatch h) lev h
end Mine
end
section
set_option maxRecDepth 100000
namespace Mine
theorem tt_ok : ∀ lev ∈ TT 6, ∃ top, OkLev lev top := by
  have : ∀ lev ∈ TT 6, OkLev lev (lev.foldl Nat.max 0) := by unfold OkLev; decide +kernel
  exact fun lev h => ⟨_, this lev h⟩
theorem dot_dn : ∀ (w t : List Nat), dot (natsI w) t = (dn t w : Int)
  | [], t => by rw [dn_nil']; cases t <;> rfl
  | x :: w, [] => rfl
  | x :: w, n :: t => by
    show (x : Int) * (n : Int) + dot (natsI w) t = ((n * x + dn t w : Nat) : Int)
    rw [dot_dn w t, Int.natCast_add, Int.natCast_mul, Int.mul_comm]
/-- a weight's part of a sum -/
theorem dn_set : ∀ (lev w : List Nat) (i : Nat), i < lev.length → dn (lev.set i (lev.getD i 0 + 1)) w = dn lev w + w.getD i 0
  | [], w, i, h => absurd h (Nat.not_lt_zero _)
  | x :: lev, [], i, h => by cases i <;> rfl
  | x :: lev, u :: w, 0, h => by
    show (x + 1) * u + dn lev w = x * u + dn lev w + u
    rw [Nat.add_mul]; lia
  | x :: lev, u :: w, i + 1, h => by
    have := dn_set lev w i (by simpa using h)
    show x * u + dn (lev.set i (lev.getD i 0 + 1)) w = x * u + dn lev w + w.getD i 0
    lia
noncomputable def wsum (w : List Nat) (l : List Nat) : Nat := (l.map fun i => w.getD i 0).sum
theorem dn_incs (w : List Nat) : ∀ (l lev : List Nat), (∀ i ∈ l, i < lev.length) → dn (incs lev l) w = dn lev w + wsum w l
  | [], lev, _ => rfl
  | i :: l, lev, h => by
    have h1 := dn_incs w l (lev.set i (lev.getD i 0 + 1)) (fun j hj => by rw [List.length_set]; exact h j (.tail _ hj))
    have h2 := dn_set lev w i (h i (.head _))
    show dn (incs (lev.set i (lev.getD i 0 + 1)) l) w = dn lev w + (w.getD i 0 + wsum w l)
    lia
theorem nxt_mem {α : Type} {r : List α} {x : α} {k p : Nat} {q : α} (h : q ∈ nxt r x k p) : q = x ∨ q ∈ r := by
  unfold nxt at h
  simp only [List.mem_append, List.mem_singleton] at h
  rcases h with ((h | h) | h) | h
  · exact .inr (List.mem_of_mem_take h)
  · exact .inl h
  · exact .inr (List.mem_of_mem_drop (List.mem_of_mem_take h))
  · exact .inr (List.mem_of_mem_drop h)
theorem row_fst (r : GRow) (i : Nat) : (r.map (·.1)).getD i 0 = (r.getD i (0, [])).1 := by
  rw [List.getD_eq_getElem?_getD, List.getD_eq_getElem?_getD, List.getElem?_map]
  cases r[i]? <;> rfl
theorem gr_cost (w : List Nat) {r : GRow} {lev lev' : List Nat} (h : GR r lev lev') : r.length < 7 → (∀ q ∈ r, q.1 = wsum w q.2 ∧ ∀ i ∈ q.2, i < lev.length) →
    ∃ c, dn lev' w = dn lev w + c ∧ ∀ t ∈ TT r.length, c ≤ dn t (r.map (·.1)) := by
  induction h with
  | done _ => intro _ _; exact ⟨0, rfl, fun _ _ => Nat.zero_le _⟩
  | @step r lev lev' k p hs hg ih =>
    intro h7 hr
    have s1 := hs.1
    have s2 : k < r.length := by simpa using hs.2.1
    have s3 := hs.2.2.1
    have hmem : ∀ i, i < r.length → r.getD i (0, []) ∈ r := by
      intro i hi
      rw [List.getD_eq_getElem?_getD, List.getElem?_eq_getElem hi]
      exact List.getElem_mem hi
    obtain ⟨a1, a2⟩ := hr _ (hmem (k - 1) (by lia))
    obtain ⟨b1, b2⟩ := hr _ (hmem k s2)
    have hin : ∀ i ∈ (r.getD (k - 1) (0, [])).2 ++ (r.getD k (0, [])).2, i < lev.length := by
      intro i hi
      rcases List.mem_append.mp hi with hi | hi
      · exact a2 i hi
      · exact b2 i hi
    have hsum : (r.getD (k - 1) (0, [])).1 + (r.getD k (0, [])).1 = wsum w ((r.getD (k - 1) (0, [])).2 ++ (r.getD k (0, [])).2) := by
      rw [a1, b1]; simp [wsum]
    have hlen := nxt_len r ((r.getD (k - 1) (0, [])).1 + (r.getD k (0, [])).1, (r.getD (k - 1) (0, [])).2 ++ (r.getD k (0, [])).2) k p s1 s2 s3
    obtain ⟨c, e, hc⟩ := ih (by lia) (by
      intro q hq
      rw [incs_len]
      rcases nxt_mem hq with rfl | hq
      · exact ⟨hsum, hin⟩
      · exact hr q hq)
    rw [dn_incs w _ _ hin] at e
    refine ⟨wsum w ((r.getD (k - 1) (0, [])).2 ++ (r.getD k (0, [])).2) + c, by lia, fun t ht => ?_⟩
    obtain ⟨t', ht', hle⟩ := step_A (r.map (·.1)) (by rw [List.length_map]; lia) (by rw [List.length_map]; lia) k p hs t (by rw [List.length_map]; exact ht)
    rw [List.length_map] at ht'
    have h1 := hc t' (by rw [show (nxt r _ k p).length = r.length - 1 from by lia]; exact ht')
    rw [← nxt_map] at h1
    rw [row_fst, row_fst] at hle
    dsimp only at h1
    lia
theorem gw (ws : List Nat) (h6 : ws.length = 6) (hp : ∀ x ∈ ws, 0 < x) (lev : List Nat) (h : GR (row0 ws) (List.replicate 6 0) lev) : ∃ top, OkLev lev top ∧ Best (natsI ws) (dot (natsI ws) lev) := by
  have h1 := gr_tt ws h6 hp lev h
  obtain ⟨l1, l2⟩ := tt_lev 6 (by lia) lev h1
  obtain ⟨top, ht⟩ := tt_ok lev h1
  have hl : (natsI ws).length = 6 := by simp [natsI, h6]
  refine ⟨top, ht, ⟨lev, l1, by rw [l2, hl], rfl⟩, fun t h3 h4 => ?_⟩
  have hr : (row0 ws).map (·.1) = ws := by
    obtain ⟨a, b, c, d, e, f, hw⟩ := six_of ws h6
    rw [hw]; rfl
  have hrl : (row0 ws).length = 6 := by rw [← h6]; conv => rhs; rw [← hr]; simp
  obtain ⟨c, e, hc⟩ := gr_cost ws h (by lia) (by
    obtain ⟨a, b, c, d, e, f, hw⟩ := six_of ws h6
    rw [hw]; simp [row0, List.zipIdx, wsum])
  have h5 := hc t (by rw [hrl, ← hl, ← h4]; exact lev_tt h3 (by lia))
  rw [hr] at h5
  rw [dot_dn, dot_dn, e]
  have : dn (List.replicate 6 0) ws = 0 := by
    obtain ⟨a, b, c, d, e, f, hw⟩ := six_of ws h6
    rw [hw]; simp [dn, List.replicate]
  lia
end Mine
end
section
open PySem PySem.W PyProof.Rows
set_option maxRecDepth 100000
set_option maxHeartbeats 8000000 
namespace Mine
theorem anew17 : True ∧ True := by
  (w_top off)
  k_with_none
  k_with "m_loc" => (refine ⟨?l1, ?l2⟩; (case l1 => (with_unfolding_all (repeat' (first | exact trivial | refine And.intro ⟨_, rfl⟩ ?_)))); (case l2 => (intro z h1 h2; have h3 := h2; (try simp only [List.forall_mem_cons, List.not_mem_nil, false_implies, implies_true, and_true, ne_eq] at h1); (try simp only [List.contains_cons, List.contains_nil, Bool.or_false, Bool.or_eq_false_iff, beq_eq_false_iff_ne, ne_eq] at h2); (simp only [kstB, h1, h2, h3, if_false, Bool.false_eq_true]; done))))
  k_with "m_has" => (with_unfolding_all (repeat' (first | exact trivial | refine And.intro ⟨_, rfl⟩ ?_)))
  k_with "y exec While BoolOp cons nil" => (refine stop_ ?_)
  k_with "y exec While Name cons nil" => (refine stop_ ?_)
  k_with "y WPost" => (dsimp only [WPost])
  k_with "y WEnd" => (refine stop_ ?_)
  k_with "y WDone" => (refine stop_ ?_)
  k_with "y subscriptTail Name Name str int" => (refine KXi.item rfl ?ma ?mb ?mc ?_; (case ma => lia); (case mb => lia); (case mc => lia); intro _)
  k_with "y call builtin:len" => ((with_reducible show wpAny _ _ (call (Value.builtin "len") [Value.str _ _]) _ _ _); refine SBL.len (by lia) ?_)
  k_with "m_sub" => (intro q hq; (repeat (first | exact hq | exact List.Mem.head _ | refine List.Mem.tail _ ?_)))
  k_with "y ite" => (first | refine PySem.W.ite_pos (by with_reducible assumption) ?_ | refine PySem.W.ite_neg (by with_reducible assumption) ?_)
  k_with "y exec FunctionDef" => (refine stop_ ?_)
  k_with "y call ref" => (refine stop_ ?_)
  k_with "y binaryOp LShift int int" => (refine stop_ ?_)
  k_with "y binaryOp RShift int int" => (refine stop_ ?_)
  k_with "y FPost" => (dsimp only [FPost])
  k_with "y FEnd" => (refine stop_ ?_)
  k_with "x_mem" => (with_reducible first | exact mm0 | exact mm1 | exact mm2 | exact mm3 | exact mm4 | exact mm5 | exact mm6 | exact mm7 | exact mm8 | assumption | (refine mm_l ?_; walk_at "x_mem") | (refine mm_r ?_; walk_at "x_mem") | (refine mm_t ?_; walk_at "x_mem"))
  k_with "x_in" => (with_reducible first | exact sub_refl | exact sub_first | exact sub_last | exact sub_tail | (refine sub_l ?_; walk_at "x_in") | (refine sub_r ?_; walk_at "x_in") | (refine sub_t ?_; walk_at "x_in"))
  k_with "x_sub" => ((try refine sub_of ?_); (with_reducible first | exact sub_refl | exact sub_nil | (refine sub_cons ?_ ?_; (walk_at "x_mem"); (walk_at "x_sub")) | (refine sub_app ?_ ?_; (walk_at "x_sub"); (walk_at "x_sub")) | walk_at "x_in"))
  k_with "y execs cons" => (first | (k_here; k_gentoks) | (k_here; k_made; walk_at "execs cons") | ((with_reducible refine wpAny_execs_cons ?_); (try dsimp only); (try k_fold)))
  k_with "y newTuple" => ((refine newTuple_L (by assumption) (by assumption) (Nat.le_of_ble_eq_true rfl) ?_); intro _ _ _ _ _ _)
  k_with "y newList" => ((refine newList_L (by assumption) (by assumption) (Nat.le_of_ble_eq_true rfl) ?_); intro _ _ _ _ _ _)
  k_with "y exec For Name Name cons nil" => ((with_unfolding_all refine' For_invVF (by assumption) ?k1 ?k2 ?_); (case k1 => exact rfl); (case k2 => exact rfl))
  k_with "y exec For Name Call cons nil" => ((with_unfolding_all refine' For_invVF (by assumption) ?k1 ?k2 ?_); (case k1 => exact rfl); (case k2 => exact rfl))
  k_with "y exec For Name Subscript cons nil" => ((with_unfolding_all refine' For_invVF (by assumption) ?k1 ?k2 ?_); (case k1 => exact rfl); (case k2 => exact rfl))
  k_with "y exec For Name List cons nil" => ((with_unfolding_all refine' For_invVF (by assumption) ?k1 ?k2 ?_); (case k1 => exact rfl); (case k2 => exact rfl))
  k_with "y exec For Name Attribute cons nil" => ((with_unfolding_all refine' For_invVF (by assumption) ?k1 ?k2 ?_); (case k1 => exact rfl); (case k2 => exact rfl))
  k_with "y pyIter ref" => (refine stop_ ?_)
  k_with "y getItem ref int" => (refine stop_ ?_)
  k_with "y setItem ref int" => (refine stop_ ?_)
  k_with "y subscriptTail Name Name ref int" => (refine stop_ ?_)
  k_with "y subscriptTail Name Constant ref int" => (refine stop_ ?_)
  k_with "y subscriptTail Name BinOp ref int" => (refine stop_ ?_)
  k_with "y subscriptTail Subscript Constant ref int" => (refine stop_ ?_)
  k_with "y subscriptTail List BinOp ref int" => (refine stop_ ?_)
  k_with "y subscriptTail Name Slice ref ref" => (refine stop_ ?_)
  k_with "y binaryOp Add bytes bytes" => (refine stop_ ?_)
  k_with "y binaryOp Add ref ref" => (refine stop_ ?_)
  k_with "y getMethod bytes" => (refine stop_ ?_)
  k_with "y call type:tuple" => (refine stop_ ?_)
  k_with "y pyIter str" => (refine stop_ ?_)
  k_with "y eval ListComp" => (refine stop_ ?_)
  k_with "y CEnd" => (refine stop_ ?_)
  k_with "m_clean" => (any_goals first | exact (0 : Addr) | exact PySem.Str.ofString "" | exact Value.none | exact ([] : List (MStr × Addr)))
  k_with "m_has" => (with_unfolding_all (repeat' (first | exact trivial | refine And.intro ⟨0, rfl⟩ ?_ | refine And.intro ⟨_, rfl⟩ ?_)))
  k_with "m_loc" => (refine ⟨?l1, ?l2⟩; (case l1 => walk_at "m_has"); (case l2 => (intro z h1 h2; have h3 := h2; (try simp only [List.forall_mem_cons, List.not_mem_nil, false_implies, implies_true, and_true, ne_eq] at h1); (try simp only [List.contains_cons, List.contains_nil, Bool.or_false, Bool.or_eq_false_iff, beq_eq_false_iff_ne, ne_eq] at h2); (first | (simp only [kstB, h1, h2, h3, if_false, Bool.false_eq_true]; done) | (simp [kstB, h1, h2, h3]; done)))))
  k_with "y binaryOp Mult int int" => (refine stop_ ?_)
  k_with "y binaryOp Pow int int" => (refine stop_ ?_)
  k_with "y compareOp NotEq ref ref" => (refine stop_ ?_)
  k_with "y call builtin:bytes.decode" => (refine stop_ ?_)
  k_with "y call builtin:str.rjust" => (refine stop_ ?_)
  k_with "y call builtin:str.encode" => (refine stop_ ?_)
  k_with "y getMethod str" => (with_reducible refine gmEnc ?_)
  k_with "y binaryOp Add str str" => (refine stop_ ?_)
  k_with "y subscriptTail Name Slice str ref" => (refine stop_ ?_)
  k_with "y exec For Name Call cons nil" => (refine stop_ ?_)
  k_with "y call ref" => (refine stop_ ?_)
  k_with "y compareOp Eq ref ref" => (refine stop_ ?_)
  k_with "y call builtin:len" => (refine stop_ ?_)
  k_with "y call builtin:sum" => (refine stop_ ?_)
  k_with "y exec Assign cons ListComp" => (refine stop_ ?_)
  k_with "y eval Name" => ((with_reducible show wpAny _ _ (eval (.Name _ _) (compEnvC _ _ _ _)) _ _ _); (refine' nameCell ?k1 ?k2 ?k3 ‹News _ _ _ _› ?k5 ?k6 ?_); (case k1 => exact rfl); (case k2 => with_unfolding_all rfl); (case k3 => with_unfolding_all rfl); (case k5 => (repeat (first | exact List.Mem.head _ | refine List.Mem.tail _ ?_))); (case k6 => assumption))
  exact ⟨trivial, trivial⟩
/-- the weights that the cells tell -/
noncomputable def wts (cc : List Int) : List Nat := (List.range 6).map fun k => (64 * (1 + (cc.getD k 0).fmod 1000)).toNat + 2 ^ k
theorem wts_at (cc : List Int) (i : Nat) (hi : i < 6) : (wts cc)[i]? = some ((wts cc).getD i 0) ∧ (64 : Int) * (1 + (cc.getD i 0).fmod 1000) + 2 ^ i = (((wts cc).getD i 0 : Nat) : Int) := by
  have h1 : (wts cc)[i]? = some ((64 * (1 + (cc.getD i 0).fmod 1000)).toNat + 2 ^ i) := by
    unfold wts
    rw [List.getElem?_map, List.getElem?_range hi]; rfl
  have h2 : (wts cc).getD i 0 = (64 * (1 + (cc.getD i 0).fmod 1000)).toNat + 2 ^ i := by rw [List.getD_eq_getElem?_getD, h1]; rfl
  refine ⟨by rw [h2]; exact h1, ?_⟩
  rw [h2, Int.natCast_add, Int.natCast_pow]
  have h3 : 0 ≤ (cc.getD i 0).fmod 1000 := by rw [Int.fmod_eq_emod_of_nonneg _ (by decide)]; lia
  generalize (cc.getD i 0).fmod 1000 = x at h3
  show _ = _ + (2 : Int) ^ i
  generalize (2 : Int) ^ i = y
  lia
theorem wts_in (cc : List Int) : ∀ x ∈ wts cc, 65 ≤ x ∧ x < 16 ^ 4 := by
  intro x hx
  unfold wts at hx
  obtain ⟨k, hk, rfl⟩ := List.mem_map.mp hx
  have hk6 : k < 6 := List.mem_range.mp hk
  have h3 : 0 ≤ (cc.getD k 0).fmod 1000 ∧ (cc.getD k 0).fmod 1000 < 1000 := by rw [Int.fmod_eq_emod_of_nonneg _ (by decide)]; lia
  have h4 : 1 ≤ 2 ^ k := Nat.pow_pos (by decide)
  have h5 : 2 ^ k ≤ 2 ^ 5 := Nat.pow_le_pow_right (by decide) (by lia)
  generalize (cc.getD k 0).fmod 1000 = y at h3
  generalize 2 ^ k = z at h4 h5
  lia
theorem ByVals.snoc : ∀ {vs : List Value} {ws : List (List Nat)} (x : List Nat) (t : Tok), ByVals vs ws → ByVals (vs ++ [.bytes (byt x) t]) (ws ++ [x])
  | [], [], _, t, _ => ⟨⟨t, rfl⟩, trivial⟩
  | _ :: _, _ :: _, x, t, h => ⟨h.1, ByVals.snoc x t h.2⟩
theorem Lns.snoc : ∀ {vs : List Value} {ws : List Nat} (x : Nat) (t : Tok), Lns vs ws → Lns (vs ++ [.str (tx (lineL x)) t]) (ws ++ [x])
  | [], [], _, t, _ => ⟨⟨t, rfl⟩, trivial⟩
  | _ :: _, _ :: _, x, t, h => ⟨h.1, Lns.snoc x t h.2⟩
theorem cmp_b2i (x y : Nat) : cmpN x y = b2i (decide ((y : Int) < x)) - b2i (decide ((x : Int) < y)) := by
  have d1 : decide ((y : Int) < x) = decide (y < x) := decide_eq_decide.mpr (by lia)
  have d2 : decide ((x : Int) < y) = decide (x < y) := decide_eq_decide.mpr (by lia)
  rw [d1, d2]
  unfold cmpN
  by_cases h1 : y < x
  · have : ¬ x < y := by lia
    simp [h1, this, b2i]
  · by_cases h2 : x < y
    · simp [h1, h2, b2i]
    · simp [h1, h2, b2i]
theorem natsI_sum : ∀ l : List Nat, (natsI l).sum = (l.sum : Int)
  | [] => rfl
  | a :: r => by
    show (a : Int) + (natsI r).sum = _
    rw [natsI_sum r, List.sum_cons]; lia
/-- the weights, each as often as its word has letters -/
noncomputable def prodL (W lev : List Nat) : List Int := (List.range 6).map fun k => ((W.getD k 0 : Nat) : Int) * ((lev.getD k 0 : Nat) : Int)
theorem prodL_sum (W lev : List Nat) (h1 : W.length = 6) (h2 : lev.length = 6) : (prodL W lev).sum = dot (natsI W) lev := by
  obtain ⟨a, b, c, d, e, f, hw⟩ := six_of W h1
  obtain ⟨p, q, r, s, t, u, hl⟩ := six_of lev h2
  rw [hw, hl]; simp [prodL, natsI, dot, List.range_succ]
theorem prodL_at (W lev : List Nat) (i : Nat) (hi : i < 6) : (prodL W lev)[i]? = some (((W.getD i 0 : Nat) : Int) * ((lev.getD i 0 : Nat) : Int)) := by
  unfold prodL
  rw [List.getElem?_map, List.getElem?_range hi]; rfl
theorem best_uniq {xs : List Int} {c c' : Int} (h : Best xs c) (h' : Best xs c') : c = c' := by
  obtain ⟨⟨t, h1, h2, h3⟩, h4⟩ := h
  obtain ⟨⟨t', h1', h2', h3'⟩, h4'⟩ := h'
  have a1 := h4 t' h1' h2'
  have a2 := h4' t h1 h2
  lia
theorem wp_abs {M : Model} {A : Around} {body : List Stmt} {env : Env} {s : Shared} {Q0 : Flow → Shared → Prop} {E0 : Value → Shared → Prop} (R : (Flow → Shared → Prop) → Prop) (h : ∀ Q E, R Q → PassesOwn M A env E → wpAny M A (execs body env) Q E s) (hR : R Q0) (hP : PassesOwn M A env E0) : wpAny M A (execs body env) Q0 E0 s := h Q0 E0 hR hP
theorem law_holds0 : PySem.Challenge.rw_xj0015_01.Holds := by
  refine hd ?_
  k_go0
  all_goals try k_fold
  rename IntsAre _ _ => hI
  rename CellsAre _ _ _ => Y0
  rename Below _ _ _ _ => K0
  rename Fr _ _ _ _ => F0
  rename News _ _ _ _ => N0
  rename ¬ (_ < ((List.length _ : Nat) : Int)) => hcond
  rename 61 < _ ∧ 68 < _ => l0
  rename_i w s0 s1 mg mb G Y fa o pm cd doc ho hcd hg X V T B TE TW ns hs hlay hLy hr1 hl2 w7 w6 sl vs w3 hLs ra w1 r0 hrW hcT hD h1 tk1 oK oW oC dK dW dC X' T' cH1
  have dK' : oK.data = .cell none := by with_unfolding_all exact dK
  have dW' : oW.data = .cell none := by with_unfolding_all exact dW
  have dC' : oC.data = .cell none := by with_unfolding_all exact dC
  have hns : ns.length < 64 := by lia
  clear hT8 hT9 hD hcd Y0 dK dW dC
  refine wp_abs (fun Q => ∀ h' tk' m' news' ps1 ps2, Fr (ghostOf s1.heap [(65, 61), (72, 68)]) s1.heap.objs.size h' m' → News (ghostOf s1.heap [(65, 61), (72, 68)]) s1.heap.objs.size h' news' → (61, tabObj ps1) ∈ news' → (68, tabObj ps2) ∈ news' → Q (.ret (.bool true)) { s1 with heap := h', toks := tk' }) ?_ ?_ (by passes_own)
  · intro Q E hR hPO
    clear hcond hs hlay hLy hr1 hl2 hLs ra w1 r0 hrW hcT TE TW B T V X G Y ho codeHd cH1
    generalize ghostOf s1.heap [(65, 61), (72, 68)] = g at *
    generalize s1.heap.objs.size = L' at *
    dsimp only at F0
    have hLg := F0.above
    k_steps
    refine go_ ?_
    (try k_fold)
    k_dflt refine' (c_cells _ _ _ _ _ _ sl vs ns hI hns) _ _ _ _ _ _ _ _ _ _ _ _ _ _ _ _ _ _ lifted (by k_asm) (by k_asm) (by k_asm) (by k_asm) (by k_asm) rfl ?rm ?un ?_
    case rm => exact Nat.lt_of_sub_pos (by decide)
    case un => decide
    intro ca cus nn cc h2 tk2 F1 N1 lca1 lca2 hcc hcl
    have n61 := ltN l0.1
    have n68 := ltN l0.2
    have nca := ltN (lca1 (L' + 1 + 1 + 1, oK) (by first | walk_at "x_mem" | simp))
    dsimp only at nca
    have N2 := news_sub (b := (L' + 1, oC) :: (ca, listOf cus.toArray nn) :: (L' + 1 + 1 + 1, oK) :: (L' + 1 + 1, oW) :: (61, tabObj #[]) :: (68, tabObj #[]) :: []) N1 (by
      walk_at "x_sub")
    k_steps
    rename_i h3 oC2 F2 N3 dC2
    refine go_ (wpAny_Assign_Name ?_ ?hsw)
    case hsw => with_unfolding_all rfl
    refine' compL (h₀ := g) ?hclos ?hcell rfl ?hnames rfl ?_
    case hclos => with_unfolding_all rfl
    case hcell => decide
    case hnames => decide
    k_steps
    refine go_ ?_
    rename News _ _ _ _ => lN'
    rename Fr _ _ _ _ => lF'
    rename IsRange _ _ _ _ _ _ _ _ => rg
    refine' compRange (σ := Unit) (n := 6) (fun _ => (L' + 1, oC2) :: (ca, listOf cus.toArray nn) :: (L' + 1 + 1 + 1, oK) :: (L' + 1 + 1, oW) :: (61, tabObj #[]) :: (68, tabObj #[]) :: []) (fun i _ ys => IntsAre ys (natsI ((wts cc).take i))) () rfl rg ?_ ?_ (by lia) lF' lN' ?hp ?_ ?_
    · exact small_up (by lia) (by lia) (by lia) (by lia)
    · rw [rangeSize_one]; rfl
    case hp => exact .nil
    · --{{
      intro i _ v ys C D I oL E' h4 tk4 own nn2 hi6 hv hlen hpc hoff hown _ hC hD hDC hI2 hns2 hLC F3 N4
      (try k_fold)
      obtain ⟨t2, rfl⟩ := hv
      have N5 : News g C h4 ((L', oL) :: (D, listOf ys.toArray nn2) :: (own ++ ((L' + 1, oC2) :: (ca, listOf cus.toArray nn) :: (L' + 1 + 1 + 1, oK) :: (L' + 1 + 1, oW) :: (61, tabObj #[]) :: (68, tabObj #[]) :: []))) := N4
      have N6 := news_sub (b := (L' + 1, oC2) :: (ca, listOf cus.toArray nn) :: (L', oL) :: (D, listOf ys.toArray nn2) :: (own ++ ((L' + 1 + 1 + 1, oK) :: (L' + 1 + 1, oW) :: (61, tabObj #[]) :: (68, tabObj #[]) :: []))) N5 (by
        walk_at "x_sub")
      clear N4 N5
      k_steps
      walk_at "m_clean"
      refine go_ ?_
      rename News _ _ _ _ => lN'
      refine tailN (lstN (us := cus) (n := nn) lN' (by first | walk_at "x_mem" | simp)) hcc (by lia) (by lia) (by lia) fun t3 => ?_
      rw [z0 i]
      k_steps
      (try walk_at "m_clean")
      refine go_ (PyProof.Rows.mul_int ?_ (IntMulOk.of_left (by decide)))
      k_steps
      (try walk_at "m_clean")
      refine go_ (pow_int_small (by lia) (by lia) (by decide) ?_)
      rw [z0 i]
      k_steps
      (try walk_at "m_clean")
      rename News _ _ _ _ => lN'
      rename Fr _ _ _ _ => lF'
      refine go_ (cend () lF' (news_sub (b := (L', oL) :: (D, listOf ys.toArray nn2) :: (own ++ ((L' + 1, oC2) :: (ca, listOf cus.toArray nn) :: (L' + 1 + 1 + 1, oK) :: (L' + 1 + 1, oW) :: (61, tabObj #[]) :: (68, tabObj #[]) :: []))) lN' ?sub) (fun p hp => hp) hoff ?_)
      case sub =>
        walk_at "x_sub"
      rw [List.take_add_one, (wts_at cc i hi6).1, natsI_append, (wts_at cc i hi6).2]
      exact IntsAre.append hpc (.cons _ _ .nil)
    · intro wl h4 tk4 wus _ wn hD F3 N4 hne hlen hpc
      have N5 : News g L' h4 ((wl, listOf wus.toArray wn) :: (L' + 1, oC2) :: (ca, listOf cus.toArray nn) :: (L' + 1 + 1 + 1, oK) :: (L' + 1 + 1, oW) :: (61, tabObj #[]) :: (68, tabObj #[]) :: []) := N4
      have hW6 : (wts cc).length = 6 := by simp [wts]
      rw [show (wts cc).take 6 = wts cc from List.take_of_length_le (by lia)] at hpc
      have nwl := ltN (Nat.lt_of_lt_of_le (news_lt lN' (ca, listOf cus.toArray nn) (by first | walk_at "x_mem" | simp)) hD)
      have nwl2 := ltN (Nat.lt_of_lt_of_le (news_lt lN' (L' + 1 + 1 + 1, oK) (by first | walk_at "x_mem" | simp)) hD)
      dsimp only at nwl nwl2
      clear N4 hne
      k_steps
      rename_i h5 oW2 F4 N6 dW2
      refine go_ ?_
      refine' compA (h₀ := g) ?hsw ?hclos ?hcell rfl ?hnames rfl rfl rfl ?_
      case hsw => with_unfolding_all rfl
      case hclos => with_unfolding_all rfl
      case hcell => decide
      case hnames => decide
      k_steps
      refine go_ ?_
      rename News _ _ _ _ => lN2
      rename Fr _ _ _ _ => lF2
      have hwl6 : wus.length = 6 := hlen
      have hw0 : ∀ x ∈ wts cc, 65 ≤ x ∧ x < 16 ^ 4 := wts_in cc
      refine' compList (σ := Unit) (us := wus) (fun _ => (wl, listOf wus.toArray wn) :: (L' + 1, oC2) :: (ca, listOf cus.toArray nn) :: (L' + 1 + 1 + 1, oK) :: (L' + 1 + 1, oW2) :: (61, tabObj #[]) :: (68, tabObj #[]) :: []) (fun i _ ys => ByVals ys (((wts cc).map apL).take i)) () rfl (lstN (us := wus) (n := wn) lN2 (by first | walk_at "x_mem" | simp)) (by lia) lF2 lN2 ?hp ?_ ?_
      case hp => exact trivial
      · --{{
        intro i _ v ys C D I oL E' h6 tk6 own nn2 hiv hlen2 hpc2 hoff hown hoI hC hD2 hDC hI2 hns2 hLC F5 N7
        (try k_fold)
        have hi6 : i < 6 := by have := (List.getElem?_eq_some_iff.mp hiv).1; lia
        obtain ⟨x, hx⟩ : ∃ x, (wts cc)[i]? = some x := ⟨_, List.getElem?_eq_getElem (by lia)⟩
        obtain ⟨tv, htv⟩ := hpc.get i (x : Int) (by unfold natsI; rw [List.getElem?_map, hx]; rfl)
        have hvv : v = .int (x : Int) tv := by rw [htv] at hiv; exact (Option.some.inj hiv).symm
        subst hvv
        obtain ⟨hx1, hx2⟩ := hw0 x (List.mem_of_getElem? hx)
        have N8 : News g C h6 ((L', oL) :: (D, listOf ys.toArray nn2) :: (own ++ ((wl, listOf wus.toArray wn) :: (L' + 1, oC2) :: (ca, listOf cus.toArray nn) :: (L' + 1 + 1 + 1, oK) :: (L' + 1 + 1, oW2) :: (61, tabObj #[]) :: (68, tabObj #[]) :: []))) := N7
        clear N7
        k_steps
        walk_at "m_clean"
        refine go_ ?_
        have hr5 : ∀ q ∈ (D, listOf ys.toArray nn2) :: (own ++ ((wl, listOf wus.toArray wn) :: (L' + 1, oC2) :: (ca, listOf cus.toArray nn) :: (L' + 1 + 1 + 1, oK) :: (L' + 1 + 1, oW2) :: (61, tabObj #[]) :: (68, tabObj #[]) :: [])), q.1 ≠ L' := by
          have hsz := news_lt lN2 (wl, listOf wus.toArray wn) (by first | walk_at "x_mem" | simp)
          have hDL : L' < D := Nat.lt_of_lt_of_le lF2.ns.lt hD2
          have hIL : L' < I := Nat.lt_of_lt_of_le lF2.ns.lt hI2
          intro q hq
          rcases List.mem_cons.mp hq with rfl | hq
          · exact Nat.ne_of_gt hDL
          · rcases List.mem_append.mp hq with h | h
            · rcases hown q h with h | h
              · rw [h]; exact Nat.ne_of_gt hIL
              · rw [h]; exact (hoff (wl, listOf wus.toArray wn) (List.Mem.head _)).2.2.2
            · exact (hoff q h).2.2.2
        (try k_fold)
        k_dflt refine' callC (c_ap w _ _ _ _ _ (-(x : Int)) _ (by lia)) K0 F5 X' N8 hns2 hLg hr5 T' rfl (fun _ h => nomatch h) ?rm ?un (pvC fun t7 h7 tk7 oL2 F6 N9 hsv => ?_)
        case rm => exact Nat.lt_of_sub_pos (by decide)
        case un => decide
        rw [show (-(x : Int)).natAbs = x by lia]
        k_steps
        (try walk_at "m_clean")
        refine go_ (cendO () hsv F6 (news_sub (b := (L', oL2) :: (D, listOf ys.toArray nn2) :: (own ++ ((wl, listOf wus.toArray wn) :: (L' + 1, oC2) :: (ca, listOf cus.toArray nn) :: (L' + 1 + 1 + 1, oK) :: (L' + 1 + 1, oW2) :: (61, tabObj #[]) :: (68, tabObj #[]) :: []))) N9 (fun q hq => hq)) (fun p hp => hp) hoff ?_)
        have hxm : ((wts cc).map apL)[i]? = some (apL x) := by rw [List.getElem?_map, hx]; rfl
        rw [List.take_add_one, hxm]
        exact ByVals.snoc _ _ hpc2
      · intro wo h6 tk6 bus _ bn hD2 F5 N7 hne2 hlen2 hpc2
        rw [hwl6, show ((wts cc).map apL).take 6 = (wts cc).map apL from List.take_of_length_le (by simp; lia)] at hpc2
        have nwo := ltN (Nat.lt_of_lt_of_le (news_lt lN2 (wl, listOf wus.toArray wn) (by first | walk_at "x_mem" | simp)) hD2)
        dsimp only at nwo
        have N8 : News g L' h6 ((wo, listOf bus.toArray bn) :: (wl, listOf wus.toArray wn) :: (L' + 1, oC2) :: (ca, listOf cus.toArray nn) :: (L' + 1 + 1 + 1, oK) :: (L' + 1 + 1, oW2) :: (61, tabObj #[]) :: (68, tabObj #[]) :: []) := N7
        clear N7 hne2 lN2 lF2
        k_steps
        refine go_ ?_
        rename News _ _ _ _ => lN'
        rename Fr _ _ _ _ => lF'
        refine LSm.sum_ints lF' lN' rfl (lstN (us := cus) (n := nn) lN' (by first | walk_at "x_mem" | simp)) hcc fun h7 tk7 t7 F7 N9 => ?_
        k_steps
        refine go_ ?_
        obtain ⟨a0, a1, a2, a3, a4, a5, hWe⟩ : ∃ a0 a1 a2 a3 a4 a5, wts cc = [a0, a1, a2, a3, a4, a5] := ⟨_, _, _, _, _, _, rfl⟩
        obtain ⟨v0, v1, v2, v3, v4, v5, hbe⟩ : ∃ v0 v1 v2 v3 v4 v5, bus = [v0, v1, v2, v3, v4, v5] := six_of bus (by lia)
        have hlet : ∀ x ∈ wts cc, Let (apL x) ∧ (apL x).length ≤ 4 := fun x hx => ⟨let_ap (by have := hw0 x hx; lia), apL_len (hw0 x hx).2⟩
        have hpc3 : ByVals (v0 :: [v1, v2, v3, v4, v5]) (apL a0 :: [apL a1, apL a2, apL a3, apL a4, apL a5]) := by rw [← hbe]; rw [hWe] at hpc2; exact hpc2
        rw [hWe] at hlet
        have hl5 : ∀ x ∈ apL a0 :: [apL a1, apL a2, apL a3, apL a4, apL a5], Let x ∧ x.length ≤ 4 := by
          intro x hx
          obtain ⟨y, hy, rfl⟩ := List.mem_map.mp (show x ∈ [a0, a1, a2, a3, a4, a5].map apL from hx)
          exact hlet y hy
        subst hbe
        (try k_fold)
        k_dflt refine' (c_reply w _ _ _ _ _ wo bn v0 [v1, v2, v3, v4, v5] (apL a0) [apL a1, apL a2, apL a3, apL a4, apL a5] hpc3 rfl (fun x hx => by have := (hl5 x hx).2; lia) _ _) _ _ _ _ _ _ _ _ _ _ _ _ _ _ _ _ _ _ K0 (by k_asm) X' (by k_asm) T' rfl (fun q hq => by rw [List.mem_singleton.mp hq]; simp) ?rm ?un ?_
        case rm => exact Nat.lt_of_sub_pos (by decide)
        case un => decide
        intro r1 own1' h8 tk8 F8 N10 _ hP
        obtain ⟨rfl, t8, lw, q8, rfl, hlw, hq8, hq9⟩ := hP
        simp only [List.nil_append] at N10
        k_steps
        refine go_ ?_
        obtain ⟨⟨t10, rfl⟩, ⟨t11, rfl⟩, ⟨t12, rfl⟩, ⟨t13, rfl⟩, ⟨t14, rfl⟩, ⟨t15, rfl⟩, -⟩ := hpc3
        have hlw' : lw = PA ++ joinW (apL a0) q8 ++ SA := hlw
        have h0l := hl5 _ (List.Mem.head _)
        have h5l := hl5 (apL a5) (by first | walk_at "x_mem" | simp)
        have hjl := joinW_len (k := 4) q8 (apL a0) h0l.2 (fun p hp => ⟨by rcases hq9 p hp with e | e | e <;> (rw [e]; decide), (hl5 _ (List.Mem.tail _ (hq8 ▸ List.mem_map_of_mem hp))).2⟩)
        have hql : q8.length = 5 := by have := congrArg List.length hq8; simpa using this
        obtain ⟨rf1, rf2, rf3, rf4⟩ := reply_ok hq8 hq9 h0l.1 (fun x hx => (hl5 x (List.Mem.tail _ hx)).1) (by rw [hql] at hjl; lia) (by intro e; rw [e] at hql; cases hql)
        rw [← hlw'] at rf1 rf2 rf3 rf4
        (try k_fold)
        k_dflt refine' (c_parse_yes w _ _ _ _ _ lw _ 32 _ rf1 rf2 rf3) _ _ _ _ _ _ _ _ _ _ _ _ _ _ _ _ _ _ K0 (by k_asm) X' (by k_asm) T' rfl (fun _ h => nomatch h) ?rm ?un ?_
        case rm => exact Nat.lt_of_sub_pos (by decide)
        case un => decide
        intro r2 own2' h9 tk9 F9 N11 abf hP
        obtain ⟨fa2, fus, rfl, rfl, hfus⟩ := hP
        rw [rf4] at hfus
        simp only [List.cons_append, List.nil_append] at N11
        clear N10 F8 hlw rf3 rf1 rf2 rf4
        k_steps
        refine go_ ?_
        rename News _ _ _ _ => lN'
        rename Fr _ _ _ _ => lF'
        (try k_fold)
        k_dflt refine' kde_tupleOf (zs := [Value.bytes (byt (apL a0)) t10, .bytes (byt (apL a1)) t11, .bytes (byt (apL a2)) t12, .bytes (byt (apL a3)) t13, .bytes (byt (apL a4)) t14, .bytes (byt (apL a5)) t15]) lF' lN' (News.isList lN' (List.Mem.tail _ (List.Mem.head _))) (Nat.le_of_ble_eq_true rfl) rfl ?_
        intro tw h10 F10 N12 l10
        k_steps
        refine go_ ?_
        rename News _ _ _ _ => lN'
        refine neFalseT (xs := fus) (ys := [_, _, _, _, _, _]) (tupN (n := 0) lN' (by first | walk_at "x_mem" | simp)) (tupN (n := 0) lN' (List.Mem.head _)) (by rw [hfus.length]; rfl) (Nat.le_of_ble_eq_true rfl) (eqAt_by hfus ⟨⟨_, rfl⟩, ⟨_, rfl⟩, ⟨_, rfl⟩, ⟨_, rfl⟩, ⟨_, rfl⟩, ⟨_, rfl⟩, trivial⟩) ?_
        have N13 := news_sub (b := (fa2, ({ cls := .type "tuple", data := .seq fus.toArray } : Obj)) :: (wo, listOf [Value.bytes (byt (apL a0)) t10, .bytes (byt (apL a1)) t11, .bytes (byt (apL a2)) t12, .bytes (byt (apL a3)) t13, .bytes (byt (apL a4)) t14, .bytes (byt (apL a5)) t15].toArray bn) :: (wl, listOf wus.toArray wn) :: (L' + 1, oC2) :: (ca, listOf cus.toArray nn) :: (L' + 1 + 1 + 1, oK) :: (L' + 1 + 1, oW2) :: (61, tabObj #[]) :: (68, tabObj #[]) :: []) lN' (fun q hq => List.mem_cons_of_mem _ hq)
        clear lN'
        k_steps
        refine go_ ?_
        rename News _ _ _ _ => lN'
        refine tailV (News.isList lN' (List.Mem.tail _ (List.Mem.head _))) (by decide) rfl (by decide) ?_
        k_steps
        refine go_ (badd (l := PC) (by decide +kernel) rfl (by have := h0l.2; simp [PC]; lia) fun t16 k16 => ?_)
        k_steps
        refine go_ ?_
        (try k_fold)
        k_dflt refine' (c_parse_no w _ _ _ _ _ (PC ++ apL a0) _ (open_no h0l.1 (by lia))) _ _ _ _ _ _ _ _ _ _ _ _ _ _ _ _ _ _ K0 (by k_asm) X' (by k_asm) T' rfl (fun _ h => nomatch h) ?rm ?un ?_
        case rm => exact Nat.lt_of_sub_pos (by decide)
        case un => decide
        intro r3 own3' h11 tk11 F11 N14 _ hP
        obtain ⟨na, rfl, rfl⟩ := hP
        simp only [List.cons_append, List.nil_append] at N14
        k_steps
        refine go_ ?_
        rename News _ _ _ _ => lN'
        refine neFalseT (xs := []) (ys := []) (tupN (n := 0) lN' (List.Mem.tail _ (List.Mem.head _))) (tupN (n := 0) lN' (List.Mem.head _)) rfl (Nat.le_of_ble_eq_true rfl) (fun j h1 => absurd h1 (Nat.not_lt_zero _)) ?_
        have N15 := news_sub (b := (fa2, ({ cls := .type "tuple", data := .seq fus.toArray } : Obj)) :: (wo, listOf [Value.bytes (byt (apL a0)) t10, .bytes (byt (apL a1)) t11, .bytes (byt (apL a2)) t12, .bytes (byt (apL a3)) t13, .bytes (byt (apL a4)) t14, .bytes (byt (apL a5)) t15].toArray bn) :: (wl, listOf wus.toArray wn) :: (L' + 1, oC2) :: (ca, listOf cus.toArray nn) :: (L' + 1 + 1 + 1, oK) :: (L' + 1 + 1, oW2) :: (61, tabObj #[]) :: (68, tabObj #[]) :: []) lN' (fun q hq => List.mem_cons_of_mem _ (List.mem_cons_of_mem _ hq))
        clear lN'
        k_steps
        refine go_ ?_
        rename News _ _ _ _ => lN'
        refine tailV (News.isList lN' (List.Mem.tail _ (List.Mem.head _))) (by decide) rfl (by decide) ?_
        k_steps
        refine go_ (badd (l := PB) (by decide +kernel) rfl (by have := h5l.2; simp [PB]; lia) fun t17 k17 => ?_)
        k_steps
        refine go_ (badd (r := [32]) rfl (by decide +kernel) (by have := h5l.2; simp [PB]; lia) fun t18 k18 => ?_)
        k_steps
        refine go_ ?_
        rename News _ _ _ _ => lN'
        refine tailV (News.isList lN' (List.Mem.tail _ (List.Mem.head _))) (by decide) rfl (by decide) ?_
        k_steps
        refine go_ (badd rfl rfl (by have := h5l.2; have := h0l.2; simp [PB]; lia) fun t19 k19 => ?_)
        k_steps
        refine go_ (badd (r := [41, 93]) rfl (by decide +kernel) (by have := h5l.2; have := h0l.2; simp [PB]; lia) fun t20 k20 => ?_)
        k_steps
        refine go_ ?_
        obtain ⟨pf1, pf2, pf3, pf4⟩ := perm_ok h5l.1 h0l.1 (by lia) (by lia)
        have hpe : PB ++ apL a5 ++ [32] ++ apL a0 ++ [41, 93] = PB ++ joinW (apL a5) [([32], apL a0)] ++ [41, 93] := by simp [joinW]
        rw [hpe]
        (try k_fold)
        k_dflt refine' (c_parse_yes w _ _ _ _ _ _ _ 15 _ pf1 pf2 pf3) _ _ _ _ _ _ _ _ _ _ _ _ _ _ _ _ _ _ K0 (by k_asm) X' (by k_asm) T' rfl (fun _ h => nomatch h) ?rm ?un ?_
        case rm => exact Nat.lt_of_sub_pos (by decide)
        case un => decide
        intro r4 own4' h12 tk12 F12 N16 _ hP
        obtain ⟨pa, pus, rfl, rfl, hpus⟩ := hP
        rw [pf4] at hpus
        simp only [List.cons_append, List.nil_append] at N16
        clear pf1 pf2 pf3 pf4 hpe
        k_steps
        refine go_ ?_
        rename News _ _ _ _ => lN'
        refine tailV (News.isList lN' (List.Mem.tail _ (List.Mem.tail _ (List.Mem.head _)))) (by decide) rfl (by decide) ?_
        k_steps
        refine go_ ?_
        rename News _ _ _ _ => lN'
        refine tailV (News.isList lN' (List.Mem.tail _ (List.Mem.tail _ (List.Mem.head _)))) (by decide) rfl (by decide) ?_
        k_steps
        refine go_ ?_
        rename News _ _ _ _ => lN'
        refine neFalseT (xs := pus) (ys := [_, _]) (tupN (n := 0) lN' (List.Mem.tail _ (List.Mem.head _))) (tupN (n := 0) lN' (List.Mem.head _)) (by rw [hpus.length]; rfl) (Nat.le_of_ble_eq_true rfl) (eqAt_by hpus ⟨⟨_, rfl⟩, ⟨_, rfl⟩, trivial⟩) ?_
        have N17 := news_sub (b := (fa2, ({ cls := .type "tuple", data := .seq fus.toArray } : Obj)) :: (wo, listOf [Value.bytes (byt (apL a0)) t10, .bytes (byt (apL a1)) t11, .bytes (byt (apL a2)) t12, .bytes (byt (apL a3)) t13, .bytes (byt (apL a4)) t14, .bytes (byt (apL a5)) t15].toArray bn) :: (wl, listOf wus.toArray wn) :: (L' + 1, oC2) :: (ca, listOf cus.toArray nn) :: (L' + 1 + 1 + 1, oK) :: (L' + 1 + 1, oW2) :: (61, tabObj #[]) :: (68, tabObj #[]) :: []) lN' (fun q hq => List.mem_cons_of_mem _ (List.mem_cons_of_mem _ hq))
        clear lN'
        k_steps
        rename Fr _ _ _ _ => F13
        refine go_ ?_
        refine' compA (h₀ := g) ?hsw ?hclos ?hcell rfl ?hnames rfl rfl rfl ?_
        case hsw => with_unfolding_all rfl
        case hclos => with_unfolding_all rfl
        case hcell => decide
        case hnames => decide
        k_steps
        refine go_ ?_
        rename News _ _ _ _ => lN2
        rename Fr _ _ _ _ => lF2
        have hfus6 : fus.length = 6 := by rw [hfus.length]; rfl
        have hfus2 : ByVals fus ((wts cc).map apL) := by rw [hWe]; exact hfus
        refine' compTup (σ := Unit) (us := fus) (fun _ => (fa2, ({ cls := .type "tuple", data := .seq fus.toArray } : Obj)) :: (wo, listOf [Value.bytes (byt (apL a0)) t10, .bytes (byt (apL a1)) t11, .bytes (byt (apL a2)) t12, .bytes (byt (apL a3)) t13, .bytes (byt (apL a4)) t14, .bytes (byt (apL a5)) t15].toArray bn) :: (wl, listOf wus.toArray wn) :: (L' + 1, oC2) :: (ca, listOf cus.toArray nn) :: (L' + 1 + 1 + 1, oK) :: (L' + 1 + 1, oW2) :: (61, tabObj #[]) :: (68, tabObj #[]) :: []) (fun i _ ys => Lns ys ((wts cc).take i)) () rfl (tupN (n := 0) lN2 (List.Mem.head _)) (by lia) lF2 lN2 ?hp ?_ ?_
        case hp => exact trivial
        · --{{
          intro i _ v ys C D I oL E' h13 tk13 own nn2 hiv hlen2 hpc4 hoff hown hoI hC hD3 hDC hI2 hns2 hLC F5 N7
          (try k_fold)
          have hi6 : i < 6 := by have := (List.getElem?_eq_some_iff.mp hiv).1; lia
          obtain ⟨x, hx⟩ : ∃ x, (wts cc)[i]? = some x := ⟨_, List.getElem?_eq_getElem (by lia)⟩
          obtain ⟨xb, tv, hxb, rfl⟩ := hfus2.get i v hiv
          rw [List.getElem?_map, hx] at hxb
          cases Option.some.inj hxb
          obtain ⟨hx1, hx2⟩ := hw0 x (List.mem_of_getElem? hx)
          have hxl := apL_len hx2
          k_steps
          walk_at "m_clean"
          refine go_ (KBd.method ?_)
          k_steps
          (try walk_at "m_clean")
          refine go_ (decA (l := apL x) (fun z hz => by have := apL_mem hz; lia) (by lia) (ap_ne (by lia)) fun t21 k21 => ?_)
          k_steps
          (try walk_at "m_clean")
          refine go_ (KXw.rjust (y := tx (lineL x)) (rjust_tx _ (by lia)) (by decide) fun t22 k22 => ?_)
          k_steps
          (try walk_at "m_clean")
          rename News _ _ _ _ => lN'
          rename Fr _ _ _ _ => lF'
          refine go_ (cend () lF' lN' (fun p hp => hp) hoff ?_)
          rw [List.take_add_one, hx]
          exact Lns.snoc _ _ hpc4
        · intro lo h13 tk13 lus _ ln hD3 F5 N7 hne3 hlen3 hpc4
          rw [hfus6, show (wts cc).take 6 = wts cc from List.take_of_length_le (by lia)] at hpc4
          have N8 : News g L' h13 ((lo, listOf lus.toArray ln) :: (fa2, ({ cls := .type "tuple", data := .seq fus.toArray } : Obj)) :: (wo, listOf [Value.bytes (byt (apL a0)) t10, .bytes (byt (apL a1)) t11, .bytes (byt (apL a2)) t12, .bytes (byt (apL a3)) t13, .bytes (byt (apL a4)) t14, .bytes (byt (apL a5)) t15].toArray bn) :: (wl, listOf wus.toArray wn) :: (L' + 1, oC2) :: (ca, listOf cus.toArray nn) :: (L' + 1 + 1 + 1, oK) :: (L' + 1 + 1, oW2) :: (61, tabObj #[]) :: (68, tabObj #[]) :: []) := N7
          have nlo := ltN (Nat.lt_of_lt_of_le (news_lt lN2 (wl, listOf wus.toArray wn) (by first | walk_at "x_mem" | simp)) hD3)
          have nlo2 := ltN (Nat.lt_of_lt_of_le (news_lt lN2 (wo, listOf [Value.bytes (byt (apL a0)) t10, .bytes (byt (apL a1)) t11, .bytes (byt (apL a2)) t12, .bytes (byt (apL a3)) t13, .bytes (byt (apL a4)) t14, .bytes (byt (apL a5)) t15].toArray bn) (by first | walk_at "x_mem" | simp)) hD3)
          dsimp only at nlo nlo2
          have N9 := news_sub (b := (lo, listOf lus.toArray ln) :: (wo, listOf [Value.bytes (byt (apL a0)) t10, .bytes (byt (apL a1)) t11, .bytes (byt (apL a2)) t12, .bytes (byt (apL a3)) t13, .bytes (byt (apL a4)) t14, .bytes (byt (apL a5)) t15].toArray bn) :: (wl, listOf wus.toArray wn) :: (L' + 1, oC2) :: (ca, listOf cus.toArray nn) :: (L' + 1 + 1 + 1, oK) :: (L' + 1 + 1, oW2) :: (61, tabObj #[]) :: (68, tabObj #[]) :: []) N8 (by
            walk_at "x_sub")
          clear N7 N8 hne3 lN2 lF2
          obtain ⟨R8, hR8⟩ : ∃ R8 : List (Addr × Obj), R8 = [(lo, listOf lus.toArray ln), (wo, listOf [Value.bytes (byt (apL a0)) t10, .bytes (byt (apL a1)) t11, .bytes (byt (apL a2)) t12, .bytes (byt (apL a3)) t13, .bytes (byt (apL a4)) t14, .bytes (byt (apL a5)) t15].toArray bn), (wl, listOf wus.toArray wn), (L' + 1, oC2), (ca, listOf cus.toArray nn), (L' + 1 + 1 + 1, oK), (L' + 1 + 1, oW2), (61, tabObj #[])] := ⟨_, rfl⟩
          have N10 : News g L' h13 (R8 ++ tB none) := by rw [hR8]; exact N9
          have m_lo : (lo, listOf lus.toArray ln) ∈ R8 := by rw [hR8]; first | walk_at "x_mem" | simp
          have m_wo : (wo, listOf [Value.bytes (byt (apL a0)) t10, .bytes (byt (apL a1)) t11, .bytes (byt (apL a2)) t12, .bytes (byt (apL a3)) t13, .bytes (byt (apL a4)) t14, .bytes (byt (apL a5)) t15].toArray bn) ∈ R8 := by rw [hR8]; first | walk_at "x_mem" | simp
          have m_wl : (wl, listOf wus.toArray wn) ∈ R8 := by rw [hR8]; first | walk_at "x_mem" | simp
          have m_C : (L' + 1, oC2) ∈ R8 := by rw [hR8]; first | walk_at "x_mem" | simp
          have m_K : (L' + 1 + 1 + 1, oK) ∈ R8 := by rw [hR8]; first | walk_at "x_mem" | simp
          have m_W : (L' + 1 + 1, oW2) ∈ R8 := by rw [hR8]; first | walk_at "x_mem" | simp
          have m_t : (61, tabObj #[]) ∈ R8 := by rw [hR8]; first | walk_at "x_mem" | simp
          have ap0 : Apart (tB none) R8 := by
            intro q hq r hr2
            rw [hR8] at hq
            rw [List.mem_singleton.mp hr2]
            simp only [List.mem_cons, List.not_mem_nil, or_false] at hq
            rcases hq with rfl | rfl | rfl | rfl | rfl | rfl | rfl | rfl <;> exact neN (by dsimp only; lia)
          have hlus6 : lus.length = 6 := by lia
          clear N9
          k_steps
          refine go_ ?_
          refine' compL (h₀ := g) ?hclos ?hcell rfl ?hnames rfl ?_
          case hclos => with_unfolding_all rfl
          case hcell => decide
          case hnames => decide
          k_steps
          refine go_ ?_
          rename News _ _ _ _ => lN2
          rename Fr _ _ _ _ => lF2
          refine' compList (σ := Option (Addr × Obj)) (us := lus) (fun c => R8 ++ tB c) (fun i c ys => IntsAre ys (natsI ((wts cc).take i)) ∧ Apart (tB c) R8 ∧ tOk q2 c) none rfl (lstN (us := lus) (n := ln) lN2 (List.mem_append_left _ m_lo)) (by lia) lF2 lN2 ?hp ?_ ?_
          case hp => exact ⟨.nil, ap0, trivial⟩
          · --{{
            intro i c v ys C D I oL E' h14 tk14 own nn2 hiv hlen4 hpc5 hoff hown hoI hC hD4 hDC hI2 hns2 hLC F6 N11
            obtain ⟨y1, y2, y3⟩ := hpc5
            have hi6 : i < 6 := by have := (List.getElem?_eq_some_iff.mp hiv).1; lia
            obtain ⟨x, hx⟩ : ∃ x, (wts cc)[i]? = some x := ⟨_, List.getElem?_eq_getElem (by lia)⟩
            obtain ⟨tv, htv⟩ := hpc4.get i x hx
            have hvv : v = .str (tx (lineL x)) tv := by rw [htv] at hiv; exact (Option.some.inj hiv).symm
            subst hvv
            obtain ⟨hx1, hx2⟩ := hw0 x (List.mem_of_getElem? hx)
            have hDL : L' < D := Nat.lt_of_lt_of_le lF2.ns.lt hD4
            have hIL : L' < I := Nat.lt_of_lt_of_le lF2.ns.lt hI2
            have hoff2 : ∀ q ∈ R8 ++ tB c, q.1 ∉ [I] ∧ q.1 ≠ C ∧ q.1 ≠ D ∧ q.1 ≠ L' := hoff
            have hownI : ∀ q ∈ own, q.1 = I ∨ q.1 = lo := hown
            have N12 : News g C h14 ((L', oL) :: (D, listOf ys.toArray nn2) :: (own ++ (R8 ++ tB c))) := N11
            have N13 := news_sub (b := (L', oL) :: (tB c ++ ((D, listOf ys.toArray nn2) :: (own ++ R8)))) N12 (by
              walk_at "x_sub")
            clear N11 N12
            have ap1 : Apart (tB c) ((D, listOf ys.toArray nn2) :: (own ++ R8)) := by
              refine all_cons ?_ (all_app ?_ ?_)
              · intro r hr2; exact ((hoff2 r (List.mem_append_right _ hr2)).2.2.1).symm
              · intro q h r hr2
                rcases hownI q h with h1 | h1
                · rw [h1]; exact fun e => (hoff2 r (List.mem_append_right _ hr2)).1 (by rw [← e]; exact List.Mem.head _)
                · rw [h1]; exact y2 _ m_lo r hr2
              · intro q h r hr2; exact y2 q h r hr2
            have hr5 : ∀ q ∈ tB c ++ ((D, listOf ys.toArray nn2) :: (own ++ R8)), q.1 ≠ L' := by
              refine all_app ?_ (all_cons ?_ (all_app ?_ ?_))
              · intro q h; exact (hoff2 q (List.mem_append_right _ h)).2.2.2
              · exact Nat.ne_of_gt hDL
              · intro q h
                rcases hownI q h with h1 | h1
                · rw [h1]; exact Nat.ne_of_gt hIL
                · rw [h1]; exact (hoff2 _ (List.mem_append_left _ m_lo)).2.2.2
              · intro q h; exact (hoff2 q (List.mem_append_left _ h)).2.2.2
            k_steps
            walk_at "m_clean"
            refine go_ ?_
            (try k_fold)
            k_dflt refine' callCP (c_readN w _ _ _ _ _ x _ (by lia) (by lia)) K0 F6 X' N13 ap1 y3 hns2 hLg hr5 T' rfl (fun _ h => nomatch h) ?rm ?un (pvCP fun t23 e7 h15 tk15 oL2 F7 N14 ap2 hCt ok7 hsv => ?_)
            case rm => exact Nat.lt_of_sub_pos (by decide)
            case un => decide
            clear N13
            k_steps
            (try walk_at "m_clean")
            refine go_ (cendO (some e7) hsv F7 (news_sub (b := (L', oL2) :: (D, listOf ys.toArray nn2) :: (own ++ (R8 ++ tB (some e7)))) N14 ?sub) (fun p hp => hp) ?_ ?_)
            case sub =>
              walk_at "x_sub"
            · intro q hq
              obtain ⟨oI, hoI⟩ := hoI
              rcases List.mem_append.mp hq with h | h
              · exact hoff2 q (List.mem_append_left _ h)
              · refine ⟨fun h2 => ap2 (I, oI) (by first | walk_at "x_mem" | simp [hoI]) q h (List.mem_singleton.mp h2).symm, hCt q h, (ap2 (D, listOf ys.toArray nn2) (by first | walk_at "x_mem" | simp) q h).symm, (ap2 (L', oL) (List.Mem.head _) q h).symm⟩
            · refine ⟨?_, fun q hq => ap2 q (by first | walk_at "x_mem" | simp [hq]), ok7⟩
              rw [List.take_add_one, hx, natsI_append]
              exact IntsAre.append y1 (.cons _ _ .nil)
          · intro ro h14 tk14 rus c8 rn hD4 F6 N11 hne4 hlen4 hpc5
            rw [hlus6, show (wts cc).take 6 = wts cc from List.take_of_length_le (by lia)] at hpc5
            obtain ⟨y1, y2, y3⟩ := hpc5
            have N12 : News g L' h14 ((ro, listOf rus.toArray rn) :: (R8 ++ tB c8)) := N11
            clear N11 hne4
            rw [hR8] at N12
            simp only [List.cons_append, List.nil_append] at N12
            k_steps
            refine go_ ?_
            rename News _ _ _ _ => lN'
            refine ke_ne_ints (lstN (a := ro) (us := rus) (n := rn) lN' (List.Mem.head _)) (lstN (a := wl) (us := wus) (n := wn) lN' (by first | walk_at "x_mem" | simp)) y1 hpc (Nat.le_of_ble_eq_true rfl) ?_
            rw [show (!decide (natsI (wts cc) = natsI (wts cc))) = false by simp]
            have N13 := news_sub (b := R8 ++ tB c8) lN' (fun q hq => by rw [hR8] at hq; exact List.mem_cons_of_mem _ hq)
            rw [hR8] at N13
            simp only [List.cons_append, List.nil_append] at N13
            clear lN'
            have N14 := news_sub (b := R8 ++ tB c8) N13 (by rw [hR8]; exact fun q hq => hq)
            clear N13
            k_steps
            refine go_ ?_
            refine' compL (h₀ := g) ?hclos ?hcell rfl ?hnames rfl ?_
            case hclos => with_unfolding_all rfl
            case hcell => decide
            case hnames => decide
            k_steps
            refine go_ ?_
            rename News _ _ _ _ => lN2
            rename Fr _ _ _ _ => lF2
            refine' compList (σ := Unit) (us := lus) (fun _ => R8 ++ tB c8) (fun i _ ys => Txs ys (((wts cc).map fun x => (lineL x).drop 1).take i)) () rfl (lstN (us := lus) (n := ln) lN2 (List.mem_append_left _ m_lo)) (by lia) lF2 lN2 ?hp ?_ ?_
            case hp => exact trivial
            · --{{
              intro i _ v ys C D I oL E' h14 tk14 own nn2 hiv hlen5 hpc6 hoff hown hoI hC hD5 hDC hI2 hns2 hLC F7 N15
              (try k_fold)
              have hi6 : i < 6 := by have := (List.getElem?_eq_some_iff.mp hiv).1; lia
              obtain ⟨x, hx⟩ : ∃ x, (wts cc)[i]? = some x := ⟨_, List.getElem?_eq_getElem (by lia)⟩
              obtain ⟨tv, htv⟩ := hpc4.get i x hx
              have hvv : v = .str (tx (lineL x)) tv := by rw [htv] at hiv; exact (Option.some.inj hiv).symm
              subst hvv
              obtain ⟨hx1, hx2⟩ := hw0 x (List.mem_of_getElem? hx)
              have hDL : L' < D := Nat.lt_of_lt_of_le lF2.ns.lt hD5
              have hIL : L' < I := Nat.lt_of_lt_of_le lF2.ns.lt hI2
              have hoff2 : ∀ q ∈ R8 ++ tB c8, q.1 ∉ [I] ∧ q.1 ≠ C ∧ q.1 ≠ D ∧ q.1 ≠ L' := hoff
              have N16 : News g C h14 ((L', oL) :: (D, listOf ys.toArray nn2) :: (own ++ (R8 ++ tB c8))) := N15
              clear N15
              have hr5 : ∀ q ∈ (D, listOf ys.toArray nn2) :: (own ++ (R8 ++ tB c8)), q.1 ≠ L' := by
                refine all_cons ?_ (all_app ?_ ?_)
                · exact Nat.ne_of_gt hDL
                · intro q h
                  rcases hown q h with h1 | h1
                  · rw [h1]; exact Nat.ne_of_gt hIL
                  · rw [h1]; exact (hoff2 (lo, listOf lus.toArray ln) (List.mem_append_left _ m_lo)).2.2.2
                · intro q h; exact (hoff2 q (by first | walk_at "x_mem" | (simp only [List.mem_append, List.mem_cons]; exact h))).2.2.2
              k_steps
              walk_at "m_clean"
              refine go_ ?_
              (try k_fold)
              k_dflt refine' callC (c_strip1 w _ _ _ _ _ x _ _ (by lia) (by lia)) K0 F7 X' N16 hns2 hLg hr5 T' rfl (fun _ h => nomatch h) ?rm ?un (pvC fun t23 h15 tk15 oL2 F8 N17 hsv => ?_)
              case rm => exact Nat.lt_of_sub_pos (by decide)
              case un => decide
              k_steps
              (try walk_at "m_clean")
              refine go_ (cendO () hsv F8 N17 (fun p hp => hp) hoff ?_)
              have hxm : ((wts cc).map fun x => (lineL x).drop 1)[i]? = some ((lineL x).drop 1) := by rw [List.getElem?_map, hx]; rfl
              rw [List.take_add_one, hxm]
              exact Txs.snoc _ _ hpc6
            · intro so h14 tk14 sus _ sn hD5 F7 N15 hne5 hlen5 hpc6
              rw [hlus6, show ((wts cc).map fun x => (lineL x).drop 1).take 6 = (wts cc).map fun x => (lineL x).drop 1 from List.take_of_length_le (by simp; lia)] at hpc6
              have N16 : News g L' h14 ((so, listOf sus.toArray sn) :: (R8 ++ tB c8)) := N15
              clear N15 hne5
              k_steps
              refine go_ ?_
              refine' compL (h₀ := g) ?hclos ?hcell rfl ?hnames rfl ?_
              case hclos => with_unfolding_all rfl
              case hcell => decide
              case hnames => decide
              k_steps
              refine go_ ?_
              rename News _ _ _ _ => lN2
              rename Fr _ _ _ _ => lF2
              refine' compList (σ := Unit) (us := lus) (fun _ => (so, listOf sus.toArray sn) :: (R8 ++ tB c8)) (fun i _ ys => Txs ys (((wts cc).map fun x => (lineL x).drop 1).take i)) () rfl (lstN (us := lus) (n := ln) lN2 (List.mem_cons_of_mem _ (List.mem_append_left _ m_lo))) (by lia) lF2 lN2 ?hp ?_ ?_
              case hp => exact trivial
              · --{{
                intro i _ v ys C D I oL E' h15 tk15 own nn2 hiv hlen6 hpc7 hoff hown hoI hC hD6 hDC hI2 hns2 hLC F8 N17
                (try k_fold)
                have hi6 : i < 6 := by have := (List.getElem?_eq_some_iff.mp hiv).1; lia
                obtain ⟨x, hx⟩ : ∃ x, (wts cc)[i]? = some x := ⟨_, List.getElem?_eq_getElem (by lia)⟩
                obtain ⟨tv, htv⟩ := hpc4.get i x hx
                have hvv : v = .str (tx (lineL x)) tv := by rw [htv] at hiv; exact (Option.some.inj hiv).symm
                subst hvv
                obtain ⟨hx1, hx2⟩ := hw0 x (List.mem_of_getElem? hx)
                have hDL : L' < D := Nat.lt_of_lt_of_le lF2.ns.lt hD6
                have hIL : L' < I := Nat.lt_of_lt_of_le lF2.ns.lt hI2
                have hoff2 : ∀ q ∈ (so, listOf sus.toArray sn) :: (R8 ++ tB c8), q.1 ∉ [I] ∧ q.1 ≠ C ∧ q.1 ≠ D ∧ q.1 ≠ L' := hoff
                have N18 : News g C h15 ((L', oL) :: (D, listOf ys.toArray nn2) :: (own ++ ((so, listOf sus.toArray sn) :: (R8 ++ tB c8)))) := N17
                clear N17
                have hr5 : ∀ q ∈ (D, listOf ys.toArray nn2) :: (own ++ ((so, listOf sus.toArray sn) :: (R8 ++ tB c8))), q.1 ≠ L' := by
                  refine all_cons ?_ (all_app ?_ ?_)
                  · exact Nat.ne_of_gt hDL
                  · intro q h
                    rcases hown q h with h1 | h1
                    · rw [h1]; exact Nat.ne_of_gt hIL
                    · rw [h1]; exact (hoff2 (lo, listOf lus.toArray ln) (List.mem_cons_of_mem _ (List.mem_append_left _ m_lo))).2.2.2
                  · intro q h; exact (hoff2 q (by first | walk_at "x_mem" | (simp only [List.mem_append, List.mem_cons]; exact h))).2.2.2
                k_steps
                walk_at "m_clean"
                refine go_ ?_
                rename News _ _ _ _ => lN'
                rename Fr _ _ _ _ => lF'
                have hl6 := lineW_len 6 x (by lia)
                refine slice_strN_sn (hsz := by rw [tx_len, hl6, sizeLine_eq]; lia) (s := ⟨_, _, _, _, _⟩) lF' lN' fun h16 t24 k24 F9 N20 => ?_
                rw [slice_from _ (by rw [hl6]; lia)]
                k_steps
                (try walk_at "m_clean")
                refine go_ (cend () F9 N20 (fun p hp => hp) hoff ?_)
                have hxm : ((wts cc).map fun x => (lineL x).drop 1)[i]? = some ((lineL x).drop 1) := by rw [List.getElem?_map, hx]; rfl
                rw [List.take_add_one, hxm]
                exact Txs.snoc _ _ hpc7
              · intro zo h15 tk15 zus _ zn hD6 F8 N17 hne6 hlen6 hpc7
                rw [hlus6, show ((wts cc).map fun x => (lineL x).drop 1).take 6 = (wts cc).map fun x => (lineL x).drop 1 from List.take_of_length_le (by simp; lia)] at hpc7
                have N18 : News g L' h15 ((zo, listOf zus.toArray zn) :: (so, listOf sus.toArray sn) :: (R8 ++ tB c8)) := N17
                clear N17 hne6
                k_steps
                refine go_ ?_
                rename News _ _ _ _ => lN'
                refine neFalseL (xs := sus) (ys := zus) (lstN (n := sn) lN' (List.Mem.tail _ (List.Mem.head _))) (lstN (n := zn) lN' (List.Mem.head _)) (by rw [hpc6.len, hpc7.len]) (Nat.le_of_ble_eq_true rfl) (eqAt_tx hpc6 hpc7) ?_
                have N19 := news_sub (b := R8 ++ tB c8) lN' (fun q hq => List.mem_cons_of_mem _ (List.mem_cons_of_mem _ hq))
                clear lN'
                k_steps
                refine go_ ?_
                refine' compL (h₀ := g) ?hclos ?hcell rfl ?hnames rfl ?_
                case hclos => with_unfolding_all rfl
                case hcell => decide
                case hnames => decide
                k_steps
                refine go_ ?_
                rename News _ _ _ _ => lN2
                rename Fr _ _ _ _ => lF2
                refine' compList (σ := Unit) (us := lus) (fun _ => R8 ++ tB c8) (fun i _ ys => ByVals ys (((wts cc).map apL).take i)) () rfl (lstN (us := lus) (n := ln) lN2 (List.mem_append_left _ m_lo)) (by lia) lF2 lN2 ?hp ?_ ?_
                case hp => exact trivial
                · --{{
                  intro i _ v ys C D I oL E' h14 tk14 own nn2 hiv hlen5 hpc6 hoff hown hoI hC hD5 hDC hI2 hns2 hLC F7 N15
                  (try k_fold)
                  have hi6 : i < 6 := by have := (List.getElem?_eq_some_iff.mp hiv).1; lia
                  obtain ⟨x, hx⟩ : ∃ x, (wts cc)[i]? = some x := ⟨_, List.getElem?_eq_getElem (by lia)⟩
                  obtain ⟨tv, htv⟩ := hpc4.get i x hx
                  have hvv : v = .str (tx (lineL x)) tv := by rw [htv] at hiv; exact (Option.some.inj hiv).symm
                  subst hvv
                  obtain ⟨hx1, hx2⟩ := hw0 x (List.mem_of_getElem? hx)
                  have hDL : L' < D := Nat.lt_of_lt_of_le lF2.ns.lt hD5
                  have hIL : L' < I := Nat.lt_of_lt_of_le lF2.ns.lt hI2
                  have hoff2 : ∀ q ∈ R8 ++ tB c8, q.1 ∉ [I] ∧ q.1 ≠ C ∧ q.1 ≠ D ∧ q.1 ≠ L' := hoff
                  have N16 : News g C h14 ((L', oL) :: (D, listOf ys.toArray nn2) :: (own ++ (R8 ++ tB c8))) := N15
                  clear N15
                  have hr5 : ∀ q ∈ (D, listOf ys.toArray nn2) :: (own ++ (R8 ++ tB c8)), q.1 ≠ L' := by
                    refine all_cons ?_ (all_app ?_ ?_)
                    · exact Nat.ne_of_gt hDL
                    · intro q h
                      rcases hown q h with h1 | h1
                      · rw [h1]; exact Nat.ne_of_gt hIL
                      · rw [h1]; exact (hoff2 (lo, listOf lus.toArray ln) (List.mem_append_left _ m_lo)).2.2.2
                    · intro q h; exact (hoff2 q (by first | walk_at "x_mem" | (simp only [List.mem_append, List.mem_cons]; exact h))).2.2.2
                  have hl6 := lineW_len 6 x (by lia)
                  k_steps
                  walk_at "m_clean"
                  refine go_ (sadd (b := [32]) rfl (by decide +kernel) (by rw [hl6]; decide) fun t24 k24 => ?_)
                  k_steps
                  (try walk_at "m_clean")
                  refine go_ ?_
                  (try k_fold)
                  k_dflt refine' callC (c_strip7 w _ _ _ _ _ x _ _ (by lia) (by lia)) K0 F7 X' N16 hns2 hLg hr5 T' rfl (fun _ h => nomatch h) ?rm ?un (pvC fun t23 h15 tk15 oL2 F8 N17 hsv => ?_)
                  case rm => exact Nat.lt_of_sub_pos (by decide)
                  case un => decide
                  k_steps
                  (try walk_at "m_clean")
                  refine go_ (encA (l := apL x) (fun z hz => by have := apL_mem hz; lia) (by have := apL_len hx2; lia) fun t25 k25 => ?_)
                  k_steps
                  (try walk_at "m_clean")
                  refine go_ (cendO () hsv F8 N17 (fun p hp => hp) hoff ?_)
                  have hxm : ((wts cc).map apL)[i]? = some (apL x) := by rw [List.getElem?_map, hx]; rfl
                  rw [List.take_add_one, hxm]
                  exact ByVals.snoc _ _ hpc6
                · intro eo h16 tk16 eus _ en hD7 F9 N20 hne7 hlen7 hpc8
                  rw [hlus6, show ((wts cc).map apL).take 6 = (wts cc).map apL from List.take_of_length_le (by simp; lia)] at hpc8
                  have N21 : News g L' h16 ((eo, listOf eus.toArray en) :: (R8 ++ tB c8)) := N20
                  clear N20 hne7
                  k_steps
                  refine go_ ?_
                  rename News _ _ _ _ => lN'
                  refine neFalseL (xs := eus) (ys := [Value.bytes (byt (apL a0)) t10, .bytes (byt (apL a1)) t11, .bytes (byt (apL a2)) t12, .bytes (byt (apL a3)) t13, .bytes (byt (apL a4)) t14, .bytes (byt (apL a5)) t15]) (lstN (n := en) lN' (List.Mem.head _)) (lstN (n := bn) lN' (List.mem_cons_of_mem _ (List.mem_append_left _ m_wo))) (by rw [hpc8.length, hWe]; rfl) (Nat.le_of_ble_eq_true rfl) (eqAt_by hpc8 (by rw [hWe]; exact ⟨⟨_, rfl⟩, ⟨_, rfl⟩, ⟨_, rfl⟩, ⟨_, rfl⟩, ⟨_, rfl⟩, ⟨_, rfl⟩, trivial⟩)) ?_
                  have N22 := news_sub (b := R8 ++ tB c8) lN' (fun q hq => List.mem_cons_of_mem _ hq)
                  clear lN'
                  rw [hR8] at N22
                  simp only [List.cons_append, List.nil_append] at N22
                  k_steps
                  refine go_ (For_G ?_)
                  k_steps
                  refine go_ ?_
                  rename News _ _ _ _ => lN2
                  rename Fr _ _ _ _ => lF2
                  rename IsRange _ _ _ _ _ _ _ _ => rg5
                  have N23 := news_sub (b := (L' + 1 + 1, oW2) :: (lo, listOf lus.toArray ln) :: (wl, listOf wus.toArray wn) :: (R8 ++ tB c8)) lN2 (by
                    exact all_cons (by walk_at "x_mem") (all_cons (by walk_at "x_mem") (all_cons (by walk_at "x_mem") (by rw [hR8]; dsimp only [List.cons_append, List.nil_append]; walk_at "x_sub"))))
                  refine' loopRange (σ := Unit) (n := 6) (fun _ => (L' + 1 + 1, oW2) :: (lo, listOf lus.toArray ln) :: (wl, listOf wus.toArray wn) :: (R8 ++ tB c8)) (fun _ => []) [PySem.Str.ofString "j", PySem.Str.ofString "k", PySem.Str.ofString "order"] (fun _ _ => True) () rfl rg5 ?_ ?_ lF2 N23 trivial trivial ?_ ?_ (hE := hPO)
                  · exact small_up (by lia) (by lia) (by lia) (by lia)
                  · rw [rangeSize_one]; rfl
                  · --{{
                    rintro j _ t30 I ts5 u5 h17 tk17 own5 hj6 _ hoff5 hown5 hz13 F10 N24
                    (try k_fold)
                    obtain ⟨oI5, hoI5⟩ := hz13
                    dsimp only [psAt] at F10
                    have N25 := news_sub (b := (L' + 1 + 1, oW2) :: (lo, listOf lus.toArray ln) :: (wl, listOf wus.toArray wn) :: (R8 ++ tB c8 ++ own5)) N24 (by
                      walk_at "x_sub")
                    clear N24
                    k_steps
                    refine go_ (For_G ?_)
                    k_steps
                    refine go_ ?_
                    rename News _ _ _ _ => lN3
                    rename Fr _ _ _ _ => lF3
                    rename IsRange _ _ _ _ _ _ _ _ => rg6
                    obtain ⟨xj, hxj⟩ : ∃ x, (wts cc)[j]? = some x := ⟨_, List.getElem?_eq_getElem (by lia)⟩
                    obtain ⟨tj, htj⟩ := hpc4.get j xj hxj
                    have hxj2 := hw0 xj (List.mem_of_getElem? hxj)
                    refine' loopRange (σ := Unit) (n := 6) (fun _ => (L' + 1 + 1, oW2) :: (lo, listOf lus.toArray ln) :: (wl, listOf wus.toArray wn) :: (R8 ++ tB c8 ++ own5)) (fun _ => []) [PySem.Str.ofString "k", PySem.Str.ofString "order"] (fun _ _ => True) () rfl rg6 ?_ ?_ lF3 lN3 trivial trivial ?_ ?_ (hE := hPO)
                    · exact small_up (by lia) (by lia) (by lia) (by lia)
                    · rw [rangeSize_one]; rfl
                    · rintro k _ t31 I6 ts6 u6 h18 tk18 own6 hk6 _ hoff6 hown6 hz13 F11 N26
                      (try k_fold)
                      obtain ⟨oI6, hoI6⟩ := hz13
                      dsimp only [psAt] at F11
                      obtain ⟨xk, hxk⟩ : ∃ x, (wts cc)[k]? = some x := ⟨_, List.getElem?_eq_getElem (by lia)⟩
                      obtain ⟨tk9, htk⟩ := hpc4.get k xk hxk
                      have hxk2 := hw0 xk (List.mem_of_getElem? hxk)
                      have N27 := news_sub (b := (L' + 1 + 1, oW2) :: (lo, listOf lus.toArray ln) :: (wl, listOf wus.toArray wn) :: (R8 ++ tB c8 ++ own5 ++ own6)) N26 (by
                        walk_at "x_sub")
                      clear N26
                      k_steps
                      refine go_ ?_
                      rename News _ _ _ _ => lN'
                      refine tailV (lstN (a := lo) (us := lus) (n := ln) lN' (List.Mem.tail _ (List.Mem.head _))) (by lia) (x := .str (tx (lineL xj)) tj) ?_ (by lia) ?_
                      · rw [z0 j]; exact htj
                      k_steps
                      refine go_ ?_
                      rename News _ _ _ _ => lN'
                      refine tailV (lstN (a := lo) (us := lus) (n := ln) lN' (List.Mem.tail _ (List.Mem.head _))) (by lia) (x := .str (tx (lineL xk)) tk9) ?_ (by lia) ?_
                      · rw [z0 k]; exact htk
                      k_steps
                      refine go_ ?_
                      (try k_fold)
                      k_dflt refine' (c_collN w _ _ _ _ _ xj xk _ _ (by lia) (by lia)) _ _ _ _ _ _ _ _ _ _ _ _ _ _ _ _ _ _ K0 (by k_asm) X' (by k_asm) T' rfl (fun _ h => nomatch h) ?rm ?un (pv fun t32 h19 tk19 F12 N28 => ?_)
                      case rm => exact Nat.lt_of_sub_pos (by decide)
                      case un => decide
                      have hgj : (natsI (wts cc)).getD (0 + (j : Int)).toNat 0 = (xj : Int) := by
                        rw [z0 j, natsI_getD, List.getD_eq_getElem?_getD, hxj]; rfl
                      have hgk : (natsI (wts cc)).getD (0 + (k : Int)).toNat 0 = (xk : Int) := by
                        rw [z0 k, natsI_getD, List.getD_eq_getElem?_getD, hxk]; rfl
                      have hnl : (natsI (wts cc)).length = 6 := by simp [natsI, hW6]
                      k_steps
                      refine go_ ?_
                      rename News _ _ _ _ => lN'
                      refine tailN (lstN (a := wl) (us := wus) (n := wn) lN' (List.Mem.tail _ (List.Mem.tail _ (List.Mem.head _)))) hpc (by lia) (by rw [hnl]; lia) (by lia) fun t33 => ?_
                      rw [hgj]
                      k_steps
                      refine go_ ?_
                      rename News _ _ _ _ => lN'
                      refine tailN (lstN (a := wl) (us := wus) (n := wn) lN' (List.Mem.tail _ (List.Mem.tail _ (List.Mem.head _)))) hpc (by lia) (by rw [hnl]; lia) (by lia) fun t33 => ?_
                      rw [hgk]
                      k_steps
                      refine go_ ?_
                      rename News _ _ _ _ => lN'
                      refine tailN (lstN (a := wl) (us := wus) (n := wn) lN' (List.Mem.tail _ (List.Mem.tail _ (List.Mem.head _)))) hpc (by lia) (by rw [hnl]; lia) (by lia) fun t33 => ?_
                      rw [hgj]
                      k_steps
                      refine go_ ?_
                      rename News _ _ _ _ => lN'
                      refine tailN (lstN (a := wl) (us := wus) (n := wn) lN' (List.Mem.tail _ (List.Mem.tail _ (List.Mem.head _)))) hpc (by lia) (by rw [hnl]; lia) (by lia) fun t33 => ?_
                      rw [hgk]
                      k_steps
                      · rename cmpN _ _ ≠ _ => hx
                        exact absurd (cmp_b2i xj xk) hx
                      · rename News _ _ _ _ => lN'
                        rename Fr _ _ _ _ => lF'
                        refine go_ (fend () lF' (news_sub (b := own6 ++ ((L' + 1 + 1, oW2) :: (lo, listOf lus.toArray ln) :: (wl, listOf wus.toArray wn) :: (R8 ++ tB c8 ++ own5))) lN' ?sb1) (fun q hq => hq) hoff6 (by walk_at "m_loc") trivial)
                        case sb1 =>
                          walk_at "x_sub"
                    · rintro _ ts6 u6 h18 tk18 _ F11 N26
                      dsimp only [psAt] at F11
                      have N27 : News g L' h18 ((L' + 1 + 1, oW2) :: (lo, listOf lus.toArray ln) :: (wl, listOf wus.toArray wn) :: (R8 ++ tB c8 ++ own5)) := N26
                      clear N26
                      (try dsimp only)
                      k_steps
                      rename News _ _ _ _ => lN'
                      rename Fr _ _ _ _ => lF'
                      refine go_ (fend () lF' (news_sub (b := own5 ++ ((L' + 1 + 1, oW2) :: (lo, listOf lus.toArray ln) :: (wl, listOf wus.toArray wn) :: (R8 ++ tB c8))) lN' ?sb2) (fun q hq => hq) hoff5 (by walk_at "m_loc") trivial)
                      case sb2 =>
                        walk_at "x_sub"
                  · rintro _ ts5 u5 h17 tk17 _ F10 N24
                    dsimp only [psAt] at F10
                    have N25 : News g L' h17 ((L' + 1 + 1, oW2) :: (lo, listOf lus.toArray ln) :: (wl, listOf wus.toArray wn) :: (R8 ++ tB c8)) := N24
                    clear N24
                    (try dsimp only)
                    k_steps
                    refine go_ ?_
                    rename News _ _ _ _ => lN'
                    have N26 := news_sub (b := tB c8 ++ R8) lN' (by
                      walk_at "x_sub")
                    have hsum5 : (wts cc).sum < 16 ^ 5 := by
                      have hall : ∀ (l : List Nat), (∀ x ∈ l, x < 16 ^ 4) → l.sum ≤ 16 ^ 4 * l.length := by
                        intro l
                        induction l with
                        | nil => intro _; simp
                        | cons a r ih =>
                          intro h
                          have h1 := h a (List.Mem.head _)
                          have h2 := ih fun x hx => h x (List.Mem.tail _ hx)
                          simp only [List.sum_cons, List.length_cons]
                          lia
                      have := hall (wts cc) fun x hx => (hw0 x hx).2
                      rw [hW6] at this
                      lia
                    clear lN'
                    (try k_fold)
                    k_dflt refine' (c_levels w _ _ _ _ _ lo ln lus (wts cc) hpc4 hW6 hsum5 (fun x hx => by have := (hw0 x hx).1; lia)) _ _ _ _ _ _ _ _ _ _ _ _ _ _ R8 c8 _ _ _ K0 (by k_asm) X' N26 y2 y3 T' rfl (fun q hq => by rw [List.mem_singleton.mp hq]; exact m_lo) ?rm ?un ?_
                    case rm => exact Nat.lt_of_sub_pos (by decide)
                    case un => decide
                    intro r9 own9 e9 h18 tk18 F11 N27 ap9 ok9 ab9 hP
                    obtain ⟨va, la, lvs, n1, lev, t40, rfl, rfl, hlev, hGR⟩ := hP
                    obtain ⟨top, hok, hbest⟩ := gw (wts cc) hW6 (fun x hx => by have := (hw0 x hx).1; lia) lev hGR
                    have hla := ltN (ab9 (la, listOf lvs.toArray n1) (by first | walk_at "x_mem" | simp)).2
                    dsimp only at hla
                    clear N26
                    k_steps
                    refine go_ ?_
                    rename News _ _ _ _ => lN'
                    obtain ⟨R7, hR7⟩ : ∃ R7 : List (Addr × Obj), R7 = [(la, listOf lvs.toArray n1), (wl, listOf wus.toArray wn), (L' + 1 + 1 + 1, oK), (L' + 1 + 1, oW2)] := ⟨_, rfl⟩
                    have mR7 : ∀ q ∈ R7, q = (la, listOf lvs.toArray n1) ∨ q ∈ R8 := by
                      rw [hR7]
                      exact all_cons (.inl rfl) (all_cons (.inr m_wl) (all_cons (.inr m_K) (all_cons (.inr m_W) all_nil)))
                    have N28 := news_sub (b := tA none ++ (tB (some e9) ++ R7)) lN' (by
                      refine all_app (all_cons (by walk_at "x_mem") all_nil) (all_app (by walk_at "x_sub") fun q h => ?_)
                      rcases mR7 q h with rfl | h
                      · walk_at "x_mem"
                      · walk_at "x_mem")
                    have ap10 : Apart (tB (some e9)) R7 := fun q hq => ap9 q (by
                      rcases mR7 q hq with rfl | h
                      · walk_at "x_mem"
                      · walk_at "x_mem")
                    have ap11 : Apart (tA none) (tB (some e9) ++ R7) := by
                      intro q hq r hr2
                      rw [List.mem_singleton.mp hr2]
                      rcases List.mem_append.mp hq with h | h
                      · exact (ap9 (61, tabObj #[]) (by first | walk_at "x_mem" | simp [m_t]) q h).symm
                      · rw [hR7] at h
                        exact all_cons (P := fun q => q.1 ≠ 61) (neN (by lia)) (all_cons (neN (by lia)) (all_cons (neN (by lia)) (all_cons (neN (by lia)) all_nil))) q h
                    clear lN'
                    (try k_fold)
                    k_dflt refine' (c_codes w _ _ _ _ _ la n1 lvs lev top hlev hok) _ _ _ _ _ _ _ _ _ _ _ _ _ _ R7 none (some e9) _ _ _ K0 (by k_asm) X' N28 ap11 ap10 trivial ok9 T' rfl (fun q hq => by rw [List.mem_singleton.mp hq, hR7]; exact List.Mem.head _) ?rm ?un ?_
                    case rm => exact Nat.lt_of_sub_pos (by decide)
                    case un => decide
                    intro r10 own10 f1 f2 h19 tk19 F12 N29 ap12 ap13 ok10 ok11 ab10 hP
                    obtain ⟨da, dus, dn, rfl, rfl, hdus⟩ := hP
                    have hdus6 : dus.length = 6 := by rw [hdus.len]; simp
                    have hda := ltN ((ab10 _ (List.Mem.head _)).1 (la, listOf lvs.toArray n1) (by rw [hR7]; first | walk_at "x_mem" | simp))
                    have hda2 := ltN ((ab10 _ (List.Mem.head _)).1 (L' + 1 + 1 + 1, oK) (by rw [hR7]; first | walk_at "x_mem" | simp))
                    dsimp only at hda hda2
                    have N30 := news_sub (b := (L' + 1 + 1 + 1, oK) :: (da, listOf dus.toArray dn) :: (wl, listOf wus.toArray wn) :: (L' + 1 + 1, oW2) :: (tB (some f2) ++ tA (some f1))) N29 (by
                      rw [hR7]
                      walk_at "x_sub")
                    clear N29 N28
                    k_steps
                    refine storeC F12 N30 rfl ?_ dK' ?_
                    · refine all_cons ?_ (all_cons ?_ (all_cons ?_ (all_app ?_ ?_)))
                      · exact neN (by dsimp only; lia)
                      · exact neN (by dsimp only; lia)
                      · exact neN (by dsimp only; lia)
                      · intro q h; exact (ap13 (L' + 1 + 1 + 1, oK) (by rw [hR7]; first | walk_at "x_mem" | simp) q h).symm
                      · intro q h; exact (ap12 (L' + 1 + 1 + 1, oK) (by rw [hR7]; first | walk_at "x_mem" | simp) q h).symm
                    intro h20 oK2 F13' N31 dK2
                    k_steps
                    refine go_ ?_
                    rename News _ _ _ _ => lN'
                    refine SeqAt.eq_list_lengthsAt (lstN (a := da) (us := dus) (n := dn) lN' (by first | walk_at "x_mem" | simp)) (lstN (us := []) (n := 0) lN' (List.Mem.head _)) (by simp [hdus6]) (Nat.le_of_ble_eq_true rfl) ?_
                    have N32 := news_sub (b := tB (some f2) ++ [(L' + 1 + 1 + 1, oK2), (da, listOf dus.toArray dn), (wl, listOf wus.toArray wn), (L' + 1 + 1, oW2), (61, (tA (some f1)).headD (0, tabObj #[]) |>.2)]) lN' (by
                      refine all_app (by walk_at "x_sub") (all_cons (by walk_at "x_mem") (all_cons (by walk_at "x_mem") (all_cons (by walk_at "x_mem") (all_cons (by walk_at "x_mem") (all_cons ?_ all_nil)))))
                      have z9 : (61, (tA (some f1)).headD (0, tabObj #[]) |>.2) ∈ tA (some f1) := List.Mem.head _
                      walk_at "x_mem")
                    clear lN'
                    k_steps
                    refine go_ ?_
                    obtain ⟨R6, hR6⟩ : ∃ R6 : List (Addr × Obj), R6 = [(L' + 1 + 1 + 1, oK2), (da, listOf dus.toArray dn), (wl, listOf wus.toArray wn), (L' + 1 + 1, oW2), (61, (tA (some f1)).headD (0, tabObj #[]) |>.2)] := ⟨_, rfl⟩
                    have ap14 : Apart (tB (some f2)) R6 := by
                      rw [hR6]
                      refine all_cons ?_ (all_cons ?_ (all_cons ?_ (all_cons ?_ (all_cons ?_ all_nil))))
                      · intro r hr2; exact ap13 (L' + 1 + 1 + 1, oK) (by rw [hR7]; walk_at "x_mem") r hr2
                      · intro r hr2; exact ap13 (da, listOf dus.toArray dn) (by walk_at "x_mem") r hr2
                      · intro r hr2; exact ap13 (wl, listOf wus.toArray wn) (by rw [hR7]; walk_at "x_mem") r hr2
                      · intro r hr2; exact ap13 (L' + 1 + 1, oW2) (by rw [hR7]; walk_at "x_mem") r hr2
                      · intro r hr2; exact fun e => ap12 r (by first | walk_at "x_mem" | simp [hr2]) (61, (tA (some f1)).headD (0, tabObj #[]) |>.2) (List.Mem.head _) e.symm
                    have hsum0 : 0 < (wts cc).sum := by
                      rw [hWe]
                      have := (hw0 a0 (by rw [hWe]; first | walk_at "x_mem" | simp)).1
                      simp; lia
                    rw [← hR6] at N32
                    (try k_fold)
                    k_dflt refine' (c_readN w _ _ _ _ _ (wts cc).sum _ hsum0 (by lia)) _ _ _ _ _ _ _ _ _ _ _ _ _ _ R6 (some f2) _ _ _ K0 (by k_asm) X' N32 ap14 ok11 T' rfl (fun _ h => nomatch h) ?rm ?un (pvP fun t41 f3 h21 tk21 F14 N33 ap15 ok12 => ?_)
                    case rm => exact Nat.lt_of_sub_pos (by decide)
                    case un => decide
                    have N34 := news_sub (b := (L' + 1 + 1 + 1, oK2) :: (da, listOf dus.toArray dn) :: (wl, listOf wus.toArray wn) :: (L' + 1 + 1, oW2) :: (61, (tA (some f1)).headD (0, tabObj #[]) |>.2) :: tB (some f3)) N33 (by
                      rw [hR6]
                      walk_at "x_sub")
                    clear N33 N32 N30
                    k_steps
                    refine go_ ?_
                    rename News _ _ _ _ => lN'
                    rename Fr _ _ _ _ => lF'
                    refine LSm.sum_ints lF' lN' rfl (lstN (a := wl) (us := wus) (n := wn) lN' (by first | walk_at "x_mem" | simp)) hpc fun h22 tk22 t42 F15 N35 => ?_
                    k_steps
                    refine go_ ?_
                    have hz0 : (((wts cc).sum : Int) - (natsI (wts cc)).sum) = 0 := by rw [natsI_sum]; lia
                    (try k_fold)
                    k_dflt refine' (c_ap w _ _ _ _ _ (((wts cc).sum : Int) - (natsI (wts cc)).sum) _ (by rw [hz0]; decide)) _ _ _ _ _ _ _ _ _ _ _ _ _ _ _ _ _ _ K0 (by k_asm) X' (by k_asm) T' rfl (fun _ h => nomatch h) ?rm ?un (pv fun t43 h23 tk23 F16 N36 => ?_)
                    case rm => exact Nat.lt_of_sub_pos (by decide)
                    case un => decide
                    rw [hz0, show (0 : Int).natAbs = 0 from rfl, apL_zero]
                    k_steps
                    refine go_ ?_
                    refine' compL (h₀ := g) ?hclos ?hcell rfl ?hnames rfl ?_
                    case hclos => with_unfolding_all rfl
                    case hcell => decide
                    case hnames => decide
                    k_steps
                    refine go_ ?_
                    rename News _ _ _ _ => lN2
                    rename Fr _ _ _ _ => lF2
                    rename IsRange _ _ _ _ _ _ _ _ => rg7
                    have N37 := news_sub (b := (L' + 1 + 1, oW2) :: (L' + 1 + 1 + 1, oK2) :: (wl, listOf wus.toArray wn) :: (da, listOf dus.toArray dn) :: (61, (tA (some f1)).headD (0, tabObj #[]) |>.2) :: tB (some f3)) lN2 (by
                      walk_at "x_sub")
                    refine' compRange (σ := Unit) (n := 6) (fun _ => (L' + 1 + 1, oW2) :: (L' + 1 + 1 + 1, oK2) :: (wl, listOf wus.toArray wn) :: (da, listOf dus.toArray dn) :: (61, (tA (some f1)).headD (0, tabObj #[]) |>.2) :: tB (some f3)) (fun i _ ys => IntsAre ys ((prodL (wts cc) lev).take i)) () rfl rg7 ?_ ?_ (by lia) lF2 N37 ?hp ?_ ?_
                    · exact small_up (by lia) (by lia) (by lia) (by lia)
                    · rw [rangeSize_one]; rfl
                    case hp => exact .nil
                    · intro i _ v ys C D I oL E' h24 tk24 own nn2 hi6 hv hlen9 hpc9 hoff hown hoI hC hD9 hDC hI2 hns2 hLC F17 N38
                      (try k_fold)
                      obtain ⟨t44, rfl⟩ := hv
                      have N39 : News g C h24 ((L', oL) :: (D, listOf ys.toArray nn2) :: (own ++ ((L' + 1 + 1, oW2) :: (L' + 1 + 1 + 1, oK2) :: (wl, listOf wus.toArray wn) :: (da, listOf dus.toArray dn) :: (61, (tA (some f1)).headD (0, tabObj #[]) |>.2) :: tB (some f3)))) := N38
                      have N40 := news_sub (b := (L' + 1 + 1, oW2) :: (L' + 1 + 1 + 1, oK2) :: (wl, listOf wus.toArray wn) :: (da, listOf dus.toArray dn) :: (L', oL) :: (D, listOf ys.toArray nn2) :: (own ++ ((61, (tA (some f1)).headD (0, tabObj #[]) |>.2) :: tB (some f3)))) N39 (by
                        walk_at "x_sub")
                      clear N38 N39
                      obtain ⟨x, hx⟩ : ∃ x, (wts cc)[i]? = some x := ⟨_, List.getElem?_eq_getElem (by lia)⟩
                      obtain ⟨tw9, htw⟩ := hdus.get i (wordAt lev top i) (by rw [List.getElem?_map, List.getElem?_range hi6]; rfl)
                      have hwlen : (wordAt lev top i).length = lev.getD i 0 := by rw [wordAt, wordN_len]
                      have hlev5 : lev.getD i 0 ≤ 5 := by
                        have h1 : lev[i]? = some (lev.getD i 0) := by rw [List.getD_eq_getElem?_getD, List.getElem?_eq_getElem (by rw [hok.1]; exact hi6)]; rfl
                        have := (hok.2.1 _ (List.mem_of_getElem? h1)).2
                        have := hok.2.2.2.1
                        lia
                      have hnl : (natsI (wts cc)).length = 6 := by simp [natsI, hW6]
                      k_steps
                      (try walk_at "m_clean")
                      refine go_ ?_
                      rename News _ _ _ _ => lN'
                      refine tailN (lstN (a := wl) (us := wus) (n := wn) lN' (by first | walk_at "x_mem" | simp)) hpc (by lia) (by rw [hnl]; lia) (by lia) fun t45 => ?_
                      rw [z0 i, natsI_getD]
                      k_steps
                      (try walk_at "m_clean")
                      refine go_ ?_
                      rename News _ _ _ _ => lN'
                      refine tailV (lstN (a := da) (us := dus) (n := dn) lN' (by first | walk_at "x_mem" | simp)) (by lia) (x := .str (tx (wordAt lev top i)) tw9) ?_ (by lia) ?_
                      · rw [z0 i]; exact htw
                      k_steps
                      (try walk_at "m_clean")
                      refine go_ (SBL.len (by rw [tx_len, hwlen]; lia) ?_)
                      rw [tx_len, hwlen]
                      k_steps
                      (try walk_at "m_clean")
                      refine go_ (PyProof.Rows.mul_int ?_ (IntMulOk.of_right (Nat.le_trans (bits_small (k := 10) (by lia) (by lia)) (by decide))))
                      k_steps
                      (try walk_at "m_clean")
                      rename News _ _ _ _ => lN'
                      rename Fr _ _ _ _ => lF'
                      refine go_ (cend () lF' (news_sub (b := (L', oL) :: (D, listOf ys.toArray nn2) :: (own ++ ((L' + 1 + 1, oW2) :: (L' + 1 + 1 + 1, oK2) :: (wl, listOf wus.toArray wn) :: (da, listOf dus.toArray dn) :: (61, (tA (some f1)).headD (0, tabObj #[]) |>.2) :: tB (some f3)))) lN' ?sb9) (fun p hp => hp) hoff ?_)
                      case sb9 =>
                        walk_at "x_sub"
                      rw [List.take_add_one, prodL_at _ _ _ hi6]
                      exact IntsAre.append hpc9 (.cons _ _ .nil)
                    · intro qo h24 tk24 qus _ qn hD9 F17 N38 hne9 hlen9 hpc9
                      have N39 : News g L' h24 ((qo, listOf qus.toArray qn) :: (L' + 1 + 1, oW2) :: (L' + 1 + 1 + 1, oK2) :: (wl, listOf wus.toArray wn) :: (da, listOf dus.toArray dn) :: (61, (tA (some f1)).headD (0, tabObj #[]) |>.2) :: tB (some f3)) := N38
                      rw [show (prodL (wts cc) lev).take 6 = prodL (wts cc) lev from List.take_of_length_le (by simp [prodL])] at hpc9
                      have hsd := prodL_sum (wts cc) lev hW6 hok.1
                      clear N38 hne9
                      k_steps
                      refine go_ ?_
                      rename News _ _ _ _ => lN'
                      rename Fr _ _ _ _ => lF'
                      refine LSm.sum_ints lF' lN' rfl (lstN (a := qo) (us := qus) (n := qn) lN' (List.Mem.head _)) hpc9 fun h25 tk25 t46 F18 N40 => ?_
                      k_steps
                      refine go_ ?_
                      rw [hsd]
                      (try k_fold)
                      k_dflt refine' (c_cheap w _ _ _ _ _ wl wn wus (natsI (wts cc)) hpc (by simp [natsI, hW6])) _ _ _ _ _ _ _ _ _ _ _ _ _ _ _ _ _ _ K0 (by k_asm) X' (by k_asm) T' rfl (fun q hq => by rw [List.mem_singleton.mp hq]; simp) ?rm ?un ?_
                      case rm => exact Nat.lt_of_sub_pos (by decide)
                      case un => decide
                      intro r13 own13 h26 tk26 F19 N41 _ hP
                      obtain ⟨rfl, cst, t47, rfl, hcst⟩ := hP
                      have hce := best_uniq hcst hbest
                      subst hce
                      simp only [List.nil_append] at N41
                      k_steps
                      rw [show (dot (natsI (wts cc)) lev == dot (natsI (wts cc)) lev) = true by simp]
                      exact hR _ _ _ _ #[rawInt 46, rawInt 4, .ref f1.1] #[rawInt 61, rawInt 4, .ref f3.1] F19 N41 (by simp [tA, tEnt]) (by simp [tB, tEnt])
  · intro h' tk' m' news' ps1 ps2 F9 N9 t1 t2
    dsimp only
    exact ⟨goodW_bool F9 hg (fun _ => rfl) (by kernel_rfl), GrownAt.of N9 t1, GrownAt.of N9 t2, trivial⟩
end Mine
end
theorem PySem.Challenge.cw_xj0015_01_holds : PySem.Challenge.rw_xj0015_01.Holds := by
  exact Mine.law_holds0
