import PyProof.Rows.All
import OpenK.AllK
import PyProof.AutoIntG4
import PyProof.AutoIntG6
import PyProof.AutoIntOps
import PyProof.AutoSeq1
import PyProof.CallFns
import PyProof.Comp
import PyProof.EnumIter
import PyProof.EnumMake
import PyProof.FactsGen
import PyProof.FactsTree
import PyProof.GenObj
import PyProof.ListRange
import PyProof.ListStr
import PyProof.MeetsSeq
import PyProof.MeetsSeq3
import PyProof.RangeIter
import PyProof.Rows.SumAny
import PyProof.SeqRoads2
import PyProof.SliceList
import PyProof.SliceStr
import PyProof.TableTree
import Wide.All
import Wide.FinOn
import Lean
import PySem.Challenge.RW_re0128_01
open PySem PySem.W PySem.W.X PySem.Calls PyProof.Rows
set_option maxRecDepth 100000
set_option maxHeartbeats 0
set_option Elab.async false
set_option linter.all false
-- part Sim
section
namespace Mine
noncomputable abbrev pw : Program := PySem.Challenge.pw_re0128_01
noncomputable abbrev Led := List (Nat × Obj)
/-- what a run leaves to be shown -/
inductive Ob where
  | ok
  | bad (n : Nat) (a : Nat)
  | no (w : String)
  | eqN (a b : Nat) (k : Ob)
  | eqV (a b : Value) (k : Ob)
  | eqO (a b : Obj) (k : Ob)
  | eqC (a b : Code) (k : Ob)
  | eqG (a b : List GenState) (k : Ob)
  | allN (f : Nat → Ob)
  | allI (f : Int → Ob)
  | allV (f : Value → Ob)
  | allL (f : List Nat → Ob)
  | allG (f : List GenState → Ob)
  | askA (a : Nat) (L : Led) (f : Nat → Ob)
  | askC (c : Code) (L : Led) (f : Nat → Ob)
noncomputable def good (o : Ob) : Prop :=
  @Ob.rec (fun _ => Prop) True (fun _ _ => False) (fun _ => False) (fun a b _ ih => a = b ∧ ih) (fun a b _ ih => a = b ∧ ih) (fun a b _ ih => a = b ∧ ih) (fun a b _ ih => a = b ∧ ih) (fun a b _ ih => a = b ∧ ih)
    (fun _ ih => ∀ n, ih n) (fun _ ih => ∀ n, ih n) (fun _ ih => ∀ n, ih n) (fun _ ih => ∀ n, ih n) (fun _ ih => ∀ n, ih n) (fun _ _ _ ih => ∃ n, ih n) (fun _ _ _ ih => ∃ n, ih n) o
noncomputable def lft (o : Ob) : List Nat → Ob :=
  @Ob.rec (fun _ => List Nat → Ob) (fun _ => .ok) (fun _ _ _ => .ok) (fun _ _ => .ok) (fun a _ _ ih hs => .eqN a a (ih hs)) (fun a _ _ ih hs => .eqV a a (ih hs)) (fun a _ _ ih hs => .eqO a a (ih hs)) (fun a _ _ ih hs => .eqC a a (ih hs)) (fun a _ _ ih hs => .eqG a a (ih hs))
    (fun _ ih hs => .allN fun n => ih n hs) (fun _ ih hs => .allI fun n => ih n hs) (fun _ ih hs => .allV fun n => ih n hs) (fun _ ih hs => .allL fun n => ih n hs) (fun _ ih hs => .allG fun n => ih n hs)
    (fun _ _ _ ih hs => @List.rec Nat (fun _ => Ob) .ok (fun h t _ => ih h t) hs)
    (fun _ _ _ ih hs => @List.rec Nat (fun _ => Ob) .ok (fun h t _ => ih h t) hs) o
noncomputable def rgt (o : Ob) : List Nat → Ob :=
  @Ob.rec (fun _ => List Nat → Ob) (fun _ => .ok) (fun n a _ => .bad n a) (fun w _ => .no w) (fun _ b _ ih hs => .eqN b b (ih hs)) (fun _ b _ ih hs => .eqV b b (ih hs)) (fun _ b _ ih hs => .eqO b b (ih hs)) (fun _ b _ ih hs => .eqC b b (ih hs)) (fun _ b _ ih hs => .eqG b b (ih hs))
    (fun _ ih hs => .allN fun n => ih n hs) (fun _ ih hs => .allI fun n => ih n hs) (fun _ ih hs => .allV fun n => ih n hs) (fun _ ih hs => .allL fun n => ih n hs) (fun _ ih hs => .allG fun n => ih n hs)
    (fun _ _ _ ih hs => @List.rec Nat (fun _ => Ob) (.bad 0 0) (fun h t _ => ih h t) hs)
    (fun _ _ _ ih hs => @List.rec Nat (fun _ => Ob) (.bad 0 0) (fun h t _ => ih h t) hs) o
theorem good_of : ∀ (o : Ob) (hs : List Nat), lft o hs = rgt o hs → good o := by
  intro o
  induction o with
  | ok => intro _ _; trivial
  | bad n a => intro hs e; exact Ob.noConfusion (show Ob.ok = Ob.bad n a from e)
  | no w => intro hs e; exact Ob.noConfusion (show Ob.ok = Ob.no w from e)
  | eqN a b k ih => intro hs e; exact Ob.noConfusion (show Ob.eqN a a (lft k hs) = Ob.eqN b b (rgt k hs) from e) fun p _ q => ⟨p, ih hs q⟩
  | eqV a b k ih => intro hs e; exact Ob.noConfusion (show Ob.eqV a a (lft k hs) = Ob.eqV b b (rgt k hs) from e) fun p _ q => ⟨p, ih hs q⟩
  | eqO a b k ih => intro hs e; exact Ob.noConfusion (show Ob.eqO a a (lft k hs) = Ob.eqO b b (rgt k hs) from e) fun p _ q => ⟨p, ih hs q⟩
  | eqC a b k ih => intro hs e; exact Ob.noConfusion (show Ob.eqC a a (lft k hs) = Ob.eqC b b (rgt k hs) from e) fun p _ q => ⟨p, ih hs q⟩
  | eqG a b k ih => intro hs e; exact Ob.noConfusion (show Ob.eqG a a (lft k hs) = Ob.eqG b b (rgt k hs) from e) fun p _ q => ⟨p, ih hs q⟩
  | allN f ih =>
    intro hs e n
    exact Ob.noConfusion (show Ob.allN (fun n => lft (f n) hs) = Ob.allN (fun n => rgt (f n) hs) from e) fun q => ih n hs (congrFun q n)
  | allI f ih =>
    intro hs e n
    exact Ob.noConfusion (show Ob.allI (fun n => lft (f n) hs) = Ob.allI (fun n => rgt (f n) hs) from e) fun q => ih n hs (congrFun q n)
  | allV f ih =>
    intro hs e n
    exact Ob.noConfusion (show Ob.allV (fun n => lft (f n) hs) = Ob.allV (fun n => rgt (f n) hs) from e) fun q => ih n hs (congrFun q n)
  | allL f ih =>
    intro hs e n
    exact Ob.noConfusion (show Ob.allL (fun n => lft (f n) hs) = Ob.allL (fun n => rgt (f n) hs) from e) fun q => ih n hs (congrFun q n)
  | allG f ih =>
    intro hs e n
    exact Ob.noConfusion (show Ob.allG (fun n => lft (f n) hs) = Ob.allG (fun n => rgt (f n) hs) from e) fun q => ih n hs (congrFun q n)
  | askA a L f ih =>
    intro hs e
    cases hs with
    | nil => exact Ob.noConfusion (show Ob.ok = Ob.bad 0 0 from e)
    | cons h t => exact ⟨h, ih h t e⟩
  | askC a L f ih =>
    intro hs e
    cases hs with
    | nil => exact Ob.noConfusion (show Ob.ok = Ob.bad 0 0 from e)
    | cons h t => exact ⟨h, ih h t e⟩
/-- the i-th object of a ledger -/
noncomputable def ledAt (L : Led) : Nat → Option (Nat × Obj) :=
  @List.rec (Nat × Obj) (fun _ => Nat → Option (Nat × Obj)) (fun _ => none) (fun p _ ih i => @Nat.rec (fun _ => Option (Nat × Obj)) (some p) (fun j _ => ih j) i) L
noncomputable def ledSet (L : Led) : Nat → Obj → Led :=
  @List.rec (Nat × Obj) (fun _ => Nat → Obj → Led) (fun _ _ => []) (fun p r ih i o => @Nat.rec (fun _ => Led) ((p.1, o) :: r) (fun j _ => p :: ih j o) i) L
theorem ledAt_mem : ∀ {L : Led} {i : Nat} {p : Nat × Obj}, ledAt L i = some p → p ∈ L
  | [], _, _, e => nomatch (show (none : Option (Nat × Obj)) = some _ from e)
  | q :: r, 0, p, e => by have e : some q = some p := e; cases e; exact .head _
  | q :: r, i + 1, p, e => .tail _ (ledAt_mem (L := r) (i := i) e)
theorem ledSet_keys : ∀ (L : Led) (i : Nat) (o : Obj), (ledSet L i o).map (·.1) = L.map (·.1)
  | [], _, _ => rfl
  | q :: r, 0, _ => rfl
  | q :: r, i + 1, o => by
    show q.1 :: (ledSet r i o).map (·.1) = q.1 :: r.map (·.1)
    rw [ledSet_keys r i o]
theorem ledSet_mem : ∀ {L : Led} {i : Nat} {o : Obj} {p x : Nat × Obj}, ledAt L i = some x → (L.map (·.1)).Nodup → p ∈ ledSet L i o → (p = (x.1, o)) ∨ (p ∈ L ∧ p.1 ≠ x.1)
  | [], _, _, _, _, e, _, _ => nomatch (show (none : Option (Nat × Obj)) = some _ from e)
  | q :: r, 0, o, p, x, e, hn, hp => by
    have e : some q = some x := e
    cases e
    rcases List.mem_cons.mp (show p ∈ (q.1, o) :: r from hp) with rfl | hp
    · exact .inl rfl
    · exact .inr ⟨.tail _ hp, fun z => (List.nodup_cons.mp hn).1 (List.mem_map.mpr ⟨p, hp, z⟩)⟩
  | q :: r, i + 1, o, p, x, e, hn, hp => by
    have e : ledAt r i = some x := e
    rcases List.mem_cons.mp (show p ∈ q :: ledSet r i o from hp) with rfl | hp
    · exact .inr ⟨.head _, fun z => (List.nodup_cons.mp hn).1 (List.mem_map.mpr ⟨x, ledAt_mem e, z.symm⟩)⟩
    · rcases ledSet_mem e (List.nodup_cons.mp hn).2 hp with h | h
      · exact .inl h
      · exact .inr ⟨.tail _ h.1, h.2⟩
inductive Kt where
  | base
  | ret (c : Code) (hd : Option Value) (k : Result → Sem Fin) (κ : Kt)
/-- the ledger, the heap's size, the tokens (from, so many), the generators, and notes that bear no meaning -/
noncomputable abbrev Cont := Led → Nat → Nat → Nat → List GenState → List Value → Ob
structure Ev where
  w : World
  h₀ : Heap
  /-- what may be changed of h₀ -/
  keys : List Nat
  n₁ : Nat
  kt : KT
  A₀ : Around
  R₀ : Result → Shared → Prop
  P₀ : End → Shared → Prop
  d : Drawn
  os : OsState
  den : Code → Sem Fin
  /-- how a call is gone into -/
  go : Code → Around → Sem Fin
  /-- the end of the run, in the plain way -/
  fin : Result → Cont
  /-- a generator's end -/
  susp : End → Cont
  /-- calls that are known -/
  hook : Nat → Code → Around → (Result → Cont) → Cont
  /-- codes gone on with that are known -/
  tail : Nat → Code → Cont
  gtail : Nat → Code → List Frame → Cont
  gstop : Result → Code → List Frame → Cont
  /-- a call at which the run is cut -/
  cut : Code → Code → Bool → List Value → (Result → Sem Fin) → Cont
noncomputable def arOf (V : Ev) : Kt → Around
  | .base => V.A₀
  | .ret c hd _ κ => ((arOf V κ).under c).mark hd
noncomputable abbrev md (V : Ev) : Model := model pw V.w
noncomputable def enOf (V : Ev) : Kt → Result → Shared → Prop
  | .base => V.R₀
  | .ret c _ k κ => postR pw V.w (arOf V κ) c (postC pw V.w (arOf V κ) (enOf V κ)) (postE (enOf V κ)) k
noncomputable def Mn (V : Ev) (c : Code) (m : Option (List Frame)) (κ : Kt) (t : Sem Fin) (s : Shared) : Prop := match m with
  | none => wpOwn (md V) (arOf V κ) c t (postC pw V.w (arOf V κ) (enOf V κ)) (postE (enOf V κ)) s
  | some fs => SegX (md V) V.A₀ c t fs s V.P₀
structure Rp (V : Ev) (h : Heap) (L : Led) (sz tb : Nat) : Prop where
  tlow : 2349 ≤ tb
  size : h.objs.size = sz
  low : V.n₁ ≤ sz
  mono : V.h₀.objs.size ≤ sz
  own : ∀ p ∈ L, h.get? p.1 = some p.2
  nodup : (L.map (·.1)).Nodup
  sep : ∀ p ∈ L, V.kt.get p.1 = none
  mine : ∀ p ∈ L, V.h₀.objs.size ≤ p.1 ∨ p.1 ∈ V.keys
  top : ∀ a o, V.kt.get a = some o → h.get? a = some o
  old : ∀ b o, V.h₀.get? b = some o → b ∉ V.keys → h.get? b = some o
noncomputable def sh (V : Ev) (h : Heap) (tb i : Nat) (gl : List GenState) : Shared := ⟨h, ⟨gl⟩, V.d, tb + i, V.os⟩
noncomputable def Behind (V : Ev) (cont : Result → Cont) (r : Result) (s' : Shared) : Prop := ∃ L' sz' tb' i' gl' gh' h', s' = sh V h' tb' i' gl' ∧ Rp V h' L' sz' tb' ∧ good (cont r L' sz' tb' i' gl' gh')
structure Ev.Ok (V : Ev) : Prop where
  den : V.den = denote table
  go : ∀ c A Q E s, wpOwn (md V) A c (V.go c A) Q E s → wpOwn (md V) A c (denote table c) Q E s
  ktlow : ∀ a, V.n₁ ≤ a → V.kt.get a = none
  fin : ∀ r L sz tb i gl gh h, good (V.fin r L sz tb i gl gh) → Rp V h L sz tb → V.R₀ r (sh V h tb i gl)
  gret : ∀ r L sz tb i gl gh h, good (V.susp (.ret r) L sz tb i gl gh) → Rp V h L sz tb → V.P₀ (.ret r) (sh V h tb i gl)
  susp : ∀ v l k c fs L sz tb i gl gh h, good (V.susp (.susp v false l k c ⟨0, 0, 0, 0⟩ fs) L sz tb i gl gh) → Rp V h L sz tb → splitAtGen fs = none → fs.any Frame.guarded = false → ∀ p, V.P₀ (.susp v false l k c p fs) (sh V h tb i gl)
  hook : ∀ j c A g l cont L sz tb i gl gh h, good (V.hook j c A cont L sz tb i gl gh) → Rp V h L sz tb → wpAny (md V) A (.call c none g l .pure : Sem Result) (Behind V cont) (fun _ _ => False) (sh V h tb i gl)
  tail : ∀ j c L sz tb i gl gh h, good (V.tail j c L sz tb i gl gh) → Rp V h L sz tb → codeAny (md V) V.A₀ c V.R₀ (sh V h tb i gl)
  gtail : ∀ j c fs L sz tb i gl gh h, good (V.gtail j c fs L sz tb i gl gh) → Rp V h L sz tb → SegX (md V) V.A₀ c (denote table c) fs (sh V h tb i gl) V.P₀
  gstop : ∀ r c fs L sz tb i gl gh h, good (V.gstop r c fs L sz tb i gl gh) → Rp V h L sz tb → SegX (md V) V.A₀ c (leafOf r) fs (sh V h tb i gl) V.P₀
  cut : ∀ c c' g l k L sz tb i gl gh h, good (V.cut c c' g l k L sz tb i gl gh) → Rp V h L sz tb → wpOwn (md V) V.A₀ c (.call c' none g l k) (postC pw V.w V.A₀ V.R₀) (postE V.R₀) (sh V h tb i gl)
section
variable {V : Ev} {h : Heap} {L : Led} {sz tb : Nat}
theorem Rp.lt (D : Rp V h L sz tb) {p : Nat × Obj} (hp : p ∈ L) : p.1 < sz := D.size ▸ Heap.lt_size (D.own p hp)
theorem Rp.alloc (O : V.Ok) (D : Rp V h L sz tb) {o : Obj} (hf : o.isFreed = false) : Rp V (h.push o) ((sz, o) :: L) (sz + 1) tb := by
  refine ⟨D.tlow, by rw [Heap.size_push, D.size], Nat.le_succ_of_le D.low, Nat.le_succ_of_le D.mono, fun p hp => ?_, ?_, fun p hp => ?_, fun p hp => ?_, fun a o' e => Heap.get?_push_of_some _ (D.top a o' e), fun b o' e q => Heap.get?_push_of_some _ (D.old b o' e q)⟩
  · rcases List.mem_cons.mp hp with rfl | hp
    · rw [← D.size]; exact Heap.get?_push_size _ hf
    · exact Heap.get?_push_of_some _ (D.own p hp)
  · refine List.nodup_cons.mpr ⟨fun hm => ?_, D.nodup⟩
    obtain ⟨p, hp, e⟩ := List.mem_map.mp hm
    exact Nat.ne_of_lt (D.lt hp) e
  · rcases List.mem_cons.mp hp with rfl | hp
    · exact O.ktlow _ D.low
    · exact D.sep p hp
  · rcases List.mem_cons.mp hp with rfl | hp
    · exact .inl D.mono
    · exact D.mine p hp
theorem Rp.update (D : Rp V h L sz tb) {i : Nat} {x : Nat × Obj} {f : Obj → Obj} (e : ledAt L i = some x) (hf : (f x.2).isFreed = false) : Rp V (h.update x.1 f) (ledSet L i (f x.2)) sz tb := by
  have hs : Heap.SameBut x.1 h (h.update x.1 f) := Heap.SameBut.update ..
  have hx := D.own x (ledAt_mem e)
  refine ⟨D.tlow, by rw [hs.1, D.size], D.low, D.mono, fun p hp => ?_, by rw [ledSet_keys]; exact D.nodup, fun p hp => ?_, fun p hp => ?_, fun a o ho => ?_, fun b o ho q => ?_⟩
  · rcases ledSet_mem e D.nodup hp with rfl | ⟨hp, ne⟩
    · first | exact Heap.get?_update_self f hx hf | exact Heap.get?_update_self _ hx hf
    · exact (hs.2 _ ne).trans (D.own p hp)
  · rcases ledSet_mem e D.nodup hp with rfl | ⟨hp, ne⟩
    · exact D.sep x (ledAt_mem e)
    · exact D.sep p hp
  · rcases ledSet_mem e D.nodup hp with rfl | ⟨hp, ne⟩
    · exact D.mine x (ledAt_mem e)
    · exact D.mine p hp
  · have ne : a ≠ x.1 := fun z => by have q := D.sep x (ledAt_mem e); rw [← z, ho] at q; cases q
    exact (hs.2 _ ne).trans (D.top a o ho)
  · have ne : b ≠ x.1 := fun z => by
      rcases D.mine x (ledAt_mem e) with m | m
      · exact absurd (Heap.lt_size ho) (Nat.not_lt.mpr (z ▸ m))
      · exact q (z ▸ m)
    exact (hs.2 _ ne).trans (D.old b o ho q)
end
noncomputable abbrev SimT := Code → Option (List Frame) → Kt → Sem Fin → Cont
noncomputable def nay (n : Nat) : Cont := fun _ _ _ _ _ _ => .bad n 0
noncomputable def retC (V : Ev) (ih : SimT) (r : Result) (c : Code) (m : Option (List Frame)) (κ : Kt) : Cont := match m with
  | none => match κ with
    | .base => V.fin r
    | .ret c _ k κ => ih c none κ (k r)
  | some fs => match fs with
    | [] => V.susp (.ret r)
    | f :: fs' => fun L sz tb i gl gh => .askA 7777777 L fun j => match j with
      | 0 => match f with
        | .ret k _ _ _ c₁ _ _ => ih c₁ (some fs') κ (k r) L sz tb i gl gh
        | .gen .. => .bad 22 0
      | _ + 1 => V.gstop r c fs L sz tb i gl gh
noncomputable def auOf (V : Ev) (c : Code) (m : Option (List Frame)) (κ : Kt) : Around := match m with
  | none => (arOf V κ).under c
  | some fs => V.A₀.over c fs
noncomputable def find (V : Ev) (a : Addr) (L : Led) (j : Nat) (k : Obj → Ob) : Ob := match j with
  | 0 => match V.kt.get a with
    | some o => k o
    | none => .bad 1 a
  | j + 1 => match ledAt L j with
    | some p => .eqN a p.1 (k p.2)
    | none => .bad 2 a
noncomputable def simStep (V : Ev) (ih : SimT) (c : Code) (m : Option (List Frame)) (κ : Kt) (t : Sem Fin) : Cont := match t with
  | .pure fin => match fin with
    | .done f => retC V ih (.ok f) c m κ
    | .again c' => match c'.quiet with
      | true => fun L sz tb i gl gh => .askC c' L fun j => match j with
        | 0 => match m with
          | none => ih c' none κ (V.go c' (arOf V κ)) L sz tb i gl gh
          | some fs => ih c' (some fs) κ (V.den c') L sz tb i gl gh
        | j + 1 => match m with
          | none => match κ with
            | .base => V.tail j c' L sz tb i gl gh
            | .ret .. => .bad 25 j
          | some fs => V.gtail j c' fs L sz tb i gl gh
      | false => nay 5
  | .raise e => retC V ih (.error e) c m κ
  | .rule _ k => ih c m κ (k ())
  | .at _ k => ih c m κ (k ())
  | .point _ k => ih c m κ (k ())
  | .ask k => ih c m κ (k ⟨pw, V.w.params⟩)
  | .load a _ k => fun L sz tb i gl gh => .askA a L fun j => find V a L j fun o => ih c m κ (k o) L sz tb i gl gh
  | .loadIfAlive a k => fun L sz tb i gl gh => .askA a L fun j => find V a L j fun o => ih c m κ (k (some o)) L sz tb i gl gh
  | .alloc o k => fun L sz tb i gl gh => match o.isFreed with
    | true => .bad 3 0
    | false => ih c m κ (k sz) ((sz, o) :: L) (sz + 1) tb i gl gh
  | .update a _ f k => fun L sz tb i gl gh => .askA a L fun j => match ledAt L (Nat.pred j) with
    | some p => match (f p.2).isFreed with
      | true => .bad 4 a
      | false => .eqN a p.1 (ih c m κ (k ()) (ledSet L (Nat.pred j) (f p.2)) sz tb i gl gh)
    | none => .bad 6 a
  | .fresh k => fun L sz tb i gl gh => ih c m κ (k (tb + i)) L sz tb (i + 1) gl gh
  | .handled own k => match own with
    | false => ih c m κ (k (match m with | none => (arOf V κ).handled | some fs => (V.A₀.over c fs).handled))
    | true => nay 7
  | .call c' hd g l k => match hd with
    | none => fun L sz tb i gl gh => .askC c' L fun j => match j with
      | 0 => match m with
        | none => ih c' none (.ret c none k κ) (V.go c' (arOf V (.ret c none k κ))) L sz tb i gl gh
        | some fs => .allN fun a => .allN fun b => .allN fun a' => .allN fun b' => .askC (.builtin "into" ⟨[.bool (match c' with | .forLoop .. => true | _ => false)], []⟩) L fun j' => match j' with
          | 0 => ih c' (some (.ret k none g l c ⟨a, b, a', b'⟩ [] :: fs)) κ (V.den c') L sz tb i gl gh
          | j' + 1 => V.gtail j' c' (.ret k none g l c ⟨a, b, a', b'⟩ [] :: fs) L sz tb i gl gh
      | j + 1 => match Nat.ble 900 j with
        | false => V.hook j c' (auOf V c m κ) (fun r => ih c m κ (k r)) L sz tb i gl gh
        | true => match m with
          | none => match κ with
            | .base => V.cut c c' g l k L sz tb i gl gh
            | .ret .. => .bad 26 j
          | some _ => .bad 27 j
    | some _ => nay 8
  | .newGen c' k => fun L sz tb i gl gh => ih c m κ (k gl.length) L sz tb i (gl ++ [.fresh c']) gh
  | .yield v gd l k => match m with
    | none => nay 13
    | some fs => match gd with
      | true => nay 14
      | false => match splitAtGen fs with
        | some _ => nay 15
        | none => match fs.any Frame.guarded with
          | true => nay 14
          | false => V.susp (.susp v false l k c ⟨0, 0, 0, 0⟩ fs)
  | .stack _ => nay 50
  | .genState .. => nay 9
  | .resume .. => nay 10
  | .unsupported w => fun _ _ _ _ _ _ => .no w
  | .finish _ => nay 30
  | .register .. => nay 31
  | .choose .. => nay 32
  | .os .. => nay 33
  | .fork .. => nay 34
  | .thread _ => nay 35
  | .await .. => nay 36
noncomputable def sim (V : Ev) (n : Nat) : SimT := @Nat.rec (fun _ => SimT) (fun _ _ _ _ => nay 40) (fun _ ih => simStep V ih) n
section
variable {V : Ev} (O : V.Ok) (ih : SimT)
  (IH : ∀ c m κ t L sz tb i gl gh h, good (ih c m κ t L sz tb i gl gh) → Rp V h L sz tb → Mn V c m κ t (sh V h tb i gl))
include O IH
theorem retC_sound {r : Result} {c : Code} {m : Option (List Frame)} {κ : Kt} {t : Sem Fin} (ht : t = leafOf r) {L : Led} {sz tb i : Nat} {gl : List GenState} {gh : List Value} {h : Heap}
    (H : good (retC V ih r c m κ L sz tb i gl gh)) (D : Rp V h L sz tb) : Mn V c m κ t (sh V h tb i gl) := by
  cases m with
  | none =>
    have key : enOf V κ r (sh V h tb i gl) := by
      cases κ with
      | base => exact O.fin _ _ _ _ _ _ _ h H D
      | ret c₁ hd k κ => exact IH _ _ _ _ _ _ _ _ _ _ h H D
    cases r with
    | ok f => subst ht; exact y_pure _ _ _ _ _ _ _ _ _ (y_done _ _ _ _ _ _ key)
    | error e => subst ht; exact y_raise _ _ _ _ _ _ _ _ _ (y_err _ _ _ key)
  | some fs =>
    cases fs with
    | nil => exact s_end _ _ _ _ _ _ r t ht (O.gret _ _ _ _ _ _ _ h H D)
    | cons f fs =>
      simp only [retC] at H
      obtain ⟨j, H⟩ := (show ∃ j, good _ from H)
      cases j with
      | zero =>
        cases f with
        | ret k hd g l c₁ p₁ kp => exact s_pop _ _ _ _ _ _ _ r t ht k hd g l c₁ p₁ kp (IH _ _ _ _ _ _ _ _ _ _ h H D)
        | gen => cases H
      | succ j => subst ht; exact O.gstop _ _ _ _ _ _ _ _ _ h H D
theorem find_sound {a : Addr} {L : Led} {j : Nat} {k : Obj → Ob} {sz tb : Nat} {h : Heap} (H : good (find V a L j k)) (D : Rp V h L sz tb) : ∃ o, h.get? a = some o ∧ good (k o) := by
  cases j with
  | zero =>
    simp only [find] at H
    split at H
    · rename_i o e; exact ⟨o, D.top a o e, H⟩
    · cases H
  | succ j =>
    simp only [find] at H
    split at H
    · rename_i p e
      obtain ⟨ea, H⟩ := (show a = p.1 ∧ good (k p.2) from H)
      exact ⟨p.2, ea ▸ D.own p (ledAt_mem e), H⟩
    · cases H
theorem step_sound : ∀ c m κ t L sz tb i gl gh h, good (simStep V ih c m κ t L sz tb i gl gh) → Rp V h L sz tb → Mn V c m κ t (sh V h tb i gl) := by
  intro c m κ t L sz tb i gl gh h H D
  cases t with
  | pure fin =>
    cases fin with
    | done f => exact retC_sound O ih IH rfl H D
    | again c' =>
      cases q : c'.quiet with
      | false => simp only [simStep, q] at H; cases H
      | true =>
        simp only [simStep, q] at H
        obtain ⟨j, H⟩ := (show ∃ j, good _ from H)
        cases j with
        | zero =>
          cases m with
          | none =>
            have z := IH _ _ _ _ _ _ _ _ _ _ h H D
            have z := O.go _ _ _ _ _ z
            exact y_pure _ _ _ _ _ _ _ _ _ (y_again _ _ _ _ _ _ q (y_code _ _ _ _ _ _ z))
          | some fs =>
            have z := IH _ _ _ _ _ _ _ _ _ _ h H D
            rw [O.den] at z
            exact s_again _ _ _ _ _ _ _ _ q z
        | succ j =>
          cases m with
          | some fs => exact s_again _ _ _ _ _ _ _ _ q (O.gtail _ _ _ _ _ _ _ _ _ h H D)
          | none =>
            cases κ with
            | base => exact y_pure _ _ _ _ _ _ _ _ _ (y_again _ _ _ _ _ _ q (O.tail _ _ _ _ _ _ _ _ h H D))
            | ret => cases H
  | raise e => exact retC_sound O ih IH rfl H D
  | rule tag k =>
    have z := IH _ _ _ _ _ _ _ _ _ _ h H D
    cases m with
    | none => exact y_skim _ _ _ _ _ _ _ _ _ 1 z
    | some fs => exact s_skim _ _ _ _ _ _ _ _ 1 z
  | «at» q k =>
    have z := IH _ _ _ _ _ _ _ _ _ _ h H D
    cases m with
    | none => exact y_skim _ _ _ _ _ _ _ _ _ 1 z
    | some fs => exact s_skim _ _ _ _ _ _ _ _ 1 z
  | point l k =>
    have z := IH _ _ _ _ _ _ _ _ _ _ h H D
    cases m with
    | none => exact y_skim _ _ _ _ _ _ _ _ _ 1 z
    | some fs => exact s_skim _ _ _ _ _ _ _ _ 1 z
  | ask k =>
    have z := IH _ _ _ _ _ _ _ _ _ _ h H D
    cases m with
    | none => exact y_skim _ _ _ _ _ _ _ _ _ 1 z
    | some fs => exact s_skim _ _ _ _ _ _ _ _ 1 z
  | load a q k =>
    obtain ⟨j, H⟩ := (show ∃ j, good (find V a L j fun o => ih c m κ (k o) L sz tb i gl gh) from H)
    obtain ⟨o, ho, H⟩ := find_sound O ih IH H D
    have z := IH _ _ _ _ _ _ _ _ _ _ h H D
    cases m with
    | none => exact y_load _ _ _ _ _ _ _ _ _ _ _ _ _ _ _ _ ho z
    | some fs => exact s_load _ _ _ _ _ _ _ _ _ _ _ _ _ _ _ ho z
  | loadIfAlive a k =>
    obtain ⟨j, H⟩ := (show ∃ j, good (find V a L j fun o => ih c m κ (k (some o)) L sz tb i gl gh) from H)
    obtain ⟨o, ho, H⟩ := find_sound O ih IH H D
    have z := IH _ _ _ _ _ _ _ _ _ _ h H D
    cases m with
    | none => exact y_alive _ _ _ _ _ _ _ _ _ _ _ _ _ _ _ ho z
    | some fs => exact s_alive _ _ _ _ _ _ _ _ _ _ _ _ _ _ ho z
  | alloc o k =>
    simp only [simStep] at H
    split at H
    · cases H
    · rename_i hf
      have z := IH _ _ _ _ _ _ _ _ _ _ (h.push o) H (D.alloc O hf)
      have ea : h.objs.size = sz := D.size
      cases m with
      | none => exact wpOwn_bind (m := alloc o) (f := k) (wpOwn_of_wpAny (wpAny_alloc (by show wpOwn _ _ _ (k h.objs.size) _ _ _; rw [ea]; exact z)))
      | some fs => exact s_cmd _ _ _ _ _ _ (m := PySem.alloc o) (k := k) (wpAny_alloc (by show SegX _ _ _ (k h.objs.size) _ _ _; rw [ea]; exact z))
  | update a q f k =>
    obtain ⟨j, H⟩ := (show ∃ j, good (match ledAt L (Nat.pred j) with | some p => (match (f p.2).isFreed with | true => Ob.bad 4 a | false => Ob.eqN a p.1 (ih c m κ (k ()) (ledSet L (Nat.pred j) (f p.2)) sz tb i gl gh)) | none => Ob.bad 6 a) from H)
    split at H
    · rename_i p e
      split at H
      · cases H
      · rename_i hf
        obtain ⟨ea, H2⟩ := (show a = p.1 ∧ good (ih c m κ (k ()) (ledSet L (Nat.pred j) (f p.2)) sz tb i gl gh) from H)
        subst ea
        have ho := D.own p (ledAt_mem e)
        have z := IH _ _ _ _ _ _ _ _ _ _ _ H2 (D.update e hf)
        cases m with
        | none => exact wpOwn_bind (m := updatePart p.1 q f) (f := k) (wpOwn_of_wpAny (wpAny_updatePart ho z))
        | some fs => exact s_cmd _ _ _ _ _ _ (m := updatePart p.1 q f) (k := k) (wpAny_updatePart ho z)
    · cases H
  | fresh k =>
    have z := IH _ _ _ _ _ _ _ _ _ _ h H D
    cases m with
    | none => exact y_fresh _ _ _ _ _ _ _ _ _ _ _ _ _ z
    | some fs => exact s_fresh _ _ _ _ _ _ _ _ _ _ _ _ z
  | handled own k =>
    cases own with
    | true => cases H
    | false =>
      cases m with
      | none => exact y_handled _ _ _ _ _ _ _ _ _ (IH _ _ _ _ _ _ _ _ _ _ h H D)
      | some fs => exact s_handled _ _ _ _ _ _ _ _ (IH _ _ _ _ _ _ _ _ _ _ h H D)
  | stack k => cases H
  | call c' hd g l k =>
    cases hd with
    | some v => cases H
    | none =>
      simp only [simStep] at H
      obtain ⟨j, H⟩ := (show ∃ j, good _ from H)
      cases j with
      | zero =>
        cases m with
        | some fs =>
          refine s_call _ _ _ _ _ _ _ _ _ _ _ _ fun p => ?_
          obtain ⟨j', H'⟩ := (show ∃ j', good _ from H p.1 p.2 p.3 p.4)
          cases j' with
          | succ j' => exact O.gtail _ _ _ _ _ _ _ _ _ h H' D
          | zero =>
            have z := IH _ _ _ _ _ _ _ _ _ _ h H' D
            rw [O.den] at z
            exact z
        | none =>
          have z := IH _ _ _ _ _ _ _ _ _ _ h H D
          have z := O.go _ _ _ _ _ z
          exact y_call _ _ _ _ _ _ _ _ _ _ _ _ _ (by intro e; cases e) (y_code _ _ _ _ _ _ z)
      | succ j =>
        cases hb : Nat.ble 900 j with
        | true =>
          simp only [hb] at H
          cases m with
          | some fs => cases H
          | none =>
            cases κ with
            | ret => cases H
            | base => exact O.cut _ _ _ _ _ _ _ _ _ _ _ h H D
        | false =>
        simp only [hb] at H
        have z := O.hook _ _ _ g l _ _ _ _ _ _ _ h H D
        cases m with
        | none =>
          refine wpOwn_bind (m := (.call c' none g l .pure : Sem Result)) (f := k) (wpOwn_of_wpAny (wpAny_mono z (fun r s' x => ?_) fun _ _ x => x.elim))
          obtain ⟨L', sz', tb', i', gl', gh', h', rfl, D', H'⟩ := x
          exact IH _ _ _ _ _ _ _ _ _ _ h' H' D'
        | some fs =>
          refine s_cmd _ _ _ _ _ _ (m := (.call c' none g l .pure : Sem Result)) (k := k) (wpAny_mono z (fun r s' x => ?_) fun _ _ x => x.elim)
          obtain ⟨L', sz', tb', i', gl', gh', h', rfl, D', H'⟩ := x
          exact IH _ _ _ _ _ _ _ _ _ _ h' H' D'
  | newGen c' k =>
    have z := IH _ _ _ _ _ _ _ _ _ _ h H D
    cases m with
    | none => exact y_newGen _ _ _ _ _ _ _ _ _ _ _ _ _ _ (by rw [push_gens]; exact z)
    | some fs => exact s_newGen _ _ _ _ _ _ _ _ _ _ _ _ _ (by rw [push_gens]; exact z)
  | genState g k => cases H
  | resume g r l k => cases H
  | yield v gd l k =>
    cases m with
    | none => cases H
    | some fs =>
      cases gd with
      | true => cases H
      | false =>
        cases hfs : splitAtGen fs with
        | some _ => simp only [simStep, hfs] at H; cases H
        | none =>
          cases hfg : fs.any Frame.guarded with
          | true => simp only [simStep, hfs, hfg] at H; cases H
          | false =>
            simp only [simStep, hfs, hfg] at H
            exact s_yield _ _ _ _ _ _ _ _ _ _ hfs hfg (O.susp _ _ _ _ _ _ _ _ _ _ _ h H D hfs hfg)
  | unsupported => cases H
  | finish => cases H
  | register => cases H
  | choose => cases H
  | os => cases H
  | fork => cases H
  | thread => cases H
  | await => cases H
end
theorem sim_sound {V : Ev} (O : V.Ok) : ∀ n c m κ t L sz tb i gl gh h, good (sim V n c m κ t L sz tb i gl gh) → Rp V h L sz tb → Mn V c m κ t (sh V h tb i gl)
  | 0 => fun _ _ _ _ _ _ _ _ _ _ _ H _ => by cases H
  | n + 1 => step_sound O (sim V n) (sim_sound O n)
end Mine
end
-- part Entry
section
namespace Mine
section
variable {α : Type} {M : Model} {A : Around} {Q : α → Shared → Prop} {E : Value → Shared → Prop} {s : Shared}
/-- a frame is entered below the limit: the look at the limit alone stays -/
noncomputable def lookLimit (f : Unit → Sem α) : Sem α := (nsGet cStatics "sys.recursionlimit").bind fun r => match r with | none => f () | some _ => .unsupported ""
theorem enter_wp {f : Unit → Sem α} {Γ : Ctx} {p : Pos} {Q : α → Pos → Shared → Prop} {E : Value → Pos → Shared → Prop} (hd : A.depth < recursionLimit) (hΓ : Γ.In A) (x : Sem.wp M Γ (lookLimit f) Q E p s) : Sem.wp M Γ (enterFrame >>= f) Q E p s := by
  have hsum : ((((Γ.code, p) :: Γ.below).map (·.1)).map (·.frames)).sum + ((((Γ.code, p) :: Γ.below).map (·.1)).filter Code.isCreation).length < recursionLimit := by
    have hge := frameCount_ge ((Γ.code, p) :: Γ.below)
    rw [frameCount_cons] at hge
    have := hΓ.2.1
    omega
  have hlt : ¬ ((((Γ.code, p) :: Γ.below).map (·.1)).map (·.frames)).sum ≥ recursionLimit := by omega
  have hlt' : ¬ ((((Γ.code, p) :: Γ.below).map (·.1)).map (·.frames)).sum + ((((Γ.code, p) :: Γ.below).map (·.1)).filter Code.isCreation).length ≥ recursionLimit := by omega
  unfold lookLimit at x
  rw [Sem.wp_bind] at x
  simp only [enterFrame, currentRecursionLimit, Sem.wp_bind']
  show Sem.wp M Γ (nsGet cStatics "sys.recursionlimit") _ _ p s
  refine Sem.wp_mono M Γ _ (fun r p' s' h' => ?_) (fun _ _ _ h' => h') p s x
  cases r with
  | some v => exact absurd h' (by simp)
  | none =>
    show Sem.wp M Γ (if nearTheLimitUnderAClaim (((Γ.code, p) :: Γ.below).map (·.1)) (((((Γ.code, p) :: Γ.below).map (·.1)).map (·.frames)).sum + ((((Γ.code, p) :: Γ.below).map (·.1)).filter Code.isCreation).length) recursionLimit = true then _ else _) _ _ p' s'
    rw [if_neg (by rw [not_nearTheLimit hΓ hd]; exact Bool.false_ne_true)]
    show Sem.wp M Γ (if (((Γ.code, p) :: Γ.below).map (·.1)).map (·.frames) |>.sum |> (· ≥ recursionLimit) then _ else _) _ _ p' s'
    rw [if_neg hlt]
    show Sem.wp M Γ (if ((((Γ.code, p) :: Γ.below).map (·.1)).map (·.frames)).sum + ((((Γ.code, p) :: Γ.below).map (·.1)).filter Code.isCreation).length ≥ recursionLimit then _ else _) _ _ p' s'
    rw [if_neg hlt']
    exact h'
end
noncomputable def tailOf (fd : FuncData) (env : Env) : Sem PySem.Fin :=
  let code : Code := match fd.body with
    | .stmts b => .func b env
    | .expr e => .expr e env
  match fd.scope.isGenerator, fd.scope.isCoroutine with
  | false, false => again code
  | true, false => do ret (← newGenerator code fd.name fd.qualname)
  | false, true => do ret (← newCoroutine code fd.name fd.qualname)
  | true, true => do ret (← newAsyncGenerator code fd.name fd.qualname)
noncomputable def callFn (self : Addr) (fd : FuncData) (args : Args) : Sem PySem.Fin := do
  let compiled ← match fd.code with
    | .none => pure fd.qualname
    | c => do match ← field c 1 with
      | .str q _ => pure q
      | _ => pure fd.qualname
  let env ← newFunctionEnv fd.scope fd.globals fd.closure (← bindArgs fd args) (compiled ++ ".<locals>.") (some self) fd.code none fd.builtins
  lookLimit fun _ => tailOf fd env
/-- the call of a function, its stack not asked -/
noncomputable def entry (f : Addr) (args : Args) : Sem PySem.Fin := do
  let o ← load f
  match o.data with
  | .func fd => callFn f fd args
  | _ => unsupported ""
theorem callFn_wp {M : Model} {A : Around} {Γ : Ctx} (hd : A.depth < recursionLimit) (hΓ : Γ.In A) {f : Addr} {fd : FuncData} {args : Args} {Q : PySem.Fin → Pos → Shared → Prop} {E : Value → Pos → Shared → Prop} {p : Pos} {s : Shared}
    (x : Sem.wp M Γ (callFn f fd args) Q E p s) : Sem.wp M Γ (callFunction f fd args) Q E p s := by
  have key : ∀ (q : Str) p s, Sem.wp M Γ (do
      let env ← newFunctionEnv fd.scope fd.globals fd.closure (← bindArgs fd args) (q ++ ".<locals>.") (some f) fd.code none fd.builtins
      lookLimit fun _ => tailOf fd env) Q E p s → Sem.wp M Γ (do
      let env ← newFunctionEnv fd.scope fd.globals fd.closure (← bindArgs fd args) (q ++ ".<locals>.") (some f) fd.code none fd.builtins
      enterFrame
      tailOf fd env) Q E p s := fun q p s x => by
    simp only [Sem.wp_bind'] at x
    rw [Sem.wp_bind']
    refine Sem.wp_mono M Γ _ (fun b p' s' h' => ?_) (fun _ _ _ h' => h') _ _ x
    rw [Sem.wp_bind']
    refine Sem.wp_mono M Γ _ (fun env p' s' h' => ?_) (fun _ _ _ h' => h') _ _ h'
    exact enter_wp hd hΓ h'
  have outer : ∀ (J J' : Str → Sem PySem.Fin) (_ : ∀ q p s, Sem.wp M Γ (J' q) Q E p s → Sem.wp M Γ (J q) Q E p s) (c : Value) p s,
      Sem.wp M Γ (match c with
        | .none => do let z ← pure fd.qualname; J' z
        | c => do match ← field c 1 with
          | .str q _ => do let z ← pure q; J' z
          | _ => do let z ← pure fd.qualname; J' z) Q E p s → Sem.wp M Γ (match c with
        | .none => do let z ← pure fd.qualname; J z
        | c => do match ← field c 1 with
          | .str q _ => do let z ← pure q; J z
          | _ => do let z ← pure fd.qualname; J z) Q E p s := fun J J' hJ c p s x => by
    have inner : ∀ c : Value, Sem.wp M Γ (do match ← field c 1 with
          | .str q _ => do let z ← pure q; J' z
          | _ => do let z ← pure fd.qualname; J' z) Q E p s → Sem.wp M Γ (do match ← field c 1 with
          | .str q _ => do let z ← pure q; J z
          | _ => do let z ← pure fd.qualname; J z) Q E p s := fun c x => by
      rw [Sem.wp_bind'] at x ⊢
      refine Sem.wp_mono M Γ _ (fun v p' s' h' => ?_) (fun _ _ _ h' => h') _ _ x
      cases v <;> exact hJ _ _ _ h'
    cases c with
    | none => exact hJ _ _ _ x
    | _ => exact inner _ x
  exact outer _ _ key fd.code p s x
theorem entry_sound {M : Model} {A : Around} {f : Addr} {args : Args} {Q : PySem.Fin → Shared → Prop} {E : Value → Shared → Prop} {s : Shared} (hd : (A.under (.call (.ref f) args)).depth < recursionLimit)
    (x : wpOwn M A (.call (.ref f) args) (entry f args) Q E s) : wpOwn M A (.call (.ref f) args) (denote table (.call (.ref f) args)) Q E s := fun Γ p hc hΓ => by
  have x := x Γ p hc hΓ
  show Sem.wp M Γ (callAny (.ref f) args) _ _ p s
  unfold entry at x
  unfold callAny
  simp only [Sem.wp_bind'] at x ⊢
  refine Sem.wp_mono M Γ _ (fun o p' s' h' => ?_) (fun _ _ _ h' => h') p s x
  cases ho : o.data with
  | func fd => rw [ho] at h'; exact callFn_wp hd (hc ▸ hΓ.in) h'
  | _ => rw [ho] at h'; exact absurd h' (by simp [unsupported])
/-- codes as trees, fast to reckon -/
noncomputable abbrev Dz : Code → Sem PySem.Fin := Fast.tw11892475500146522536 Fast.tw14364793385576792824
theorem Dz_eq : Dz = denote table := by
  rw [table_eq_tree]
  show Fast.tw11892475500146522536 Fast.tw14364793385576792824 = _
  rw [← Fast.te11892475500146522536, ← Fast.te14364793385576792824]
/-- a function's call its stack not asked, any other call as it is -/
noncomputable def goE (c : Code) (A : Around) : Sem PySem.Fin := match c with
  | .call (.ref f) args => match Nat.ble (A.under c).depth 900 with
    | true => do
      let o ← load f
      match o.data with
      | .func fd => callFn f fd args
      | _ => Dz c
    | false => Dz c
  | _ => Dz c
theorem goE_sound {M : Model} {c : Code} {A : Around} {Q : PySem.Fin → Shared → Prop} {E : Value → Shared → Prop} {s : Shared} (x : wpOwn M A c (goE c A) Q E s) : wpOwn M A c (denote table c) Q E s := by
  unfold goE at x
  split at x
  · rename_i f args
    split at x
    · rename_i hb
      have hd : (A.under (.call (.ref f) args)).depth < recursionLimit := Nat.lt_of_le_of_lt (Nat.le_of_ble_eq_true hb) (by decide)
      intro Γ p hc hΓ
      have x := x Γ p hc hΓ
      rw [Sem.wp_bind', Sem.wp_cmd_load] at x
      obtain ⟨o, ho, x⟩ := x
      cases hf : o.data with
      | func fd =>
        rw [hf] at x
        show Sem.wp M Γ (callAny (.ref f) args) _ _ p s
        unfold callAny
        rw [Sem.wp_bind', Sem.wp_cmd_load]
        refine ⟨o, ho, ?_⟩
        rw [hf]
        exact callFn_wp hd (hc ▸ hΓ.in) x
      | _ => rw [hf] at x; rw [← Dz_eq]; exact x
    · rw [← Dz_eq]; exact x
  · rw [← Dz_eq]; exact x
end Mine
end
-- part G1
section
namespace Mine
noncomputable abbrev evT := Fast.tw14044960220447912780
theorem evT_eq : evT = PySem.eval := (Fast.te14044960220447912780).symm
noncomputable abbrev tcT := Fast.tw3989567798202555795
theorem tcT_eq : tcT = PySem.tryCompare := (Fast.te3989567798202555795).symm
noncomputable abbrev lvT := Fast.tw9442747609961115081
theorem lvT_eq : lvT = PySem.leaving := (Fast.te9442747609961115081).symm
noncomputable abbrev trT := Fast.tw15245631507167962100
theorem trT_eq : trT = PySem.truthy := (Fast.te15245631507167962100).symm
noncomputable def isListC (v : Value) : Bool := match v with
  | .type n => n == "list"
  | _ => false
theorem isListC_of {v : Value} (h : isListC v = true) : v = .type "list" := by
  unfold isListC at h
  split at h
  · exact congrArg _ (beq_iff_eq.mp h)
  · cases h
/-- two lists compared, the room not asked -/
noncomputable def listsN (name : Str) (a b : Value) : Sem Value := match a, b with
  | .ref x, .ref y => (load x).bind fun o => (load y).bind fun q => match isListC o.cls && isListC q.cls with
    | true => (tcT a name b).bind fun r => match r with
      | some v => .pure v
      | none => .unsupported ""
    | false => .unsupported ""
  | _, _ => .unsupported ""
section
variable {M : Model} {Γ : Ctx}
open Sem (wp)
theorem listsN_wp {op : CmpOp} {sym : String} {f r : Str} (hop : cmpInfo op = (sym, f, r)) (hr : ∀ a b, compareOp op a b = richCompare op a b) (hu : Γ.units < cLine) {a b : Value} {Q : Value → Pos → Shared → Prop} {E : Value → Pos → Shared → Prop} {p : Pos} {s : Shared}
    (x : wp M Γ (listsN f a b) Q E p s) : wp M Γ (compareOp op a b) Q E p s := by
  rw [hr]
  unfold listsN at x
  split at x
  · rename_i x' y'
    erw [Sem.wp_bind, Sem.wp_cmd_load] at x
    obtain ⟨o, ho, x⟩ := x
    erw [Sem.wp_bind, Sem.wp_cmd_load] at x
    obtain ⟨q, hq, x⟩ := x
    split at x
    · rename_i hc
      obtain ⟨h1, h2⟩ := Bool.and_eq_true_iff.mp hc
      have h1 := isListC_of h1
      have h2 := isListC_of h2
      unfold richCompare
      rw [Sem.wp_holding, Sem.wp_bind']
      refine Sem.wp_cRoomFor _ _ hu ?_
      simp only [oneThing?, hop, typeOf, Sem.wp_bind', Sem.wp_pure', Sem.wp_loadPart_of M Γ _ _ _ (some headPart) ho, Sem.wp_loadPart_of M Γ _ _ _ (some headPart) hq, h1, h2]
      have e : (Value.type "list" != Value.type "list") = false := by simp
      simp only [e, Bool.false_eq_true, if_false, Sem.wp_bind', Sem.wp_pure']
      erw [Sem.wp_bind] at x
      rw [tcT_eq] at x
      refine Sem.wp_mono M Γ _ (fun v p' s' h' => ?_) (fun _ _ _ h' => h') _ _ x
      cases v with
      | none => exact absurd h' (by simp)
      | some v => exact h'
    · exact absurd x (by simp)
  · exact absurd x (by simp)
noncomputable def sNe : Str := ⟨#[95, 95, 110, 101, 95, 95]⟩
/-- a choice by two lists' being unlike, the room not asked -/
noncomputable def pickN (l r b o : PySem.Expr) (p : Pos) (env : Env) : Sem PySem.Fin := point.bind fun _ => (((evT l env).bind fun lv => (evT r env).bind fun rv => (standAt p).bind fun _ => (listsN sNe lv rv).bind fun c => (trT c).bind fun t => match t with
  | true => evT b env
  | false => evT o env).onRaise (lvT env)).bind fun v => ret v
theorem pickN_wp {l r b o : PySem.Expr} {p q : Pos} {env : Env} (hm : behindInMarks .NotEq r = false) (hu : Γ.units < cLine) {Q : PySem.Fin → Pos → Shared → Prop} {E : Value → Pos → Shared → Prop} {p' : Pos} {s : Shared}
    (x : wp M Γ (pickN l r b o p env) Q E p' s) : wp M Γ (denote table (.expr (.IfExp (.Compare l [.NotEq] [r] p) b o q) env)) Q E p' s := by
  unfold pickN at x
  show wp M Γ (do point; ret (← (eval (.IfExp (.Compare l [.NotEq] [r] p) b o q) env).onRaise (leaving env))) _ _ _ _
  rw [arm_eval_IfExp, arm_isTrue_Compare]
  rw [lvT_eq, evT_eq, trT_eq] at x
  have e : markedEach [CmpOp.NotEq] [r] (evalEach [r] env) = [eval r env] := by
    show [markedBehindIn .NotEq r (eval r env)] = _
    rw [markedBehindIn_of_false hm]
  have e2 : ∀ lv, testChain p lv [.NotEq] [eval r env] = (do
    let rv ← holding [lv] (eval r env)
    standAt p
    let c ← operate [lv, rv] (compareOp .NotEq lv rv)
    holding [c] (truthy c)) := fun _ => rfl
  simp only [e, e2]
  simp only [Sem.wp_bind', Sem.wp_bind, Sem.wp_onRaise, Sem.wp_cmd_point, Sem.wp_holding, Sem.wp_cmd_standAt, Sem.wp_operate] at x ⊢
  refine Sem.wp_mono M Γ _ (fun lv p₁ s₁ x => ?_) (fun _ _ _ h' => h') _ _ x
  refine Sem.wp_mono M Γ _ (fun rv p₂ s₂ x => ?_) (fun _ _ _ h' => h') _ _ x
  refine listsN_wp (f := sNe) rfl (fun _ _ => rfl) hu (Sem.wp_mono M Γ _ (fun c p₃ s₃ x => ?_) (fun _ _ _ h' => h') _ _ x)
  refine Sem.wp_mono M Γ _ (fun t p₄ s₄ x => ?_) (fun _ _ _ h' => h') _ _ x
  cases t <;> exact x
end
noncomputable def goF (c : Code) (A : Around) : Sem PySem.Fin := match c with
  | .expr (.IfExp (.Compare l [.NotEq] [r] p) b o _) env => match Nat.ble (A.under c).units 9000 && !behindInMarks .NotEq r with
    | true => pickN l r b o p env
    | false => Dz c
  | c => goE c A
theorem goF_sound {M : Model} {c : Code} {A : Around} {Q : PySem.Fin → Shared → Prop} {E : Value → Shared → Prop} {s : Shared} (x : wpOwn M A c (goF c A) Q E s) : wpOwn M A c (denote table c) Q E s := by
  unfold goF at x
  split at x
  · split at x
    · rename_i hb
      obtain ⟨hb, hm⟩ := Bool.and_eq_true_iff.mp hb
      have hu := Nat.le_of_ble_eq_true hb
      intro Γ p hc hΓ
      have hi := (hc ▸ hΓ.in : Γ.In (A.under _))
      exact pickN_wp (by simpa using hm) (Nat.lt_of_le_of_lt hi.2.2.2.2 (Nat.lt_of_le_of_lt hu (by decide))) (x Γ p hc hΓ)
    · rw [← Dz_eq]; exact x
  · exact goE_sound x
end Mine
end
-- part Ktop
section
namespace Mine
/-! the functions' parts, taken from the program -/
noncomputable abbrev pwB : List Stmt := PySem.Challenge.pw_re0128_01.main.body
noncomputable def pStAt : Nat → List Stmt → Stmt
  | _, [] => .Pass ⟨0, 0, 0, 0⟩
  | 0, s :: _ => s
  | n + 1, _ :: r => pStAt n r
noncomputable def pBodyOf : Stmt → List Stmt
  | .FunctionDef _ _ b _ _ _ _ _ _ _ => b
  | .ClassDef _ _ _ b _ _ _ _ _ _ _ => b
  | _ => []
noncomputable def pArgsOf : Stmt → Arguments
  | .FunctionDef _ a _ _ _ _ _ _ _ _ => a
  | _ => ⟨[], [], none, [], [], none, []⟩
noncomputable def pScopeOf : Stmt → Scope
  | .FunctionDef _ _ _ _ _ _ sc _ _ _ => sc
  | _ => ⟨.function, [], false, false, []⟩
noncomputable def q0 : Str := ⟨⟨[95,95,110,97,109,101,95,95]⟩⟩
noncomputable def q1 : Str := ⟨⟨[98,117,105,108,116,105,110,115]⟩⟩
noncomputable def q2 : Str := ⟨⟨[95,95,100,111,99,95,95]⟩⟩
noncomputable def q3 : Str := ⟨⟨[95,95,112,97,99,107,97,103,101,95,95]⟩⟩
noncomputable def q4 : Str := ⟨⟨[95,95,108,111,97,100,101,114,95,95]⟩⟩
noncomputable def q5 : Str := ⟨⟨[95,95,115,112,101,99,95,95]⟩⟩
noncomputable def q6 : Str := ⟨⟨[95,95,98,117,105,108,100,95,99,108,97,115,115,95,95]⟩⟩
noncomputable def q7 : Str := ⟨⟨[95,95,105,109,112,111,114,116,95,95]⟩⟩
noncomputable def q8 : Str := ⟨⟨[97,98,115]⟩⟩
noncomputable def q9 : Str := ⟨⟨[97,108,108]⟩⟩
noncomputable def q10 : Str := ⟨⟨[97,110,121]⟩⟩
noncomputable def q11 : Str := ⟨⟨[97,115,99,105,105]⟩⟩
noncomputable def q12 : Str := ⟨⟨[98,105,110]⟩⟩
noncomputable def q13 : Str := ⟨⟨[98,114,101,97,107,112,111,105,110,116]⟩⟩
noncomputable def q14 : Str := ⟨⟨[99,97,108,108,97,98,108,101]⟩⟩
noncomputable def q15 : Str := ⟨⟨[99,104,114]⟩⟩
noncomputable def q16 : Str := ⟨⟨[99,111,109,112,105,108,101]⟩⟩
noncomputable def q17 : Str := ⟨⟨[100,101,108,97,116,116,114]⟩⟩
noncomputable def q18 : Str := ⟨⟨[100,105,114]⟩⟩
noncomputable def q19 : Str := ⟨⟨[100,105,118,109,111,100]⟩⟩
noncomputable def q20 : Str := ⟨⟨[101,118,97,108]⟩⟩
noncomputable def q21 : Str := ⟨⟨[101,120,101,99]⟩⟩
noncomputable def q22 : Str := ⟨⟨[102,111,114,109,97,116]⟩⟩
noncomputable def q23 : Str := ⟨⟨[103,101,116,97,116,116,114]⟩⟩
noncomputable def q24 : Str := ⟨⟨[103,108,111,98,97,108,115]⟩⟩
noncomputable def q25 : Str := ⟨⟨[104,97,115,97,116,116,114]⟩⟩
noncomputable def q26 : Str := ⟨⟨[104,97,115,104]⟩⟩
noncomputable def q27 : Str := ⟨⟨[104,101,120]⟩⟩
noncomputable def q28 : Str := ⟨⟨[105,110,112,117,116]⟩⟩
noncomputable def q29 : Str := ⟨⟨[105,115,105,110,115,116,97,110,99,101]⟩⟩
noncomputable def q30 : Str := ⟨⟨[105,115,115,117,98,99,108,97,115,115]⟩⟩
noncomputable def q31 : Str := ⟨⟨[105,116,101,114]⟩⟩
noncomputable def q32 : Str := ⟨⟨[97,105,116,101,114]⟩⟩
noncomputable def q33 : Str := ⟨⟨[108,101,110]⟩⟩
noncomputable def q34 : Str := ⟨⟨[108,111,99,97,108,115]⟩⟩
noncomputable def q35 : Str := ⟨⟨[109,97,120]⟩⟩
noncomputable def q36 : Str := ⟨⟨[109,105,110]⟩⟩
noncomputable def q37 : Str := ⟨⟨[110,101,120,116]⟩⟩
noncomputable def q38 : Str := ⟨⟨[97,110,101,120,116]⟩⟩
noncomputable def q39 : Str := ⟨⟨[111,99,116]⟩⟩
noncomputable def q40 : Str := ⟨⟨[111,114,100]⟩⟩
noncomputable def q41 : Str := ⟨⟨[112,111,119]⟩⟩
noncomputable def q42 : Str := ⟨⟨[112,114,105,110,116]⟩⟩
noncomputable def q43 : Str := ⟨⟨[114,101,112,114]⟩⟩
noncomputable def q44 : Str := ⟨⟨[114,111,117,110,100]⟩⟩
noncomputable def q45 : Str := ⟨⟨[115,101,116,97,116,116,114]⟩⟩
noncomputable def q46 : Str := ⟨⟨[115,111,114,116,101,100]⟩⟩
noncomputable def q47 : Str := ⟨⟨[115,117,109]⟩⟩
noncomputable def q48 : Str := ⟨⟨[118,97,114,115]⟩⟩
noncomputable def q49 : Str := ⟨⟨[78,111,110,101]⟩⟩
noncomputable def q50 : Str := ⟨⟨[69,108,108,105,112,115,105,115]⟩⟩
noncomputable def q51 : Str := ⟨⟨[78,111,116,73,109,112,108,101,109,101,110,116,101,100]⟩⟩
noncomputable def q52 : Str := ⟨⟨[70,97,108,115,101]⟩⟩
noncomputable def q53 : Str := ⟨⟨[84,114,117,101]⟩⟩
noncomputable def q54 : Str := ⟨⟨[98,111,111,108]⟩⟩
noncomputable def q55 : Str := ⟨⟨[109,101,109,111,114,121,118,105,101,119]⟩⟩
noncomputable def q56 : Str := ⟨⟨[98,121,116,101,97,114,114,97,121]⟩⟩
noncomputable def q57 : Str := ⟨⟨[98,121,116,101,115]⟩⟩
noncomputable def q58 : Str := ⟨⟨[99,108,97,115,115,109,101,116,104,111,100]⟩⟩
noncomputable def q59 : Str := ⟨⟨[99,111,109,112,108,101,120]⟩⟩
noncomputable def q60 : Str := ⟨⟨[100,105,99,116]⟩⟩
noncomputable def q61 : Str := ⟨⟨[101,110,117,109,101,114,97,116,101]⟩⟩
noncomputable def q62 : Str := ⟨⟨[102,105,108,116,101,114]⟩⟩
noncomputable def q63 : Str := ⟨⟨[102,108,111,97,116]⟩⟩
noncomputable def q64 : Str := ⟨⟨[102,114,111,122,101,110,115,101,116]⟩⟩
noncomputable def q65 : Str := ⟨⟨[112,114,111,112,101,114,116,121]⟩⟩
noncomputable def q66 : Str := ⟨⟨[105,110,116]⟩⟩
noncomputable def q67 : Str := ⟨⟨[108,105,115,116]⟩⟩
noncomputable def q68 : Str := ⟨⟨[109,97,112]⟩⟩
noncomputable def q69 : Str := ⟨⟨[111,98,106,101,99,116]⟩⟩
noncomputable def q70 : Str := ⟨⟨[114,97,110,103,101]⟩⟩
noncomputable def q71 : Str := ⟨⟨[114,101,118,101,114,115,101,100]⟩⟩
noncomputable def q72 : Str := ⟨⟨[115,101,116]⟩⟩
noncomputable def q73 : Str := ⟨⟨[115,108,105,99,101]⟩⟩
noncomputable def q74 : Str := ⟨⟨[115,116,97,116,105,99,109,101,116,104,111,100]⟩⟩
noncomputable def q75 : Str := ⟨⟨[115,116,114]⟩⟩
noncomputable def q76 : Str := ⟨⟨[115,117,112,101,114]⟩⟩
noncomputable def q77 : Str := ⟨⟨[116,117,112,108,101]⟩⟩
noncomputable def q78 : Str := ⟨⟨[116,121,112,101]⟩⟩
noncomputable def q79 : Str := ⟨⟨[122,105,112]⟩⟩
noncomputable def q80 : Str := ⟨⟨[95,95,100,101,98,117,103,95,95]⟩⟩
noncomputable def q81 : Str := ⟨⟨[66,97,115,101,69,120,99,101,112,116,105,111,110]⟩⟩
noncomputable def q82 : Str := ⟨⟨[66,97,115,101,69,120,99,101,112,116,105,111,110,71,114,111,117,112]⟩⟩
noncomputable def q83 : Str := ⟨⟨[69,120,99,101,112,116,105,111,110]⟩⟩
noncomputable def q84 : Str := ⟨⟨[71,101,110,101,114,97,116,111,114,69,120,105,116]⟩⟩
noncomputable def q85 : Str := ⟨⟨[75,101,121,98,111,97,114,100,73,110,116,101,114,114,117,112,116]⟩⟩
noncomputable def q86 : Str := ⟨⟨[83,121,115,116,101,109,69,120,105,116]⟩⟩
noncomputable def q87 : Str := ⟨⟨[65,114,105,116,104,109,101,116,105,99,69,114,114,111,114]⟩⟩
noncomputable def q88 : Str := ⟨⟨[65,115,115,101,114,116,105,111,110,69,114,114,111,114]⟩⟩
noncomputable def q89 : Str := ⟨⟨[65,116,116,114,105,98,117,116,101,69,114,114,111,114]⟩⟩
noncomputable def q90 : Str := ⟨⟨[66,117,102,102,101,114,69,114,114,111,114]⟩⟩
noncomputable def q91 : Str := ⟨⟨[69,79,70,69,114,114,111,114]⟩⟩
noncomputable def q92 : Str := ⟨⟨[73,109,112,111,114,116,69,114,114,111,114]⟩⟩
noncomputable def q93 : Str := ⟨⟨[76,111,111,107,117,112,69,114,114,111,114]⟩⟩
noncomputable def q94 : Str := ⟨⟨[77,101,109,111,114,121,69,114,114,111,114]⟩⟩
noncomputable def q95 : Str := ⟨⟨[78,97,109,101,69,114,114,111,114]⟩⟩
noncomputable def q96 : Str := ⟨⟨[79,83,69,114,114,111,114]⟩⟩
noncomputable def q97 : Str := ⟨⟨[82,101,102,101,114,101,110,99,101,69,114,114,111,114]⟩⟩
noncomputable def q98 : Str := ⟨⟨[82,117,110,116,105,109,101,69,114,114,111,114]⟩⟩
noncomputable def q99 : Str := ⟨⟨[83,116,111,112,65,115,121,110,99,73,116,101,114,97,116,105,111,110]⟩⟩
noncomputable def q100 : Str := ⟨⟨[83,116,111,112,73,116,101,114,97,116,105,111,110]⟩⟩
noncomputable def q101 : Str := ⟨⟨[83,121,110,116,97,120,69,114,114,111,114]⟩⟩
noncomputable def q102 : Str := ⟨⟨[83,121,115,116,101,109,69,114,114,111,114]⟩⟩
noncomputable def q103 : Str := ⟨⟨[84,121,112,101,69,114,114,111,114]⟩⟩
noncomputable def q104 : Str := ⟨⟨[86,97,108,117,101,69,114,114,111,114]⟩⟩
noncomputable def q105 : Str := ⟨⟨[87,97,114,110,105,110,103]⟩⟩
noncomputable def q106 : Str := ⟨⟨[70,108,111,97,116,105,110,103,80,111,105,110,116,69,114,114,111,114]⟩⟩
noncomputable def q107 : Str := ⟨⟨[79,118,101,114,102,108,111,119,69,114,114,111,114]⟩⟩
noncomputable def q108 : Str := ⟨⟨[90,101,114,111,68,105,118,105,115,105,111,110,69,114,114,111,114]⟩⟩
noncomputable def q109 : Str := ⟨⟨[66,121,116,101,115,87,97,114,110,105,110,103]⟩⟩
noncomputable def q110 : Str := ⟨⟨[68,101,112,114,101,99,97,116,105,111,110,87,97,114,110,105,110,103]⟩⟩
noncomputable def q111 : Str := ⟨⟨[69,110,99,111,100,105,110,103,87,97,114,110,105,110,103]⟩⟩
noncomputable def q112 : Str := ⟨⟨[70,117,116,117,114,101,87,97,114,110,105,110,103]⟩⟩
noncomputable def q113 : Str := ⟨⟨[73,109,112,111,114,116,87,97,114,110,105,110,103]⟩⟩
noncomputable def q114 : Str := ⟨⟨[80,101,110,100,105,110,103,68,101,112,114,101,99,97,116,105,111,110,87,97,114,110,105,110,103]⟩⟩
noncomputable def q115 : Str := ⟨⟨[82,101,115,111,117,114,99,101,87,97,114,110,105,110,103]⟩⟩
noncomputable def q116 : Str := ⟨⟨[82,117,110,116,105,109,101,87,97,114,110,105,110,103]⟩⟩
noncomputable def q117 : Str := ⟨⟨[83,121,110,116,97,120,87,97,114,110,105,110,103]⟩⟩
noncomputable def q118 : Str := ⟨⟨[85,110,105,99,111,100,101,87,97,114,110,105,110,103]⟩⟩
noncomputable def q119 : Str := ⟨⟨[85,115,101,114,87,97,114,110,105,110,103]⟩⟩
noncomputable def q120 : Str := ⟨⟨[66,108,111,99,107,105,110,103,73,79,69,114,114,111,114]⟩⟩
noncomputable def q121 : Str := ⟨⟨[67,104,105,108,100,80,114,111,99,101,115,115,69,114,114,111,114]⟩⟩
noncomputable def q122 : Str := ⟨⟨[67,111,110,110,101,99,116,105,111,110,69,114,114,111,114]⟩⟩
noncomputable def q123 : Str := ⟨⟨[70,105,108,101,69,120,105,115,116,115,69,114,114,111,114]⟩⟩
noncomputable def q124 : Str := ⟨⟨[70,105,108,101,78,111,116,70,111,117,110,100,69,114,114,111,114]⟩⟩
noncomputable def q125 : Str := ⟨⟨[73,110,116,101,114,114,117,112,116,101,100,69,114,114,111,114]⟩⟩
noncomputable def q126 : Str := ⟨⟨[73,115,65,68,105,114,101,99,116,111,114,121,69,114,114,111,114]⟩⟩
noncomputable def q127 : Str := ⟨⟨[78,111,116,65,68,105,114,101,99,116,111,114,121,69,114,114,111,114]⟩⟩
noncomputable def q128 : Str := ⟨⟨[80,101,114,109,105,115,115,105,111,110,69,114,114,111,114]⟩⟩
noncomputable def q129 : Str := ⟨⟨[80,114,111,99,101,115,115,76,111,111,107,117,112,69,114,114,111,114]⟩⟩
noncomputable def q130 : Str := ⟨⟨[84,105,109,101,111,117,116,69,114,114,111,114]⟩⟩
noncomputable def q131 : Str := ⟨⟨[73,110,100,101,110,116,97,116,105,111,110,69,114,114,111,114]⟩⟩
noncomputable def q132 : Str := ⟨⟨[95,73,110,99,111,109,112,108,101,116,101,73,110,112,117,116,69,114,114,111,114]⟩⟩
noncomputable def q133 : Str := ⟨⟨[73,110,100,101,120,69,114,114,111,114]⟩⟩
noncomputable def q134 : Str := ⟨⟨[75,101,121,69,114,114,111,114]⟩⟩
noncomputable def q135 : Str := ⟨⟨[77,111,100,117,108,101,78,111,116,70,111,117,110,100,69,114,114,111,114]⟩⟩
noncomputable def q136 : Str := ⟨⟨[78,111,116,73,109,112,108,101,109,101,110,116,101,100,69,114,114,111,114]⟩⟩
noncomputable def q137 : Str := ⟨⟨[80,121,116,104,111,110,70,105,110,97,108,105,122,97,116,105,111,110,69,114,114,111,114]⟩⟩
noncomputable def q138 : Str := ⟨⟨[82,101,99,117,114,115,105,111,110,69,114,114,111,114]⟩⟩
noncomputable def q139 : Str := ⟨⟨[85,110,98,111,117,110,100,76,111,99,97,108,69,114,114,111,114]⟩⟩
noncomputable def q140 : Str := ⟨⟨[85,110,105,99,111,100,101,69,114,114,111,114]⟩⟩
noncomputable def q141 : Str := ⟨⟨[66,114,111,107,101,110,80,105,112,101,69,114,114,111,114]⟩⟩
noncomputable def q142 : Str := ⟨⟨[67,111,110,110,101,99,116,105,111,110,65,98,111,114,116,101,100,69,114,114,111,114]⟩⟩
noncomputable def q143 : Str := ⟨⟨[67,111,110,110,101,99,116,105,111,110,82,101,102,117,115,101,100,69,114,114,111,114]⟩⟩
noncomputable def q144 : Str := ⟨⟨[67,111,110,110,101,99,116,105,111,110,82,101,115,101,116,69,114,114,111,114]⟩⟩
noncomputable def q145 : Str := ⟨⟨[84,97,98,69,114,114,111,114]⟩⟩
noncomputable def q146 : Str := ⟨⟨[85,110,105,99,111,100,101,68,101,99,111,100,101,69,114,114,111,114]⟩⟩
noncomputable def q147 : Str := ⟨⟨[85,110,105,99,111,100,101,69,110,99,111,100,101,69,114,114,111,114]⟩⟩
noncomputable def q148 : Str := ⟨⟨[85,110,105,99,111,100,101,84,114,97,110,115,108,97,116,101,69,114,114,111,114]⟩⟩
noncomputable def q149 : Str := ⟨⟨[69,120,99,101,112,116,105,111,110,71,114,111,117,112]⟩⟩
noncomputable def q150 : Str := ⟨⟨[69,110,118,105,114,111,110,109,101,110,116,69,114,114,111,114]⟩⟩
noncomputable def q151 : Str := ⟨⟨[73,79,69,114,114,111,114]⟩⟩
noncomputable def q152 : Str := ⟨⟨[111,112,101,110]⟩⟩
noncomputable def q153 : Str := ⟨⟨[113,117,105,116]⟩⟩
noncomputable def q154 : Str := ⟨⟨[101,120,105,116]⟩⟩
noncomputable def q155 : Str := ⟨⟨[99,111,112,121,114,105,103,104,116]⟩⟩
noncomputable def q156 : Str := ⟨⟨[99,114,101,100,105,116,115]⟩⟩
noncomputable def q157 : Str := ⟨⟨[108,105,99,101,110,115,101]⟩⟩
noncomputable def q158 : Str := ⟨⟨[104,101,108,112]⟩⟩
noncomputable def q159 : Str := ⟨⟨[95,95,109,97,105,110,95,95]⟩⟩
noncomputable def q160 : Value := (.str ⟨⟨[108,97,119,95,114,101,48,49,50,56,95,48,49]⟩⟩ 2306)
noncomputable def q161 : Str := ⟨⟨[95,95,97,110,110,111,116,97,116,105,111,110,115,95,95]⟩⟩
noncomputable def q162 : Str := ⟨⟨[95,95,98,117,105,108,116,105,110,115,95,95]⟩⟩
noncomputable def q163 : Str := ⟨⟨[95,95,102,105,108,101,95,95]⟩⟩
noncomputable def q164 : Str := ⟨⟨[47,99,108,97,105,109,47,99,117,116,46,112,121]⟩⟩
noncomputable def q165 : Str := ⟨⟨[95,95,99,97,99,104,101,100,95,95]⟩⟩
noncomputable def q166 : Str := ⟨⟨[95,119,97,108,108]⟩⟩
noncomputable def q167 : Str := ⟨⟨[95,105,116,101,114,95,101,115,99,97,112,101,100,95,99,104,97,114,115]⟩⟩
noncomputable def q168 : Str := ⟨⟨[95,115,116,114,105,112,95,113,117,111,116,101,100,95,114,101,97,108,110,97,109,101,115]⟩⟩
noncomputable def q169 : Str := ⟨⟨[95,110,101,116,114,99,108,101,120]⟩⟩
noncomputable def q170 : Str := ⟨⟨[98,49,95,115,101,116]⟩⟩
noncomputable def q171 : Str := ⟨⟨[105,110,95,116,97,98,108,101,95,98,49]⟩⟩
noncomputable def q172 : Str := ⟨⟨[98,51,95,101,120,99,101,112,116,105,111,110,115]⟩⟩
noncomputable def q173 : Str := ⟨⟨[109,97,112,95,116,97,98,108,101,95,98,51]⟩⟩
noncomputable def q174 : Str := ⟨⟨[95,108,97,119,95,114,101,97,100]⟩⟩
noncomputable def q175 : Str := ⟨⟨[95,108,97,119,95,112,114,101,112,97,114,101,100]⟩⟩
noncomputable def q176 : Str := ⟨⟨[95,108,97,119,95,119,111,114,116,104,115]⟩⟩
noncomputable def q177 : Str := ⟨⟨[95,108,97,119,95,108,101,102,116]⟩⟩
noncomputable def q178 : Str := ⟨⟨[108,97,119]⟩⟩
noncomputable def q180 : Str := ⟨⟨[97,100,100,114]⟩⟩
noncomputable def q181 : Str := ⟨⟨[115,116,97,114,116]⟩⟩
noncomputable def q182 : Str := ⟨⟨[111,112,101,110,95,112,111,115]⟩⟩
noncomputable def q183 : Str := ⟨⟨[114,101,115,117,108,116]⟩⟩
noncomputable def q184 : Str := ⟨⟨[112,111,115]⟩⟩
noncomputable def q185 : Str := ⟨⟨[103,101,116,95,116,111,107,101,110]⟩⟩
noncomputable def q186 : Str := ⟨⟨[95,110,101,116,114,99,108,101,120,46,103,101,116,95,116,111,107,101,110]⟩⟩
noncomputable def q187 : Str := ⟨⟨[115,101,108,102]⟩⟩
noncomputable def q188 : Arguments := pArgsOf (pStAt 2 (pBodyOf (pStAt 5 pwB)))
noncomputable def q189 : Str := ⟨⟨[112,117,115,104,98,97,99,107]⟩⟩
noncomputable def q191 : Str := ⟨⟨[116,111,107,101,110]⟩⟩
noncomputable def q192 : Str := ⟨⟨[102,105,116,101,114]⟩⟩
noncomputable def q193 : Str := ⟨⟨[95,114,101,97,100,95,99,104,97,114]⟩⟩
noncomputable def q194 : Str := ⟨⟨[119,104,105,116,101,115,112,97,99,101]⟩⟩
noncomputable def q195 : FuncBody := .stmts (pBodyOf (pStAt 2 (pBodyOf (pStAt 5 pwB))))
noncomputable def q199 : Scope := pScopeOf (pStAt 2 (pBodyOf (pStAt 5 pwB)))
noncomputable def q200 : Value := (.str ⟨⟨[99,112,121,51,49,51,46,110,101,116,114,99]⟩⟩ 218)
noncomputable def q201 : Str := ⟨⟨[99,111,100,101]⟩⟩
noncomputable def q202 : Arguments := pArgsOf (pStAt 8 pwB)
noncomputable def q203 : FuncBody := .stmts (pBodyOf (pStAt 8 pwB))
noncomputable def q206 : Scope := pScopeOf (pStAt 8 pwB)
noncomputable def q207 : Value := (.str ⟨⟨[99,112,121,51,49,51,46,115,116,114,105,110,103,112,114,101,112]⟩⟩ 278)
noncomputable def q208 : Str := ⟨⟨[95,95,105,110,105,116,95,95]⟩⟩
noncomputable def q209 : Str := ⟨⟨[95,110,101,116,114,99,108,101,120,46,95,95,105,110,105,116,95,95]⟩⟩
noncomputable def q210 : Arguments := pArgsOf (pStAt 0 (pBodyOf (pStAt 5 pwB)))
noncomputable def q211 : Str := ⟨⟨[108,105,110,101,110,111]⟩⟩
noncomputable def q212 : Str := ⟨⟨[105,110,115,116,114,101,97,109]⟩⟩
noncomputable def q213 : FuncBody := .stmts (pBodyOf (pStAt 0 (pBodyOf (pStAt 5 pwB))))
noncomputable def q214 : Scope := pScopeOf (pStAt 0 (pBodyOf (pStAt 5 pwB)))
noncomputable def q216 : Str := ⟨⟨[95,110,101,116,114,99,108,101,120,46,95,114,101,97,100,95,99,104,97,114]⟩⟩
noncomputable def q217 : Str := ⟨⟨[116,101,120,116]⟩⟩
noncomputable def q218 : Arguments := pArgsOf (pStAt 13 pwB)
noncomputable def q222 : FuncBody := .stmts (pBodyOf (pStAt 13 pwB))
noncomputable def q226 : Scope := pScopeOf (pStAt 13 pwB)
noncomputable def q227 : Arguments := pArgsOf (pStAt 0 pwB)
noncomputable def q228 : FuncBody := .stmts (pBodyOf (pStAt 0 pwB))
noncomputable def q230 : Scope := pScopeOf (pStAt 0 pwB)
noncomputable def q231 : Arguments := pArgsOf (pStAt 3 pwB)
noncomputable def q235 : FuncBody := .stmts (pBodyOf (pStAt 3 pwB))
noncomputable def q239 : Scope := pScopeOf (pStAt 3 pwB)
noncomputable def q240 : Value := (.str ⟨⟨[99,112,121,51,49,51,46,101,109,97,105,108,46,117,116,105,108,115]⟩⟩ 194)
noncomputable def q241 : Str := ⟨⟨[104,101,97,112,115]⟩⟩
noncomputable def q242 : Str := ⟨⟨[119,111,114,116,104]⟩⟩
noncomputable def q243 : Str := ⟨⟨[112,111,119,101,114]⟩⟩
noncomputable def q244 : Arguments := pArgsOf (pStAt 15 pwB)
noncomputable def q245 : Str := ⟨⟨[108,101,102,116]⟩⟩
noncomputable def q246 : Str := ⟨⟨[114,117,110]⟩⟩
noncomputable def q247 : FuncBody := .stmts (pBodyOf (pStAt 15 pwB))
noncomputable def q251 : Scope := pScopeOf (pStAt 15 pwB)
noncomputable def q252 : Str := ⟨⟨[95,95,119,101,97,107,114,101,102,95,95]⟩⟩
noncomputable def q253 : Arguments := pArgsOf (pStAt 10 pwB)
noncomputable def q254 : FuncBody := .stmts (pBodyOf (pStAt 10 pwB))
noncomputable def q256 : Scope := pScopeOf (pStAt 10 pwB)
noncomputable def q257 : Str := ⟨⟨[60,109,111,100,117,108,101,62]⟩⟩
noncomputable def q258 : Str := ⟨⟨[115,105,103,110,115]⟩⟩
noncomputable def q259 : Value := (.str q169 228)
noncomputable def q260 : Value := (.str q159 164)
noncomputable def q261 : Str := ⟨⟨[112,117,115,104,95,116,111,107,101,110]⟩⟩
noncomputable def q262 : Str := ⟨⟨[95,110,101,116,114,99,108,101,120,46,112,117,115,104,95,116,111,107,101,110]⟩⟩
noncomputable def q263 : Str := ⟨⟨[953,776,769]⟩⟩
noncomputable def q264 : Str := ⟨⟨[965,776,769]⟩⟩
noncomputable def q265 : Str := ⟨⟨[115,116,114,101,97,109]⟩⟩
noncomputable def q266 : Str := ⟨⟨[108,101,120,101,114]⟩⟩
noncomputable def q267 : Str := ⟨⟨[119,111,114,100]⟩⟩
noncomputable def q268 : Str := ⟨⟨[101,115,99,97,112,101]⟩⟩
noncomputable def q269 : Str := ⟨⟨[95,95,109,111,100,117,108,101,95,95]⟩⟩
noncomputable def q270 : Str := ⟨⟨[95,95,102,105,114,115,116,108,105,110,101,110,111,95,95]⟩⟩
noncomputable def q271 : Str := ⟨⟨[95,95,115,116,97,116,105,99,95,97,116,116,114,105,98,117,116,101,115,95,95]⟩⟩
noncomputable def q272 : Str := ⟨⟨[95,95,100,105,99,116,95,95]⟩⟩
noncomputable def q274 : Arguments := pArgsOf (pStAt 16 pwB)
noncomputable def q285 : FuncBody := .stmts (pBodyOf (pStAt 16 pwB))
noncomputable def q291 : Scope := pScopeOf (pStAt 16 pwB)
noncomputable def q292 : Arguments := pArgsOf (pStAt 1 (pBodyOf (pStAt 5 pwB)))
noncomputable def q294 : FuncBody := .stmts (pBodyOf (pStAt 1 (pBodyOf (pStAt 5 pwB))))
noncomputable def q295 : Scope := pScopeOf (pStAt 1 (pBodyOf (pStAt 5 pwB)))
noncomputable def q296 : Arguments := pArgsOf (pStAt 3 (pBodyOf (pStAt 5 pwB)))
noncomputable def q298 : FuncBody := .stmts (pBodyOf (pStAt 3 (pBodyOf (pStAt 5 pwB))))
noncomputable def q299 : Scope := pScopeOf (pStAt 3 (pBodyOf (pStAt 5 pwB)))
noncomputable def q300 : Arguments := pArgsOf (pStAt 12 pwB)
noncomputable def q302 : FuncBody := .stmts (pBodyOf (pStAt 12 pwB))
noncomputable def q303 : Scope := pScopeOf (pStAt 12 pwB)
noncomputable def q304 : Arguments := pArgsOf (pStAt 2 pwB)
noncomputable def q308 : FuncBody := .stmts (pBodyOf (pStAt 2 pwB))
noncomputable def q309 : Scope := pScopeOf (pStAt 2 pwB)
noncomputable def q310 : Arguments := pArgsOf (pStAt 14 pwB)
noncomputable def q320 : FuncBody := .stmts (pBodyOf (pStAt 14 pwB))
noncomputable def q321 : Scope := pScopeOf (pStAt 14 pwB)
noncomputable def q322 : Option Value := (.some q260)
noncomputable def q323 : Str := ⟨⟨[95,95,113,117,97,108,110,97,109,101,95,95]⟩⟩
noncomputable def kb0 (P : Params) : Obj := ⟨(.type PySem.W.SL.s14018661285674007319x4),.none,(.dict (List.toArray [⟨(PySem.PyData.keyHash P q0),(.str q0 1),(.str q1 160)⟩,⟨(PySem.PyData.keyHash P q2),(.str q2 2),(.builtin "builtins.__doc__:str#opaque")⟩,⟨(PySem.PyData.keyHash P q3),(.str q3 3),(.builtin "builtins.__package__:str#opaque")⟩,⟨(PySem.PyData.keyHash P q4),(.str q4 4),(.builtin "builtins.__loader__:shared#opaque")⟩,⟨(PySem.PyData.keyHash P q5),(.str q5 5),(.builtin PySem.W.SL.s11665532747177232413x24)⟩,⟨(PySem.PyData.keyHash P q6),(.str q6 6),(.builtin PySem.W.SL.s15183661809925369436x15)⟩,⟨(PySem.PyData.keyHash P q7),(.str q7 7),(.builtin PySem.W.SL.s13915890719876406383x10)⟩,⟨(PySem.PyData.keyHash P q8),(.str q8 8),(.builtin PySem.W.SL.s13459172003223722735x3)⟩,⟨(PySem.PyData.keyHash P q9),(.str q9 9),(.builtin PySem.W.SL.s10557405761357834076x3)⟩,⟨(PySem.PyData.keyHash P q10),(.str q10 10),(.builtin PySem.W.SL.s4233737765568776869x3)⟩,⟨(PySem.PyData.keyHash P q11),(.str q11 11),(.builtin PySem.W.SL.s2508922471967985374x5)⟩,⟨(PySem.PyData.keyHash P q12),(.str q12 12),(.builtin PySem.W.SL.s15574269061696679450x3)⟩,⟨(PySem.PyData.keyHash P q13),(.str q13 13),(.builtin PySem.W.SL.s6016482663378992977x10)⟩,⟨(PySem.PyData.keyHash P q14),(.str q14 14),(.builtin PySem.W.SL.s5596568736180474577x8)⟩,⟨(PySem.PyData.keyHash P q15),(.str q15 15),(.builtin PySem.W.SL.s2839554839881490554x3)⟩,⟨(PySem.PyData.keyHash P q16),(.str q16 16),(.builtin PySem.W.SL.s725004073602090463x7)⟩,⟨(PySem.PyData.keyHash P q17),(.str q17 17),(.builtin PySem.W.SL.s9436932552931045734x7)⟩,⟨(PySem.PyData.keyHash P q18),(.str q18 18),(.builtin PySem.W.SL.s2754603736356183583x3)⟩,⟨(PySem.PyData.keyHash P q19),(.str q19 19),(.builtin PySem.W.SL.s15185746759980889043x6)⟩,⟨(PySem.PyData.keyHash P q20),(.str q20 20),(.builtin PySem.W.SL.s8192189862530294059x4)⟩,⟨(PySem.PyData.keyHash P q21),(.str q21 21),(.builtin PySem.W.SL.s7038307821325472102x4)⟩,⟨(PySem.PyData.keyHash P q22),(.str q22 22),(.builtin PySem.W.SL.s5662562618415449548x6)⟩,⟨(PySem.PyData.keyHash P q23),(.str q23 23),(.builtin PySem.W.SL.s15281542589158584767x7)⟩,⟨(PySem.PyData.keyHash P q24),(.str q24 24),(.builtin PySem.W.SL.s17651547275483570877x7)⟩,⟨(PySem.PyData.keyHash P q25),(.str q25 25),(.builtin PySem.W.SL.s4036449017235975746x7)⟩,⟨(PySem.PyData.keyHash P q26),(.str q26 26),(.builtin PySem.W.SL.s8879979712987360175x4)⟩,⟨(PySem.PyData.keyHash P q27),(.str q27 27),(.builtin PySem.W.SL.s1801250619170735830x3)⟩,⟨(PySem.PyData.keyHash P ⟨⟨[105,100]⟩⟩),(.str ⟨⟨[105,100]⟩⟩ 28),(.builtin PySem.W.SL.s17659931425627118568x2)⟩,⟨(PySem.PyData.keyHash P q28),(.str q28 29),(.builtin PySem.W.SL.s6063217899685152688x5)⟩,⟨(PySem.PyData.keyHash P q29),(.str q29 30),(.builtin PySem.W.SL.s8008927332132565319x10)⟩,⟨(PySem.PyData.keyHash P q30),(.str q30 31),(.builtin PySem.W.SL.s3544116645089599534x10)⟩,⟨(PySem.PyData.keyHash P q31),(.str q31 32),(.builtin PySem.W.SL.s13761710972054866084x4)⟩,⟨(PySem.PyData.keyHash P q32),(.str q32 33),(.builtin PySem.W.SL.s12896375587409280029x5)⟩,⟨(PySem.PyData.keyHash P q33),(.str q33 34),(.builtin PySem.W.SL.s13014049009108672802x3)⟩,⟨(PySem.PyData.keyHash P q34),(.str q34 35),(.builtin PySem.W.SL.s13935586738268321596x6)⟩,⟨(PySem.PyData.keyHash P q35),(.str q35 36),(.builtin PySem.W.SL.s8200498257699607233x3)⟩,⟨(PySem.PyData.keyHash P q36),(.str q36 37),(.builtin PySem.W.SL.s14114244577727609259x3)⟩,⟨(PySem.PyData.keyHash P q37),(.str q37 38),(.builtin PySem.W.SL.s1499430450269397089x4)⟩,⟨(PySem.PyData.keyHash P q38),(.str q38 39),(.builtin PySem.W.SL.s8755793994789770505x5)⟩,⟨(PySem.PyData.keyHash P q39),(.str q39 40),(.builtin PySem.W.SL.s15725212667919936108x3)⟩,⟨(PySem.PyData.keyHash P q40),(.str q40 41),(.builtin PySem.W.SL.s15791221867095933363x3)⟩,⟨(PySem.PyData.keyHash P q41),(.str q41 42),(.builtin PySem.W.SL.s81309575031448614x3)⟩,⟨(PySem.PyData.keyHash P q42),(.str q42 43),(.builtin PySem.W.SL.s8069831620301644142x5)⟩,⟨(PySem.PyData.keyHash P q43),(.str q43 44),(.builtin PySem.W.SL.s10061844253413749634x4)⟩,⟨(PySem.PyData.keyHash P q44),(.str q44 45),(.builtin PySem.W.SL.s9496514870978017513x5)⟩,⟨(PySem.PyData.keyHash P q45),(.str q45 46),(.builtin PySem.W.SL.s8899691144933366716x7)⟩,⟨(PySem.PyData.keyHash P q46),(.str q46 47),(.builtin PySem.W.SL.s15201008993051130160x6)⟩,⟨(PySem.PyData.keyHash P q47),(.str q47 48),(.builtin PySem.W.SL.s741896355592496720x3)⟩,⟨(PySem.PyData.keyHash P q48),(.str q48 49),(.builtin PySem.W.SL.s17925004256654032244x4)⟩,⟨(PySem.PyData.keyHash P q49),(.str q49 50),.none⟩,⟨(PySem.PyData.keyHash P q50),(.str q50 51),.ellipsis⟩,⟨(PySem.PyData.keyHash P q51),(.str q51 52),.notImplemented⟩,⟨(PySem.PyData.keyHash P q52),(.str q52 53),(.bool .false)⟩,⟨(PySem.PyData.keyHash P q53),(.str q53 54),(.bool .true)⟩,⟨(PySem.PyData.keyHash P q54),(.str q54 55),(.type PySem.W.SL.s11695548795398191787x4)⟩,⟨(PySem.PyData.keyHash P q55),(.str q55 56),(.type PySem.W.SL.s4156966113859768872x10)⟩,⟨(PySem.PyData.keyHash P q56),(.str q56 57),(.type PySem.W.SL.s9501651726347032510x9)⟩,⟨(PySem.PyData.keyHash P q57),(.str q57 58),(.type PySem.W.SL.s15722918466584999320x5)⟩,⟨(PySem.PyData.keyHash P q58),(.str q58 59),(.type PySem.W.SL.s591115383303110208x11)⟩,⟨(PySem.PyData.keyHash P q59),(.str q59 60),(.type PySem.W.SL.s15721156781594690315x7)⟩,⟨(PySem.PyData.keyHash P q60),(.str q60 61),(.type PySem.W.SL.s14018661285674007319x4)⟩,⟨(PySem.PyData.keyHash P q61),(.str q61 62),(.type PySem.W.SL.s14340494229221121180x9)⟩,⟨(PySem.PyData.keyHash P q62),(.str q62 63),(.type PySem.W.SL.s13429844117177748173x6)⟩,⟨(PySem.PyData.keyHash P q63),(.str q63 64),(.type PySem.W.SL.s16463266125957815391x5)⟩,⟨(PySem.PyData.keyHash P q64),(.str q64 65),(.type PySem.W.SL.s4922535414793169389x9)⟩,⟨(PySem.PyData.keyHash P q65),(.str q65 66),(.type PySem.W.SL.s8101838861749082086x8)⟩,⟨(PySem.PyData.keyHash P q66),(.str q66 67),(.type PySem.W.SL.s7066276694103001551x3)⟩,⟨(PySem.PyData.keyHash P q67),(.str q67 68),(.type PySem.W.SL.s9222952809800978799x4)⟩,⟨(PySem.PyData.keyHash P q68),(.str q68 69),(.type PySem.W.SL.s462964344163437139x3)⟩,⟨(PySem.PyData.keyHash P q69),(.str q69 70),(.type PySem.W.SL.s2742458400755230247x6)⟩,⟨(PySem.PyData.keyHash P q70),(.str q70 71),(.type PySem.W.SL.s1438033511350832697x5)⟩,⟨(PySem.PyData.keyHash P q71),(.str q71 72),(.type PySem.W.SL.s14365286008749172514x8)⟩,⟨(PySem.PyData.keyHash P q72),(.str q72 73),(.type PySem.W.SL.s3642769012341782148x3)⟩,⟨(PySem.PyData.keyHash P q73),(.str q73 74),(.type PySem.W.SL.s4674234679698826739x5)⟩,⟨(PySem.PyData.keyHash P q74),(.str q74 75),(.type PySem.W.SL.s16656946322747308186x12)⟩,⟨(PySem.PyData.keyHash P q75),(.str q75 76),(.type PySem.W.SL.s10796804682411823810x3)⟩,⟨(PySem.PyData.keyHash P q76),(.str q76 77),(.type PySem.W.SL.s4290257624100764138x5)⟩,⟨(PySem.PyData.keyHash P q77),(.str q77 78),(.type PySem.W.SL.s2766695959194262286x5)⟩,⟨(PySem.PyData.keyHash P q78),(.str q78 79),(.type PySem.W.SL.s17162191345867700912x4)⟩,⟨(PySem.PyData.keyHash P q79),(.str q79 80),(.type PySem.W.SL.s14339709457334898076x3)⟩,⟨(PySem.PyData.keyHash P q80),(.str q80 81),(.bool .true)⟩,⟨(PySem.PyData.keyHash P q81),(.str q81 82),(.type PySem.W.SL.s4278001404047624695x13)⟩,⟨(PySem.PyData.keyHash P q82),(.str q82 83),(.type PySem.W.SL.s6585700554429387442x18)⟩,⟨(PySem.PyData.keyHash P q83),(.str q83 84),(.type PySem.W.SL.s5946037652744460706x9)⟩,⟨(PySem.PyData.keyHash P q84),(.str q84 85),(.type PySem.W.SL.s7410770068591931388x13)⟩,⟨(PySem.PyData.keyHash P q85),(.str q85 86),(.type PySem.W.SL.s11817881795495490833x17)⟩,⟨(PySem.PyData.keyHash P q86),(.str q86 87),(.type PySem.W.SL.s15679963881808890155x10)⟩,⟨(PySem.PyData.keyHash P q87),(.str q87 88),(.type PySem.W.SL.s3871700062485845797x15)⟩,⟨(PySem.PyData.keyHash P q88),(.str q88 89),(.type PySem.W.SL.s7689518266570723881x14)⟩,⟨(PySem.PyData.keyHash P q89),(.str q89 90),(.type PySem.W.SL.s9001593270443806431x14)⟩,⟨(PySem.PyData.keyHash P q90),(.str q90 91),(.type PySem.W.SL.s6882542574934516792x11)⟩,⟨(PySem.PyData.keyHash P q91),(.str q91 92),(.type PySem.W.SL.s14403400214490484960x8)⟩,⟨(PySem.PyData.keyHash P q92),(.str q92 93),(.type PySem.W.SL.s14457978657717015782x11)⟩,⟨(PySem.PyData.keyHash P q93),(.str q93 94),(.type PySem.W.SL.s1753610191782819921x11)⟩,⟨(PySem.PyData.keyHash P q94),(.str q94 95),(.type PySem.W.SL.s14119380538032626715x11)⟩,⟨(PySem.PyData.keyHash P q95),(.str q95 96),(.type PySem.W.SL.s11437920000406562045x9)⟩,⟨(PySem.PyData.keyHash P q96),(.str q96 97),(.type PySem.W.SL.s10852414792293593619x7)⟩,⟨(PySem.PyData.keyHash P q97),(.str q97 98),(.type PySem.W.SL.s14816307405966870543x14)⟩,⟨(PySem.PyData.keyHash P q98),(.str q98 99),(.type PySem.W.SL.s8682627914449686677x12)⟩,⟨(PySem.PyData.keyHash P q99),(.str q99 100),(.type PySem.W.SL.s4428170145600203450x18)⟩,⟨(PySem.PyData.keyHash P q100),(.str q100 101),(.type PySem.W.SL.s5991306692159431302x13)⟩,⟨(PySem.PyData.keyHash P q101),(.str q101 102),(.type PySem.W.SL.s16067994140765818257x11)⟩,⟨(PySem.PyData.keyHash P q102),(.str q102 103),(.type PySem.W.SL.s2327743974964600596x11)⟩,⟨(PySem.PyData.keyHash P q103),(.str q103 104),(.type PySem.W.SL.s2804747833354056582x9)⟩,⟨(PySem.PyData.keyHash P q104),(.str q104 105),(.type PySem.W.SL.s6070975301684473832x10)⟩,⟨(PySem.PyData.keyHash P q105),(.str q105 106),(.type PySem.W.SL.s14270485950484850486x7)⟩,⟨(PySem.PyData.keyHash P q106),(.str q106 107),(.type PySem.W.SL.s12041534306414923332x18)⟩,⟨(PySem.PyData.keyHash P q107),(.str q107 108),(.type PySem.W.SL.s2531307568338490285x13)⟩,⟨(PySem.PyData.keyHash P q108),(.str q108 109),(.type PySem.W.SL.s631175304937289666x17)⟩,⟨(PySem.PyData.keyHash P q109),(.str q109 110),(.type PySem.W.SL.s5144983644357021410x12)⟩,⟨(PySem.PyData.keyHash P q110),(.str q110 111),(.type PySem.W.SL.s18039099521571816885x18)⟩,⟨(PySem.PyData.keyHash P q111),(.str q111 112),(.type PySem.W.SL.s6011586214260557989x15)⟩,⟨(PySem.PyData.keyHash P q112),(.str q112 113),(.type PySem.W.SL.s5430567037509283100x13)⟩,⟨(PySem.PyData.keyHash P q113),(.str q113 114),(.type PySem.W.SL.s8117915138073963741x13)⟩,⟨(PySem.PyData.keyHash P q114),(.str q114 115),(.type PySem.W.SL.s3423317712779056401x25)⟩,⟨(PySem.PyData.keyHash P q115),(.str q115 116),(.type PySem.W.SL.s2007317383269046180x15)⟩,⟨(PySem.PyData.keyHash P q116),(.str q116 117),(.type PySem.W.SL.s17481586968713580700x14)⟩,⟨(PySem.PyData.keyHash P q117),(.str q117 118),(.type PySem.W.SL.s2450899226349176912x13)⟩,⟨(PySem.PyData.keyHash P q118),(.str q118 119),(.type PySem.W.SL.s16626165730633575011x14)⟩,⟨(PySem.PyData.keyHash P q119),(.str q119 120),(.type PySem.W.SL.s14288496050688921416x11)⟩,⟨(PySem.PyData.keyHash P q120),(.str q120 121),(.type PySem.W.SL.s5735081916595925998x15)⟩,⟨(PySem.PyData.keyHash P q121),(.str q121 122),(.type PySem.W.SL.s3865607918536308442x17)⟩,⟨(PySem.PyData.keyHash P q122),(.str q122 123),(.type PySem.W.SL.s13337502604062700212x15)⟩,⟨(PySem.PyData.keyHash P q123),(.str q123 124),(.type PySem.W.SL.s13114017843053701147x15)⟩,⟨(PySem.PyData.keyHash P q124),(.str q124 125),(.type PySem.W.SL.s17467278006356818441x17)⟩,⟨(PySem.PyData.keyHash P q125),(.str q125 126),(.type PySem.W.SL.s17722149559621369488x16)⟩,⟨(PySem.PyData.keyHash P q126),(.str q126 127),(.type PySem.W.SL.s7855274175708717672x17)⟩,⟨(PySem.PyData.keyHash P q127),(.str q127 128),(.type PySem.W.SL.s13351283678309829046x18)⟩,⟨(PySem.PyData.keyHash P q128),(.str q128 129),(.type PySem.W.SL.s6668348653404991179x15)⟩,⟨(PySem.PyData.keyHash P q129),(.str q129 130),(.type PySem.W.SL.s12913350958174193794x18)⟩,⟨(PySem.PyData.keyHash P q130),(.str q130 131),(.type PySem.W.SL.s16115879512475548326x12)⟩,⟨(PySem.PyData.keyHash P q131),(.str q131 132),(.type PySem.W.SL.s15920661018069861047x16)⟩,⟨(PySem.PyData.keyHash P q132),(.str q132 133),(.type PySem.W.SL.s10779130036587390575x21)⟩,⟨(PySem.PyData.keyHash P q133),(.str q133 134),(.type PySem.W.SL.s7801419657504700863x10)⟩,⟨(PySem.PyData.keyHash P q134),(.str q134 135),(.type PySem.W.SL.s1688129525768580628x8)⟩,⟨(PySem.PyData.keyHash P q135),(.str q135 136),(.type PySem.W.SL.s1031832959479892071x19)⟩,⟨(PySem.PyData.keyHash P q136),(.str q136 137),(.type PySem.W.SL.s8991790508128307865x19)⟩,⟨(PySem.PyData.keyHash P q137),(.str q137 138),(.type PySem.W.SL.s14539662485746970245x23)⟩,⟨(PySem.PyData.keyHash P q138),(.str q138 139),(.type PySem.W.SL.s11643622729373238714x14)⟩,⟨(PySem.PyData.keyHash P q139),(.str q139 140),(.type PySem.W.SL.s3386828779285465597x17)⟩,⟨(PySem.PyData.keyHash P q140),(.str q140 141),(.type PySem.W.SL.s13042696260734638735x12)⟩,⟨(PySem.PyData.keyHash P q141),(.str q141 142),(.type PySem.W.SL.s18239426817015966623x15)⟩,⟨(PySem.PyData.keyHash P q142),(.str q142 143),(.type PySem.W.SL.s1270395311379034370x22)⟩,⟨(PySem.PyData.keyHash P q143),(.str q143 144),(.type PySem.W.SL.s10696252587037064777x22)⟩,⟨(PySem.PyData.keyHash P q144),(.str q144 145),(.type PySem.W.SL.s7852717498200857586x20)⟩,⟨(PySem.PyData.keyHash P q145),(.str q145 146),(.type PySem.W.SL.s6377248116197321094x8)⟩,⟨(PySem.PyData.keyHash P q146),(.str q146 147),(.type PySem.W.SL.s3834378056692298002x18)⟩,⟨(PySem.PyData.keyHash P q147),(.str q147 148),(.type PySem.W.SL.s17586630440231065808x18)⟩,⟨(PySem.PyData.keyHash P q148),(.str q148 149),(.type PySem.W.SL.s15234114252648025395x21)⟩,⟨(PySem.PyData.keyHash P q149),(.str q149 150),(.type PySem.W.SL.s8496462677383758984x14)⟩,⟨(PySem.PyData.keyHash P q150),(.str q150 151),(.type PySem.W.SL.s10852414792293593619x7)⟩,⟨(PySem.PyData.keyHash P q151),(.str q151 152),(.type PySem.W.SL.s10852414792293593619x7)⟩,⟨(PySem.PyData.keyHash P q152),(.str q152 153),(.builtin PySem.W.SL.s16789243406116112673x4)⟩,⟨(PySem.PyData.keyHash P q153),(.str q153 154),(.builtin PySem.W.SL.s14400166428656793546x20)⟩,⟨(PySem.PyData.keyHash P q154),(.str q154 155),(.builtin PySem.W.SL.s5857708277339239366x20)⟩,⟨(PySem.PyData.keyHash P q155),(.str q155 156),(.builtin "builtins.copyright#opaque")⟩,⟨(PySem.PyData.keyHash P q156),(.str q156 157),(.builtin "builtins.credits#opaque")⟩,⟨(PySem.PyData.keyHash P q157),(.str q157 158),(.builtin "builtins.license#opaque")⟩,⟨(PySem.PyData.keyHash P q158),(.str q158 159),(.builtin PySem.W.SL.s7804999707787243718x20)⟩]) 159),(List.toArray [])⟩
noncomputable def kb1 (P : Params) : Obj := ⟨(.type PySem.W.SL.s14018661285674007319x4),.none,(.dict (List.toArray [⟨(PySem.PyData.keyHash P q1),(.str q1 162),(.ref 4)⟩,⟨(PySem.PyData.keyHash P q159),(.str q159 163),(.ref 5)⟩]) 2),(List.toArray [])⟩
noncomputable def kb2 (P : Params) : Obj := ⟨.none,.none,(.dict (List.toArray []) 0),(List.toArray [])⟩
noncomputable def kb3 (P : Params) : Obj := ⟨(.type PySem.W.SL.s14018661285674007319x4),.none,(.dict (List.toArray [⟨(PySem.PyData.keyHash P q0),(.str q0 165),q160⟩,⟨(PySem.PyData.keyHash P q2),(.str q2 166),.none⟩,⟨(PySem.PyData.keyHash P q3),(.str q3 167),.none⟩,⟨(PySem.PyData.keyHash P q4),(.str q4 168),(.builtin PySem.W.SL.s7097527257260152453x26)⟩,⟨(PySem.PyData.keyHash P q5),(.str q5 169),.none⟩,⟨(PySem.PyData.keyHash P q161),(.str q161 170),(.ref 6)⟩,⟨(PySem.PyData.keyHash P q162),(.str q162 171),(.ref 4)⟩,⟨(PySem.PyData.keyHash P q163),(.str q163 173),(.str q164 172)⟩,⟨(PySem.PyData.keyHash P q165),(.str q165 174),.none⟩,⟨(PySem.PyData.keyHash P q166),(.str q166 193),(.ref 21)⟩,⟨(PySem.PyData.keyHash P q167),(.str q167 205),(.ref 28)⟩,⟨(PySem.PyData.keyHash P q168),(.str q168 217),(.ref 35)⟩,⟨(PySem.PyData.keyHash P q169),(.str q169 277),(.ref 73)⟩,⟨(PySem.PyData.keyHash P q170),(.str q170 339),(.ref 85)⟩,⟨(PySem.PyData.keyHash P q171),(.str q171 346),(.ref 95)⟩,⟨(PySem.PyData.keyHash P q172),(.str q172 2297),(.ref 96)⟩,⟨(PySem.PyData.keyHash P q173),(.str q173 2305),(.ref 141)⟩,⟨(PySem.PyData.keyHash P q174),(.str q174 2318),(.ref 148)⟩,⟨(PySem.PyData.keyHash P q175),(.str q175 2324),(.ref 153)⟩,⟨(PySem.PyData.keyHash P q176),(.str q176 2330),(.ref 158)⟩,⟨(PySem.PyData.keyHash P q177),(.str q177 2342),(.ref 165)⟩,⟨(PySem.PyData.keyHash P q178),(.str q178 2348),(.ref 170)⟩]) 22),(List.toArray [])⟩
noncomputable def kb4 (P : Params) : Obj := ⟨(.type PySem.W.SL.s6658869562736209489x6),(.some 0),.plain,(List.toArray [])⟩
noncomputable def kb5 (P : Params) : Obj := ⟨(.type PySem.W.SL.s6658869562736209489x6),(.some 3),.plain,(List.toArray [])⟩
noncomputable def kb6 (P : Params) : Obj := ⟨(.type PySem.W.SL.s14018661285674007319x4),.none,(.dict (List.toArray []) 0),(List.toArray [])⟩
noncomputable def kb7 (P : Params) : Obj := ⟨(.type PySem.W.SL.s2766695959194262286x5),.none,(.seq (List.toArray []) 0),(List.toArray [])⟩
noncomputable def kb8 (P : Params) : Obj := ⟨.none,.none,(.fields (List.toArray [])),(List.toArray [])⟩
noncomputable def kb9 (P : Params) : Obj := ⟨(.type PySem.W.SL.s5856160107412720595x4),.none,(.fields (List.toArray [(.str q257 176),(.str q257 177),(.str q164 178),(.int 1 0),(.int 0 0),(.int 0 0),(.int 0 0),(.int 0 0),(.ref 7),(.bool .false),(.int 175 0),(.ref 8),.none,.none,.none,.none,(.int 179 0),(.int 1 0),(.str q164 180)])),(List.toArray [])⟩
noncomputable def kb10 (P : Params) : Obj := ⟨(.type PySem.W.SL.s658472552662922059x5),.none,.plain,(List.toArray [(.some (.ref 9)),(.some (.ref 3)),(.some (.ref 3)),.none,q322,.none,(.some (.ref 0))])⟩
noncomputable def kb11 (P : Params) : Obj := ⟨(.type PySem.W.SL.s2766695959194262286x5),.none,(.seq (List.toArray []) 0),(List.toArray [])⟩
noncomputable def kb12 (P : Params) : Obj := ⟨.none,.none,(.fields (List.toArray [(.int 1 0),(.int 0 0),(.ref 20),(.int 5 0),(.int 0 0),(.ref 27),(.int 18 0),(.int 0 0),(.ref 34),(.int 37 0),(.int 0 0),(.ref 41),(.int 82 0),(.int 0 0),(.ref 94),(.int 85 0),(.int 0 0),(.ref 140),(.int 91 0),(.int 0 0),(.ref 147),(.int 98 0),(.int 0 0),(.ref 152),(.int 100 0),(.int 0 0),(.ref 157),(.int 113 0),(.int 0 0),(.ref 164),(.int 122 0),(.int 0 0),(.ref 169)])),(List.toArray [])⟩
noncomputable def kb13 (P : Params) : Obj := ⟨(.type PySem.W.SL.s5856160107412720595x4),.none,(.fields (List.toArray [(.str q257 182),(.str q257 183),(.str q164 184),(.int 1 0),(.int 0 0),(.int 0 0),(.int 0 0),(.int 0 0),(.ref 11),(.bool .false),(.int 181 0),(.ref 12),.none,.none,.none,.none,(.int 185 0),(.int 1 0),(.str q164 186)])),(List.toArray [])⟩
noncomputable def kb14 (P : Params) : Obj := ⟨(.type PySem.W.SL.s658472552662922059x5),.none,.plain,(List.toArray [(.some (.ref 13)),(.some (.ref 3)),(.some (.ref 3)),.none,q322,.none,(.some (.ref 0))])⟩
noncomputable def kb15 (P : Params) : Obj := ⟨(.type PySem.W.SL.s2766695959194262286x5),.none,(.seq (List.toArray []) 0),(List.toArray [])⟩
noncomputable def kb16 (P : Params) : Obj := ⟨.none,.none,(.fields (List.toArray [])),(List.toArray [])⟩
noncomputable def kb17 (P : Params) : Obj := ⟨(.type PySem.W.SL.s2766695959194262286x5),.none,(.seq (List.toArray [(.str ⟨⟨[107]⟩⟩ 190)]) 0),(List.toArray [])⟩
noncomputable def kb18 (P : Params) : Obj := ⟨(.type PySem.W.SL.s2766695959194262286x5),.none,(.seq (List.toArray []) 0),(List.toArray [])⟩
noncomputable def kb19 (P : Params) : Obj := ⟨.none,.none,(.func ⟨q166,q166,q227,q228,q230,0,[],.none,.none,.none,.none,.none,.none,.none,0⟩),(List.toArray [])⟩
noncomputable def kb20 (P : Params) : Obj := ⟨(.type PySem.W.SL.s5856160107412720595x4),.none,(.fields (List.toArray [(.str q166 187),(.str q166 188),(.str q164 189),(.int 1 0),(.int 1 0),(.int 0 0),(.int 0 0),(.int 3 0),(.ref 15),(.bool .true),(.int 181 0),(.ref 16),.none,(.ref 17),(.ref 18),(.ref 19),(.int 191 0),(.int 1 0),(.str q164 192)])),(List.toArray [])⟩
noncomputable def kb21 (P : Params) : Obj := ⟨(.type PySem.W.SL.s7174869446012820540x8),.none,(.func ⟨q166,q166,q227,q228,q230,3,[],.none,.none,.none,q260,.none,(.ref 20),.none,0⟩),(List.toArray [])⟩
noncomputable def kb22 (P : Params) : Obj := ⟨(.type PySem.W.SL.s2766695959194262286x5),.none,(.seq (List.toArray []) 0),(List.toArray [])⟩
noncomputable def kb23 (P : Params) : Obj := ⟨.none,.none,(.fields (List.toArray [])),(List.toArray [])⟩
noncomputable def kb24 (P : Params) : Obj := ⟨(.type PySem.W.SL.s2766695959194262286x5),.none,(.seq (List.toArray [(.str q180 199),(.str q184 200),(.str q268 201),(.str ⟨⟨[99,104]⟩⟩ 202)]) 0),(List.toArray [])⟩
noncomputable def kb25 (P : Params) : Obj := ⟨(.type PySem.W.SL.s2766695959194262286x5),.none,(.seq (List.toArray []) 0),(List.toArray [])⟩
noncomputable def kb26 (P : Params) : Obj := ⟨.none,.none,(.func ⟨q167,q167,q304,q308,q309,0,[],.none,.none,.none,.none,.none,.none,.none,0⟩),(List.toArray [])⟩
noncomputable def kb27 (P : Params) : Obj := ⟨(.type PySem.W.SL.s5856160107412720595x4),.none,(.fields (List.toArray [(.str q167 196),(.str q167 197),(.str q164 198),(.int 5 0),(.int 1 0),(.int 0 0),(.int 0 0),(.int 35 0),(.ref 22),(.bool .true),(.int 181 0),(.ref 23),.none,(.ref 24),(.ref 25),(.ref 26),(.int 203 0),(.int 5 0),(.str q164 204)])),(List.toArray [])⟩
noncomputable def kb28 (P : Params) : Obj := ⟨(.type PySem.W.SL.s7174869446012820540x8),.none,(.func ⟨q167,q167,q304,q308,q309,3,[],.none,.none,.none,q240,.none,(.ref 27),.none,0⟩),(List.toArray [])⟩
noncomputable def kb29 (P : Params) : Obj := ⟨(.type PySem.W.SL.s2766695959194262286x5),.none,(.seq (List.toArray []) 0),(List.toArray [])⟩
noncomputable def kb30 (P : Params) : Obj := ⟨.none,.none,(.fields (List.toArray [])),(List.toArray [])⟩
noncomputable def kb31 (P : Params) : Obj := ⟨(.type PySem.W.SL.s2766695959194262286x5),.none,(.seq (List.toArray [(.str q180 209),(.str q181 210),(.str q182 211),(.str q183 212),(.str q184 213),(.str ⟨⟨[99,104]⟩⟩ 214)]) 0),(List.toArray [])⟩
noncomputable def kb32 (P : Params) : Obj := ⟨(.type PySem.W.SL.s2766695959194262286x5),.none,(.seq (List.toArray []) 0),(List.toArray [])⟩
noncomputable def kb33 (P : Params) : Obj := ⟨.none,.none,(.func ⟨q168,q168,q231,q235,q239,0,[],.none,.none,.none,.none,.none,.none,.none,0⟩),(List.toArray [])⟩
noncomputable def kb34 (P : Params) : Obj := ⟨(.type PySem.W.SL.s5856160107412720595x4),.none,(.fields (List.toArray [(.str q168 206),(.str q168 207),(.str q164 208),(.int 18 0),(.int 1 0),(.int 0 0),(.int 0 0),(.int 3 0),(.ref 29),(.bool .true),(.int 181 0),(.ref 30),.none,(.ref 31),(.ref 32),(.ref 33),(.int 215 0),(.int 18 0),(.str q164 216)])),(List.toArray [])⟩
noncomputable def kb35 (P : Params) : Obj := ⟨(.type PySem.W.SL.s7174869446012820540x8),.none,(.func ⟨q168,q168,q231,q235,q239,3,[],.none,.none,.none,q240,.none,(.ref 34),.none,0⟩),(List.toArray [])⟩
noncomputable def kb36 (P : Params) : Obj := ⟨(.type PySem.W.SL.s2766695959194262286x5),.none,(.seq (List.toArray []) 0),(List.toArray [])⟩
noncomputable def kb37 (P : Params) : Obj := ⟨(.type PySem.W.SL.s11030030927630378310x26),.none,(.fields (List.toArray [(.builtin PySem.W.SL.s10062305145149207511x16),(.type PySem.W.SL.s17162191345867700912x4)])),(List.toArray [])⟩
noncomputable def kb38 (P : Params) : Obj := ⟨(.type PySem.W.SL.s14018661285674007319x4),.none,(.dict (List.toArray [⟨(PySem.PyData.keyHash P q269),(.str q269 227),q200⟩,⟨(PySem.PyData.keyHash P q323),(.str q323 229),q259⟩,⟨(PySem.PyData.keyHash P q270),(.str q270 231),(.int 37 230)⟩,⟨(PySem.PyData.keyHash P q208),(.str q208 239),(.ref 49)⟩,⟨(PySem.PyData.keyHash P q193),(.str q193 247),(.ref 56)⟩,⟨(PySem.PyData.keyHash P q185),(.str q185 257),(.ref 63)⟩,⟨(PySem.PyData.keyHash P q261),(.str q261 265),(.ref 70)⟩,⟨(PySem.PyData.keyHash P q271),(.str q271 270),(.ref 71)⟩]) 8),(List.toArray [])⟩
noncomputable def kb39 (P : Params) : Obj := ⟨(.type PySem.W.SL.s2766695959194262286x5),.none,(.seq (List.toArray []) 0),(List.toArray [])⟩
noncomputable def kb40 (P : Params) : Obj := ⟨.none,.none,(.fields (List.toArray [(.int 39 0),(.int 4 0),(.ref 48),(.int 45 0),(.int 4 0),(.ref 55),(.int 51 0),(.int 4 0),(.ref 62),(.int 78 0),(.int 4 0),(.ref 69)])),(List.toArray [])⟩
noncomputable def kb41 (P : Params) : Obj := ⟨(.type PySem.W.SL.s5856160107412720595x4),.none,(.fields (List.toArray [(.str q169 222),(.str q169 223),(.str q164 224),(.int 37 0),(.int 0 0),(.int 0 0),(.int 0 0),(.int 0 0),(.ref 39),(.bool .false),(.int 181 0),(.ref 40),.none,.none,.none,.none,(.int 225 0),(.int 37 0),(.str q164 226)])),(List.toArray [])⟩
noncomputable def kb42 (P : Params) : Obj := ⟨(.type PySem.W.SL.s658472552662922059x5),.none,.plain,(List.toArray [(.some (.ref 41)),(.some (.ref 3)),(.some (.ref 38)),.none,(.some q200),.none,(.some (.ref 0))])⟩
noncomputable def kb43 (P : Params) : Obj := ⟨(.type PySem.W.SL.s2766695959194262286x5),.none,(.seq (List.toArray []) 0),(List.toArray [])⟩
noncomputable def kb44 (P : Params) : Obj := ⟨.none,.none,(.fields (List.toArray [])),(List.toArray [])⟩
noncomputable def kb45 (P : Params) : Obj := ⟨(.type PySem.W.SL.s2766695959194262286x5),.none,(.seq (List.toArray [(.str q187 235),(.str ⟨⟨[102,112]⟩⟩ 236)]) 0),(List.toArray [])⟩
noncomputable def kb46 (P : Params) : Obj := ⟨(.type PySem.W.SL.s2766695959194262286x5),.none,(.seq (List.toArray []) 0),(List.toArray [])⟩
noncomputable def kb47 (P : Params) : Obj := ⟨.none,.none,(.func ⟨q208,q209,q210,q213,q214,0,[],.none,.none,.none,.none,.none,.none,.none,0⟩),(List.toArray [])⟩
noncomputable def kb48 (P : Params) : Obj := ⟨(.type PySem.W.SL.s5856160107412720595x4),.none,(.fields (List.toArray [(.str q208 232),(.str q209 233),(.str q164 234),(.int 39 0),(.int 2 0),(.int 0 0),(.int 0 0),(.int 3 0),(.ref 43),(.bool .true),(.int 181 0),(.ref 44),.none,(.ref 45),(.ref 46),(.ref 47),(.int 237 0),(.int 39 0),(.str q164 238)])),(List.toArray [])⟩
noncomputable def kb49 (P : Params) : Obj := ⟨(.type PySem.W.SL.s7174869446012820540x8),.none,(.func ⟨q208,q209,q210,q213,q214,3,[],.none,.none,.none,q200,.none,(.ref 48),.none,0⟩),(List.toArray [])⟩
noncomputable def kb50 (P : Params) : Obj := ⟨(.type PySem.W.SL.s2766695959194262286x5),.none,(.seq (List.toArray []) 0),(List.toArray [])⟩
noncomputable def kb51 (P : Params) : Obj := ⟨.none,.none,(.fields (List.toArray [])),(List.toArray [])⟩
noncomputable def kb52 (P : Params) : Obj := ⟨(.type PySem.W.SL.s2766695959194262286x5),.none,(.seq (List.toArray [(.str q187 243),(.str ⟨⟨[99,104]⟩⟩ 244)]) 0),(List.toArray [])⟩
noncomputable def kb53 (P : Params) : Obj := ⟨(.type PySem.W.SL.s2766695959194262286x5),.none,(.seq (List.toArray []) 0),(List.toArray [])⟩
noncomputable def kb54 (P : Params) : Obj := ⟨.none,.none,(.func ⟨q193,q216,q292,q294,q295,0,[],.none,.none,.none,.none,.none,.none,.none,0⟩),(List.toArray [])⟩
noncomputable def kb55 (P : Params) : Obj := ⟨(.type PySem.W.SL.s5856160107412720595x4),.none,(.fields (List.toArray [(.str q193 240),(.str q216 241),(.str q164 242),(.int 45 0),(.int 1 0),(.int 0 0),(.int 0 0),(.int 3 0),(.ref 50),(.bool .true),(.int 181 0),(.ref 51),.none,(.ref 52),(.ref 53),(.ref 54),(.int 245 0),(.int 45 0),(.str q164 246)])),(List.toArray [])⟩
noncomputable def kb56 (P : Params) : Obj := ⟨(.type PySem.W.SL.s7174869446012820540x8),.none,(.func ⟨q193,q216,q292,q294,q295,3,[],.none,.none,.none,q200,.none,(.ref 55),.none,0⟩),(List.toArray [])⟩
noncomputable def kb57 (P : Params) : Obj := ⟨(.type PySem.W.SL.s2766695959194262286x5),.none,(.seq (List.toArray []) 0),(List.toArray [])⟩
noncomputable def kb58 (P : Params) : Obj := ⟨.none,.none,(.fields (List.toArray [])),(List.toArray [])⟩
noncomputable def kb59 (P : Params) : Obj := ⟨(.type PySem.W.SL.s2766695959194262286x5),.none,(.seq (List.toArray [(.str q187 251),(.str q191 252),(.str q192 253),(.str ⟨⟨[99,104]⟩⟩ 254)]) 0),(List.toArray [])⟩
noncomputable def kb60 (P : Params) : Obj := ⟨(.type PySem.W.SL.s2766695959194262286x5),.none,(.seq (List.toArray []) 0),(List.toArray [])⟩
noncomputable def kb61 (P : Params) : Obj := ⟨.none,.none,(.func ⟨q185,q186,q188,q195,q199,0,[],.none,.none,.none,.none,.none,.none,.none,0⟩),(List.toArray [])⟩
noncomputable def kb62 (P : Params) : Obj := ⟨(.type PySem.W.SL.s5856160107412720595x4),.none,(.fields (List.toArray [(.str q185 248),(.str q186 249),(.str q164 250),(.int 51 0),(.int 1 0),(.int 0 0),(.int 0 0),(.int 3 0),(.ref 57),(.bool .true),(.int 181 0),(.ref 58),.none,(.ref 59),(.ref 60),(.ref 61),(.int 255 0),(.int 51 0),(.str q164 256)])),(List.toArray [])⟩
noncomputable def kb63 (P : Params) : Obj := ⟨(.type PySem.W.SL.s7174869446012820540x8),.none,(.func ⟨q185,q186,q188,q195,q199,3,[],.none,.none,.none,q200,.none,(.ref 62),.none,0⟩),(List.toArray [])⟩
noncomputable def kb64 (P : Params) : Obj := ⟨(.type PySem.W.SL.s2766695959194262286x5),.none,(.seq (List.toArray []) 0),(List.toArray [])⟩
noncomputable def kb65 (P : Params) : Obj := ⟨.none,.none,(.fields (List.toArray [])),(List.toArray [])⟩
noncomputable def kb66 (P : Params) : Obj := ⟨(.type PySem.W.SL.s2766695959194262286x5),.none,(.seq (List.toArray [(.str q187 261),(.str q191 262)]) 0),(List.toArray [])⟩
noncomputable def kb67 (P : Params) : Obj := ⟨(.type PySem.W.SL.s2766695959194262286x5),.none,(.seq (List.toArray []) 0),(List.toArray [])⟩
noncomputable def kb68 (P : Params) : Obj := ⟨.none,.none,(.func ⟨q261,q262,q296,q298,q299,0,[],.none,.none,.none,.none,.none,.none,.none,0⟩),(List.toArray [])⟩
noncomputable def kb69 (P : Params) : Obj := ⟨(.type PySem.W.SL.s5856160107412720595x4),.none,(.fields (List.toArray [(.str q261 258),(.str q262 259),(.str q164 260),(.int 78 0),(.int 2 0),(.int 0 0),(.int 0 0),(.int 3 0),(.ref 64),(.bool .true),(.int 181 0),(.ref 65),.none,(.ref 66),(.ref 67),(.ref 68),(.int 263 0),(.int 78 0),(.str q164 264)])),(List.toArray [])⟩
noncomputable def kb70 (P : Params) : Obj := ⟨(.type PySem.W.SL.s7174869446012820540x8),.none,(.func ⟨q261,q262,q296,q298,q299,3,[],.none,.none,.none,q200,.none,(.ref 69),.none,0⟩),(List.toArray [])⟩
noncomputable def kb71 (P : Params) : Obj := ⟨(.type PySem.W.SL.s2766695959194262286x5),.none,(.seq (List.toArray [(.str q212 266),(.str q211 267),(.str q189 268),(.str q194 269)]) 0),(List.toArray [])⟩
noncomputable def kb72 (P : Params) : Obj := ⟨(.type PySem.W.SL.s14018661285674007319x4),.none,(.dict (List.toArray [⟨(PySem.PyData.keyHash P q269),(.str q269 227),q200⟩,⟨(PySem.PyData.keyHash P q270),(.str q270 231),(.int 37 230)⟩,⟨(PySem.PyData.keyHash P q208),(.str q208 239),(.ref 49)⟩,⟨(PySem.PyData.keyHash P q193),(.str q193 247),(.ref 56)⟩,⟨(PySem.PyData.keyHash P q185),(.str q185 257),(.ref 63)⟩,⟨(PySem.PyData.keyHash P q261),(.str q261 265),(.ref 70)⟩,⟨(PySem.PyData.keyHash P q271),(.str q271 270),(.ref 71)⟩,⟨(PySem.PyData.keyHash P q272),(.str q272 272),(.ref 74)⟩,⟨(PySem.PyData.keyHash P q252),(.str q252 274),(.ref 75)⟩,⟨(PySem.PyData.keyHash P q2),(.str q2 275),.none⟩]) 4),(List.toArray [])⟩
noncomputable def kb73 (P : Params) : Obj := ⟨(.type PySem.W.SL.s17162191345867700912x4),.none,(.cls ⟨q169,[(.type PySem.W.SL.s2742458400755230247x6)],[(.ref 73),(.type PySem.W.SL.s2742458400755230247x6)],72,q169,.true,[],[],.false,.none,.false⟩),(List.toArray [.none,.none,(.some (.str q169 220)),(.some q259),(.some (.builtin PySem.W.SL.s11443829558043349243x14)),(.some (.bool .true))])⟩
noncomputable def kb74 (P : Params) : Obj := ⟨(.type PySem.W.SL.s14755015743595814543x17),.none,(.fields (List.toArray [(.str q272 271),(.ref 73),(.builtin PySem.W.SL.s6511155373996960695x17),(.builtin PySem.W.SL.s12411053484034534018x21)])),(List.toArray [])⟩
noncomputable def kb75 (P : Params) : Obj := ⟨(.type PySem.W.SL.s14755015743595814543x17),.none,(.fields (List.toArray [(.str q252 273),(.ref 73),(.builtin PySem.W.SL.s10220274742760427390x26),.none])),(List.toArray [])⟩
noncomputable def kb76 (P : Params) : Obj := ⟨(.type PySem.W.SL.s4290257624100764138x5),.none,(.fields (List.toArray [(.ref 73),(.ref 73),(.ref 73)])),(List.toArray [])⟩
noncomputable def kb77 (P : Params) : Obj := ⟨(.type PySem.W.SL.s11030030927630378310x26),.none,(.fields (List.toArray [(.builtin PySem.W.SL.s4860613602091757760x24),(.ref 73)])),(List.toArray [])⟩
noncomputable def kb78 (P : Params) : Obj := ⟨(.type PySem.W.SL.s9222952809800978799x4),.none,(.seq (List.toArray [(.int 173 280),(.int 847 281),(.int 6150 282),(.int 6155 283),(.int 6156 284),(.int 6157 285),(.int 8203 286),(.int 8204 287),(.int 8205 288),(.int 8288 289),(.int 65279 290)]) 0),(List.toArray [])⟩
noncomputable def kb79 (P : Params) : Obj := ⟨(.type PySem.W.SL.s1438033511350832697x5),.none,(.fields (List.toArray [(.int 65024 291),(.int 65040 292),(.int 1 293)])),(List.toArray [])⟩
noncomputable def kb80 (P : Params) : Obj := ⟨(.type PySem.W.SL.s9222952809800978799x4),.none,(.seq (List.toArray [(.int 65024 296),(.int 65025 297),(.int 65026 298),(.int 65027 299),(.int 65028 300),(.int 65029 301),(.int 65030 302),(.int 65031 303),(.int 65032 304),(.int 65033 305),(.int 65034 306),(.int 65035 307),(.int 65036 308),(.int 65037 309),(.int 65038 310),(.int 65039 311)]) 18),(List.toArray [])⟩
noncomputable def kb81 (P : Params) : Obj := ⟨(.type PySem.W.SL.s15992201931430999065x14),.none,(.fields (List.toArray [(.int 65040 0),(.int 0 0),(.int 1 0)])),(List.toArray [])⟩
noncomputable def kb82 (P : Params) : Obj := ⟨(.type PySem.W.SL.s2766695959194262286x5),.none,(.seq (List.toArray []) 0),(List.toArray [])⟩
noncomputable def kb83 (P : Params) : Obj := ⟨(.type PySem.W.SL.s5991306692159431302x13),.none,(.fields (List.toArray [(.ref 82),.none,.none,.none,(.bool .false),.none])),(List.toArray [])⟩
noncomputable def kb84 (P : Params) : Obj := ⟨(.type PySem.W.SL.s9222952809800978799x4),.none,(.seq (List.toArray [(.int 173 280),(.int 847 281),(.int 6150 282),(.int 6155 283),(.int 6156 284),(.int 6157 285),(.int 8203 286),(.int 8204 287),(.int 8205 288),(.int 8288 289),(.int 65279 290),(.int 65024 296),(.int 65025 297),(.int 65026 298),(.int 65027 299),(.int 65028 300),(.int 65029 301),(.int 65030 302),(.int 65031 303),(.int 65032 304),(.int 65033 305),(.int 65034 306),(.int 65035 307),(.int 65036 308),(.int 65037 309),(.int 65038 310),(.int 65039 311)]) 0),(List.toArray [])⟩
noncomputable def kb85 (P : Params) : Obj := ⟨(.type PySem.W.SL.s3642769012341782148x3),.none,(.set (List.toArray [⟨65024,(.int 65024 296)⟩,⟨65025,(.int 65025 297)⟩,⟨65026,(.int 65026 298)⟩,⟨65027,(.int 65027 299)⟩,⟨65028,(.int 65028 300)⟩,⟨65029,(.int 65029 301)⟩,⟨6150,(.int 6150 282)⟩,⟨65030,(.int 65030 302)⟩,⟨65031,(.int 65031 303)⟩,⟨65032,(.int 65032 304)⟩,⟨65033,(.int 65033 305)⟩,⟨6155,(.int 6155 283)⟩,⟨6156,(.int 6156 284)⟩,⟨6157,(.int 6157 285)⟩,⟨8203,(.int 8203 286)⟩,⟨8204,(.int 8204 287)⟩,⟨8205,(.int 8205 288)⟩,⟨65034,(.int 65034 306)⟩,⟨65035,(.int 65035 307)⟩,⟨65036,(.int 65036 308)⟩,⟨65037,(.int 65037 309)⟩,⟨65038,(.int 65038 310)⟩,⟨65039,(.int 65039 311)⟩,⟨173,(.int 173 280)⟩,⟨847,(.int 847 281)⟩,⟨8288,(.int 8288 289)⟩,⟨65279,(.int 65279 290)⟩]) 29 ⟨127,(List.toArray [0,1,2,3,4,5,6,7,8,9,10,11,12,13,14,15,16,17,18,19,20,21,22,45,79,96,127]),(List.toArray []),0,(Bool.not (PySem.Params.followText P "set-order")),2,.true⟩),(List.toArray [])⟩
noncomputable def kb86 (P : Params) : Obj := ⟨(.type PySem.W.SL.s3492446563574874994x13),.none,(.fields (List.toArray [.none,(.int 27 0)])),(List.toArray [])⟩
noncomputable def kb87 (P : Params) : Obj := ⟨(.type PySem.W.SL.s2766695959194262286x5),.none,(.seq (List.toArray []) 0),(List.toArray [])⟩
noncomputable def kb88 (P : Params) : Obj := ⟨(.type PySem.W.SL.s5991306692159431302x13),.none,(.fields (List.toArray [(.ref 87),.none,.none,.none,(.bool .false),.none])),(List.toArray [])⟩
noncomputable def kb89 (P : Params) : Obj := ⟨(.type PySem.W.SL.s2766695959194262286x5),.none,(.seq (List.toArray []) 0),(List.toArray [])⟩
noncomputable def kb90 (P : Params) : Obj := ⟨.none,.none,(.fields (List.toArray [])),(List.toArray [])⟩
noncomputable def kb91 (P : Params) : Obj := ⟨(.type PySem.W.SL.s2766695959194262286x5),.none,(.seq (List.toArray [(.str q201 343)]) 0),(List.toArray [])⟩
noncomputable def kb92 (P : Params) : Obj := ⟨(.type PySem.W.SL.s2766695959194262286x5),.none,(.seq (List.toArray []) 0),(List.toArray [])⟩
noncomputable def kb93 (P : Params) : Obj := ⟨.none,.none,(.func ⟨q171,q171,q202,q203,q206,0,[],.none,.none,.none,.none,.none,.none,.none,0⟩),(List.toArray [])⟩
noncomputable def kb94 (P : Params) : Obj := ⟨(.type PySem.W.SL.s5856160107412720595x4),.none,(.fields (List.toArray [(.str q171 340),(.str q171 341),(.str q164 342),(.int 82 0),(.int 1 0),(.int 0 0),(.int 0 0),(.int 3 0),(.ref 89),(.bool .true),(.int 181 0),(.ref 90),.none,(.ref 91),(.ref 92),(.ref 93),(.int 344 0),(.int 82 0),(.str q164 345)])),(List.toArray [])⟩
noncomputable def kb95 (P : Params) : Obj := ⟨(.type PySem.W.SL.s7174869446012820540x8),.none,(.func ⟨q171,q171,q202,q203,q206,3,[],.none,.none,.none,q207,.none,(.ref 94),.none,0⟩),(List.toArray [])⟩
noncomputable def kb96 (P : Params) : Obj := ⟨(.type PySem.W.SL.s14018661285674007319x4),.none,(.dict (List.toArray [⟨181,(.int 181 347),(.str ⟨⟨[956]⟩⟩ 348)⟩,⟨223,(.int 223 350),(.str ⟨⟨[115,115]⟩⟩ 351)⟩,⟨304,(.int 304 353),(.str ⟨⟨[105,775]⟩⟩ 354)⟩,⟨329,(.int 329 356),(.str ⟨⟨[700,110]⟩⟩ 357)⟩,⟨383,(.int 383 359),(.str ⟨⟨[115]⟩⟩ 360)⟩,⟨496,(.int 496 362),(.str ⟨⟨[106,780]⟩⟩ 363)⟩,⟨837,(.int 837 365),(.str ⟨⟨[953]⟩⟩ 366)⟩,⟨890,(.int 890 368),(.str ⟨⟨[32,953]⟩⟩ 369)⟩,⟨912,(.int 912 371),(.str q263 372)⟩,⟨944,(.int 944 374),(.str q264 375)⟩,⟨962,(.int 962 377),(.str ⟨⟨[963]⟩⟩ 378)⟩,⟨976,(.int 976 380),(.str ⟨⟨[946]⟩⟩ 381)⟩,⟨977,(.int 977 383),(.str ⟨⟨[952]⟩⟩ 384)⟩,⟨978,(.int 978 386),(.str ⟨⟨[965]⟩⟩ 387)⟩,⟨979,(.int 979 389),(.str ⟨⟨[973]⟩⟩ 390)⟩,⟨980,(.int 980 392),(.str ⟨⟨[971]⟩⟩ 393)⟩,⟨981,(.int 981 395),(.str ⟨⟨[966]⟩⟩ 396)⟩,⟨982,(.int 982 398),(.str ⟨⟨[960]⟩⟩ 399)⟩,⟨1008,(.int 1008 401),(.str ⟨⟨[954]⟩⟩ 402)⟩,⟨1009,(.int 1009 404),(.str ⟨⟨[961]⟩⟩ 405)⟩,⟨1010,(.int 1010 407),(.str ⟨⟨[963]⟩⟩ 408)⟩,⟨1013,(.int 1013 410),(.str ⟨⟨[949]⟩⟩ 411)⟩,⟨1415,(.int 1415 413),(.str ⟨⟨[1381,1410]⟩⟩ 414)⟩,⟨7830,(.int 7830 416),(.str ⟨⟨[104,817]⟩⟩ 417)⟩,⟨7831,(.int 7831 419),(.str ⟨⟨[116,776]⟩⟩ 420)⟩,⟨7832,(.int 7832 422),(.str ⟨⟨[119,778]⟩⟩ 423)⟩,⟨7833,(.int 7833 425),(.str ⟨⟨[121,778]⟩⟩ 426)⟩,⟨7834,(.int 7834 428),(.str ⟨⟨[97,702]⟩⟩ 429)⟩,⟨7835,(.int 7835 431),(.str ⟨⟨[7777]⟩⟩ 432)⟩,⟨8016,(.int 8016 434),(.str ⟨⟨[965,787]⟩⟩ 435)⟩,⟨8018,(.int 8018 437),(.str ⟨⟨[965,787,768]⟩⟩ 438)⟩,⟨8020,(.int 8020 440),(.str ⟨⟨[965,787,769]⟩⟩ 441)⟩,⟨8022,(.int 8022 443),(.str ⟨⟨[965,787,834]⟩⟩ 444)⟩,⟨8064,(.int 8064 446),(.str ⟨⟨[7936,953]⟩⟩ 447)⟩,⟨8065,(.int 8065 449),(.str ⟨⟨[7937,953]⟩⟩ 450)⟩,⟨8066,(.int 8066 452),(.str ⟨⟨[7938,953]⟩⟩ 453)⟩,⟨8067,(.int 8067 455),(.str ⟨⟨[7939,953]⟩⟩ 456)⟩,⟨8068,(.int 8068 458),(.str ⟨⟨[7940,953]⟩⟩ 459)⟩,⟨8069,(.int 8069 461),(.str ⟨⟨[7941,953]⟩⟩ 462)⟩,⟨8070,(.int 8070 464),(.str ⟨⟨[7942,953]⟩⟩ 465)⟩,⟨8071,(.int 8071 467),(.str ⟨⟨[7943,953]⟩⟩ 468)⟩,⟨8072,(.int 8072 470),(.str ⟨⟨[7936,953]⟩⟩ 471)⟩,⟨8073,(.int 8073 473),(.str ⟨⟨[7937,953]⟩⟩ 474)⟩,⟨8074,(.int 8074 476),(.str ⟨⟨[7938,953]⟩⟩ 477)⟩,⟨8075,(.int 8075 479),(.str ⟨⟨[7939,953]⟩⟩ 480)⟩,⟨8076,(.int 8076 482),(.str ⟨⟨[7940,953]⟩⟩ 483)⟩,⟨8077,(.int 8077 485),(.str ⟨⟨[7941,953]⟩⟩ 486)⟩,⟨8078,(.int 8078 488),(.str ⟨⟨[7942,953]⟩⟩ 489)⟩,⟨8079,(.int 8079 491),(.str ⟨⟨[7943,953]⟩⟩ 492)⟩,⟨8080,(.int 8080 494),(.str ⟨⟨[7968,953]⟩⟩ 495)⟩,⟨8081,(.int 8081 497),(.str ⟨⟨[7969,953]⟩⟩ 498)⟩,⟨8082,(.int 8082 500),(.str ⟨⟨[7970,953]⟩⟩ 501)⟩,⟨8083,(.int 8083 503),(.str ⟨⟨[7971,953]⟩⟩ 504)⟩,⟨8084,(.int 8084 506),(.str ⟨⟨[7972,953]⟩⟩ 507)⟩,⟨8085,(.int 8085 509),(.str ⟨⟨[7973,953]⟩⟩ 510)⟩,⟨8086,(.int 8086 512),(.str ⟨⟨[7974,953]⟩⟩ 513)⟩,⟨8087,(.int 8087 515),(.str ⟨⟨[7975,953]⟩⟩ 516)⟩,⟨8088,(.int 8088 518),(.str ⟨⟨[7968,953]⟩⟩ 519)⟩,⟨8089,(.int 8089 521),(.str ⟨⟨[7969,953]⟩⟩ 522)⟩,⟨8090,(.int 8090 524),(.str ⟨⟨[7970,953]⟩⟩ 525)⟩,⟨8091,(.int 8091 527),(.str ⟨⟨[7971,953]⟩⟩ 528)⟩,⟨8092,(.int 8092 530),(.str ⟨⟨[7972,953]⟩⟩ 531)⟩,⟨8093,(.int 8093 533),(.str ⟨⟨[7973,953]⟩⟩ 534)⟩,⟨8094,(.int 8094 536),(.str ⟨⟨[7974,953]⟩⟩ 537)⟩,⟨8095,(.int 8095 539),(.str ⟨⟨[7975,953]⟩⟩ 540)⟩,⟨8096,(.int 8096 542),(.str ⟨⟨[8032,953]⟩⟩ 543)⟩,⟨8097,(.int 8097 545),(.str ⟨⟨[8033,953]⟩⟩ 546)⟩,⟨8098,(.int 8098 548),(.str ⟨⟨[8034,953]⟩⟩ 549)⟩,⟨8099,(.int 8099 551),(.str ⟨⟨[8035,953]⟩⟩ 552)⟩,⟨8100,(.int 8100 554),(.str ⟨⟨[8036,953]⟩⟩ 555)⟩,⟨8101,(.int 8101 557),(.str ⟨⟨[8037,953]⟩⟩ 558)⟩,⟨8102,(.int 8102 560),(.str ⟨⟨[8038,953]⟩⟩ 561)⟩,⟨8103,(.int 8103 563),(.str ⟨⟨[8039,953]⟩⟩ 564)⟩,⟨8104,(.int 8104 566),(.str ⟨⟨[8032,953]⟩⟩ 567)⟩,⟨8105,(.int 8105 569),(.str ⟨⟨[8033,953]⟩⟩ 570)⟩,⟨8106,(.int 8106 572),(.str ⟨⟨[8034,953]⟩⟩ 573)⟩,⟨8107,(.int 8107 575),(.str ⟨⟨[8035,953]⟩⟩ 576)⟩,⟨8108,(.int 8108 578),(.str ⟨⟨[8036,953]⟩⟩ 579)⟩,⟨8109,(.int 8109 581),(.str ⟨⟨[8037,953]⟩⟩ 582)⟩,⟨8110,(.int 8110 584),(.str ⟨⟨[8038,953]⟩⟩ 585)⟩,⟨8111,(.int 8111 587),(.str ⟨⟨[8039,953]⟩⟩ 588)⟩,⟨8114,(.int 8114 590),(.str ⟨⟨[8048,953]⟩⟩ 591)⟩,⟨8115,(.int 8115 593),(.str ⟨⟨[945,953]⟩⟩ 594)⟩,⟨8116,(.int 8116 596),(.str ⟨⟨[940,953]⟩⟩ 597)⟩,⟨8118,(.int 8118 599),(.str ⟨⟨[945,834]⟩⟩ 600)⟩,⟨8119,(.int 8119 602),(.str ⟨⟨[945,834,953]⟩⟩ 603)⟩,⟨8124,(.int 8124 605),(.str ⟨⟨[945,953]⟩⟩ 606)⟩,⟨8126,(.int 8126 608),(.str ⟨⟨[953]⟩⟩ 609)⟩,⟨8130,(.int 8130 611),(.str ⟨⟨[8052,953]⟩⟩ 612)⟩,⟨8131,(.int 8131 614),(.str ⟨⟨[951,953]⟩⟩ 615)⟩,⟨8132,(.int 8132 617),(.str ⟨⟨[942,953]⟩⟩ 618)⟩,⟨8134,(.int 8134 620),(.str ⟨⟨[951,834]⟩⟩ 621)⟩,⟨8135,(.int 8135 623),(.str ⟨⟨[951,834,953]⟩⟩ 624)⟩,⟨8140,(.int 8140 626),(.str ⟨⟨[951,953]⟩⟩ 627)⟩,⟨8146,(.int 8146 629),(.str ⟨⟨[953,776,768]⟩⟩ 630)⟩,⟨8147,(.int 8147 632),(.str q263 633)⟩,⟨8150,(.int 8150 635),(.str ⟨⟨[953,834]⟩⟩ 636)⟩,⟨8151,(.int 8151 638),(.str ⟨⟨[953,776,834]⟩⟩ 639)⟩,⟨8162,(.int 8162 641),(.str ⟨⟨[965,776,768]⟩⟩ 642)⟩,⟨8163,(.int 8163 644),(.str q264 645)⟩,⟨8164,(.int 8164 647),(.str ⟨⟨[961,787]⟩⟩ 648)⟩,⟨8166,(.int 8166 650),(.str ⟨⟨[965,834]⟩⟩ 651)⟩,⟨8167,(.int 8167 653),(.str ⟨⟨[965,776,834]⟩⟩ 654)⟩,⟨8178,(.int 8178 656),(.str ⟨⟨[8060,953]⟩⟩ 657)⟩,⟨8179,(.int 8179 659),(.str ⟨⟨[969,953]⟩⟩ 660)⟩,⟨8180,(.int 8180 662),(.str ⟨⟨[974,953]⟩⟩ 663)⟩,⟨8182,(.int 8182 665),(.str ⟨⟨[969,834]⟩⟩ 666)⟩,⟨8183,(.int 8183 668),(.str ⟨⟨[969,834,953]⟩⟩ 669)⟩,⟨8188,(.int 8188 671),(.str ⟨⟨[969,953]⟩⟩ 672)⟩,⟨8360,(.int 8360 674),(.str ⟨⟨[114,115]⟩⟩ 675)⟩,⟨8450,(.int 8450 677),(.str ⟨⟨[99]⟩⟩ 678)⟩,⟨8451,(.int 8451 680),(.str ⟨⟨[176,99]⟩⟩ 681)⟩,⟨8455,(.int 8455 683),(.str ⟨⟨[603]⟩⟩ 684)⟩,⟨8457,(.int 8457 686),(.str ⟨⟨[176,102]⟩⟩ 687)⟩,⟨8459,(.int 8459 689),(.str ⟨⟨[104]⟩⟩ 690)⟩,⟨8460,(.int 8460 692),(.str ⟨⟨[104]⟩⟩ 693)⟩,⟨8461,(.int 8461 695),(.str ⟨⟨[104]⟩⟩ 696)⟩,⟨8464,(.int 8464 698),(.str ⟨⟨[105]⟩⟩ 699)⟩,⟨8465,(.int 8465 701),(.str ⟨⟨[105]⟩⟩ 702)⟩,⟨8466,(.int 8466 704),(.str ⟨⟨[108]⟩⟩ 705)⟩,⟨8469,(.int 8469 707),(.str ⟨⟨[110]⟩⟩ 708)⟩,⟨8470,(.int 8470 710),(.str ⟨⟨[110,111]⟩⟩ 711)⟩,⟨8473,(.int 8473 713),(.str ⟨⟨[112]⟩⟩ 714)⟩,⟨8474,(.int 8474 716),(.str ⟨⟨[113]⟩⟩ 717)⟩,⟨8475,(.int 8475 719),(.str ⟨⟨[114]⟩⟩ 720)⟩,⟨8476,(.int 8476 722),(.str ⟨⟨[114]⟩⟩ 723)⟩,⟨8477,(.int 8477 725),(.str ⟨⟨[114]⟩⟩ 726)⟩,⟨8480,(.int 8480 728),(.str ⟨⟨[115,109]⟩⟩ 729)⟩,⟨8481,(.int 8481 731),(.str ⟨⟨[116,101,108]⟩⟩ 732)⟩,⟨8482,(.int 8482 734),(.str ⟨⟨[116,109]⟩⟩ 735)⟩,⟨8484,(.int 8484 737),(.str ⟨⟨[122]⟩⟩ 738)⟩,⟨8488,(.int 8488 740),(.str ⟨⟨[122]⟩⟩ 741)⟩,⟨8492,(.int 8492 743),(.str ⟨⟨[98]⟩⟩ 744)⟩,⟨8493,(.int 8493 746),(.str ⟨⟨[99]⟩⟩ 747)⟩,⟨8496,(.int 8496 749),(.str ⟨⟨[101]⟩⟩ 750)⟩,⟨8497,(.int 8497 752),(.str ⟨⟨[102]⟩⟩ 753)⟩,⟨8499,(.int 8499 755),(.str ⟨⟨[109]⟩⟩ 756)⟩,⟨8510,(.int 8510 758),(.str ⟨⟨[947]⟩⟩ 759)⟩,⟨8511,(.int 8511 761),(.str ⟨⟨[960]⟩⟩ 762)⟩,⟨8517,(.int 8517 764),(.str ⟨⟨[100]⟩⟩ 765)⟩,⟨13169,(.int 13169 767),(.str ⟨⟨[104,112,97]⟩⟩ 768)⟩,⟨13171,(.int 13171 770),(.str ⟨⟨[97,117]⟩⟩ 771)⟩,⟨13173,(.int 13173 773),(.str ⟨⟨[111,118]⟩⟩ 774)⟩,⟨13184,(.int 13184 776),(.str ⟨⟨[112,97]⟩⟩ 777)⟩,⟨13185,(.int 13185 779),(.str ⟨⟨[110,97]⟩⟩ 780)⟩,⟨13186,(.int 13186 782),(.str ⟨⟨[956,97]⟩⟩ 783)⟩,⟨13187,(.int 13187 785),(.str ⟨⟨[109,97]⟩⟩ 786)⟩,⟨13188,(.int 13188 788),(.str ⟨⟨[107,97]⟩⟩ 789)⟩,⟨13189,(.int 13189 791),(.str ⟨⟨[107,98]⟩⟩ 792)⟩,⟨13190,(.int 13190 794),(.str ⟨⟨[109,98]⟩⟩ 795)⟩,⟨13191,(.int 13191 797),(.str ⟨⟨[103,98]⟩⟩ 798)⟩,⟨13194,(.int 13194 800),(.str ⟨⟨[112,102]⟩⟩ 801)⟩,⟨13195,(.int 13195 803),(.str ⟨⟨[110,102]⟩⟩ 804)⟩,⟨13196,(.int 13196 806),(.str ⟨⟨[956,102]⟩⟩ 807)⟩,⟨13200,(.int 13200 809),(.str ⟨⟨[104,122]⟩⟩ 810)⟩,⟨13201,(.int 13201 812),(.str ⟨⟨[107,104,122]⟩⟩ 813)⟩,⟨13202,(.int 13202 815),(.str ⟨⟨[109,104,122]⟩⟩ 816)⟩,⟨13203,(.int 13203 818),(.str ⟨⟨[103,104,122]⟩⟩ 819)⟩,⟨13204,(.int 13204 821),(.str ⟨⟨[116,104,122]⟩⟩ 822)⟩,⟨13225,(.int 13225 824),(.str ⟨⟨[112,97]⟩⟩ 825)⟩,⟨13226,(.int 13226 827),(.str ⟨⟨[107,112,97]⟩⟩ 828)⟩,⟨13227,(.int 13227 830),(.str ⟨⟨[109,112,97]⟩⟩ 831)⟩,⟨13228,(.int 13228 833),(.str ⟨⟨[103,112,97]⟩⟩ 834)⟩,⟨13236,(.int 13236 836),(.str ⟨⟨[112,118]⟩⟩ 837)⟩,⟨13237,(.int 13237 839),(.str ⟨⟨[110,118]⟩⟩ 840)⟩,⟨13238,(.int 13238 842),(.str ⟨⟨[956,118]⟩⟩ 843)⟩,⟨13239,(.int 13239 845),(.str ⟨⟨[109,118]⟩⟩ 846)⟩,⟨13240,(.int 13240 848),(.str ⟨⟨[107,118]⟩⟩ 849)⟩,⟨13241,(.int 13241 851),(.str ⟨⟨[109,118]⟩⟩ 852)⟩,⟨13242,(.int 13242 854),(.str ⟨⟨[112,119]⟩⟩ 855)⟩,⟨13243,(.int 13243 857),(.str ⟨⟨[110,119]⟩⟩ 858)⟩,⟨13244,(.int 13244 860),(.str ⟨⟨[956,119]⟩⟩ 861)⟩,⟨13245,(.int 13245 863),(.str ⟨⟨[109,119]⟩⟩ 864)⟩,⟨13246,(.int 13246 866),(.str ⟨⟨[107,119]⟩⟩ 867)⟩,⟨13247,(.int 13247 869),(.str ⟨⟨[109,119]⟩⟩ 870)⟩,⟨13248,(.int 13248 872),(.str ⟨⟨[107,969]⟩⟩ 873)⟩,⟨13249,(.int 13249 875),(.str ⟨⟨[109,969]⟩⟩ 876)⟩,⟨13251,(.int 13251 878),(.str ⟨⟨[98,113]⟩⟩ 879)⟩,⟨13254,(.int 13254 881),(.str ⟨⟨[99,8725,107,103]⟩⟩ 882)⟩,⟨13255,(.int 13255 884),(.str ⟨⟨[99,111,46]⟩⟩ 885)⟩,⟨13256,(.int 13256 887),(.str ⟨⟨[100,98]⟩⟩ 888)⟩,⟨13257,(.int 13257 890),(.str ⟨⟨[103,121]⟩⟩ 891)⟩,⟨13259,(.int 13259 893),(.str ⟨⟨[104,112]⟩⟩ 894)⟩,⟨13261,(.int 13261 896),(.str ⟨⟨[107,107]⟩⟩ 897)⟩,⟨13262,(.int 13262 899),(.str ⟨⟨[107,109]⟩⟩ 900)⟩,⟨13271,(.int 13271 902),(.str ⟨⟨[112,104]⟩⟩ 903)⟩,⟨13273,(.int 13273 905),(.str ⟨⟨[112,112,109]⟩⟩ 906)⟩,⟨13274,(.int 13274 908),(.str ⟨⟨[112,114]⟩⟩ 909)⟩,⟨13276,(.int 13276 911),(.str ⟨⟨[115,118]⟩⟩ 912)⟩,⟨13277,(.int 13277 914),(.str ⟨⟨[119,98]⟩⟩ 915)⟩,⟨64256,(.int 64256 917),(.str ⟨⟨[102,102]⟩⟩ 918)⟩,⟨64257,(.int 64257 920),(.str ⟨⟨[102,105]⟩⟩ 921)⟩,⟨64258,(.int 64258 923),(.str ⟨⟨[102,108]⟩⟩ 924)⟩,⟨64259,(.int 64259 926),(.str ⟨⟨[102,102,105]⟩⟩ 927)⟩,⟨64260,(.int 64260 929),(.str ⟨⟨[102,102,108]⟩⟩ 930)⟩,⟨64261,(.int 64261 932),(.str ⟨⟨[115,116]⟩⟩ 933)⟩,⟨64262,(.int 64262 935),(.str ⟨⟨[115,116]⟩⟩ 936)⟩,⟨64275,(.int 64275 938),(.str ⟨⟨[1396,1398]⟩⟩ 939)⟩,⟨64276,(.int 64276 941),(.str ⟨⟨[1396,1381]⟩⟩ 942)⟩,⟨64277,(.int 64277 944),(.str ⟨⟨[1396,1387]⟩⟩ 945)⟩,⟨64278,(.int 64278 947),(.str ⟨⟨[1406,1398]⟩⟩ 948)⟩,⟨64279,(.int 64279 950),(.str ⟨⟨[1396,1389]⟩⟩ 951)⟩,⟨119808,(.int 119808 953),(.str ⟨⟨[97]⟩⟩ 954)⟩,⟨119809,(.int 119809 956),(.str ⟨⟨[98]⟩⟩ 957)⟩,⟨119810,(.int 119810 959),(.str ⟨⟨[99]⟩⟩ 960)⟩,⟨119811,(.int 119811 962),(.str ⟨⟨[100]⟩⟩ 963)⟩,⟨119812,(.int 119812 965),(.str ⟨⟨[101]⟩⟩ 966)⟩,⟨119813,(.int 119813 968),(.str ⟨⟨[102]⟩⟩ 969)⟩,⟨119814,(.int 119814 971),(.str ⟨⟨[103]⟩⟩ 972)⟩,⟨119815,(.int 119815 974),(.str ⟨⟨[104]⟩⟩ 975)⟩,⟨119816,(.int 119816 977),(.str ⟨⟨[105]⟩⟩ 978)⟩,⟨119817,(.int 119817 980),(.str ⟨⟨[106]⟩⟩ 981)⟩,⟨119818,(.int 119818 983),(.str ⟨⟨[107]⟩⟩ 984)⟩,⟨119819,(.int 119819 986),(.str ⟨⟨[108]⟩⟩ 987)⟩,⟨119820,(.int 119820 989),(.str ⟨⟨[109]⟩⟩ 990)⟩,⟨119821,(.int 119821 992),(.str ⟨⟨[110]⟩⟩ 993)⟩,⟨119822,(.int 119822 995),(.str ⟨⟨[111]⟩⟩ 996)⟩,⟨119823,(.int 119823 998),(.str ⟨⟨[112]⟩⟩ 999)⟩,⟨119824,(.int 119824 1001),(.str ⟨⟨[113]⟩⟩ 1002)⟩,⟨119825,(.int 119825 1004),(.str ⟨⟨[114]⟩⟩ 1005)⟩,⟨119826,(.int 119826 1007),(.str ⟨⟨[115]⟩⟩ 1008)⟩,⟨119827,(.int 119827 1010),(.str ⟨⟨[116]⟩⟩ 1011)⟩,⟨119828,(.int 119828 1013),(.str ⟨⟨[117]⟩⟩ 1014)⟩,⟨119829,(.int 119829 1016),(.str ⟨⟨[118]⟩⟩ 1017)⟩,⟨119830,(.int 119830 1019),(.str ⟨⟨[119]⟩⟩ 1020)⟩,⟨119831,(.int 119831 1022),(.str ⟨⟨[120]⟩⟩ 1023)⟩,⟨119832,(.int 119832 1025),(.str ⟨⟨[121]⟩⟩ 1026)⟩,⟨119833,(.int 119833 1028),(.str ⟨⟨[122]⟩⟩ 1029)⟩,⟨119860,(.int 119860 1031),(.str ⟨⟨[97]⟩⟩ 1032)⟩,⟨119861,(.int 119861 1034),(.str ⟨⟨[98]⟩⟩ 1035)⟩,⟨119862,(.int 119862 1037),(.str ⟨⟨[99]⟩⟩ 1038)⟩,⟨119863,(.int 119863 1040),(.str ⟨⟨[100]⟩⟩ 1041)⟩,⟨119864,(.int 119864 1043),(.str ⟨⟨[101]⟩⟩ 1044)⟩,⟨119865,(.int 119865 1046),(.str ⟨⟨[102]⟩⟩ 1047)⟩,⟨119866,(.int 119866 1049),(.str ⟨⟨[103]⟩⟩ 1050)⟩,⟨119867,(.int 119867 1052),(.str ⟨⟨[104]⟩⟩ 1053)⟩,⟨119868,(.int 119868 1055),(.str ⟨⟨[105]⟩⟩ 1056)⟩,⟨119869,(.int 119869 1058),(.str ⟨⟨[106]⟩⟩ 1059)⟩,⟨119870,(.int 119870 1061),(.str ⟨⟨[107]⟩⟩ 1062)⟩,⟨119871,(.int 119871 1064),(.str ⟨⟨[108]⟩⟩ 1065)⟩,⟨119872,(.int 119872 1067),(.str ⟨⟨[109]⟩⟩ 1068)⟩,⟨119873,(.int 119873 1070),(.str ⟨⟨[110]⟩⟩ 1071)⟩,⟨119874,(.int 119874 1073),(.str ⟨⟨[111]⟩⟩ 1074)⟩,⟨119875,(.int 119875 1076),(.str ⟨⟨[112]⟩⟩ 1077)⟩,⟨119876,(.int 119876 1079),(.str ⟨⟨[113]⟩⟩ 1080)⟩,⟨119877,(.int 119877 1082),(.str ⟨⟨[114]⟩⟩ 1083)⟩,⟨119878,(.int 119878 1085),(.str ⟨⟨[115]⟩⟩ 1086)⟩,⟨119879,(.int 119879 1088),(.str ⟨⟨[116]⟩⟩ 1089)⟩,⟨119880,(.int 119880 1091),(.str ⟨⟨[117]⟩⟩ 1092)⟩,⟨119881,(.int 119881 1094),(.str ⟨⟨[118]⟩⟩ 1095)⟩,⟨119882,(.int 119882 1097),(.str ⟨⟨[119]⟩⟩ 1098)⟩,⟨119883,(.int 119883 1100),(.str ⟨⟨[120]⟩⟩ 1101)⟩,⟨119884,(.int 119884 1103),(.str ⟨⟨[121]⟩⟩ 1104)⟩,⟨119885,(.int 119885 1106),(.str ⟨⟨[122]⟩⟩ 1107)⟩,⟨119912,(.int 119912 1109),(.str ⟨⟨[97]⟩⟩ 1110)⟩,⟨119913,(.int 119913 1112),(.str ⟨⟨[98]⟩⟩ 1113)⟩,⟨119914,(.int 119914 1115),(.str ⟨⟨[99]⟩⟩ 1116)⟩,⟨119915,(.int 119915 1118),(.str ⟨⟨[100]⟩⟩ 1119)⟩,⟨119916,(.int 119916 1121),(.str ⟨⟨[101]⟩⟩ 1122)⟩,⟨119917,(.int 119917 1124),(.str ⟨⟨[102]⟩⟩ 1125)⟩,⟨119918,(.int 119918 1127),(.str ⟨⟨[103]⟩⟩ 1128)⟩,⟨119919,(.int 119919 1130),(.str ⟨⟨[104]⟩⟩ 1131)⟩,⟨119920,(.int 119920 1133),(.str ⟨⟨[105]⟩⟩ 1134)⟩,⟨119921,(.int 119921 1136),(.str ⟨⟨[106]⟩⟩ 1137)⟩,⟨119922,(.int 119922 1139),(.str ⟨⟨[107]⟩⟩ 1140)⟩,⟨119923,(.int 119923 1142),(.str ⟨⟨[108]⟩⟩ 1143)⟩,⟨119924,(.int 119924 1145),(.str ⟨⟨[109]⟩⟩ 1146)⟩,⟨119925,(.int 119925 1148),(.str ⟨⟨[110]⟩⟩ 1149)⟩,⟨119926,(.int 119926 1151),(.str ⟨⟨[111]⟩⟩ 1152)⟩,⟨119927,(.int 119927 1154),(.str ⟨⟨[112]⟩⟩ 1155)⟩,⟨119928,(.int 119928 1157),(.str ⟨⟨[113]⟩⟩ 1158)⟩,⟨119929,(.int 119929 1160),(.str ⟨⟨[114]⟩⟩ 1161)⟩,⟨119930,(.int 119930 1163),(.str ⟨⟨[115]⟩⟩ 1164)⟩,⟨119931,(.int 119931 1166),(.str ⟨⟨[116]⟩⟩ 1167)⟩,⟨119932,(.int 119932 1169),(.str ⟨⟨[117]⟩⟩ 1170)⟩,⟨119933,(.int 119933 1172),(.str ⟨⟨[118]⟩⟩ 1173)⟩,⟨119934,(.int 119934 1175),(.str ⟨⟨[119]⟩⟩ 1176)⟩,⟨119935,(.int 119935 1178),(.str ⟨⟨[120]⟩⟩ 1179)⟩,⟨119936,(.int 119936 1181),(.str ⟨⟨[121]⟩⟩ 1182)⟩,⟨119937,(.int 119937 1184),(.str ⟨⟨[122]⟩⟩ 1185)⟩,⟨119964,(.int 119964 1187),(.str ⟨⟨[97]⟩⟩ 1188)⟩,⟨119966,(.int 119966 1190),(.str ⟨⟨[99]⟩⟩ 1191)⟩,⟨119967,(.int 119967 1193),(.str ⟨⟨[100]⟩⟩ 1194)⟩,⟨119970,(.int 119970 1196),(.str ⟨⟨[103]⟩⟩ 1197)⟩,⟨119973,(.int 119973 1199),(.str ⟨⟨[106]⟩⟩ 1200)⟩,⟨119974,(.int 119974 1202),(.str ⟨⟨[107]⟩⟩ 1203)⟩,⟨119977,(.int 119977 1205),(.str ⟨⟨[110]⟩⟩ 1206)⟩,⟨119978,(.int 119978 1208),(.str ⟨⟨[111]⟩⟩ 1209)⟩,⟨119979,(.int 119979 1211),(.str ⟨⟨[112]⟩⟩ 1212)⟩,⟨119980,(.int 119980 1214),(.str ⟨⟨[113]⟩⟩ 1215)⟩,⟨119982,(.int 119982 1217),(.str ⟨⟨[115]⟩⟩ 1218)⟩,⟨119983,(.int 119983 1220),(.str ⟨⟨[116]⟩⟩ 1221)⟩,⟨119984,(.int 119984 1223),(.str ⟨⟨[117]⟩⟩ 1224)⟩,⟨119985,(.int 119985 1226),(.str ⟨⟨[118]⟩⟩ 1227)⟩,⟨119986,(.int 119986 1229),(.str ⟨⟨[119]⟩⟩ 1230)⟩,⟨119987,(.int 119987 1232),(.str ⟨⟨[120]⟩⟩ 1233)⟩,⟨119988,(.int 119988 1235),(.str ⟨⟨[121]⟩⟩ 1236)⟩,⟨119989,(.int 119989 1238),(.str ⟨⟨[122]⟩⟩ 1239)⟩,⟨120016,(.int 120016 1241),(.str ⟨⟨[97]⟩⟩ 1242)⟩,⟨120017,(.int 120017 1244),(.str ⟨⟨[98]⟩⟩ 1245)⟩,⟨120018,(.int 120018 1247),(.str ⟨⟨[99]⟩⟩ 1248)⟩,⟨120019,(.int 120019 1250),(.str ⟨⟨[100]⟩⟩ 1251)⟩,⟨120020,(.int 120020 1253),(.str ⟨⟨[101]⟩⟩ 1254)⟩,⟨120021,(.int 120021 1256),(.str ⟨⟨[102]⟩⟩ 1257)⟩,⟨120022,(.int 120022 1259),(.str ⟨⟨[103]⟩⟩ 1260)⟩,⟨120023,(.int 120023 1262),(.str ⟨⟨[104]⟩⟩ 1263)⟩,⟨120024,(.int 120024 1265),(.str ⟨⟨[105]⟩⟩ 1266)⟩,⟨120025,(.int 120025 1268),(.str ⟨⟨[106]⟩⟩ 1269)⟩,⟨120026,(.int 120026 1271),(.str ⟨⟨[107]⟩⟩ 1272)⟩,⟨120027,(.int 120027 1274),(.str ⟨⟨[108]⟩⟩ 1275)⟩,⟨120028,(.int 120028 1277),(.str ⟨⟨[109]⟩⟩ 1278)⟩,⟨120029,(.int 120029 1280),(.str ⟨⟨[110]⟩⟩ 1281)⟩,⟨120030,(.int 120030 1283),(.str ⟨⟨[111]⟩⟩ 1284)⟩,⟨120031,(.int 120031 1286),(.str ⟨⟨[112]⟩⟩ 1287)⟩,⟨120032,(.int 120032 1289),(.str ⟨⟨[113]⟩⟩ 1290)⟩,⟨120033,(.int 120033 1292),(.str ⟨⟨[114]⟩⟩ 1293)⟩,⟨120034,(.int 120034 1295),(.str ⟨⟨[115]⟩⟩ 1296)⟩,⟨120035,(.int 120035 1298),(.str ⟨⟨[116]⟩⟩ 1299)⟩,⟨120036,(.int 120036 1301),(.str ⟨⟨[117]⟩⟩ 1302)⟩,⟨120037,(.int 120037 1304),(.str ⟨⟨[118]⟩⟩ 1305)⟩,⟨120038,(.int 120038 1307),(.str ⟨⟨[119]⟩⟩ 1308)⟩,⟨120039,(.int 120039 1310),(.str ⟨⟨[120]⟩⟩ 1311)⟩,⟨120040,(.int 120040 1313),(.str ⟨⟨[121]⟩⟩ 1314)⟩,⟨120041,(.int 120041 1316),(.str ⟨⟨[122]⟩⟩ 1317)⟩,⟨120068,(.int 120068 1319),(.str ⟨⟨[97]⟩⟩ 1320)⟩,⟨120069,(.int 120069 1322),(.str ⟨⟨[98]⟩⟩ 1323)⟩,⟨120071,(.int 120071 1325),(.str ⟨⟨[100]⟩⟩ 1326)⟩,⟨120072,(.int 120072 1328),(.str ⟨⟨[101]⟩⟩ 1329)⟩,⟨120073,(.int 120073 1331),(.str ⟨⟨[102]⟩⟩ 1332)⟩,⟨120074,(.int 120074 1334),(.str ⟨⟨[103]⟩⟩ 1335)⟩,⟨120077,(.int 120077 1337),(.str ⟨⟨[106]⟩⟩ 1338)⟩,⟨120078,(.int 120078 1340),(.str ⟨⟨[107]⟩⟩ 1341)⟩,⟨120079,(.int 120079 1343),(.str ⟨⟨[108]⟩⟩ 1344)⟩,⟨120080,(.int 120080 1346),(.str ⟨⟨[109]⟩⟩ 1347)⟩,⟨120081,(.int 120081 1349),(.str ⟨⟨[110]⟩⟩ 1350)⟩,⟨120082,(.int 120082 1352),(.str ⟨⟨[111]⟩⟩ 1353)⟩,⟨120083,(.int 120083 1355),(.str ⟨⟨[112]⟩⟩ 1356)⟩,⟨120084,(.int 120084 1358),(.str ⟨⟨[113]⟩⟩ 1359)⟩,⟨120086,(.int 120086 1361),(.str ⟨⟨[115]⟩⟩ 1362)⟩,⟨120087,(.int 120087 1364),(.str ⟨⟨[116]⟩⟩ 1365)⟩,⟨120088,(.int 120088 1367),(.str ⟨⟨[117]⟩⟩ 1368)⟩,⟨120089,(.int 120089 1370),(.str ⟨⟨[118]⟩⟩ 1371)⟩,⟨120090,(.int 120090 1373),(.str ⟨⟨[119]⟩⟩ 1374)⟩,⟨120091,(.int 120091 1376),(.str ⟨⟨[120]⟩⟩ 1377)⟩,⟨120092,(.int 120092 1379),(.str ⟨⟨[121]⟩⟩ 1380)⟩,⟨120120,(.int 120120 1382),(.str ⟨⟨[97]⟩⟩ 1383)⟩,⟨120121,(.int 120121 1385),(.str ⟨⟨[98]⟩⟩ 1386)⟩,⟨120123,(.int 120123 1388),(.str ⟨⟨[100]⟩⟩ 1389)⟩,⟨120124,(.int 120124 1391),(.str ⟨⟨[101]⟩⟩ 1392)⟩,⟨120125,(.int 120125 1394),(.str ⟨⟨[102]⟩⟩ 1395)⟩,⟨120126,(.int 120126 1397),(.str ⟨⟨[103]⟩⟩ 1398)⟩,⟨120128,(.int 120128 1400),(.str ⟨⟨[105]⟩⟩ 1401)⟩,⟨120129,(.int 120129 1403),(.str ⟨⟨[106]⟩⟩ 1404)⟩,⟨120130,(.int 120130 1406),(.str ⟨⟨[107]⟩⟩ 1407)⟩,⟨120131,(.int 120131 1409),(.str ⟨⟨[108]⟩⟩ 1410)⟩,⟨120132,(.int 120132 1412),(.str ⟨⟨[109]⟩⟩ 1413)⟩,⟨120134,(.int 120134 1415),(.str ⟨⟨[111]⟩⟩ 1416)⟩,⟨120138,(.int 120138 1418),(.str ⟨⟨[115]⟩⟩ 1419)⟩,⟨120139,(.int 120139 1421),(.str ⟨⟨[116]⟩⟩ 1422)⟩,⟨120140,(.int 120140 1424),(.str ⟨⟨[117]⟩⟩ 1425)⟩,⟨120141,(.int 120141 1427),(.str ⟨⟨[118]⟩⟩ 1428)⟩,⟨120142,(.int 120142 1430),(.str ⟨⟨[119]⟩⟩ 1431)⟩,⟨120143,(.int 120143 1433),(.str ⟨⟨[120]⟩⟩ 1434)⟩,⟨120144,(.int 120144 1436),(.str ⟨⟨[121]⟩⟩ 1437)⟩,⟨120172,(.int 120172 1439),(.str ⟨⟨[97]⟩⟩ 1440)⟩,⟨120173,(.int 120173 1442),(.str ⟨⟨[98]⟩⟩ 1443)⟩,⟨120174,(.int 120174 1445),(.str ⟨⟨[99]⟩⟩ 1446)⟩,⟨120175,(.int 120175 1448),(.str ⟨⟨[100]⟩⟩ 1449)⟩,⟨120176,(.int 120176 1451),(.str ⟨⟨[101]⟩⟩ 1452)⟩,⟨120177,(.int 120177 1454),(.str ⟨⟨[102]⟩⟩ 1455)⟩,⟨120178,(.int 120178 1457),(.str ⟨⟨[103]⟩⟩ 1458)⟩,⟨120179,(.int 120179 1460),(.str ⟨⟨[104]⟩⟩ 1461)⟩,⟨120180,(.int 120180 1463),(.str ⟨⟨[105]⟩⟩ 1464)⟩,⟨120181,(.int 120181 1466),(.str ⟨⟨[106]⟩⟩ 1467)⟩,⟨120182,(.int 120182 1469),(.str ⟨⟨[107]⟩⟩ 1470)⟩,⟨120183,(.int 120183 1472),(.str ⟨⟨[108]⟩⟩ 1473)⟩,⟨120184,(.int 120184 1475),(.str ⟨⟨[109]⟩⟩ 1476)⟩,⟨120185,(.int 120185 1478),(.str ⟨⟨[110]⟩⟩ 1479)⟩,⟨120186,(.int 120186 1481),(.str ⟨⟨[111]⟩⟩ 1482)⟩,⟨120187,(.int 120187 1484),(.str ⟨⟨[112]⟩⟩ 1485)⟩,⟨120188,(.int 120188 1487),(.str ⟨⟨[113]⟩⟩ 1488)⟩,⟨120189,(.int 120189 1490),(.str ⟨⟨[114]⟩⟩ 1491)⟩,⟨120190,(.int 120190 1493),(.str ⟨⟨[115]⟩⟩ 1494)⟩,⟨120191,(.int 120191 1496),(.str ⟨⟨[116]⟩⟩ 1497)⟩,⟨120192,(.int 120192 1499),(.str ⟨⟨[117]⟩⟩ 1500)⟩,⟨120193,(.int 120193 1502),(.str ⟨⟨[118]⟩⟩ 1503)⟩,⟨120194,(.int 120194 1505),(.str ⟨⟨[119]⟩⟩ 1506)⟩,⟨120195,(.int 120195 1508),(.str ⟨⟨[120]⟩⟩ 1509)⟩,⟨120196,(.int 120196 1511),(.str ⟨⟨[121]⟩⟩ 1512)⟩,⟨120197,(.int 120197 1514),(.str ⟨⟨[122]⟩⟩ 1515)⟩,⟨120224,(.int 120224 1517),(.str ⟨⟨[97]⟩⟩ 1518)⟩,⟨120225,(.int 120225 1520),(.str ⟨⟨[98]⟩⟩ 1521)⟩,⟨120226,(.int 120226 1523),(.str ⟨⟨[99]⟩⟩ 1524)⟩,⟨120227,(.int 120227 1526),(.str ⟨⟨[100]⟩⟩ 1527)⟩,⟨120228,(.int 120228 1529),(.str ⟨⟨[101]⟩⟩ 1530)⟩,⟨120229,(.int 120229 1532),(.str ⟨⟨[102]⟩⟩ 1533)⟩,⟨120230,(.int 120230 1535),(.str ⟨⟨[103]⟩⟩ 1536)⟩,⟨120231,(.int 120231 1538),(.str ⟨⟨[104]⟩⟩ 1539)⟩,⟨120232,(.int 120232 1541),(.str ⟨⟨[105]⟩⟩ 1542)⟩,⟨120233,(.int 120233 1544),(.str ⟨⟨[106]⟩⟩ 1545)⟩,⟨120234,(.int 120234 1547),(.str ⟨⟨[107]⟩⟩ 1548)⟩,⟨120235,(.int 120235 1550),(.str ⟨⟨[108]⟩⟩ 1551)⟩,⟨120236,(.int 120236 1553),(.str ⟨⟨[109]⟩⟩ 1554)⟩,⟨120237,(.int 120237 1556),(.str ⟨⟨[110]⟩⟩ 1557)⟩,⟨120238,(.int 120238 1559),(.str ⟨⟨[111]⟩⟩ 1560)⟩,⟨120239,(.int 120239 1562),(.str ⟨⟨[112]⟩⟩ 1563)⟩,⟨120240,(.int 120240 1565),(.str ⟨⟨[113]⟩⟩ 1566)⟩,⟨120241,(.int 120241 1568),(.str ⟨⟨[114]⟩⟩ 1569)⟩,⟨120242,(.int 120242 1571),(.str ⟨⟨[115]⟩⟩ 1572)⟩,⟨120243,(.int 120243 1574),(.str ⟨⟨[116]⟩⟩ 1575)⟩,⟨120244,(.int 120244 1577),(.str ⟨⟨[117]⟩⟩ 1578)⟩,⟨120245,(.int 120245 1580),(.str ⟨⟨[118]⟩⟩ 1581)⟩,⟨120246,(.int 120246 1583),(.str ⟨⟨[119]⟩⟩ 1584)⟩,⟨120247,(.int 120247 1586),(.str ⟨⟨[120]⟩⟩ 1587)⟩,⟨120248,(.int 120248 1589),(.str ⟨⟨[121]⟩⟩ 1590)⟩,⟨120249,(.int 120249 1592),(.str ⟨⟨[122]⟩⟩ 1593)⟩,⟨120276,(.int 120276 1595),(.str ⟨⟨[97]⟩⟩ 1596)⟩,⟨120277,(.int 120277 1598),(.str ⟨⟨[98]⟩⟩ 1599)⟩,⟨120278,(.int 120278 1601),(.str ⟨⟨[99]⟩⟩ 1602)⟩,⟨120279,(.int 120279 1604),(.str ⟨⟨[100]⟩⟩ 1605)⟩,⟨120280,(.int 120280 1607),(.str ⟨⟨[101]⟩⟩ 1608)⟩,⟨120281,(.int 120281 1610),(.str ⟨⟨[102]⟩⟩ 1611)⟩,⟨120282,(.int 120282 1613),(.str ⟨⟨[103]⟩⟩ 1614)⟩,⟨120283,(.int 120283 1616),(.str ⟨⟨[104]⟩⟩ 1617)⟩,⟨120284,(.int 120284 1619),(.str ⟨⟨[105]⟩⟩ 1620)⟩,⟨120285,(.int 120285 1622),(.str ⟨⟨[106]⟩⟩ 1623)⟩,⟨120286,(.int 120286 1625),(.str ⟨⟨[107]⟩⟩ 1626)⟩,⟨120287,(.int 120287 1628),(.str ⟨⟨[108]⟩⟩ 1629)⟩,⟨120288,(.int 120288 1631),(.str ⟨⟨[109]⟩⟩ 1632)⟩,⟨120289,(.int 120289 1634),(.str ⟨⟨[110]⟩⟩ 1635)⟩,⟨120290,(.int 120290 1637),(.str ⟨⟨[111]⟩⟩ 1638)⟩,⟨120291,(.int 120291 1640),(.str ⟨⟨[112]⟩⟩ 1641)⟩,⟨120292,(.int 120292 1643),(.str ⟨⟨[113]⟩⟩ 1644)⟩,⟨120293,(.int 120293 1646),(.str ⟨⟨[114]⟩⟩ 1647)⟩,⟨120294,(.int 120294 1649),(.str ⟨⟨[115]⟩⟩ 1650)⟩,⟨120295,(.int 120295 1652),(.str ⟨⟨[116]⟩⟩ 1653)⟩,⟨120296,(.int 120296 1655),(.str ⟨⟨[117]⟩⟩ 1656)⟩,⟨120297,(.int 120297 1658),(.str ⟨⟨[118]⟩⟩ 1659)⟩,⟨120298,(.int 120298 1661),(.str ⟨⟨[119]⟩⟩ 1662)⟩,⟨120299,(.int 120299 1664),(.str ⟨⟨[120]⟩⟩ 1665)⟩,⟨120300,(.int 120300 1667),(.str ⟨⟨[121]⟩⟩ 1668)⟩,⟨120301,(.int 120301 1670),(.str ⟨⟨[122]⟩⟩ 1671)⟩,⟨120328,(.int 120328 1673),(.str ⟨⟨[97]⟩⟩ 1674)⟩,⟨120329,(.int 120329 1676),(.str ⟨⟨[98]⟩⟩ 1677)⟩,⟨120330,(.int 120330 1679),(.str ⟨⟨[99]⟩⟩ 1680)⟩,⟨120331,(.int 120331 1682),(.str ⟨⟨[100]⟩⟩ 1683)⟩,⟨120332,(.int 120332 1685),(.str ⟨⟨[101]⟩⟩ 1686)⟩,⟨120333,(.int 120333 1688),(.str ⟨⟨[102]⟩⟩ 1689)⟩,⟨120334,(.int 120334 1691),(.str ⟨⟨[103]⟩⟩ 1692)⟩,⟨120335,(.int 120335 1694),(.str ⟨⟨[104]⟩⟩ 1695)⟩,⟨120336,(.int 120336 1697),(.str ⟨⟨[105]⟩⟩ 1698)⟩,⟨120337,(.int 120337 1700),(.str ⟨⟨[106]⟩⟩ 1701)⟩,⟨120338,(.int 120338 1703),(.str ⟨⟨[107]⟩⟩ 1704)⟩,⟨120339,(.int 120339 1706),(.str ⟨⟨[108]⟩⟩ 1707)⟩,⟨120340,(.int 120340 1709),(.str ⟨⟨[109]⟩⟩ 1710)⟩,⟨120341,(.int 120341 1712),(.str ⟨⟨[110]⟩⟩ 1713)⟩,⟨120342,(.int 120342 1715),(.str ⟨⟨[111]⟩⟩ 1716)⟩,⟨120343,(.int 120343 1718),(.str ⟨⟨[112]⟩⟩ 1719)⟩,⟨120344,(.int 120344 1721),(.str ⟨⟨[113]⟩⟩ 1722)⟩,⟨120345,(.int 120345 1724),(.str ⟨⟨[114]⟩⟩ 1725)⟩,⟨120346,(.int 120346 1727),(.str ⟨⟨[115]⟩⟩ 1728)⟩,⟨120347,(.int 120347 1730),(.str ⟨⟨[116]⟩⟩ 1731)⟩,⟨120348,(.int 120348 1733),(.str ⟨⟨[117]⟩⟩ 1734)⟩,⟨120349,(.int 120349 1736),(.str ⟨⟨[118]⟩⟩ 1737)⟩,⟨120350,(.int 120350 1739),(.str ⟨⟨[119]⟩⟩ 1740)⟩,⟨120351,(.int 120351 1742),(.str ⟨⟨[120]⟩⟩ 1743)⟩,⟨120352,(.int 120352 1745),(.str ⟨⟨[121]⟩⟩ 1746)⟩,⟨120353,(.int 120353 1748),(.str ⟨⟨[122]⟩⟩ 1749)⟩,⟨120380,(.int 120380 1751),(.str ⟨⟨[97]⟩⟩ 1752)⟩,⟨120381,(.int 120381 1754),(.str ⟨⟨[98]⟩⟩ 1755)⟩,⟨120382,(.int 120382 1757),(.str ⟨⟨[99]⟩⟩ 1758)⟩,⟨120383,(.int 120383 1760),(.str ⟨⟨[100]⟩⟩ 1761)⟩,⟨120384,(.int 120384 1763),(.str ⟨⟨[101]⟩⟩ 1764)⟩,⟨120385,(.int 120385 1766),(.str ⟨⟨[102]⟩⟩ 1767)⟩,⟨120386,(.int 120386 1769),(.str ⟨⟨[103]⟩⟩ 1770)⟩,⟨120387,(.int 120387 1772),(.str ⟨⟨[104]⟩⟩ 1773)⟩,⟨120388,(.int 120388 1775),(.str ⟨⟨[105]⟩⟩ 1776)⟩,⟨120389,(.int 120389 1778),(.str ⟨⟨[106]⟩⟩ 1779)⟩,⟨120390,(.int 120390 1781),(.str ⟨⟨[107]⟩⟩ 1782)⟩,⟨120391,(.int 120391 1784),(.str ⟨⟨[108]⟩⟩ 1785)⟩,⟨120392,(.int 120392 1787),(.str ⟨⟨[109]⟩⟩ 1788)⟩,⟨120393,(.int 120393 1790),(.str ⟨⟨[110]⟩⟩ 1791)⟩,⟨120394,(.int 120394 1793),(.str ⟨⟨[111]⟩⟩ 1794)⟩,⟨120395,(.int 120395 1796),(.str ⟨⟨[112]⟩⟩ 1797)⟩,⟨120396,(.int 120396 1799),(.str ⟨⟨[113]⟩⟩ 1800)⟩,⟨120397,(.int 120397 1802),(.str ⟨⟨[114]⟩⟩ 1803)⟩,⟨120398,(.int 120398 1805),(.str ⟨⟨[115]⟩⟩ 1806)⟩,⟨120399,(.int 120399 1808),(.str ⟨⟨[116]⟩⟩ 1809)⟩,⟨120400,(.int 120400 1811),(.str ⟨⟨[117]⟩⟩ 1812)⟩,⟨120401,(.int 120401 1814),(.str ⟨⟨[118]⟩⟩ 1815)⟩,⟨120402,(.int 120402 1817),(.str ⟨⟨[119]⟩⟩ 1818)⟩,⟨120403,(.int 120403 1820),(.str ⟨⟨[120]⟩⟩ 1821)⟩,⟨120404,(.int 120404 1823),(.str ⟨⟨[121]⟩⟩ 1824)⟩,⟨120405,(.int 120405 1826),(.str ⟨⟨[122]⟩⟩ 1827)⟩,⟨120432,(.int 120432 1829),(.str ⟨⟨[97]⟩⟩ 1830)⟩,⟨120433,(.int 120433 1832),(.str ⟨⟨[98]⟩⟩ 1833)⟩,⟨120434,(.int 120434 1835),(.str ⟨⟨[99]⟩⟩ 1836)⟩,⟨120435,(.int 120435 1838),(.str ⟨⟨[100]⟩⟩ 1839)⟩,⟨120436,(.int 120436 1841),(.str ⟨⟨[101]⟩⟩ 1842)⟩,⟨120437,(.int 120437 1844),(.str ⟨⟨[102]⟩⟩ 1845)⟩,⟨120438,(.int 120438 1847),(.str ⟨⟨[103]⟩⟩ 1848)⟩,⟨120439,(.int 120439 1850),(.str ⟨⟨[104]⟩⟩ 1851)⟩,⟨120440,(.int 120440 1853),(.str ⟨⟨[105]⟩⟩ 1854)⟩,⟨120441,(.int 120441 1856),(.str ⟨⟨[106]⟩⟩ 1857)⟩,⟨120442,(.int 120442 1859),(.str ⟨⟨[107]⟩⟩ 1860)⟩,⟨120443,(.int 120443 1862),(.str ⟨⟨[108]⟩⟩ 1863)⟩,⟨120444,(.int 120444 1865),(.str ⟨⟨[109]⟩⟩ 1866)⟩,⟨120445,(.int 120445 1868),(.str ⟨⟨[110]⟩⟩ 1869)⟩,⟨120446,(.int 120446 1871),(.str ⟨⟨[111]⟩⟩ 1872)⟩,⟨120447,(.int 120447 1874),(.str ⟨⟨[112]⟩⟩ 1875)⟩,⟨120448,(.int 120448 1877),(.str ⟨⟨[113]⟩⟩ 1878)⟩,⟨120449,(.int 120449 1880),(.str ⟨⟨[114]⟩⟩ 1881)⟩,⟨120450,(.int 120450 1883),(.str ⟨⟨[115]⟩⟩ 1884)⟩,⟨120451,(.int 120451 1886),(.str ⟨⟨[116]⟩⟩ 1887)⟩,⟨120452,(.int 120452 1889),(.str ⟨⟨[117]⟩⟩ 1890)⟩,⟨120453,(.int 120453 1892),(.str ⟨⟨[118]⟩⟩ 1893)⟩,⟨120454,(.int 120454 1895),(.str ⟨⟨[119]⟩⟩ 1896)⟩,⟨120455,(.int 120455 1898),(.str ⟨⟨[120]⟩⟩ 1899)⟩,⟨120456,(.int 120456 1901),(.str ⟨⟨[121]⟩⟩ 1902)⟩,⟨120457,(.int 120457 1904),(.str ⟨⟨[122]⟩⟩ 1905)⟩,⟨120488,(.int 120488 1907),(.str ⟨⟨[945]⟩⟩ 1908)⟩,⟨120489,(.int 120489 1910),(.str ⟨⟨[946]⟩⟩ 1911)⟩,⟨120490,(.int 120490 1913),(.str ⟨⟨[947]⟩⟩ 1914)⟩,⟨120491,(.int 120491 1916),(.str ⟨⟨[948]⟩⟩ 1917)⟩,⟨120492,(.int 120492 1919),(.str ⟨⟨[949]⟩⟩ 1920)⟩,⟨120493,(.int 120493 1922),(.str ⟨⟨[950]⟩⟩ 1923)⟩,⟨120494,(.int 120494 1925),(.str ⟨⟨[951]⟩⟩ 1926)⟩,⟨120495,(.int 120495 1928),(.str ⟨⟨[952]⟩⟩ 1929)⟩,⟨120496,(.int 120496 1931),(.str ⟨⟨[953]⟩⟩ 1932)⟩,⟨120497,(.int 120497 1934),(.str ⟨⟨[954]⟩⟩ 1935)⟩,⟨120498,(.int 120498 1937),(.str ⟨⟨[955]⟩⟩ 1938)⟩,⟨120499,(.int 120499 1940),(.str ⟨⟨[956]⟩⟩ 1941)⟩,⟨120500,(.int 120500 1943),(.str ⟨⟨[957]⟩⟩ 1944)⟩,⟨120501,(.int 120501 1946),(.str ⟨⟨[958]⟩⟩ 1947)⟩,⟨120502,(.int 120502 1949),(.str ⟨⟨[959]⟩⟩ 1950)⟩,⟨120503,(.int 120503 1952),(.str ⟨⟨[960]⟩⟩ 1953)⟩,⟨120504,(.int 120504 1955),(.str ⟨⟨[961]⟩⟩ 1956)⟩,⟨120505,(.int 120505 1958),(.str ⟨⟨[952]⟩⟩ 1959)⟩,⟨120506,(.int 120506 1961),(.str ⟨⟨[963]⟩⟩ 1962)⟩,⟨120507,(.int 120507 1964),(.str ⟨⟨[964]⟩⟩ 1965)⟩,⟨120508,(.int 120508 1967),(.str ⟨⟨[965]⟩⟩ 1968)⟩,⟨120509,(.int 120509 1970),(.str ⟨⟨[966]⟩⟩ 1971)⟩,⟨120510,(.int 120510 1973),(.str ⟨⟨[967]⟩⟩ 1974)⟩,⟨120511,(.int 120511 1976),(.str ⟨⟨[968]⟩⟩ 1977)⟩,⟨120512,(.int 120512 1979),(.str ⟨⟨[969]⟩⟩ 1980)⟩,⟨120531,(.int 120531 1982),(.str ⟨⟨[963]⟩⟩ 1983)⟩,⟨120546,(.int 120546 1985),(.str ⟨⟨[945]⟩⟩ 1986)⟩,⟨120547,(.int 120547 1988),(.str ⟨⟨[946]⟩⟩ 1989)⟩,⟨120548,(.int 120548 1991),(.str ⟨⟨[947]⟩⟩ 1992)⟩,⟨120549,(.int 120549 1994),(.str ⟨⟨[948]⟩⟩ 1995)⟩,⟨120550,(.int 120550 1997),(.str ⟨⟨[949]⟩⟩ 1998)⟩,⟨120551,(.int 120551 2000),(.str ⟨⟨[950]⟩⟩ 2001)⟩,⟨120552,(.int 120552 2003),(.str ⟨⟨[951]⟩⟩ 2004)⟩,⟨120553,(.int 120553 2006),(.str ⟨⟨[952]⟩⟩ 2007)⟩,⟨120554,(.int 120554 2009),(.str ⟨⟨[953]⟩⟩ 2010)⟩,⟨120555,(.int 120555 2012),(.str ⟨⟨[954]⟩⟩ 2013)⟩,⟨120556,(.int 120556 2015),(.str ⟨⟨[955]⟩⟩ 2016)⟩,⟨120557,(.int 120557 2018),(.str ⟨⟨[956]⟩⟩ 2019)⟩,⟨120558,(.int 120558 2021),(.str ⟨⟨[957]⟩⟩ 2022)⟩,⟨120559,(.int 120559 2024),(.str ⟨⟨[958]⟩⟩ 2025)⟩,⟨120560,(.int 120560 2027),(.str ⟨⟨[959]⟩⟩ 2028)⟩,⟨120561,(.int 120561 2030),(.str ⟨⟨[960]⟩⟩ 2031)⟩,⟨120562,(.int 120562 2033),(.str ⟨⟨[961]⟩⟩ 2034)⟩,⟨120563,(.int 120563 2036),(.str ⟨⟨[952]⟩⟩ 2037)⟩,⟨120564,(.int 120564 2039),(.str ⟨⟨[963]⟩⟩ 2040)⟩,⟨120565,(.int 120565 2042),(.str ⟨⟨[964]⟩⟩ 2043)⟩,⟨120566,(.int 120566 2045),(.str ⟨⟨[965]⟩⟩ 2046)⟩,⟨120567,(.int 120567 2048),(.str ⟨⟨[966]⟩⟩ 2049)⟩,⟨120568,(.int 120568 2051),(.str ⟨⟨[967]⟩⟩ 2052)⟩,⟨120569,(.int 120569 2054),(.str ⟨⟨[968]⟩⟩ 2055)⟩,⟨120570,(.int 120570 2057),(.str ⟨⟨[969]⟩⟩ 2058)⟩,⟨120589,(.int 120589 2060),(.str ⟨⟨[963]⟩⟩ 2061)⟩,⟨120604,(.int 120604 2063),(.str ⟨⟨[945]⟩⟩ 2064)⟩,⟨120605,(.int 120605 2066),(.str ⟨⟨[946]⟩⟩ 2067)⟩,⟨120606,(.int 120606 2069),(.str ⟨⟨[947]⟩⟩ 2070)⟩,⟨120607,(.int 120607 2072),(.str ⟨⟨[948]⟩⟩ 2073)⟩,⟨120608,(.int 120608 2075),(.str ⟨⟨[949]⟩⟩ 2076)⟩,⟨120609,(.int 120609 2078),(.str ⟨⟨[950]⟩⟩ 2079)⟩,⟨120610,(.int 120610 2081),(.str ⟨⟨[951]⟩⟩ 2082)⟩,⟨120611,(.int 120611 2084),(.str ⟨⟨[952]⟩⟩ 2085)⟩,⟨120612,(.int 120612 2087),(.str ⟨⟨[953]⟩⟩ 2088)⟩,⟨120613,(.int 120613 2090),(.str ⟨⟨[954]⟩⟩ 2091)⟩,⟨120614,(.int 120614 2093),(.str ⟨⟨[955]⟩⟩ 2094)⟩,⟨120615,(.int 120615 2096),(.str ⟨⟨[956]⟩⟩ 2097)⟩,⟨120616,(.int 120616 2099),(.str ⟨⟨[957]⟩⟩ 2100)⟩,⟨120617,(.int 120617 2102),(.str ⟨⟨[958]⟩⟩ 2103)⟩,⟨120618,(.int 120618 2105),(.str ⟨⟨[959]⟩⟩ 2106)⟩,⟨120619,(.int 120619 2108),(.str ⟨⟨[960]⟩⟩ 2109)⟩,⟨120620,(.int 120620 2111),(.str ⟨⟨[961]⟩⟩ 2112)⟩,⟨120621,(.int 120621 2114),(.str ⟨⟨[952]⟩⟩ 2115)⟩,⟨120622,(.int 120622 2117),(.str ⟨⟨[963]⟩⟩ 2118)⟩,⟨120623,(.int 120623 2120),(.str ⟨⟨[964]⟩⟩ 2121)⟩,⟨120624,(.int 120624 2123),(.str ⟨⟨[965]⟩⟩ 2124)⟩,⟨120625,(.int 120625 2126),(.str ⟨⟨[966]⟩⟩ 2127)⟩,⟨120626,(.int 120626 2129),(.str ⟨⟨[967]⟩⟩ 2130)⟩,⟨120627,(.int 120627 2132),(.str ⟨⟨[968]⟩⟩ 2133)⟩,⟨120628,(.int 120628 2135),(.str ⟨⟨[969]⟩⟩ 2136)⟩,⟨120647,(.int 120647 2138),(.str ⟨⟨[963]⟩⟩ 2139)⟩,⟨120662,(.int 120662 2141),(.str ⟨⟨[945]⟩⟩ 2142)⟩,⟨120663,(.int 120663 2144),(.str ⟨⟨[946]⟩⟩ 2145)⟩,⟨120664,(.int 120664 2147),(.str ⟨⟨[947]⟩⟩ 2148)⟩,⟨120665,(.int 120665 2150),(.str ⟨⟨[948]⟩⟩ 2151)⟩,⟨120666,(.int 120666 2153),(.str ⟨⟨[949]⟩⟩ 2154)⟩,⟨120667,(.int 120667 2156),(.str ⟨⟨[950]⟩⟩ 2157)⟩,⟨120668,(.int 120668 2159),(.str ⟨⟨[951]⟩⟩ 2160)⟩,⟨120669,(.int 120669 2162),(.str ⟨⟨[952]⟩⟩ 2163)⟩,⟨120670,(.int 120670 2165),(.str ⟨⟨[953]⟩⟩ 2166)⟩,⟨120671,(.int 120671 2168),(.str ⟨⟨[954]⟩⟩ 2169)⟩,⟨120672,(.int 120672 2171),(.str ⟨⟨[955]⟩⟩ 2172)⟩,⟨120673,(.int 120673 2174),(.str ⟨⟨[956]⟩⟩ 2175)⟩,⟨120674,(.int 120674 2177),(.str ⟨⟨[957]⟩⟩ 2178)⟩,⟨120675,(.int 120675 2180),(.str ⟨⟨[958]⟩⟩ 2181)⟩,⟨120676,(.int 120676 2183),(.str ⟨⟨[959]⟩⟩ 2184)⟩,⟨120677,(.int 120677 2186),(.str ⟨⟨[960]⟩⟩ 2187)⟩,⟨120678,(.int 120678 2189),(.str ⟨⟨[961]⟩⟩ 2190)⟩,⟨120679,(.int 120679 2192),(.str ⟨⟨[952]⟩⟩ 2193)⟩,⟨120680,(.int 120680 2195),(.str ⟨⟨[963]⟩⟩ 2196)⟩,⟨120681,(.int 120681 2198),(.str ⟨⟨[964]⟩⟩ 2199)⟩,⟨120682,(.int 120682 2201),(.str ⟨⟨[965]⟩⟩ 2202)⟩,⟨120683,(.int 120683 2204),(.str ⟨⟨[966]⟩⟩ 2205)⟩,⟨120684,(.int 120684 2207),(.str ⟨⟨[967]⟩⟩ 2208)⟩,⟨120685,(.int 120685 2210),(.str ⟨⟨[968]⟩⟩ 2211)⟩,⟨120686,(.int 120686 2213),(.str ⟨⟨[969]⟩⟩ 2214)⟩,⟨120705,(.int 120705 2216),(.str ⟨⟨[963]⟩⟩ 2217)⟩,⟨120720,(.int 120720 2219),(.str ⟨⟨[945]⟩⟩ 2220)⟩,⟨120721,(.int 120721 2222),(.str ⟨⟨[946]⟩⟩ 2223)⟩,⟨120722,(.int 120722 2225),(.str ⟨⟨[947]⟩⟩ 2226)⟩,⟨120723,(.int 120723 2228),(.str ⟨⟨[948]⟩⟩ 2229)⟩,⟨120724,(.int 120724 2231),(.str ⟨⟨[949]⟩⟩ 2232)⟩,⟨120725,(.int 120725 2234),(.str ⟨⟨[950]⟩⟩ 2235)⟩,⟨120726,(.int 120726 2237),(.str ⟨⟨[951]⟩⟩ 2238)⟩,⟨120727,(.int 120727 2240),(.str ⟨⟨[952]⟩⟩ 2241)⟩,⟨120728,(.int 120728 2243),(.str ⟨⟨[953]⟩⟩ 2244)⟩,⟨120729,(.int 120729 2246),(.str ⟨⟨[954]⟩⟩ 2247)⟩,⟨120730,(.int 120730 2249),(.str ⟨⟨[955]⟩⟩ 2250)⟩,⟨120731,(.int 120731 2252),(.str ⟨⟨[956]⟩⟩ 2253)⟩,⟨120732,(.int 120732 2255),(.str ⟨⟨[957]⟩⟩ 2256)⟩,⟨120733,(.int 120733 2258),(.str ⟨⟨[958]⟩⟩ 2259)⟩,⟨120734,(.int 120734 2261),(.str ⟨⟨[959]⟩⟩ 2262)⟩,⟨120735,(.int 120735 2264),(.str ⟨⟨[960]⟩⟩ 2265)⟩,⟨120736,(.int 120736 2267),(.str ⟨⟨[961]⟩⟩ 2268)⟩,⟨120737,(.int 120737 2270),(.str ⟨⟨[952]⟩⟩ 2271)⟩,⟨120738,(.int 120738 2273),(.str ⟨⟨[963]⟩⟩ 2274)⟩,⟨120739,(.int 120739 2276),(.str ⟨⟨[964]⟩⟩ 2277)⟩,⟨120740,(.int 120740 2279),(.str ⟨⟨[965]⟩⟩ 2280)⟩,⟨120741,(.int 120741 2282),(.str ⟨⟨[966]⟩⟩ 2283)⟩,⟨120742,(.int 120742 2285),(.str ⟨⟨[967]⟩⟩ 2286)⟩,⟨120743,(.int 120743 2287),(.str ⟨⟨[968]⟩⟩ 2288)⟩,⟨120744,(.int 120744 2289),(.str ⟨⟨[969]⟩⟩ 2290)⟩,⟨120763,(.int 120763 2291),(.str ⟨⟨[963]⟩⟩ 2292)⟩]) 650),(List.toArray [])⟩
noncomputable def kb135 (P : Params) : Obj := ⟨(.type PySem.W.SL.s2766695959194262286x5),.none,(.seq (List.toArray []) 0),(List.toArray [])⟩
noncomputable def kb136 (P : Params) : Obj := ⟨.none,.none,(.fields (List.toArray [])),(List.toArray [])⟩
noncomputable def kb137 (P : Params) : Obj := ⟨(.type PySem.W.SL.s2766695959194262286x5),.none,(.seq (List.toArray [(.str q201 2301),(.str ⟨⟨[114]⟩⟩ 2302)]) 0),(List.toArray [])⟩
noncomputable def kb138 (P : Params) : Obj := ⟨(.type PySem.W.SL.s2766695959194262286x5),.none,(.seq (List.toArray []) 0),(List.toArray [])⟩
noncomputable def kb139 (P : Params) : Obj := ⟨.none,.none,(.func ⟨q173,q173,q253,q254,q256,0,[],.none,.none,.none,.none,.none,.none,.none,0⟩),(List.toArray [])⟩
noncomputable def kb140 (P : Params) : Obj := ⟨(.type PySem.W.SL.s5856160107412720595x4),.none,(.fields (List.toArray [(.str q173 2298),(.str q173 2299),(.str q164 2300),(.int 85 0),(.int 1 0),(.int 0 0),(.int 0 0),(.int 3 0),(.ref 135),(.bool .true),(.int 181 0),(.ref 136),.none,(.ref 137),(.ref 138),(.ref 139),(.int 2303 0),(.int 85 0),(.str q164 2304)])),(List.toArray [])⟩
noncomputable def kb141 (P : Params) : Obj := ⟨(.type PySem.W.SL.s7174869446012820540x8),.none,(.func ⟨q173,q173,q253,q254,q256,3,[],.none,.none,.none,q207,.none,(.ref 140),.none,0⟩),(List.toArray [])⟩
noncomputable def kb142 (P : Params) : Obj := ⟨(.type PySem.W.SL.s2766695959194262286x5),.none,(.seq (List.toArray []) 0),(List.toArray [])⟩
noncomputable def kb144 (P : Params) : Obj := ⟨(.type PySem.W.SL.s2766695959194262286x5),.none,(.seq (List.toArray [(.str q217 2311),(.str q265 2312),(.str q266 2313),(.str q267 2314)]) 0),(List.toArray [])⟩
noncomputable def kb145 (P : Params) : Obj := ⟨(.type PySem.W.SL.s2766695959194262286x5),.none,(.seq (List.toArray [(.str q258 2315)]) 0),(List.toArray [])⟩
noncomputable def kb146 (P : Params) : Obj := ⟨.none,.none,(.func ⟨q174,q174,q300,q302,q303,0,[],.none,.none,.none,.none,.none,.none,.none,0⟩),(List.toArray [])⟩
noncomputable def kb147 (P : Params) : Obj := ⟨(.type PySem.W.SL.s5856160107412720595x4),.none,(.fields (List.toArray [(.str q174 2308),(.str q174 2309),(.str q164 2310),(.int 91 0),(.int 1 0),(.int 0 0),(.int 0 0),(.int 3 0),(.ref 142),(.bool .true),(.int 181 0),(.ref 143),.none,(.ref 144),(.ref 145),(.ref 146),(.int 2316 0),(.int 91 0),(.str q164 2317)])),(List.toArray [])⟩
noncomputable def kb148 (P : Params) : Obj := ⟨(.type PySem.W.SL.s7174869446012820540x8),.none,(.func ⟨q174,q174,q300,q302,q303,3,[],.none,.none,.none,q160,.none,(.ref 147),.none,0⟩),(List.toArray [])⟩
noncomputable def kb149 (P : Params) : Obj := ⟨(.type PySem.W.SL.s2766695959194262286x5),.none,(.seq (List.toArray []) 0),(List.toArray [])⟩
noncomputable def kb150 (P : Params) : Obj := ⟨.none,.none,(.fields (List.toArray [])),(List.toArray [])⟩
noncomputable def kb151 (P : Params) : Obj := ⟨.none,.none,(.func ⟨q175,q175,q218,q222,q226,0,[],.none,.none,.none,.none,.none,.none,.none,0⟩),(List.toArray [])⟩
noncomputable def kb152 (P : Params) : Obj := ⟨(.type PySem.W.SL.s5856160107412720595x4),.none,(.fields (List.toArray [(.str q175 2319),(.str q175 2320),(.str q164 2321),(.int 98 0),(.int 1 0),(.int 0 0),(.int 0 0),(.int 3 0),(.ref 149),(.bool .true),(.int 181 0),(.ref 150),.none,.none,.none,(.ref 151),(.int 2322 0),(.int 98 0),(.str q164 2323)])),(List.toArray [])⟩
noncomputable def kb153 (P : Params) : Obj := ⟨(.type PySem.W.SL.s7174869446012820540x8),.none,(.func ⟨q175,q175,q218,q222,q226,3,[],.none,.none,.none,q160,.none,(.ref 152),.none,0⟩),(List.toArray [])⟩
noncomputable def kb154 (P : Params) : Obj := ⟨(.type PySem.W.SL.s2766695959194262286x5),.none,(.seq (List.toArray []) 0),(List.toArray [])⟩
noncomputable def kb155 (P : Params) : Obj := ⟨.none,.none,(.fields (List.toArray [])),(List.toArray [])⟩
noncomputable def kb156 (P : Params) : Obj := ⟨.none,.none,(.func ⟨q176,q176,q310,q320,q321,0,[],.none,.none,.none,.none,.none,.none,.none,0⟩),(List.toArray [])⟩
noncomputable def kb157 (P : Params) : Obj := ⟨(.type PySem.W.SL.s5856160107412720595x4),.none,(.fields (List.toArray [(.str q176 2325),(.str q176 2326),(.str q164 2327),(.int 100 0),(.int 1 0),(.int 0 0),(.int 0 0),(.int 3 0),(.ref 154),(.bool .true),(.int 181 0),(.ref 155),.none,.none,.none,(.ref 156),(.int 2328 0),(.int 100 0),(.str q164 2329)])),(List.toArray [])⟩
noncomputable def kb158 (P : Params) : Obj := ⟨(.type PySem.W.SL.s7174869446012820540x8),.none,(.func ⟨q176,q176,q310,q320,q321,3,[],.none,.none,.none,q160,.none,(.ref 157),.none,0⟩),(List.toArray [])⟩
noncomputable def kb159 (P : Params) : Obj := ⟨(.type PySem.W.SL.s2766695959194262286x5),.none,(.seq (List.toArray []) 0),(List.toArray [])⟩
noncomputable def kb160 (P : Params) : Obj := ⟨.none,.none,(.fields (List.toArray [])),(List.toArray [])⟩
noncomputable def kb161 (P : Params) : Obj := ⟨(.type PySem.W.SL.s2766695959194262286x5),.none,(.seq (List.toArray [(.str q241 2334),(.str q242 2335),(.str q243 2336),(.str q245 2337),(.str ⟨⟨[107]⟩⟩ 2338),(.str q246 2339)]) 0),(List.toArray [])⟩
noncomputable def kb162 (P : Params) : Obj := ⟨(.type PySem.W.SL.s2766695959194262286x5),.none,(.seq (List.toArray []) 0),(List.toArray [])⟩
noncomputable def kb163 (P : Params) : Obj := ⟨.none,.none,(.func ⟨q177,q177,q244,q247,q251,0,[],.none,.none,.none,.none,.none,.none,.none,0⟩),(List.toArray [])⟩
noncomputable def kb164 (P : Params) : Obj := ⟨(.type PySem.W.SL.s5856160107412720595x4),.none,(.fields (List.toArray [(.str q177 2331),(.str q177 2332),(.str q164 2333),(.int 113 0),(.int 3 0),(.int 0 0),(.int 0 0),(.int 3 0),(.ref 159),(.bool .true),(.int 181 0),(.ref 160),.none,(.ref 161),(.ref 162),(.ref 163),(.int 2340 0),(.int 113 0),(.str q164 2341)])),(List.toArray [])⟩
noncomputable def kb165 (P : Params) : Obj := ⟨(.type PySem.W.SL.s7174869446012820540x8),.none,(.func ⟨q177,q177,q244,q247,q251,3,[],.none,.none,.none,q160,.none,(.ref 164),.none,0⟩),(List.toArray [])⟩
noncomputable def kb166 (P : Params) : Obj := ⟨(.type PySem.W.SL.s2766695959194262286x5),.none,(.seq (List.toArray []) 0),(List.toArray [])⟩
noncomputable def kb167 (P : Params) : Obj := ⟨.none,.none,(.fields (List.toArray [])),(List.toArray [])⟩
noncomputable def kb168 (P : Params) : Obj := ⟨.none,.none,(.func ⟨q178,q178,q274,q285,q291,0,[],.none,.none,.none,.none,.none,.none,.none,0⟩),(List.toArray [])⟩
noncomputable def kb169 (P : Params) : Obj := ⟨(.type PySem.W.SL.s5856160107412720595x4),.none,(.fields (List.toArray [(.str q178 2343),(.str q178 2344),(.str q164 2345),(.int 122 0),(.int 1 0),(.int 0 0),(.int 0 0),(.int 3 0),(.ref 166),(.bool .true),(.int 181 0),(.ref 167),.none,.none,.none,(.ref 168),(.int 2346 0),(.int 122 0),(.str q164 2347)])),(List.toArray [])⟩
noncomputable def kb170 (P : Params) : Obj := ⟨(.type PySem.W.SL.s7174869446012820540x8),.none,(.func ⟨q178,q178,q274,q285,q291,3,[],.none,.none,.none,q160,.none,(.ref 169),.none,0⟩),(List.toArray [])⟩
noncomputable def ktop (P : Params) : KT := (.node (some (kb0 P)) (.node (some (kb1 P)) (.node (some (kb3 P)) (.node (some (kb7 P)) (.node (some (kb15 P)) (.node (some (kb31 P)) (.node (some (kb63 P)) (.node none .nil .nil) .nil) (.node (some (kb95 P)) (.node (some (kb159 P)) .nil .nil) .nil)) (.node (some (kb47 P)) (.node (some (kb79 P)) (.node none .nil .nil) .nil) (.node none .nil .nil))) (.node (some (kb23 P)) (.node (some (kb39 P)) (.node (some (kb71 P)) (.node (some (kb135 P)) .nil .nil) .nil) (.node none (.node (some (kb167 P)) .nil .nil) .nil)) (.node (some (kb55 P)) (.node (some (kb87 P)) (.node (some (kb151 P)) .nil .nil) .nil) (.node none .nil .nil)))) (.node (some (kb11 P)) (.node (some (kb19 P)) (.node (some (kb35 P)) (.node (some (kb67 P)) (.node none .nil .nil) .nil) (.node none (.node (some (kb163 P)) .nil .nil) .nil)) (.node (some (kb51 P)) (.node (some (kb83 P)) (.node (some (kb147 P)) .nil .nil) .nil) (.node none .nil .nil))) (.node (some (kb27 P)) (.node (some (kb43 P)) (.node (some (kb75 P)) (.node (some (kb139 P)) .nil .nil) .nil) (.node none .nil .nil)) (.node (some (kb59 P)) (.node (some (kb91 P)) (.node (some (kb155 P)) .nil .nil) .nil) (.node none .nil .nil))))) (.node (some (kb5 P)) (.node (some (kb9 P)) (.node (some (kb17 P)) (.node (some (kb33 P)) (.node (some (kb65 P)) (.node none .nil .nil) .nil) (.node none (.node (some (kb161 P)) .nil .nil) .nil)) (.node (some (kb49 P)) (.node (some (kb81 P)) (.node (some (kb145 P)) .nil .nil) .nil) (.node none .nil .nil))) (.node (some (kb25 P)) (.node (some (kb41 P)) (.node (some (kb73 P)) (.node (some (kb137 P)) .nil .nil) .nil) (.node none (.node (some (kb169 P)) .nil .nil) .nil)) (.node (some (kb57 P)) (.node (some (kb89 P)) (.node (some (kb153 P)) .nil .nil) .nil) (.node none .nil .nil)))) (.node (some (kb13 P)) (.node (some (kb21 P)) (.node (some (kb37 P)) (.node (some (kb69 P)) (.node none .nil .nil) .nil) (.node none (.node (some (kb165 P)) .nil .nil) .nil)) (.node (some (kb53 P)) (.node (some (kb85 P)) (.node (some (kb149 P)) .nil .nil) .nil) (.node none .nil .nil))) (.node (some (kb29 P)) (.node (some (kb45 P)) (.node (some (kb77 P)) (.node (some (kb141 P)) .nil .nil) .nil) (.node none .nil .nil)) (.node (some (kb61 P)) (.node (some (kb93 P)) (.node (some (kb157 P)) .nil .nil) .nil) (.node none .nil .nil)))))) (.node (some (kb2 P)) (.node (some (kb4 P)) (.node (some (kb8 P)) (.node (some (kb16 P)) (.node (some (kb32 P)) (.node (some (kb64 P)) (.node none .nil .nil) .nil) (.node (some (kb96 P)) (.node (some (kb160 P)) .nil .nil) .nil)) (.node (some (kb48 P)) (.node (some (kb80 P)) (.node (some (kb144 P)) .nil .nil) .nil) (.node none .nil .nil))) (.node (some (kb24 P)) (.node (some (kb40 P)) (.node (some (kb72 P)) (.node (some (kb136 P)) .nil .nil) .nil) (.node none (.node (some (kb168 P)) .nil .nil) .nil)) (.node (some (kb56 P)) (.node (some (kb88 P)) (.node (some (kb152 P)) .nil .nil) .nil) (.node none .nil .nil)))) (.node (some (kb12 P)) (.node (some (kb20 P)) (.node (some (kb36 P)) (.node (some (kb68 P)) (.node none .nil .nil) .nil) (.node none (.node (some (kb164 P)) .nil .nil) .nil)) (.node (some (kb52 P)) (.node (some (kb84 P)) (.node (some (kb148 P)) .nil .nil) .nil) (.node none .nil .nil))) (.node (some (kb28 P)) (.node (some (kb44 P)) (.node (some (kb76 P)) (.node (some (kb140 P)) .nil .nil) .nil) (.node none .nil .nil)) (.node (some (kb60 P)) (.node (some (kb92 P)) (.node (some (kb156 P)) .nil .nil) .nil) (.node none .nil .nil))))) (.node (some (kb6 P)) (.node (some (kb10 P)) (.node (some (kb18 P)) (.node (some (kb34 P)) (.node (some (kb66 P)) (.node none .nil .nil) .nil) (.node none (.node (some (kb162 P)) .nil .nil) .nil)) (.node (some (kb50 P)) (.node (some (kb82 P)) (.node (some (kb146 P)) .nil .nil) .nil) (.node none .nil .nil))) (.node (some (kb26 P)) (.node (some (kb42 P)) (.node (some (kb74 P)) (.node (some (kb138 P)) .nil .nil) .nil) (.node none (.node (some (kb170 P)) .nil .nil) .nil)) (.node (some (kb58 P)) (.node (some (kb90 P)) (.node (some (kb154 P)) .nil .nil) .nil) (.node none .nil .nil)))) (.node (some (kb14 P)) (.node (some (kb22 P)) (.node (some (kb38 P)) (.node (some (kb70 P)) (.node none .nil .nil) .nil) (.node none (.node (some (kb166 P)) .nil .nil) .nil)) (.node (some (kb54 P)) (.node (some (kb86 P)) (.node (some (kb150 P)) .nil .nil) .nil) (.node none .nil .nil))) (.node (some (kb30 P)) (.node (some (kb46 P)) (.node (some (kb78 P)) (.node (some (kb142 P)) .nil .nil) .nil) (.node none .nil .nil)) (.node (some (kb62 P)) (.node (some (kb94 P)) (.node (some (kb158 P)) .nil .nil) .nil) (.node none .nil .nil)))))))
end Mine
end
-- part Base
section
namespace Mine
noncomputable abbrev Bn (n u : Nat) : Around := ⟨none, n, none, none, u⟩
noncomputable def inB (A : Around) (n u : Nat) : Bool := match A.handled with
  | none => Nat.ble A.depth n && Nat.ble A.units u
  | some _ => false
theorem inB_of {A : Around} {n u : Nat} (e : inB A n u = true) : A.handled = none ∧ A.depth ≤ n ∧ A.units ≤ u := by
  unfold inB at e
  split at e
  · rename_i h
    obtain ⟨a, b⟩ := Bool.and_eq_true_iff.mp e
    exact ⟨h, Nat.le_of_ble_eq_true a, Nat.le_of_ble_eq_true b⟩
  · cases e
theorem below_B {A : Around} {n u : Nat} (e : inB A n u = true) {Γ : PySem.Ctx} (h : Γ.Below A) : Γ.Below (Bn n u) := by
  obtain ⟨a, b, c⟩ := inB_of e
  exact ⟨h.1.trans a, Nat.le_trans h.2.1 b, fun _ x => (nomatch x), fun _ x => (nomatch x), Nat.le_trans h.2.2.2.2 c⟩
theorem in_B {A : Around} {n u : Nat} (e : inB A n u = true) {Γ : PySem.Ctx} (h : Γ.In A) : Γ.In (Bn n u) := by
  obtain ⟨a, b, c⟩ := inB_of e
  exact ⟨h.1.trans a, Nat.le_trans h.2.1 b, fun _ x => (nomatch x), fun _ x => (nomatch x), Nat.le_trans h.2.2.2.2 c⟩
theorem code_B {M : Model} {A : Around} {n u : Nat} (e : inB A n u = true) {c : Code} {R : Result → Shared → Prop} {s : Shared} (x : codeAny M (Bn n u) c R s) : codeAny M A c R s := fun Γ p hc hΓ => x Γ p hc (below_B e hΓ)
theorem call_B {M : Model} {A : Around} {n u : Nat} (e : inB A n u = true) {c : Code} {g : Bool} {l : List Value} {R : Result → Shared → Prop} {s : Shared} (x : codeAny M (Bn n u) c R s) : wpAny M A (.call c none g l .pure : Sem Result) R (fun _ _ => False) s := fun Γ p hΓ => by
  have hb : (Γ.enter c none p).Below (Bn n u) := (in_B e hΓ).enter c none p (by intro h; cases h)
  exact wpCode_mono (fun _ _ q => q) (x _ p rfl hb)
/-- the state that the top's objects stand in -/
structure St0 (w : World) (h : Heap) (N : Nat) : Prop where
  size : h.objs.size = N + 171
  top : ∀ a o, (ktop w.params).get a = some o → h.get? a = some o
noncomputable def Keep (keys : List Nat) (h h' : Heap) : Prop := ∀ b o, h.get? b = some o → b ∉ keys → h'.get? b = some o
noncomputable def st (h : Heap) (gl : List GenState) (d : Drawn) (T : Nat) (os : OsState) : Shared := ⟨h, ⟨gl⟩, d, T + 2349, os⟩
/-- a code that gives a value and changes nothing that was there -/
noncomputable def PureOk (w : World) (n u : Nat) (c : Code) (val : Nat → Value) : Prop :=
  ∀ d os h N T gl, St0 w h N → codeAny (model pw w) (Bn n u) c (fun r s' => ∃ h' N' T' t, s' = st h' gl d T' os ∧ St0 w h' N' ∧ N ≤ N' ∧ Keep [] h h' ∧ r = .ok (.ret (val t))) (st h gl d T os)
structure Ev.Std (V : Ev) : Prop where
  n₁ : V.n₁ = 171
  kt : V.kt = ktop V.w.params
theorem St0.of {V : Ev} (S : V.Std) {h : Heap} {L : Led} {sz tb : Nat} (D : Rp V h L sz tb) : ∃ N T, sz = N + 171 ∧ tb = T + 2349 ∧ St0 V.w h N := by
  have hl := S.n₁ ▸ D.low
  exact ⟨sz - 171, tb - 2349, (Nat.sub_add_cancel hl).symm, (Nat.sub_add_cancel D.tlow).symm, ⟨by rw [D.size]; exact (Nat.sub_add_cancel hl).symm, S.kt ▸ D.top⟩⟩
theorem Rp.kept {V : Ev} (S : V.Std) {h h' : Heap} {L : Led} {sz tb N' T' : Nat} (D : Rp V h L sz tb) (F : St0 V.w h' N') (k : Keep [] h h') (le : sz ≤ N' + 171) : Rp V h' L (N' + 171) (T' + 2349) :=
  ⟨Nat.le_add_left .., F.size, Nat.le_trans D.low le, Nat.le_trans D.mono le, fun p hp => k _ _ (D.own p hp) (by simp), D.nodup, D.sep, D.mine, S.kt ▸ F.top, fun b o e q => k _ _ (D.old b o e q) (by simp)⟩
/-- what is asked behind a pure call -/
noncomputable def afterPure (val : Nat → Value) (cont : Result → Cont) : Cont := fun L _ _ _ gl gh => .allN fun t => .allN fun n => .allN fun m => cont (.ok (.ret (val t))) L (n + 171) (m + 2349) 0 gl gh
theorem pure_behind {V : Ev} (S : V.Std) {n u : Nat} {c : Code} {val : Nat → Value} (P : PureOk V.w n u c val) {cont : Result → Cont} {L : Led} {sz tb i : Nat} {gl : List GenState} {gh : List Value} {h : Heap}
    (H : good (afterPure val cont L sz tb i gl gh)) (D : Rp V h L sz tb) : codeAny (md V) (Bn n u) c (Behind V cont) (sh V h tb i gl) := by
  obtain ⟨N, T, rfl, rfl, F⟩ := St0.of S D
  have z := P V.d V.os h N (T + i) gl F
  have e : st h gl V.d (T + i) V.os = sh V h (T + 2349) i gl := by unfold st sh; rw [Nat.add_right_comm]
  rw [e] at z
  refine codeAny_mono z fun r s' x => ?_
  obtain ⟨h', N', T', t, rfl, F', le, k, rfl⟩ := x
  exact ⟨L, N' + 171, T' + 2349, 0, gl, gh, h', rfl, D.kept S F' k (Nat.add_le_add_right le _), H t N' T'⟩
/-- a run's end that gives a value -/
noncomputable def finV (val : Value → Value) (gl₀ : List GenState) : Result → Cont := fun r _ _ _ _ gl _ => match r with
  | .ok f => match f with
    | .ret v => .eqV v (val v) (.eqG gl gl₀ .ok)
    | _ => .bad 61 0
  | .error _ => .bad 62 0
/-- a run that knows no calls -/
noncomputable def V1 (w : World) (h : Heap) (d : Drawn) (os : OsState) (n u : Nat) (keys : List Nat) (R₀ : Result → Shared → Prop) (fin : Result → Cont) (hook : Nat → Code → Around → (Result → Cont) → Cont) : Ev :=
  { w := w, h₀ := h, keys := keys, n₁ := 171, kt := ktop w.params, A₀ := Bn n u, R₀ := R₀, P₀ := fun _ _ => False, d := d, os := os, den := Dz, go := goF, fin := fin, susp := fun _ => nay 99, hook := hook,
    tail := fun _ _ => nay 97, gtail := fun _ _ _ => nay 96, gstop := fun _ _ _ => nay 95, cut := fun _ _ _ _ _ => nay 94 }
noncomputable def noHook : Nat → Code → Around → (Result → Cont) → Cont := fun _ _ _ _ => nay 98
noncomputable def purePost (w : World) (h : Heap) (d : Drawn) (os : OsState) (N : Nat) (gl : List GenState) (val : Nat → Value) : Result → Shared → Prop :=
  fun r s' => ∃ h' N' T' t, s' = st h' gl d T' os ∧ St0 w h' N' ∧ N ≤ N' ∧ Keep [] h h' ∧ r = .ok (.ret (val t))
end Mine
end
-- part Run
section
namespace Mine
noncomputable def fits : KT → Nat → Nat → Nat → Bool
  | .nil, _, _, _ => true
  | .node v l r, s, b, n => (v.isNone || Nat.blt b n) && (fits l (2 * s) (s + b) n && fits r (2 * s) (2 * s + b) n)
theorem fits_get : ∀ {t : KT} {s b n : Nat}, fits t s b n = true → ∀ {j : Nat} {o : Obj}, t.get j = some o → s * j + b < n
  | .nil, _, _, _, _, _, _, e => by cases e
  | .node v l r, s, b, n, H, j, o, e => by
    obtain ⟨H0, H12⟩ := Bool.and_eq_true_iff.mp (show ((v.isNone || Nat.blt b n) && (fits l (2 * s) (s + b) n && fits r (2 * s) (2 * s + b) n)) = true from H)
    obtain ⟨H1, H2⟩ := Bool.and_eq_true_iff.mp H12
    rw [KT.get_node] at e
    by_cases h0 : j = 0
    · subst h0
      rw [if_pos rfl] at e
      subst e
      have : Nat.blt b n = true := H0
      have := Nat.le_of_ble_eq_true this
      omega
    · rw [if_neg h0] at e
      by_cases p : j % 2 = 1
      · rw [if_pos p] at e
        have z := fits_get H1 e
        have : 2 * s * (j / 2) + (s + b) = s * j + b := by
          have hj : j = 2 * (j / 2) + 1 := by omega
          generalize j / 2 = q at hj
          subst hj
          rw [Nat.mul_add, Nat.mul_one, ← Nat.mul_assoc, Nat.mul_comm s 2]; omega
        omega
      · rw [if_neg p] at e
        have z := fits_get H2 e
        have : 2 * s * (j / 2 - 1) + (2 * s + b) = s * j + b := by
          have hj : j = 2 * (j / 2 - 1) + 2 := by omega
          generalize j / 2 - 1 = q at hj
          subst hj
          rw [Nat.mul_add, ← Nat.mul_assoc, Nat.mul_comm s 2]; omega
        omega
theorem ktop_fits (P : Params) : fits (ktop P) 1 0 171 = true := by kernel_rfl
theorem ktop_low (P : Params) (a : Addr) (h : 171 ≤ a) : (ktop P).get a = none := by
  cases e : (ktop P).get a with
  | none => rfl
  | some o =>
    have z := fits_get (ktop_fits P) e
    rw [Nat.one_mul, Nat.add_zero] at z
    exact absurd z (Nat.not_lt.mpr h)
theorem code_entry {M : Model} (hM : M.den = denote table) {A : Around} {f : Addr} {args : Args} {R : Result → Shared → Prop} {s : Shared} (hd : (A.under (.call (.ref f) args)).depth < recursionLimit)
    (x : wpOwn M A (.call (.ref f) args) (entry f args) (fun fin s' => match fin with | .done f => R (.ok f) s' | .again c' => c'.quiet = true ∧ codeAny M A c' R s') (fun e s' => R (.error e) s') s) : codeAny M A (.call (.ref f) args) R s :=
  codeAny_of_own (by rw [hM]; exact entry_sound hd x)
/-- a function's call by its run -/
theorem code_sim {V : Ev} (O : V.Ok) {f : Addr} {args : Args} {L : Led} {sz tb i : Nat} {gl : List GenState} {gh : List Value} {h : Heap} (hd : (V.A₀.under (.call (.ref f) args)).depth < recursionLimit) (n : Nat) (hs : List Nat)
    (e : lft (sim V n (.call (.ref f) args) none .base (entry f args) L sz tb i gl gh) hs = rgt (sim V n (.call (.ref f) args) none .base (entry f args) L sz tb i gl gh) hs) (D : Rp V h L sz tb) :
    codeAny (md V) V.A₀ (.call (.ref f) args) V.R₀ (sh V h tb i gl) :=
  code_entry rfl hd (wpOwn_mono (sim_sound O n _ none .base _ _ _ _ _ _ _ h (good_of _ _ e) D) (fun fin s' h => by cases fin <;> exact h) (fun _ _ h => h))
/-- another code by its run -/
theorem code_run {V : Ev} (O : V.Ok) {c : Code} {L : Led} {sz tb i : Nat} {gl : List GenState} {gh : List Value} {h : Heap} (n : Nat) (hs : List Nat)
    (e : lft (sim V n c none .base (V.den c) L sz tb i gl gh) hs = rgt (sim V n c none .base (V.den c) L sz tb i gl gh) hs) (D : Rp V h L sz tb) :
    codeAny (md V) V.A₀ c V.R₀ (sh V h tb i gl) := by
  have z := sim_sound O n _ none .base _ _ _ _ _ _ _ h (good_of _ _ e) D
  rw [O.den] at z
  exact y_code _ _ _ _ _ _ z
noncomputable abbrev HookT := Nat → Code → Around → (Result → Cont) → Cont
noncomputable def HookOk (V : Ev) (hk : HookT) : Prop := ∀ j c A g l cont L sz tb i gl gh h, good (hk j c A cont L sz tb i gl gh) → Rp V h L sz tb → wpAny (md V) A (.call c none g l .pure : Sem Result) (Behind V cont) (fun _ _ => False) (sh V h tb i gl)
theorem noHook_ok (V : Ev) : HookOk V noHook := fun _ _ _ _ _ _ _ _ _ _ _ _ _ H _ => by cases H
theorem V1_ok {w : World} {h : Heap} {d : Drawn} {os : OsState} {n u : Nat} {keys : List Nat} {R₀ : Result → Shared → Prop} {fin : Result → Cont} {hook : HookT}
    (hf : ∀ r L sz tb i gl gh h', good (fin r L sz tb i gl gh) → Rp (V1 w h d os n u keys R₀ fin hook) h' L sz tb → R₀ r ⟨h', ⟨gl⟩, d, tb + i, os⟩)
    (hh : HookOk (V1 w h d os n u keys R₀ fin hook) hook) : (V1 w h d os n u keys R₀ fin hook).Ok where
  den := Dz_eq
  go := fun _ _ _ _ _ x => goF_sound x
  ktlow := fun a h => ktop_low _ a h
  fin := hf
  gret := fun _ _ _ _ _ _ _ _ H _ => by cases H
  susp := fun _ _ _ _ _ _ _ _ _ _ _ _ H _ _ _ _ => by cases H
  hook := hh
  tail := fun _ _ _ _ _ _ _ _ _ H _ => by cases H
  gtail := fun _ _ _ _ _ _ _ _ _ _ H _ => by cases H
  gstop := fun _ _ _ _ _ _ _ _ _ _ H _ => by cases H
  cut := fun _ _ _ _ _ _ _ _ _ _ _ _ H _ => by cases H
theorem V1_std {w : World} {h : Heap} {d : Drawn} {os : OsState} {n u : Nat} {keys : List Nat} {R₀ : Result → Shared → Prop} {fin : Result → Cont} {hook : HookT} : (V1 w h d os n u keys R₀ fin hook).Std := ⟨rfl, rfl⟩
theorem Rp.start {w : World} {h : Heap} {d : Drawn} {os : OsState} {n u N T : Nat} {R₀ : Result → Shared → Prop} {fin : Result → Cont} {hook : HookT} (F : St0 w h N) : Rp (V1 w h d os n u [] R₀ fin hook) h [] (N + 171) (T + 2349) :=
  ⟨Nat.le_add_left .., F.size, Nat.le_add_left .., F.size ▸ Nat.le_refl _, fun _ h => (nomatch h), List.nodup_nil, fun _ h => (nomatch h), fun _ h => (nomatch h), F.top, fun _ _ e _ => e⟩
theorem fin_pure {w : World} {h : Heap} {d : Drawn} {os : OsState} {n u : Nat} {N : Nat} {gl₀ : List GenState} {val : Nat → Value} {vv : Value → Value} (hv : ∀ v, ∃ t, vv v = val t) {hook : HookT} (F : St0 w h N) {r L sz tb i gl gh h'}
    (H : good (finV vv gl₀ r L sz tb i gl gh)) (D : Rp (V1 w h d os n u [] (purePost w h d os N gl₀ val) (finV vv gl₀) hook) h' L sz tb) : purePost w h d os N gl₀ val r ⟨h', ⟨gl⟩, d, tb + i, os⟩ := by
  unfold finV at H
  split at H
  · split at H
    · rename_i v
      obtain ⟨e1, H⟩ := (show v = vv v ∧ good (.eqG gl gl₀ .ok) from H)
      obtain ⟨e2, -⟩ := (show gl = gl₀ ∧ True from H)
      subst e2
      obtain ⟨N', T', rfl, rfl, F'⟩ := St0.of V1_std D
      obtain ⟨t, ht⟩ := hv v
      refine ⟨h', N', T' + i, t, by unfold st; rw [Nat.add_right_comm], F', ?_, fun b o e q => D.old b o e q, by rw [e1, ht]⟩
      have := D.mono
      have e3 : h.objs.size = N + 171 := F.size
      have : h.objs.size ≤ N' + 171 := this
      omega
    · cases H
  · cases H
theorem pure_of {w : World} {n u : Nat} {f : Addr} {args : Args} {val : Nat → Value} (vv : Value → Value) (hv : ∀ v, ∃ t, vv v = val t) (hd : (Bn n u |>.under (.call (.ref f) args)).depth < recursionLimit) (hook : HookT)
    (hh : ∀ V : Ev, V.Std → V.w = w → HookOk V hook) (k : Nat) (hs : List Nat)
    (e : ∀ d os h N T gl, lft (sim (V1 w h d os n u [] (purePost w h d os N gl val) (finV vv gl) hook) k (.call (.ref f) args) none .base (entry f args) [] (N + 171) (T + 2349) 0 gl []) hs =
      rgt (sim (V1 w h d os n u [] (purePost w h d os N gl val) (finV vv gl) hook) k (.call (.ref f) args) none .base (entry f args) [] (N + 171) (T + 2349) 0 gl []) hs) : PureOk w n u (.call (.ref f) args) val :=
  fun d os h N T gl F => code_sim (V := V1 w h d os n u [] (purePost w h d os N gl val) (finV vv gl) hook) (tb := T + 2349) (i := 0)
    (V1_ok (fun _ _ _ _ _ _ _ _ H D => fin_pure hv F H D) (hh _ V1_std rfl)) hd k hs (e d os h N T gl) (Rp.start F)
end Mine
end
-- part F1
section
namespace Mine
noncomputable abbrev W1 (w : World) (b : Bool) : World := w.withFollow "special-get-raises" b
noncomputable def unseenL : List Nat := [173, 847, 6150, 6155, 6156, 6157, 8203, 8204, 8205, 8288, 65279, 65024, 65025, 65026, 65027, 65028, 65029, 65030, 65031, 65032, 65033, 65034, 65035, 65036, 65037, 65038, 65039]
noncomputable def seenL : List Nat := [120, 34, 92, 97, 98, 99, 65, 66, 67, 119808, 119809, 119810, 119860, 119861, 119862, 120224, 120225, 120226, 120432, 120433, 120434]
noncomputable abbrev ag1 (c t : Nat) : Args := ⟨[.str ⟨#[c]⟩ t], []⟩
noncomputable def ob1 (w : World) (v : Bool) (t : Nat) (d : Drawn) (os : OsState) (h : Heap) (N T : Nat) (gl : List GenState) (c : Nat) : Ob :=
  sim (V1 w h d os 400 60 [] (purePost w h d os N gl fun _ => .bool v) (finV (fun _ => .bool v) gl) noHook) 400 (.call (.ref 95) (ag1 c t)) none .base (entry 95 (ag1 c t)) [] (N + 171) (T + 2349) 0 gl []
noncomputable def hs1 : List Nat := [0, 0, 1, 1, 0, 0, 0, 0, 1, 0, 0, 0, 0, 0, 0, 0, 0, 0, 0, 0, 0, 0, 0, 0]
noncomputable def hs2 : List Nat := [0, 0, 1, 1, 0, 0, 0, 0, 1, 0, 0, 0, 0, 0, 0, 0, 0, 0, 0, 0]
theorem f1_in (w : World) (b : Bool) {c : Nat} (hc : c ∈ unseenL) (t : Nat) : PureOk (W1 w b) 400 60 (.call (.ref 95) (ag1 c t)) (fun _ => .bool true) := by
  refine pure_of (fun _ => .bool true) (fun _ => ⟨0, rfl⟩) (Nat.le_of_ble_eq_true rfl) noHook (fun V _ _ => noHook_ok V) 400 hs1 ?_
  simp only [unseenL, List.mem_cons, List.not_mem_nil, or_false] at hc
  rcases hc with rfl | rfl | rfl | rfl | rfl | rfl | rfl | rfl | rfl | rfl | rfl | rfl | rfl | rfl | rfl | rfl | rfl | rfl | rfl | rfl | rfl | rfl | rfl | rfl | rfl | rfl | rfl <;> (intros; cases b <;> kernel_rfl)
theorem f1_out (w : World) (b : Bool) {c : Nat} (hc : c ∈ seenL) (t : Nat) : PureOk (W1 w b) 400 60 (.call (.ref 95) (ag1 c t)) (fun _ => .bool false) := by
  refine pure_of (fun _ => .bool false) (fun _ => ⟨0, rfl⟩) (Nat.le_of_ble_eq_true rfl) noHook (fun V _ _ => noHook_ok V) 400 hs2 ?_
  simp only [seenL, List.mem_cons, List.not_mem_nil, or_false] at hc
  rcases hc with rfl | rfl | rfl | rfl | rfl | rfl | rfl | rfl | rfl | rfl | rfl | rfl | rfl | rfl | rfl | rfl | rfl | rfl | rfl | rfl | rfl <;> (intros; cases b <;> kernel_rfl)
end Mine
end
-- part Hooks
section
namespace Mine
theorem call_plain {M : Model} {A : Around} {f : Value} {pos : List Value} {kw : List (Str × Value)} {g : Bool} {l : List Value} {Q : Value → Shared → Prop} {s : Shared}
    (x : wpAny M A (call f pos kw) Q (fun _ _ => False) s) : wpAny M A (.call (.call f ⟨pos, kw⟩) none g l .pure : Sem Result) (fun r s' => ∃ v, r = .ok (.ret v) ∧ Q v s') (fun _ _ => False) s := fun Γ p hΓ => by
  have z := x Γ p hΓ
  unfold call at z
  rw [Sem.wp_runValue] at z
  rw [Sem.wp_call]
  refine wpCode_mono (fun r s' q => ?_) z
  match r, q with
  | .ok (.ret v), q => exact ⟨v, rfl, q⟩
theorem hook_call {V : Ev} {A : Around} {f : Value} {pos : List Value} {g : Bool} {l : List Value} {cont : Result → Cont} {s : Shared}
    (x : wpAny (md V) A (call f pos) (fun v s' => Behind V cont (.ok (.ret v)) s') (fun _ _ => False) s) : wpAny (md V) A (.call (.call f ⟨pos, []⟩) none g l .pure : Sem Result) (Behind V cont) (fun _ _ => False) s :=
  wpAny_mono (call_plain x) (fun r s' h => by obtain ⟨v, rfl, h⟩ := h; exact h) fun _ _ h => h
theorem sh_next (V : Ev) (h : Heap) (tb i : Nat) (gl : List GenState) : ({ sh V h tb i gl with toks := (sh V h tb i gl).toks + 1 } : Shared) = sh V h tb (i + 1) gl := rfl
/-- a pure code known for many arguments -/
noncomputable def hookPure (n u : Nat) (val : Code → Option (Nat → Value)) : HookT := fun _ c A cont => match inB A n u with
  | true => match val c with
    | some v => afterPure v cont
    | none => nay 81
  | false => nay 80
theorem hookPure_ok {V : Ev} (S : V.Std) {n u : Nat} {val : Code → Option (Nat → Value)} (P : ∀ c v, val c = some v → PureOk V.w n u c v) : HookOk V (hookPure n u val) := by
  intro j c A g l cont L sz tb i gl gh h H D
  cases hA : inB A n u with
  | false => simp only [hookPure, hA] at H; cases H
  | true =>
    cases hv : val c with
    | none => simp only [hookPure, hA, hv] at H; cases H
    | some v =>
      simp only [hookPure, hA, hv] at H
      exact call_B hA (pure_behind S (P c v hv) H D)
noncomputable def hook2 (a b : HookT) : HookT := fun j => match j with
  | 0 => a 0
  | j + 1 => b j
theorem hook2_ok {V : Ev} {a b : HookT} (ha : HookOk V a) (hb : HookOk V b) : HookOk V (hook2 a b) := by
  intro j c A g l cont L sz tb i gl gh h H D
  cases j with
  | zero => exact ha 0 c A g l cont L sz tb i gl gh h H D
  | succ j => exact hb j c A g l cont L sz tb i gl gh h H D
/-- the table of exceptions -/
noncomputable def b3es (P : Params) : Array DictEntry := match (ktop P).get 96 with
  | some o => match o.data with
    | .dict es _ => es
    | _ => #[]
  | none => #[]
noncomputable def b3n (P : Params) : Nat := match (ktop P).get 96 with
  | some o => match o.data with
    | .dict _ n => n
    | _ => 0
  | none => 0
theorem b3_obj (P : Params) : (ktop P).get 96 = some ⟨.type "dict", none, .dict (b3es P) (b3n P), #[]⟩ := by kernel_rfl
noncomputable def intKeys (l : List DictEntry) : Bool := l.all fun e => match e.key with
  | .int k _ => Z.eqB e.hash (hashInt k)
  | _ => false
theorem b3_keys (P : Params) : intKeys (b3es P).toList = true := by kernel_rfl
theorem keys_of {prog : Program} {w : World} {es : Array DictEntry} (h : intKeys es.toList = true) : KeysOf (intKind prog w) es := by
  intro e he
  have := List.all_eq_true.mp h e (Array.mem_toList_iff.mpr he)
  split at this
  · rename_i k t hk
    exact ⟨k, by rw [hk]; exact intKind_is _ _ _ _, (Z.eqB_iff _ _).mp this⟩
  · cases this
/-- the value under an int key, by one walk -/
noncomputable def lookI (k : Int) (l : List DictEntry) : Option Value :=
  @List.rec DictEntry (fun _ => Option Value) none (fun e _ ih => match e.key with
    | .int j _ => match Z.eqB j k with
      | true => some e.val
      | false => ih
    | _ => ih) l
theorem lookI_cons (k : Int) (e : DictEntry) (r : List DictEntry) : lookI k (e :: r) = match e.key with
    | .int j _ => (match Z.eqB j k with
      | true => some e.val
      | false => lookI k r)
    | _ => lookI k r := rfl
theorem lookI_find (k : Int) (es : Array DictEntry) : findBy Value.isInt es k = lookI k es.toList := by
  unfold findBy
  rw [← Array.find?_toList]
  generalize es.toList = l
  induction l with
  | nil => rfl
  | cons e r ih =>
    rw [lookI_cons, List.find?_cons]
    cases hk : e.key with
    | int j t =>
      by_cases q : j = k
      · subst q
        have h1 : Value.isInt j (.int j t) = true := by simp [Value.isInt]
        have h2 : Z.eqB j j = true := (Z.eqB_iff _ _).mpr rfl
        simp only [h1, h2, Option.map_some]
      · have h1 : Value.isInt k (.int j t) = false := by simp [Value.isInt, q]
        have h2 : Z.eqB j k = false := Z.bool_no (Z.eqB_iff _ _) q
        simp only [h1, h2]
        exact ih
    | _ => simp only [Value.isInt]; exact ih
noncomputable def b3find (P : Params) (k : Int) : Option Value := lookI k (b3es P).toList
theorem b3_map {V : Ev} (S : V.Std) {h : Heap} {L : Led} {sz tb : Nat} (D : Rp V h L sz tb) : h.MapOf (intKind pw V.w) 96 (b3find V.w.params) :=
  ⟨_, b3es V.w.params, b3n V.w.params, D.top 96 _ (S.kt ▸ b3_obj V.w.params), ⟨rfl, rfl, rfl⟩, rfl, keys_of (b3_keys _), fun k => lookI_find k _⟩
noncomputable def argInt (c : Code) : Option (Int × Nat) := match c with
  | .call _ ⟨_ :: .int k t :: _, _⟩ => some (k, t)
  | _ => none
noncomputable def hookB3 (P : Params) : HookT := fun _ c _ cont => match argInt c with
  | some (k, t) => fun L sz tb i gl gh => .eqC c (.call (.builtin "dict.get") ⟨[.ref 96, .int k t], []⟩) (cont (.ok (.ret ((b3find P k).getD .none))) L sz tb (i + 1) gl gh)
  | none => nay 82
theorem hookB3_ok {V : Ev} (S : V.Std) : HookOk V (hookB3 V.w.params) := by
  intro j c A g l cont L sz tb i gl gh h H D
  cases ha : argInt c with
  | none => simp only [hookB3, ha] at H; cases H
  | some kt =>
    obtain ⟨k, t⟩ := kt
    simp only [hookB3, ha] at H
    obtain ⟨rfl, H2⟩ := (show c = _ ∧ good _ from H)
    have hm := b3_map S D
    refine hook_call ?_
    refine call_meetsIn PySem.F.slot_dict_get hm.typeIs PySem.F.entry_dict_get (PySem.F.args_dict_get_2 _ _) (meets_dict_get (intKind pw V.w) 96 (intKind_is _ _ _ _) (by decide)) ⟨_, hm, ?_⟩
    exact ⟨L, sz, tb, i + 1, gl, gh, h, rfl, D, H2⟩
end Mine
end
-- part F2
section
namespace Mine
/-- a sign folded -/
noncomputable def foldC (c : Nat) : Nat := match [(120, 120), (34, 34), (92, 92), (97, 97), (98, 98), (99, 99), (65, 97), (66, 98), (67, 99), (119808, 97), (119809, 98), (119810, 99), (119860, 97), (119861, 98), (119862, 99), (120224, 97), (120225, 98), (120226, 99), (120432, 97), (120433, 98), (120434, 99)].lookup c with
  | some m => m
  | none => 0
noncomputable def strOf (m : List Nat) (v : Value) : Value := match v with
  | .str _ t => .str ⟨⟨m⟩⟩ t
  | _ => .str ⟨⟨m⟩⟩ 0
theorem strOf_is (m : List Nat) (v : Value) : ∃ t, strOf m v = .str ⟨⟨m⟩⟩ t := by cases v <;> exact ⟨_, rfl⟩
noncomputable def hs3 : List Nat := [0, 0, 1, 1, 0, 0, 0, 0, 0, 0, 0, 0, 0, 1, 0, 0, 1, 1, 1, 1, 1]
noncomputable def hs4 : List Nat := [0, 0, 1, 1, 0, 0, 0, 0, 0, 0, 0, 0, 0, 1, 0, 0, 1, 1, 1, 1, 1, 0, 0]
theorem f2a (w : World) {c : Nat} (hc : c ∈ [120, 34, 92, 97, 98, 99, 65, 66, 67]) (t : Nat) : PureOk w 400 60 (.call (.ref 141) (ag1 c t)) (fun t' => .str ⟨⟨[foldC c]⟩⟩ t') := by
  refine pure_of (strOf [foldC c]) (strOf_is _) (Nat.le_of_ble_eq_true rfl) (hookB3 w.params) (fun V S e => e ▸ hookB3_ok S) 400 hs4 ?_
  simp only [List.mem_cons, List.not_mem_nil, or_false] at hc
  rcases hc with rfl | rfl | rfl | rfl | rfl | rfl | rfl | rfl | rfl <;> (intros; kernel_rfl)
theorem f2b (w : World) {c : Nat} (hc : c ∈ [119808, 119809, 119810, 119860, 119861, 119862, 120224, 120225, 120226, 120432, 120433, 120434]) (t : Nat) : PureOk w 400 60 (.call (.ref 141) (ag1 c t)) (fun t' => .str ⟨⟨[foldC c]⟩⟩ t') := by
  refine pure_of (strOf [foldC c]) (strOf_is _) (Nat.le_of_ble_eq_true rfl) (hookB3 w.params) (fun V S e => e ▸ hookB3_ok S) 400 hs3 ?_
  simp only [List.mem_cons, List.not_mem_nil, or_false] at hc
  rcases hc with rfl | rfl | rfl | rfl | rfl | rfl | rfl | rfl | rfl | rfl | rfl | rfl <;> (intros; kernel_rfl)
theorem f2 (w : World) {c : Nat} (hc : c ∈ seenL) (t : Nat) : PureOk w 400 60 (.call (.ref 141) (ag1 c t)) (fun t' => .str ⟨⟨[foldC c]⟩⟩ t') := by
  have h : c ∈ [120, 34, 92, 97, 98, 99, 65, 66, 67] ∨ c ∈ [119808, 119809, 119810, 119860, 119861, 119862, 120224, 120225, 120226, 120432, 120433, 120434] := List.mem_append.mp hc
  exact h.elim (f2a w · t) (f2b w · t)
end Mine
end
-- part Hooks2
section
namespace Mine
noncomputable abbrev WB (w : World) (b1 b2 b3 : Bool) : World := W1 ((w.withFollow "comprehension-iter-twice" b2).withFollow "for-iterable-display-folded" b3) b1
noncomputable def listObj (items : Array Value) (n : Nat) : Obj := ⟨.type "list", none, .seq items n, #[]⟩
noncomputable def itemsOf (o : Obj) : Array Value := match o.data with
  | .seq xs _ => xs
  | _ => #[]
noncomputable def seqN (o : Obj) : Nat := match o.data with
  | .seq _ n => n
  | _ => 0
noncomputable def strIt (ty : String) (x : Str) (t i : Nat) : Obj := ⟨.type ty, none, .fields #[.str x t, .int i 0], #[]⟩
noncomputable def itTok (o : Obj) : Nat := match o.data with
  | .fields ⟨.str _ t :: _⟩ => t
  | _ => 0
/-- an object of the ledger, found by a hint -/
noncomputable def inLed (a : Nat) (L : Led) (k : Nat → Nat × Obj → Ob) : Ob := .askA a L fun j => match ledAt L (Nat.pred j) with
  | some p => .eqN a p.1 (k (Nat.pred j) p)
  | none => .bad 84 a
theorem inLed_of {a : Nat} {L : Led} {k : Nat → Nat × Obj → Ob} (H : good (inLed a L k)) : ∃ j p, ledAt L j = some p ∧ a = p.1 ∧ good (k j p) := by
  obtain ⟨j, H⟩ := (show ∃ j, good (match ledAt L (Nat.pred j) with
  | some p => Ob.eqN a p.1 (k (Nat.pred j) p)
  | none => Ob.bad 84 a) from H)
  split at H
  · rename_i p e
    obtain ⟨ea, H2⟩ := (show a = p.1 ∧ good (k (Nat.pred j) p) from H)
    exact ⟨_, p, e, ea, H2⟩
  · cases H
theorem Rp.up {V : Ev} {h : Heap} {L : Led} {sz tb : Nat} (D : Rp V h L sz tb) {j : Nat} {p : Nat × Obj} (e : ledAt L j = some p) (f : Obj → Obj) (hf : (f p.2).isFreed = false) : Rp V (h.update p.1 f) (ledSet L j (f p.2)) sz tb := D.update e hf
theorem mapSeq_free (xs : Array Value) (n : Nat) (f : Array Value → Array Value) : (Obj.mapSeq f (listObj xs n)).isFreed = false := rfl
noncomputable def argRV (c : Code) : Nat × Value := match c with
  | .call _ ⟨.ref a :: x :: _, _⟩ => (a, x)
  | .call _ ⟨.ref a :: _, _⟩ => (a, .none)
  | _ => (0, .none)
noncomputable def argTok (c : Code) : Nat := match c with
  | .call _ ⟨.str _ t :: _, _⟩ => t
  | .call _ ⟨.int _ t :: _, _⟩ => t
  | _ => 0
theorem eqC_of {a b : Code} {k : Ob} (H : good (.eqC a b k)) : a = b ∧ good k := H
theorem eqO_of {a b : Obj} {k : Ob} (H : good (.eqO a b k)) : a = b ∧ good k := H
theorem eqV_of {a b : Value} {k : Ob} (H : good (.eqV a b k)) : a = b ∧ good k := H
theorem eqN_of {a b : Nat} {k : Ob} (H : good (.eqN a b k)) : a = b ∧ good k := H
/-- list.append on a list whose items are told -/
noncomputable def hookAppend (xs : Array Value) : HookT := fun _ c _ cont L sz tb i gl gh => inLed (argRV c).1 L fun j p => .eqC c (.call (.builtin "list.append") ⟨[.ref (argRV c).1, (argRV c).2], []⟩) (.eqO p.2 (listObj xs (seqN p.2))
      (cont (.ok (.ret .none)) (ledSet L j (Obj.mapSeq (fun xs => xs.push (argRV c).2) p.2)) sz tb i gl ((argRV c).2 :: gh)))
theorem hookAppend_ok {V : Ev} {xs : Array Value} (hx : xs.size ≤ sizeLine) : HookOk V (hookAppend xs) := by
  intro j c A g l cont L sz tb i gl gh h H D
  obtain ⟨j, p, e, ea, H⟩ := inLed_of H
  obtain ⟨ec, H⟩ := eqC_of H
  obtain ⟨ho, H⟩ := eqO_of H
  rw [ea] at ec
  rw [ec]
  have hp := D.own p (ledAt_mem e)
  have hp' : h.get? p.1 = some (listObj xs (seqN p.2)) := hp.trans (congrArg some ho)
  refine hook_call (call_meets PySem.F.slot_list_append ⟨_, hp', rfl⟩ PySem.F.entry_list_append (PySem.F.args_list_append_2 _ _) (PySem.AutoListH.list_append_list_val_0 p.1 xs (seqN p.2) _ hx) ⟨hp', ?_⟩)
  refine ⟨_, sz, tb, i, gl, _, _, rfl, D.up e (Obj.mapSeq fun xs => xs.push (argRV c).2) ?_, H⟩
  rw [ho]; rfl
/-- str.__iter__ of a str that is no ascii -/
noncomputable def hookIter (x : Str) : HookT := fun _ c _ cont L sz tb i gl gh => .eqC c (.call (.builtin "str.__iter__") ⟨[.str x (argTok c)], []⟩) (cont (.ok (.ret (.ref sz))) ((sz, strIt "str_iterator" x (argTok c) 0) :: L) (sz + 1) tb i gl gh)
theorem Rp.new {V : Ev} {h : Heap} {L : Led} {sz tb : Nat} (O : ∀ a, V.n₁ ≤ a → V.kt.get a = none) (D : Rp V h L sz tb) {o : Obj} (hf : o.isFreed = false) : Rp V (h.push o) ((sz, o) :: L) (sz + 1) tb := by
  refine ⟨D.tlow, by rw [Heap.size_push, D.size], Nat.le_succ_of_le D.low, Nat.le_succ_of_le D.mono, fun p hp => ?_, ?_, fun p hp => ?_, fun p hp => ?_, fun a o' e => Heap.get?_push_of_some _ (D.top a o' e), fun b o' e q => Heap.get?_push_of_some _ (D.old b o' e q)⟩
  · rcases List.mem_cons.mp hp with rfl | hp
    · rw [← D.size]; exact Heap.get?_push_size _ hf
    · exact Heap.get?_push_of_some _ (D.own p hp)
  · refine List.nodup_cons.mpr ⟨fun hm => ?_, D.nodup⟩
    obtain ⟨p, hp, e⟩ := List.mem_map.mp hm
    exact Nat.ne_of_lt (D.lt hp) e
  · rcases List.mem_cons.mp hp with rfl | hp
    · exact O _ D.low
    · exact D.sep p hp
  · rcases List.mem_cons.mp hp with rfl | hp
    · exact .inl D.mono
    · exact D.mine p hp
theorem Std.low {V : Ev} (S : V.Std) (a : Nat) (h : V.n₁ ≤ a) : V.kt.get a = none := by
  rw [S.kt]; exact ktop_low _ a (S.n₁ ▸ h)
theorem hookIter_ok {V : Ev} (S : V.Std) {x : Str} (hx : x.cps.all (· < 128) = false) : HookOk V (hookIter x) := by
  intro j c A g l cont L sz tb i gl gh h H D
  obtain ⟨ec, H⟩ := eqC_of H
  rw [ec]
  refine hook_call (wpAny_call_entry PySem.F.slot_str_iter (typeIs_str _ x _) PySem.F.entry_str_iter ?_ (PySem.F.args_str_iter_1 _))
  show wpAny _ _ (do ret (← newFields (if (true && x.cps.all (· < 128)) = true then "str_ascii_iterator" else "str_iterator") [.str x (argTok c), rawInt 0])) _ _ _
  rw [hx]
  refine wpAny_bind (wpAny_newObj_type (wpAny_pure ⟨_, rfl, (sz, strIt "str_iterator" x (argTok c) 0) :: L, sz + 1, tb, i, gl, gh, h.push (strIt "str_iterator" x (argTok c) 0), rfl, D.new (Std.low S) rfl, ?_⟩))
  have e : (sh V h tb i gl).heap.objs.size = sz := D.size
  rw [e]; exact H
/-- the next sign -/
noncomputable def hookNext (x : Str) (k ch : Nat) : HookT := fun _ c _ cont L sz tb i gl gh => inLed (argRV c).1 L fun j p => .eqC c (.call (.builtin "str_iterator.__next__") ⟨[.ref (argRV c).1], []⟩) (.eqO p.2 (strIt "str_iterator" x (itTok p.2) k)
      (cont (.ok (.ret (.str ⟨#[ch]⟩ (tb + i)))) (ledSet L j (strIt "str_iterator" x (itTok p.2) (k + 1))) sz tb (i + 1) gl gh))
theorem strIt_next (ty : String) (x : Str) (t k : Nat) : Obj.mapFields (·.setIfInBounds 1 (rawInt ((k : Int) + 1))) (strIt ty x t k) = strIt ty x t (k + 1) := by
  simp [Obj.mapFields, strIt, rawInt]
theorem hookNext_ok {V : Ev} {x : Str} {k ch : Nat} (hx : x.cps[k]? = some ch) : HookOk V (hookNext x k ch) := by
  intro j c A g l cont L sz tb i gl gh h H D
  obtain ⟨j, p, e, ea, H⟩ := inLed_of H
  obtain ⟨ec, H⟩ := eqC_of H
  obtain ⟨ho, H⟩ := eqO_of H
  rw [ea] at ec
  rw [ec]
  have hp := D.own p (ledAt_mem e)
  have hp' : (sh V h tb i gl).heap.get? p.1 = some (strIt "str_iterator" x (itTok p.2) k) := hp.trans (congrArg some ho)
  refine hook_call (wpAny_call_entry PySem.F.slot_str_iterator_next ⟨_, hp', rfl⟩ PySem.F.entry_str_iterator_next ?_ (PySem.F.args_str_iterator_next_1 _))
  show wpAny _ _ (field (.ref p.1) 0 >>= _) _ _ _
  refine wpAny_bind (wpAny_field hp' rfl (x := .str x (itTok p.2)) rfl ?_)
  show wpAny _ _ (field (.ref p.1) 1 >>= _) _ _ _
  refine wpAny_bind (wpAny_field hp' rfl (x := .int k 0) rfl ?_)
  simp only [Int.toNat_natCast, hx]
  refine wpAny_bind (wpAny_setField hp' rfl (by simp) (wpAny_bind (wpAny_mkStr (wpAny_pure ⟨_, rfl, ?_⟩))))
  refine ⟨_, sz, tb, i + 1, gl, gh, _, rfl, D.up e (Obj.mapFields (·.setIfInBounds 1 (rawInt ((k : Int) + 1)))) ?_, ?_⟩
  · rw [ho, strIt_next]; rfl
  · have e2 : Obj.mapFields (·.setIfInBounds 1 (rawInt ((k : Int) + 1))) p.2 = strIt "str_iterator" x (itTok p.2) (k + 1) := (congrArg _ ho).trans (strIt_next _ _ _ _)
    rw [e2]; exact H
theorem call_any {M : Model} {A : Around} {f : Value} {pos : List Value} {kw : List (Str × Value)} {g : Bool} {l : List Value} {R : Result → Shared → Prop} {s : Shared}
    (x : wpAny M A (call f pos kw) (fun v s' => R (.ok (.ret v)) s') (fun e s' => R (.error e) s') s) : wpAny M A (.call (.call f ⟨pos, kw⟩) none g l .pure : Sem Result) R (fun _ _ => False) s := fun Γ p hΓ => by
  have z := x Γ p hΓ
  unfold call at z
  rw [Sem.wp_runValue] at z
  rw [Sem.wp_call]
  refine wpCode_mono (fun r s' q => ?_) z
  match r, q with
  | .ok (.ret v), q => exact q
  | .error e, q => exact q
noncomputable def strEnd (ty : String) (k : Nat) : Obj := ⟨.type ty, none, .fields #[.none, .int k 0], #[]⟩
noncomputable def noTuple : Obj := ⟨.type "tuple", none, .seq #[] 0, #[]⟩
noncomputable def stopObj (t : Nat) : Obj := ⟨.type "StopIteration", none, .fields (#[.ref t, .none, .none, .none, .bool false, .none] ++ ownMembersOf (.type "StopIteration") []), #[]⟩
/-- no sign is left -/
noncomputable def hookEnd (x : Str) (k : Nat) : HookT := fun _ c A cont L sz tb i gl gh => match A.handled with
  | none => inLed (argRV c).1 L fun j p => .eqC c (.call (.builtin "str_iterator.__next__") ⟨[.ref (argRV c).1], []⟩) (.eqO p.2 (strIt "str_iterator" x (itTok p.2) k)
      (cont (.error (.ref (sz + 1))) ((sz + 1, stopObj sz) :: (sz, noTuple) :: ledSet L j (strEnd "str_iterator" k)) (sz + 2) tb i gl gh))
  | some _ => .bad 88 0
theorem strIt_end (ty : String) (x : Str) (t k : Nat) : Obj.mapFields (·.setIfInBounds 0 .none) (strIt ty x t k) = strEnd ty k := by
  simp [Obj.mapFields, strIt, strEnd]
theorem hookEnd_ok {V : Ev} (S : V.Std) {x : Str} {k : Nat} (hx : x.cps[k]? = none) : HookOk V (hookEnd x k) := by
  intro j c A g l cont L sz tb i gl gh h H D
  unfold hookEnd at H
  split at H
  · rename_i hA
    obtain ⟨j, p, e, ea, H⟩ := inLed_of H
    obtain ⟨ec, H⟩ := eqC_of H
    obtain ⟨ho, H⟩ := eqO_of H
    rw [ea] at ec
    rw [ec]
    have hp := D.own p (ledAt_mem e)
    have hp' : (sh V h tb i gl).heap.get? p.1 = some (strIt "str_iterator" x (itTok p.2) k) := hp.trans (congrArg some ho)
    refine call_any (wpAny_call_entry PySem.F.slot_str_iterator_next ⟨_, hp', rfl⟩ PySem.F.entry_str_iterator_next ?_ (PySem.F.args_str_iterator_next_1 _))
    show wpAny _ _ (field (.ref p.1) 0 >>= _) _ _ _
    refine wpAny_bind (wpAny_field hp' rfl (x := .str x (itTok p.2)) rfl ?_)
    show wpAny _ _ (field (.ref p.1) 1 >>= _) _ _ _
    refine wpAny_bind (wpAny_field hp' rfl (x := .int k 0) rfl ?_)
    simp only [Int.toNat_natCast, hx]
    refine wpAny_bind (wpAny_rule (wpAny_bind (wpAny_setField hp' rfl (by simp) (wpAny_bind (wpAny_letGo ?_)))))
    show wpAny _ _ (newExc (.type "StopIteration") [] >>= _) _ _ _
    refine wpAny_bind ?_
    simp only [newExc, newTuple]
    refine wpAny_bind (wpAny_newObj_type ?_ (by size_fits))
    refine wpAny_bind (m := firstArgMember _ _) (wpAny_of_eq (a := Value.none) (by first | rfl | (simp only [firstArgMember]; rfl)) ?_)
    refine wpAny_newObj_type ?_ (by size_fits)
    simp only [raiseNew]
    refine wpAny_bind (wpAny_handled ?_)
    rw [show A.in1.handled = none from hA]
    refine wpAny_bind (wpAny_pure (wpAny_throw ?_))
    have D1 := D.up e (Obj.mapFields (·.setIfInBounds 0 .none)) (by rw [ho, strIt_end]; rfl)
    have e2 : Obj.mapFields (·.setIfInBounds 0 .none) p.2 = strEnd "str_iterator" k := (congrArg _ ho).trans (strIt_end _ _ _ _)
    rw [e2] at D1
    have D2 := D1.new (Std.low S) (o := noTuple) rfl
    have D3 := D2.new (Std.low S) (o := stopObj sz) rfl
    have es : (h.update p.1 (Obj.mapFields (·.setIfInBounds 0 .none))).objs.size = sz := D1.size
    have es2 : ((h.update p.1 (Obj.mapFields (·.setIfInBounds 0 .none))).push { cls := .type "tuple", data := .seq #[] }).objs.size = sz + 1 := D2.size
    refine ⟨(sz + 1, stopObj sz) :: (sz, noTuple) :: ledSet L j (strEnd "str_iterator" k), sz + 2, tb, i, gl, gh, _, rfl, ?_, ?_⟩
    · show Rp V ((((h.update p.1 (Obj.mapFields (·.setIfInBounds 0 .none))).push { cls := .type "tuple", data := .seq #[] })).push (stopObj (h.update p.1 (Obj.mapFields (·.setIfInBounds 0 .none))).objs.size)) _ _ _
      rw [es]; exact D3
    · show good (cont (.error (.ref ((h.update p.1 (Obj.mapFields (·.setIfInBounds 0 .none))).push { cls := .type "tuple", data := .seq #[] }).objs.size)) _ _ _ _ _ _)
      rw [es2]; exact H
  · cases H
end Mine
end
-- part Tri
section
namespace Mine
/-- objects that stand, each by itself -/
structure InL (w : World) (h : Heap) (L : Led) : Prop where
  own : ∀ p ∈ L, h.get? p.1 = some p.2
  nodup : (L.map (·.1)).Nodup
  sep : ∀ p ∈ L, (ktop w.params).get p.1 = none
/-- what a code does to some objects -/
structure After (w : World) (gl : List GenState) (d : Drawn) (os : OsState) (h : Heap) (N : Nat) (Lin : Led) (P : Result → Led → Prop) (r : Result) (s' : Shared) : Prop where
  ex : ∃ h' N' T' Lout, s' = st h' gl d T' os ∧ St0 w h' N' ∧ N ≤ N' ∧ Keep (Lin.map (·.1)) h h' ∧ InL w h' Lout ∧ (∀ p ∈ Lout, p.1 ∈ Lin.map (·.1) ∨ N + 171 ≤ p.1) ∧ P r Lout
noncomputable def Tri (w : World) (n u : Nat) (c : Code) (Lin : Led) (P : Result → Led → Prop) : Prop :=
  ∀ d os h N T gl, St0 w h N → InL w h Lin → codeAny (model pw w) (Bn n u) c (After w gl d os h N Lin P) (st h gl d T os)
theorem Tri.mono {w : World} {n u : Nat} {c : Code} {Lin : Led} {P P' : Result → Led → Prop} (t : Tri w n u c Lin P) (hp : ∀ r L, P r L → P' r L) : Tri w n u c Lin P' :=
  fun d os h N T gl F I => codeAny_mono (t d os h N T gl F I) fun _ _ ⟨h', N', T', Lo, a, b, c, d, e, f, g⟩ => ⟨h', N', T', Lo, a, b, c, d, e, f, hp _ _ g⟩
theorem tri_rp {V : Ev} (S : V.Std) {n u : Nat} {c : Code} {Lin rest L : Led} {P : Result → Led → Prop} (t : Tri V.w n u c Lin P) {sz tb i : Nat} {gl : List GenState} {h : Heap}
    (h1 : ∀ p ∈ Lin, p ∈ L) (h2 : ∀ p ∈ rest, p ∈ L) (h3 : (Lin.map (·.1) ++ rest.map (·.1)).Nodup)
    (D : Rp V h L sz tb) : codeAny (md V) (Bn n u) c (fun r s' => ∃ Lo N' T' h', P r Lo ∧ s' = sh V h' (T' + 2349) 0 gl ∧ Rp V h' (Lo ++ rest) (N' + 171) (T' + 2349)) (sh V h tb i gl) := by
  obtain ⟨N, T, rfl, rfl, F⟩ := St0.of S D
  obtain ⟨n1, n2, n3⟩ := List.nodup_append.mp h3
  have I : InL V.w h Lin := ⟨fun p hp => D.own p (h1 p hp), n1, fun p hp => S.kt ▸ D.sep p (h1 p hp)⟩
  have z := t V.d V.os h N (T + i) gl F I
  have e : st h gl V.d (T + i) V.os = sh V h (T + 2349) i gl := by unfold st sh; rw [Nat.add_right_comm]
  rw [e] at z
  refine codeAny_mono z fun r s' x => ?_
  obtain ⟨h', N', T', Lo, rfl, F', le, k, I', hm, hP⟩ := x
  have off : ∀ p ∈ rest, p.1 ∉ Lin.map (·.1) := fun p hp q => n3 _ q _ (List.mem_map.mpr ⟨p, hp, rfl⟩) rfl
  have le' : N + 171 ≤ N' + 171 := Nat.add_le_add_right le _
  have key : ∀ p ∈ Lo, (∃ q ∈ Lin, q.1 = p.1) ∨ N + 171 ≤ p.1 := fun p hp => (hm p hp).imp (fun q => by obtain ⟨a, b, c⟩ := List.mem_map.mp q; exact ⟨a, b, c⟩) id
  refine ⟨Lo, N', T', h', hP, rfl, ⟨Nat.le_add_left .., F'.size, Nat.le_trans D.low le', Nat.le_trans D.mono le', fun p hp => ?_, ?_, fun p hp => ?_, fun p hp => ?_, S.kt ▸ F'.top, fun b o eb q => ?_⟩⟩
  · rcases List.mem_append.mp hp with hp | hp
    · exact I'.own p hp
    · exact k _ _ (D.own p (h2 p hp)) (off p hp)
  · rw [List.map_append]
    refine List.nodup_append.mpr ⟨I'.nodup, n2, fun a ha b hb hab => ?_⟩
    obtain ⟨p, hp, rfl⟩ := List.mem_map.mp ha
    obtain ⟨q, hq, rfl⟩ := List.mem_map.mp hb
    rcases key p hp with ⟨y, hy, hyp⟩ | hge
    · exact off q hq (hab ▸ hyp ▸ List.mem_map.mpr ⟨y, hy, rfl⟩)
    · exact absurd (D.lt (h2 q hq)) (Nat.not_lt.mpr (hab ▸ hge))
  · rcases List.mem_append.mp hp with hp | hp
    · exact S.kt ▸ I'.sep p hp
    · exact D.sep p (h2 p hp)
  · rcases List.mem_append.mp hp with hp | hp
    · rcases key p hp with ⟨y, hy, hyp⟩ | hge
      · exact hyp ▸ D.mine y (h1 y hy)
      · exact .inl (Nat.le_trans D.mono hge)
    · exact D.mine p (h2 p hp)
  · refine k b o (D.old b o eb q) fun hb => ?_
    obtain ⟨y, hy, hyb⟩ := List.mem_map.mp hb
    rcases D.mine y (h1 y hy) with m | m
    · exact absurd (Heap.lt_size eb) (Nat.not_lt.mpr (hyb ▸ m))
    · exact q (hyb ▸ m)
theorem tri_behind {V : Ev} (S : V.Std) {n u : Nat} {c : Code} {Lin rest L : Led} {P : Result → Led → Prop} (t : Tri V.w n u c Lin P) {cont : Result → Cont} {sz tb i : Nat} {gl : List GenState} {h : Heap}
    (h1 : ∀ p ∈ Lin, p ∈ L) (h2 : ∀ p ∈ rest, p ∈ L) (h3 : (Lin.map (·.1) ++ rest.map (·.1)).Nodup)
    (H : ∀ r Lout N' T', P r Lout → ∃ gh, good (cont r (Lout ++ rest) (N' + 171) (T' + 2349) 0 gl gh)) (D : Rp V h L sz tb) : codeAny (md V) (Bn n u) c (Behind V cont) (sh V h tb i gl) :=
  codeAny_mono (tri_rp S t h1 h2 h3 D) fun r s' ⟨Lo, N', T', h', hP, e, D'⟩ => by
    obtain ⟨gh, Hg⟩ := H r Lo N' T' hP
    exact ⟨Lo ++ rest, N' + 171, T' + 2349, 0, gl, gh, h', e, D', Hg⟩
/-- the end of a run: the objects wanted are looked for -/
noncomputable def outs (L : Led) (want : Led) (k : Ob) : Ob := match want with
  | [] => k
  | q :: r => inLed q.1 L fun _ p => .eqO p.2 q.2 (outs L r k)
theorem outs_of {L : Led} {k : Ob} : ∀ {want : Led}, good (outs L want k) → (∀ q ∈ want, q ∈ L) ∧ good k
  | [], H => ⟨fun _ h => (nomatch h), H⟩
  | q :: r, H => by
    obtain ⟨j, p, e, ea, H⟩ := inLed_of (show good (inLed q.1 L fun _ p => .eqO p.2 q.2 (outs L r k)) from H)
    obtain ⟨eo, H⟩ := eqO_of H
    obtain ⟨a, b⟩ := outs_of H
    refine ⟨fun x hx => ?_, b⟩
    rcases List.mem_cons.mp hx with rfl | hx
    · have : x = p := Prod.ext ea eo.symm
      exact this ▸ ledAt_mem e
    · exact a x hx
theorem Rp.startL {V : Ev} (S : V.Std) {N T : Nat} {L : Led} (F : St0 V.w V.h₀ N) (I : InL V.w V.h₀ L) (hk : V.keys = L.map (·.1)) : Rp V V.h₀ L (N + 171) (T + 2349) :=
  ⟨Nat.le_add_left .., F.size, S.n₁ ▸ Nat.le_add_left .., F.size ▸ Nat.le_refl _, I.own, I.nodup, fun p hp => S.kt ▸ I.sep p hp, fun p hp => .inr (hk ▸ List.mem_map.mpr ⟨p, hp, rfl⟩), S.kt ▸ F.top, fun _ _ e _ => e⟩
theorem after_of {V : Ev} (S : V.Std) {N : Nat} {Lin : Led} {P : Result → Led → Prop} (F : St0 V.w V.h₀ N) (hk : V.keys = Lin.map (·.1)) {r : Result} {L Lout : Led} {sz tb i : Nat} {gl : List GenState} {h : Heap} (D : Rp V h L sz tb)
    (hL : ∀ q ∈ Lout, q ∈ L) (hn : (Lout.map (·.1)).Nodup) (hP : P r Lout) : After V.w gl V.d V.os V.h₀ N Lin P r (sh V h tb i gl) := by
  obtain ⟨N', T', rfl, rfl, F'⟩ := St0.of S D
  refine ⟨h, N', T' + i, Lout, by unfold st sh; rw [Nat.add_right_comm], F', ?_, fun b o e q => D.old b o e (hk ▸ q), ⟨fun p hp => D.own p (hL p hp), hn, fun p hp => S.kt ▸ D.sep p (hL p hp)⟩, fun p hp => ?_, hP⟩
  · have := D.mono
    have e3 : V.h₀.objs.size = N + 171 := F.size
    have : V.h₀.objs.size ≤ N' + 171 := this
    omega
  · rcases D.mine p (hL p hp) with m | m
    · exact .inr (F.size ▸ m)
    · exact .inl (hk ▸ m)
end Mine
end
-- part Loop3
section
namespace Mine
theorem after_trans {V : Ev} (S : V.Std) {N : Nat} {Lin Lin1 : Led} {P P1 : Result → Led → Prop} (F : St0 V.w V.h₀ N) (hk : V.keys = Lin.map (·.1)) {L : Led} {sz tb : Nat} {gl : List GenState} {h : Heap} (D : Rp V h L sz tb)
    (hL : ∀ q ∈ Lin1, q ∈ L) (hkeys : Lin1.map (·.1) = Lin.map (·.1)) (hP : ∀ r Lo, P1 r Lo → P r Lo) {n u : Nat} {c : Code} (t : Tri V.w n u c Lin1 P1) (i : Nat) (hn : (Lin.map (·.1)).Nodup) :
    codeAny (md V) (Bn n u) c (After V.w gl V.d V.os V.h₀ N Lin P) (sh V h tb i gl) := by
  obtain ⟨N1, T, rfl, rfl, F1⟩ := St0.of S D
  have I : InL V.w h Lin1 := ⟨fun p hp => D.own p (hL p hp), hkeys ▸ hn, fun p hp => S.kt ▸ D.sep p (hL p hp)⟩
  have z := t V.d V.os h N1 (T + i) gl F1 I
  have e : st h gl V.d (T + i) V.os = sh V h (T + 2349) i gl := by unfold st sh; rw [Nat.add_right_comm]
  rw [e] at z
  have le : N ≤ N1 := by
    have := D.mono
    have e3 : V.h₀.objs.size = N + 171 := F.size
    have : V.h₀.objs.size ≤ N1 + 171 := this
    omega
  refine codeAny_mono z fun r s' x => ?_
  obtain ⟨h', N', T', Lo, rfl, F', le', k, I', hm, hp⟩ := x
  refine ⟨h', N', T', Lo, rfl, F', Nat.le_trans le le', fun b o eb q => k b o (D.old b o eb (hk ▸ q)) (hkeys ▸ q), I', fun p hp => ?_, hP _ _ hp⟩
  rcases hm p hp with m | m
  · exact .inl (hkeys ▸ m)
  · exact .inr (by omega)
noncomputable abbrev TailT := Nat → Code → Cont
noncomputable def V2 (w : World) (h : Heap) (d : Drawn) (os : OsState) (n u : Nat) (keys : List Nat) (R₀ : Result → Shared → Prop) (fin : Result → Cont) (hook : HookT) (tail : TailT) : Ev :=
  { V1 w h d os n u keys R₀ fin hook with tail := tail }
theorem V2_std {w h d os n u keys R₀ fin hook tail} : (V2 w h d os n u keys R₀ fin hook tail).Std := ⟨rfl, rfl⟩
theorem V2_ok {w : World} {h : Heap} {d : Drawn} {os : OsState} {n u : Nat} {keys : List Nat} {R₀ : Result → Shared → Prop} {fin : Result → Cont} {hook : HookT} {tail : TailT}
    (hf : ∀ r L sz tb i gl gh h', good (fin r L sz tb i gl gh) → Rp (V2 w h d os n u keys R₀ fin hook tail) h' L sz tb → R₀ r ⟨h', ⟨gl⟩, d, tb + i, os⟩)
    (hh : HookOk (V2 w h d os n u keys R₀ fin hook tail) hook)
    (ht : ∀ j c L sz tb i gl gh h', good (tail j c L sz tb i gl gh) → Rp (V2 w h d os n u keys R₀ fin hook tail) h' L sz tb → codeAny (model pw w) (Bn n u) c R₀ ⟨h', ⟨gl⟩, d, tb + i, os⟩) : (V2 w h d os n u keys R₀ fin hook tail).Ok where
  den := Dz_eq
  go := fun _ _ _ _ _ x => goF_sound x
  ktlow := fun a h => ktop_low _ a h
  fin := hf
  gret := fun _ _ _ _ _ _ _ _ H _ => by cases H
  susp := fun _ _ _ _ _ _ _ _ _ _ _ _ H _ _ _ _ => by cases H
  hook := hh
  tail := ht
  gtail := fun _ _ _ _ _ _ _ _ _ _ H _ => by cases H
  gstop := fun _ _ _ _ _ _ _ _ _ _ H _ => by cases H
  cut := fun _ _ _ _ _ _ _ _ _ _ _ _ H _ => by cases H
noncomputable def noTail : TailT := fun _ _ => nay 97
theorem eqG_of {a b : List GenState} {k : Ob} (H : good (.eqG a b k)) : a = b ∧ good k := H
theorem led_mem {L : Led} {j a : Nat} {p : Nat × Obj} {o : Obj} (e : ledAt L j = some p) (h1 : a = p.1) (h2 : p.2 = o) : (a, o) ∈ L := by
  obtain ⟨b, q⟩ := p
  subst h1 h2
  exact ledAt_mem e
noncomputable def sSign : Str := ⟨⟨[115, 105, 103, 110]⟩⟩
noncomputable def dictObj1 (cls : Value) (name : Str) (n : Nat) (hv : Int) (kt : Nat) (v : Value) : Obj := ⟨cls, none, .dict ⟨[⟨hv, .str name kt, v⟩]⟩ n, #[]⟩
noncomputable def entries (o : Obj) : List DictEntry := match o.data with
  | .dict es _ => es.toList
  | _ => []
noncomputable def entryAt (l : List DictEntry) (k : Nat) : Int × Nat × Value := match l, k with
  | [], _ => (0, 0, .none)
  | e :: _, 0 => (e.hash, (match e.key with | .str _ t => t | _ => 0), e.val)
  | _ :: r, k + 1 => entryAt r k
/-- a pure call of a known kind -/
noncomputable def hookP (n u : Nat) (c₀ : Nat → Code) (v : Nat → Value) : HookT := fun _ c A cont L sz tb i gl gh => match inB A n u with
  | true => .eqC c (c₀ (argTok c)) (afterPure v cont L sz tb i gl gh)
  | false => .bad 80 0
theorem hookP_ok {V : Ev} (S : V.Std) {n u : Nat} {c₀ : Nat → Code} {v : Nat → Value} (P : ∀ t, PureOk V.w n u (c₀ t) v) : HookOk V (hookP n u c₀ v) := by
  intro j c A g l cont L sz tb i gl gh h H D
  unfold hookP at H
  split at H
  · rename_i hA
    obtain ⟨ec, H⟩ := eqC_of H
    rw [ec]
    exact call_B hA (pure_behind S (P (argTok c)) H D)
  · cases H
end Mine
end
-- part F3a
section
namespace Mine
/-- a function of the top -/
noncomputable def fdAt (P : Params) (a : Nat) : FuncData := match (ktop P).get a with
  | some o => match o.data with
    | .func fd => fd
    | _ => default
  | none => default
noncomputable def bodyOf (fd : FuncData) : List Stmt := match fd.body with
  | .stmts l => l
  | _ => []
noncomputable def noExpr : Expr := .Name ⟨#[]⟩ ⟨0, 0, 0, 0⟩
noncomputable def comp3 (l : List Stmt) : Expr := match l with
  | [.Return (some (.Call _ [e] _ _)) _] => e
  | _ => noExpr
noncomputable def scopeE (e : Expr) : Scope := match e with
  | .ListComp _ _ s _ => s
  | _ => default
noncomputable def env3 (P : Params) (e : Expr) (loc fr : Nat) : Env := { scope := scopeE e, locals := loc, globals := 3, cells := [], qual := Str.ofString "_law_prepared.<locals>.", func := none, code := .ref 152, frame := some fr, builtins := 0 }
noncomputable def cL3 (P : Params) (it acc loc fr : Nat) : Code := .compLoop (comp3 (bodyOf (fdAt P 153))) 0 (.ref it) (.ref acc) (env3 P (comp3 (bodyOf (fdAt P 153))) loc fr)
noncomputable abbrev loc3 (n : Nat) (e : Int × Nat × Value) : Obj := dictObj1 (.type "dict") sSign n e.1 e.2.1 e.2.2
noncomputable abbrev L3 (x : Str) (it acc loc : Nat) (m : Nat) (e : Int × Nat × Value) (xs : Array Value) (n : Nat) (t k : Nat) : Led := [(loc + 171, loc3 m e), (acc + 171, listObj xs n), (it + 171, strIt "str_iterator" x t k)]
noncomputable def hk3U (x : Str) (k c : Nat) : HookT := hook2 (hookNext x k c) (hookP 400 60 (fun t => .call (.ref 95) (ag1 c t)) (fun _ => .bool true))
noncomputable def hk3S (x : Str) (k c : Nat) (xs : Array Value) : HookT :=
  hook2 (hookNext x k c) (hook2 (hookP 400 60 (fun t => .call (.ref 95) (ag1 c t)) (fun _ => .bool false))
    (hook2 (hookP 400 60 (fun t => .call (.ref 141) (ag1 c t)) (fun t => .str ⟨⟨[foldC c]⟩⟩ t)) (hookAppend xs)))
noncomputable def tokG (gh : List Value) : Nat := match gh with
  | .str _ t :: _ => t
  | _ => 0
noncomputable def tl3 (P : Params) (x : Str) (it acc loc fr m k : Nat) (nx : List Value → Array Value) (gl₀ : List GenState) : TailT := fun _ c' L _ _ _ gl gh => .eqC c' (cL3 P (it + 171) (acc + 171) (loc + 171) (fr + 171)) (.eqG gl gl₀
  (inLed (loc + 171) L fun _ p => .eqO p.2 (loc3 m (entryAt (entries p.2) 0)) (inLed (acc + 171) L fun _ q => .eqO q.2 (listObj (nx gh) (seqN q.2))
    (inLed (it + 171) L fun _ r => .eqO r.2 (strIt "str_iterator" x (itTok r.2) (k + 1)) .ok))))
noncomputable def nxU (xs : Array Value) (_ : List Value) : Array Value := xs
noncomputable def nxS (c : Nat) (xs : Array Value) (gh : List Value) : Array Value := xs.push (.str ⟨⟨[foldC c]⟩⟩ (tokG gh))
end Mine
end
-- part F3b
section
namespace Mine
/-- the signs that are kept, folded -/
noncomputable def prep : List Nat → List Nat
  | [] => []
  | c :: r => if unseenL.contains c then prep r else foldC c :: prep r
/-- texts of one sign, their tokens told by a list -/
noncomputable def valL : List Nat → List Nat → List Value
  | [], _ => []
  | m :: r, ts => .str ⟨⟨[m]⟩⟩ (ts.headD 0) :: valL r ts.tail
noncomputable def vals (ms ts : List Nat) : Array Value := (valL ms ts).toArray
theorem vals_nil (xs : Array Value) (ts : List Nat) : xs ++ vals [] ts = xs := by simp [vals, valL]
theorem vals_cons (xs : Array Value) (m t : Nat) (ms ts : List Nat) : xs.push (.str ⟨⟨[m]⟩⟩ t) ++ vals ms ts = xs ++ vals (m :: ms) (t :: ts) := by
  apply Array.ext'
  rw [Array.toList_append, Array.toList_append, Array.toList_push]
  show xs.toList ++ [_] ++ valL ms ts = xs.toList ++ (_ :: valL ms ts)
  rw [List.append_assoc]; rfl
noncomputable def P3 (acc loc m : Nat) (xs : Array Value) (ms : List Nat) (r : Result) (Lo : Led) : Prop :=
  r = .ok .next ∧ ∃ e ts n, Lo = [(loc + 171, loc3 m e), (acc + 171, listObj (xs ++ vals ms ts) n)]
noncomputable def fn3 (acc loc m : Nat) (xs : Array Value) (gl₀ : List GenState) : Result → Cont := fun r L _ _ _ gl _ => match r with
  | .ok f => match f with
    | .next => .eqG gl gl₀ (inLed (loc + 171) L fun _ p => .eqO p.2 (loc3 m (entryAt (entries p.2) 0)) (inLed (acc + 171) L fun _ q => .eqO q.2 (listObj xs (seqN q.2)) .ok))
    | _ => .bad 65 0
  | .error _ => .bad 66 0
noncomputable def noFin : Result → Cont := fun _ => nay 67
noncomputable def hU : List Nat := [3, 1, 3, 1, 1, 0, 1, 0, 2, 1, 1, 2, 3]
noncomputable def hS : List Nat := [3, 1, 3, 1, 1, 0, 1, 0, 2, 0, 1, 0, 3, 4, 2, 1, 1, 2, 3]
noncomputable def hE : List Nat := [3, 1, 3, 1, 3, 4]
noncomputable abbrev ks3 (it acc loc : Nat) : List Nat := [loc + 171, acc + 171, it + 171]
theorem ck3E (w : World) (x : Str) (it acc loc fr m : Nat) (h1 : Int) (h2 : Nat) (h3 : Value) (xs : Array Value) (n t k : Nat) (d : Drawn) (os : OsState) (h : Heap) (N T : Nat) (gl : List GenState) (R : Result → Shared → Prop) :
    lft (sim (V2 w h d os 350 50 (ks3 it acc loc) R (fn3 acc loc m xs gl) (hookEnd x k) noTail) 1000 (cL3 w.params (it + 171) (acc + 171) (loc + 171) (fr + 171)) none .base (Dz (cL3 w.params (it + 171) (acc + 171) (loc + 171) (fr + 171))) (L3 x it acc loc m (h1, h2, h3) xs n t k) (N + 171) (T + 2349) 0 gl []) hE =
    rgt (sim (V2 w h d os 350 50 (ks3 it acc loc) R (fn3 acc loc m xs gl) (hookEnd x k) noTail) 1000 (cL3 w.params (it + 171) (acc + 171) (loc + 171) (fr + 171)) none .base (Dz (cL3 w.params (it + 171) (acc + 171) (loc + 171) (fr + 171))) (L3 x it acc loc m (h1, h2, h3) xs n t k) (N + 171) (T + 2349) 0 gl []) hE := by kernel_rfl
theorem ck3U (w : World) (x : Str) (it acc loc fr m : Nat) (h1 : Int) (h2 : Nat) (h3 : Value) (xs : Array Value) (n t k c : Nat) (d : Drawn) (os : OsState) (h : Heap) (N T : Nat) (gl : List GenState) (R : Result → Shared → Prop) :
    lft (sim (V2 w h d os 350 50 (ks3 it acc loc) R noFin (hk3U x k c) (tl3 w.params x it acc loc fr m k (nxU xs) gl)) 1000 (cL3 w.params (it + 171) (acc + 171) (loc + 171) (fr + 171)) none .base (Dz (cL3 w.params (it + 171) (acc + 171) (loc + 171) (fr + 171))) (L3 x it acc loc m (h1, h2, h3) xs n t k) (N + 171) (T + 2349) 0 gl []) hU =
    rgt (sim (V2 w h d os 350 50 (ks3 it acc loc) R noFin (hk3U x k c) (tl3 w.params x it acc loc fr m k (nxU xs) gl)) 1000 (cL3 w.params (it + 171) (acc + 171) (loc + 171) (fr + 171)) none .base (Dz (cL3 w.params (it + 171) (acc + 171) (loc + 171) (fr + 171))) (L3 x it acc loc m (h1, h2, h3) xs n t k) (N + 171) (T + 2349) 0 gl []) hU := by kernel_rfl
theorem ck3S (w : World) (x : Str) (it acc loc fr m : Nat) (h1 : Int) (h2 : Nat) (h3 : Value) (xs : Array Value) (n t k c : Nat) (d : Drawn) (os : OsState) (h : Heap) (N T : Nat) (gl : List GenState) (R : Result → Shared → Prop) :
    lft (sim (V2 w h d os 350 50 (ks3 it acc loc) R noFin (hk3S x k c xs) (tl3 w.params x it acc loc fr m k (nxS c xs) gl)) 1000 (cL3 w.params (it + 171) (acc + 171) (loc + 171) (fr + 171)) none .base (Dz (cL3 w.params (it + 171) (acc + 171) (loc + 171) (fr + 171))) (L3 x it acc loc m (h1, h2, h3) xs n t k) (N + 171) (T + 2349) 0 gl []) hS =
    rgt (sim (V2 w h d os 350 50 (ks3 it acc loc) R noFin (hk3S x k c xs) (tl3 w.params x it acc loc fr m k (nxS c xs) gl)) 1000 (cL3 w.params (it + 171) (acc + 171) (loc + 171) (fr + 171)) none .base (Dz (cL3 w.params (it + 171) (acc + 171) (loc + 171) (fr + 171))) (L3 x it acc loc m (h1, h2, h3) xs n t k) (N + 171) (T + 2349) 0 gl []) hS := by kernel_rfl
theorem hk3U_ok {V : Ev} (S : V.Std) {w : World} {b : Bool} (hw : V.w = W1 w b) {x : Str} {k c : Nat} (hx : x.cps[k]? = some c) (hc : c ∈ unseenL) : HookOk V (hk3U x k c) :=
  hook2_ok (hookNext_ok hx) (hookP_ok S fun t => hw ▸ f1_in w b hc t)
theorem hk3S_ok {V : Ev} (S : V.Std) {w : World} {b : Bool} (hw : V.w = W1 w b) {x : Str} {k c : Nat} {xs : Array Value} (hx : x.cps[k]? = some c) (hs : xs.size ≤ sizeLine) (hc : c ∈ seenL) : HookOk V (hk3S x k c xs) :=
  hook2_ok (hookNext_ok hx) (hook2_ok (hookP_ok S fun t => hw ▸ f1_out w b hc t) (hook2_ok (hookP_ok S fun t => f2 _ hc t) (hookAppend_ok hs)))
theorem unseen_not {c : Nat} (h : c ∈ seenL) : unseenL.contains c = false := by
  simp only [seenL, List.mem_cons, List.not_mem_nil, or_false] at h
  rcases h with rfl | rfl | rfl | rfl | rfl | rfl | rfl | rfl | rfl | rfl | rfl | rfl | rfl | rfl | rfl | rfl | rfl | rfl | rfl | rfl | rfl <;> decide
theorem rp_fin3 {V : Ev} (S : V.Std) {N : Nat} {Lin : Led} (F : St0 V.w V.h₀ N) (hk : V.keys = Lin.map (·.1)) {acc loc m : Nat} {xs : Array Value} {gl₀ : List GenState} {r L sz tb i gl gh h} (ne : loc ≠ acc) (H : good (fn3 acc loc m xs gl₀ r L sz tb i gl gh)) (D : Rp V h L sz tb) :
    After V.w gl₀ V.d V.os V.h₀ N Lin (P3 acc loc m xs []) r (sh V h tb i gl) := by
  unfold fn3 at H
  split at H
  · split at H
    · obtain ⟨eg, H2⟩ := eqG_of H
      subst eg
      obtain ⟨j1, p, e1, a1, H⟩ := inLed_of H2
      obtain ⟨o1, H⟩ := eqO_of H
      obtain ⟨j2, q, e2, a2, H⟩ := inLed_of H
      obtain ⟨o2, -⟩ := eqO_of H
      refine after_of S F hk D (Lout := [(loc + 171, loc3 m (entryAt (entries p.2) 0)), (acc + 171, listObj xs (seqN q.2))]) (fun y hy => ?_) ?_ ⟨rfl, _, [], _, by rw [vals_nil]⟩
      · rcases List.mem_cons.mp hy with rfl | hy
        · exact led_mem e1 a1 o1
        · rcases List.mem_cons.mp hy with rfl | hy
          · exact led_mem e2 a2 o2
          · cases hy
      · simp only [List.map_cons, List.map_nil, List.nodup_cons, List.mem_singleton, List.not_mem_nil, not_false_iff, List.nodup_nil, and_true]
        omega
    · cases H
  · cases H
theorem tl3_ok {V : Ev} (S : V.Std) (hA : V.A₀ = Bn 350 50) {N : Nat} {Lin : Led} (F : St0 V.w V.h₀ N) (hk : V.keys = Lin.map (·.1)) {x : Str} {it acc loc fr m k : Nat} {nx : List Value → Array Value} {gl₀ : List GenState} {P : Result → Led → Prop}
    (hn : (Lin.map (·.1)).Nodup) (hl : Lin.map (·.1) = ks3 it acc loc) (hR : V.R₀ = After V.w gl₀ V.d V.os V.h₀ N Lin P)
    (IH : ∀ g e n t, Tri V.w 350 50 (cL3 V.w.params (it + 171) (acc + 171) (loc + 171) (fr + 171)) (L3 x it acc loc m e (nx g) n t (k + 1)) P)
    {j c' L sz tb i gl gh h} (H : good (tl3 V.w.params x it acc loc fr m k nx gl₀ j c' L sz tb i gl gh)) (D : Rp V h L sz tb) : codeAny (md V) V.A₀ c' V.R₀ (sh V h tb i gl) := by
  unfold tl3 at H
  obtain ⟨ec, H⟩ := eqC_of H
  obtain ⟨eg, H⟩ := eqG_of H
  obtain ⟨j1, p, e1, a1, H⟩ := inLed_of H
  obtain ⟨o1, H⟩ := eqO_of H
  obtain ⟨j2, q, e2, a2, H⟩ := inLed_of H
  obtain ⟨o2, H⟩ := eqO_of H
  obtain ⟨j3, r, e3, a3, H⟩ := inLed_of H
  obtain ⟨o3, -⟩ := eqO_of H
  subst ec eg
  rw [hA, hR]
  refine after_trans S F hk D (Lin1 := L3 x it acc loc m (entryAt (entries p.2) 0) (nx gh) (seqN q.2) (itTok r.2) (k + 1)) (fun y hy => ?_) hl.symm (fun _ _ h => h) (IH _ _ _ _) i hn
  rcases List.mem_cons.mp hy with rfl | hy
  · exact led_mem e1 a1 o1
  · rcases List.mem_cons.mp hy with rfl | hy
    · exact led_mem e2 a2 o2
    · rcases List.mem_cons.mp hy with rfl | hy
      · exact led_mem e3 a3 o3
      · cases hy
theorem loop3 (w : World) (b : Bool) (x : Str) (it acc loc fr m : Nat) (ne : loc ≠ acc) : ∀ (rest : List Nat) (k : Nat) (_ : ∀ j, x.cps[k + j]? = rest[j]?) (_ : ∀ c ∈ rest, c ∈ unseenL ∨ c ∈ seenL) (xs : Array Value) (_ : xs.size + rest.length ≤ sizeLine) (e : Int × Nat × Value) (n t : Nat),
    Tri (W1 w b) 350 50 (cL3 (W1 w b).params (it + 171) (acc + 171) (loc + 171) (fr + 171)) (L3 x it acc loc m e xs n t k) (P3 acc loc m xs (prep rest))
  | [], k, hk, _, xs, hs, e, n, t => fun d os h N T gl F I => by
    let V := V2 (W1 w b) h d os 350 50 (ks3 it acc loc) (After (W1 w b) gl d os h N (L3 x it acc loc m e xs n t k) (P3 acc loc m xs [])) (fn3 acc loc m xs gl) (hookEnd x k) noTail
    have S : V.Std := V2_std
    have O : V.Ok := V2_ok (fun r L sz tb i gl' gh h' H D => rp_fin3 (V := V) S F rfl ne H D) (hookEnd_ok S ((hk 0).trans rfl)) (fun _ _ _ _ _ _ _ _ _ H _ => by cases H)
    exact code_run (V := V) O (tb := T + 2349) (i := 0) 1000 hE (ck3E (W1 w b) x it acc loc fr m e.1 e.2.1 e.2.2 xs n t k d os h N T gl _) (Rp.startL S F I rfl)
  | c :: rest, k, hk, hc, xs, hs, e, n, t => fun d os h N T gl F I => by
    have hx : x.cps[k]? = some c := (hk 0).trans rfl
    have hk' : ∀ j, x.cps[k + 1 + j]? = rest[j]? := fun j => by
      have := hk (j + 1)
      rw [show k + 1 + j = k + (j + 1) by omega]
      simpa using this
    have hc' : ∀ c ∈ rest, c ∈ unseenL ∨ c ∈ seenL := fun y hy => hc y (.tail _ hy)
    have hlen : xs.size + (rest.length + 1) ≤ sizeLine := hs
    rcases hc c (.head _) with hu | hu
    · have ep : prep (c :: rest) = prep rest := by
        simp only [prep]; rw [if_pos (List.contains_iff_mem.mpr hu)]
      rw [ep]
      let V := V2 (W1 w b) h d os 350 50 (ks3 it acc loc) (After (W1 w b) gl d os h N (L3 x it acc loc m e xs n t k) (P3 acc loc m xs (prep rest))) noFin (hk3U x k c) (tl3 (W1 w b).params x it acc loc fr m k (nxU xs) gl)
      have S : V.Std := V2_std
      have O : V.Ok := V2_ok (fun _ _ _ _ _ _ _ _ H _ => by cases H) (hk3U_ok S rfl hx hu)
        (fun j c' L sz tb i gl' gh h' H D => tl3_ok (V := V) S rfl F rfl I.nodup rfl rfl (fun g e n t => loop3 w b x it acc loc fr m ne rest (k + 1) hk' hc' (nxU xs g) (by show xs.size + _ ≤ _; omega) e n t) H D)
      exact code_run (V := V) O (tb := T + 2349) (i := 0) 1000 hU (ck3U (W1 w b) x it acc loc fr m e.1 e.2.1 e.2.2 xs n t k c d os h N T gl _) (Rp.startL S F I rfl)
    · have ep : prep (c :: rest) = foldC c :: prep rest := by
        simp only [prep]; rw [if_neg (by rw [unseen_not hu]; exact Bool.false_ne_true)]
      rw [ep]
      let V := V2 (W1 w b) h d os 350 50 (ks3 it acc loc) (After (W1 w b) gl d os h N (L3 x it acc loc m e xs n t k) (P3 acc loc m xs (foldC c :: prep rest))) noFin (hk3S x k c xs) (tl3 (W1 w b).params x it acc loc fr m k (nxS c xs) gl)
      have S : V.Std := V2_std
      have O : V.Ok := V2_ok (fun _ _ _ _ _ _ _ _ H _ => by cases H) (hk3S_ok S rfl hx (by omega) hu)
        (fun j c' L sz tb i gl' gh h' H D => tl3_ok (V := V) S rfl F rfl I.nodup rfl rfl (fun g e n t => (loop3 w b x it acc loc fr m ne rest (k + 1) hk' hc' (nxS c xs g) (by unfold nxS; rw [Array.size_push]; omega) e n t).mono fun r Lo hP => by
          obtain ⟨hr, e', ts, n', rfl⟩ := hP
          exact ⟨hr, e', tokG g :: ts, n', by unfold nxS; rw [vals_cons]⟩) H D)
      exact code_run (V := V) O (tb := T + 2349) (i := 0) 1000 hS (ck3S (W1 w b) x it acc loc fr m e.1 e.2.1 e.2.2 xs n t k c d os h N T gl _) (Rp.startL S F I rfl)
end Mine
end
-- part F3c
section
namespace Mine
noncomputable def cS3 (P : Params) (it acc loc fr : Nat) : Code := .compStart (comp3 (bodyOf (fdAt P 153))) 0 (.ref it) (.ref acc) (env3 P (comp3 (bodyOf (fdAt P 153))) loc fr)
noncomputable def emptyDict (cls : Value) : Obj := ⟨cls, none, .dict ⟨[]⟩ 0, #[]⟩
noncomputable abbrev S3 (x : Str) (it acc loc n t : Nat) : Led := [(loc + 171, emptyDict (.type "dict")), (acc + 171, listObj #[] n), (it + 171, strIt "str_iterator" x t 0)]
noncomputable def hT (b : Bool) : List Nat := match b with
  | true => [0, 3, 1, 3, 1, 1, 0, 1, 0, 2, 0, 1, 0, 3, 4, 2, 1, 1, 2, 3]
  | false => [3, 3, 0, 3, 0, 3, 0, 3, 1, 3, 1, 1, 0, 1, 0, 2, 0, 1, 0, 3, 4, 2, 1, 1, 2, 3]
theorem ck3T (w : World) (b1 b2 b3 : Bool) (x : Str) (it acc loc fr n t : Nat) (d : Drawn) (os : OsState) (h : Heap) (N T : Nat) (gl : List GenState) (R : Result → Shared → Prop) :
    lft (sim (V2 (WB w b1 b2 b3) h d os 350 50 (ks3 it acc loc) R noFin (hk3S x 0 120 #[]) (tl3 (WB w b1 b2 b3).params x it acc loc fr 1 0 (nxS 120 #[]) gl)) 1000 (cS3 (WB w b1 b2 b3).params (it + 171) (acc + 171) (loc + 171) (fr + 171)) none .base (Dz (cS3 (WB w b1 b2 b3).params (it + 171) (acc + 171) (loc + 171) (fr + 171))) (S3 x it acc loc n t) (N + 171) (T + 2349) 0 gl []) (hT b2) =
    rgt (sim (V2 (WB w b1 b2 b3) h d os 350 50 (ks3 it acc loc) R noFin (hk3S x 0 120 #[]) (tl3 (WB w b1 b2 b3).params x it acc loc fr 1 0 (nxS 120 #[]) gl)) 1000 (cS3 (WB w b1 b2 b3).params (it + 171) (acc + 171) (loc + 171) (fr + 171)) none .base (Dz (cS3 (WB w b1 b2 b3).params (it + 171) (acc + 171) (loc + 171) (fr + 171))) (S3 x it acc loc n t) (N + 171) (T + 2349) 0 gl []) (hT b2) := by
  cases b1 <;> cases b2 <;> kernel_rfl
theorem start3 (w : World) (b1 b2 b3 : Bool) (x : Str) (it acc loc fr n t : Nat) (ne : loc ≠ acc) (rest : List Nat) (hx : x.cps[0]? = some 120) (hk : ∀ j, x.cps[1 + j]? = rest[j]?) (hc : ∀ c ∈ rest, c ∈ unseenL ∨ c ∈ seenL) (hs : rest.length + 1 ≤ sizeLine) :
    Tri (WB w b1 b2 b3) 350 50 (cS3 (WB w b1 b2 b3).params (it + 171) (acc + 171) (loc + 171) (fr + 171)) (S3 x it acc loc n t) (P3 acc loc 1 #[] (120 :: prep rest)) := fun d os h N T gl F I => by
  let V := V2 (WB w b1 b2 b3) h d os 350 50 (ks3 it acc loc) (After (WB w b1 b2 b3) gl d os h N (S3 x it acc loc n t) (P3 acc loc 1 #[] (120 :: prep rest))) noFin (hk3S x 0 120 #[]) (tl3 (WB w b1 b2 b3).params x it acc loc fr 1 0 (nxS 120 #[]) gl)
  have S : V.Std := V2_std
  have O : V.Ok := V2_ok (fun _ _ _ _ _ _ _ _ H _ => by cases H) (hk3S_ok S rfl hx (Nat.zero_le _) (by decide))
    (fun j c' L sz tb i gl' gh h' H D => tl3_ok (V := V) S rfl F rfl I.nodup rfl rfl (fun g e n t => (loop3 _ b1 x it acc loc fr 1 ne rest (0 + 1) hk hc (nxS 120 #[] g) (by unfold nxS; rw [Array.size_push]; show 0 + 1 + _ ≤ _; omega) e n t).mono fun r Lo hP => by
      obtain ⟨hr, e', ts, n', rfl⟩ := hP
      exact ⟨hr, e', tokG g :: ts, n', by unfold nxS; rw [vals_cons]; rfl⟩) H D)
  exact code_run (V := V) O (tb := T + 2349) (i := 0) 1000 (hT b2) (ck3T w b1 b2 b3 x it acc loc fr n t d os h N T gl _) (Rp.startL S F I rfl)
noncomputable def nAt (v : Value) : Nat := match v with
  | .ref a => a
  | _ => 0
noncomputable def cAcc (c : Code) : Nat := match c with
  | .compStart _ _ _ acc _ => nAt acc
  | _ => 0
noncomputable def cIt (c : Code) : Nat := match c with
  | .compStart _ _ it _ _ => nAt it
  | _ => 0
noncomputable def cLoc (c : Code) : Nat := match c with
  | .compStart _ _ _ _ env => env.locals
  | _ => 0
noncomputable def cFr (c : Code) : Nat := match c with
  | .compStart _ _ _ _ env => env.frame.getD 0
  | _ => 0
/-- the loop as a call that is known -/
noncomputable def hookC3 (P : Params) (x : Str) (ms : List Nat) : HookT := fun _ c A cont L _ _ _ gl gh => match inB A 350 50 && (Nat.ble 171 (cIt c) && (Nat.ble 171 (cAcc c) && (Nat.ble 171 (cLoc c) && Nat.ble 171 (cFr c)))) with
  | false => .bad 89 0
  | true => .eqC c (cS3 P (cIt c) (cAcc c) (cLoc c) (cFr c)) (match L with
    | p :: q :: r :: L' => .eqN p.1 (cLoc c) (.eqO p.2 (emptyDict (.type "dict")) (.eqN q.1 (cAcc c) (.eqO q.2 (listObj #[] (seqN q.2)) (.eqN r.1 (cIt c) (.eqO r.2 (strIt "str_iterator" x (itTok r.2) 0)
      (.allI fun h1 => .allN fun h2 => .allV fun h3 => .allL fun ts => .allN fun n => .allN fun N' => .allN fun T' => cont (.ok .next) ((cLoc c, loc3 1 (h1, h2, h3)) :: (cAcc c, listObj (vals ms ts) n) :: L') (N' + 171) (T' + 2349) 0 gl (.str ⟨⟨ts⟩⟩ 0 :: gh)))))))
    | _ => .bad 90 0)
theorem hookC3_ok {V : Ev} (S : V.Std) {w : World} {b1 b2 b3 : Bool} (hw : V.w = WB w b1 b2 b3) {x : Str} {rest : List Nat} (hx : x.cps[0]? = some 120) (hk : ∀ j, x.cps[1 + j]? = rest[j]?) (hc : ∀ c ∈ rest, c ∈ unseenL ∨ c ∈ seenL) (hs : rest.length + 1 ≤ sizeLine) : HookOk V (hookC3 V.w.params x (120 :: prep rest)) := by
  intro j c A g l cont L sz tb i gl gh h H D
  unfold hookC3 at H
  split at H
  · cases H
  · rename_i hb
    obtain ⟨hA, hb⟩ := Bool.and_eq_true_iff.mp hb
    obtain ⟨hb1, hb⟩ := Bool.and_eq_true_iff.mp hb
    obtain ⟨hb2, hb⟩ := Bool.and_eq_true_iff.mp hb
    obtain ⟨hb3, hb4⟩ := Bool.and_eq_true_iff.mp hb
    have l1 := Nat.sub_add_cancel (Nat.le_of_ble_eq_true hb1)
    have l2 := Nat.sub_add_cancel (Nat.le_of_ble_eq_true hb2)
    have l3 := Nat.sub_add_cancel (Nat.le_of_ble_eq_true hb3)
    have l4 := Nat.sub_add_cancel (Nat.le_of_ble_eq_true hb4)
    obtain ⟨ec, H⟩ := eqC_of H
    match L, H, D with
    | p :: q :: r :: L', H, D =>
      obtain ⟨a1, H⟩ := eqN_of H
      obtain ⟨o1, H⟩ := eqO_of H
      obtain ⟨a2, H⟩ := eqN_of H
      obtain ⟨o2, H⟩ := eqO_of H
      obtain ⟨a3, H⟩ := eqN_of H
      obtain ⟨o3, H⟩ := eqO_of H
      have e1 : p = (cLoc c, emptyDict (.type "dict")) := Prod.ext a1 o1
      have e2 : q = (cAcc c, listObj #[] (seqN q.2)) := Prod.ext a2 o2
      have e3 : r = (cIt c, strIt "str_iterator" x (itTok r.2) 0) := Prod.ext a3 o3
      have ne : cLoc c - 171 ≠ cAcc c - 171 := fun z => by
        have hn := D.nodup
        have : p.1 = q.1 := by rw [a1, a2, ← l3, ← l2, z]
        simp [this] at hn
      have t := start3 w b1 b2 b3 x (cIt c - 171) (cAcc c - 171) (cLoc c - 171) (cFr c - 171) (seqN q.2) (itTok r.2) ne rest hx hk hc hs
      have t' : Tri V.w 350 50 c [p, q, r] (fun r Lo => r = .ok .next ∧ ∃ e ts n, Lo = [(cLoc c, loc3 1 e), (cAcc c, listObj (#[] ++ vals (120 :: prep rest) ts) n)]) := by
        have ee : S3 x (cIt c - 171) (cAcc c - 171) (cLoc c - 171) (seqN q.2) (itTok r.2) = [p, q, r] := by
          unfold S3; rw [l1, l2, l3, ← e1, ← e2, ← e3]
        rw [ee, l1, l2, l3, l4, ← hw, ← ec] at t
        refine t.mono fun r Lo hP => ?_
        obtain ⟨hr, e, ts, n, rfl⟩ := hP
        exact ⟨hr, e, ts, n, by rw [l2, l3]⟩
      refine call_B hA ?_
      refine tri_behind S (Lin := [p, q, r]) (rest := L') t' (fun y hy => ?_) (fun y hy => .tail _ (.tail _ (.tail _ hy))) (by simpa using D.nodup) (fun r Lo N' T' hP => ?_) D
      · rcases List.mem_cons.mp hy with rfl | hy
        · exact .head _
        · rcases List.mem_cons.mp hy with rfl | hy
          · exact .tail _ (.head _)
          · rcases List.mem_cons.mp hy with rfl | hy
            · exact .tail _ (.tail _ (.head _))
            · cases hy
      · obtain ⟨rfl, e, ts, n, rfl⟩ := hP
        rw [Array.empty_append]
        exact ⟨_, H e.1 e.2.1 e.2.2 ts n N' T'⟩
    | [], H, D => cases H
    | [_], H, D => cases H
    | [_, _], H, D => cases H
end Mine
end
-- part F3d
section
namespace Mine
noncomputable def joinL : List Nat → List Nat → List (Str × Nat)
  | [], _ => []
  | m :: r, ts => (⟨⟨[m]⟩⟩, ts.headD 0) :: joinL r ts.tail
theorem joinL_vals : ∀ ms ts, strValues (joinL ms ts) = valL ms ts
  | [], _ => rfl
  | m :: r, ts => by
    have := joinL_vals r ts.tail
    show _ :: _ = _ :: _
    rw [← this]; rfl
theorem joinL_fst : ∀ ms ts, (joinL ms ts).map (·.1) = ms.map fun m => (⟨⟨[m]⟩⟩ : Str)
  | [], _ => rfl
  | m :: r, ts => by
    have := joinL_fst r ts.tail
    show _ :: _ = _ :: _
    rw [← this]
noncomputable def argSR (c : Code) : Nat := match c with
  | .call _ ⟨_ :: .ref a :: _, _⟩ => a
  | _ => 0
noncomputable def tsG (gh : List Value) : List Nat := match gh with
  | .str s _ :: _ => s.cps.toList
  | _ => []
noncomputable def hookJoin (ms : List Nat) : HookT := fun _ c _ cont L sz _ _ gl gh => inLed (argSR c) L fun _ p => .eqC c (.call (.builtin "str.join") ⟨[.str ⟨⟨[]⟩⟩ (argTok c), .ref (argSR c)], []⟩)
  (.eqO p.2 (listObj (vals ms (tsG gh)) (seqN p.2)) (.allN fun t => .allN fun T => cont (.ok (.ret (.str ⟨⟨ms⟩⟩ t))) L sz (T + 2349) 0 gl gh))
theorem foldl_ones : ∀ (ms : List Nat) (k : Nat), (ms.map fun m => (⟨⟨[m]⟩⟩ : Str)).foldl (fun x1 x2 => x1 + x2.length + (⟨⟨[]⟩⟩ : Str).length) k = k + ms.length
  | [], k => rfl
  | m :: r, k => by
    rw [List.map_cons, List.foldl_cons, foldl_ones r, List.length_cons]
    show k + 1 + 0 + r.length = _
    omega
theorem join_fits {ms ts : List Nat} (h : ms.length ≤ sizeLine) : Builtin.Str.tooLong (Array.foldl (fun x1 x2 => x1 + x2.length + (⟨⟨[]⟩⟩ : Str).length) 0 (List.map (fun x => x.1) (joinL ms ts)).toArray) = false := by
  rw [List.foldl_toArray, joinL_fst, foldl_ones]
  unfold Builtin.Str.tooLong
  exact decide_eq_false (by omega)
theorem fold_signs : ∀ (r : List Nat) (acc : Array Nat), (r.map fun m => (⟨⟨[m]⟩⟩ : Str)).foldl (fun acc p => acc ++ (⟨⟨[]⟩⟩ : Str).cps ++ p.cps) acc = ⟨acc.toList ++ r⟩
  | [], acc => by rw [List.append_nil]; rfl
  | m :: r, acc => by
    rw [List.map_cons, List.foldl_cons, fold_signs r]
    congr 1
    show (acc ++ (⟨[]⟩ : Array Nat) ++ (⟨[m]⟩ : Array Nat)).toList ++ r = _
    simp
theorem glued_signs (m : Nat) (r : List Nat) : Builtin.Str.glued ⟨⟨[]⟩⟩ ((m :: r).map fun m => (⟨⟨[m]⟩⟩ : Str)) = ⟨⟨m :: r⟩⟩ := by
  unfold Builtin.Str.glued
  show (⟨(r.map fun m => (⟨⟨[m]⟩⟩ : Str)).foldl _ _⟩ : Str) = _
  rw [fold_signs r]; rfl
theorem join_post {m : Nat} {r ts : List Nat} {Q : Value → Shared → Prop} {s : Shared} (h : (m :: r).length ≤ sizeLine) (h1 : ∀ t k, Q (.str ⟨⟨m :: r⟩⟩ t) { s with toks := s.toks + k }) : (joinMade ⟨⟨[]⟩⟩ (joinL (m :: r) ts)).post Q s := by
  cases r with
  | nil => exact h1 _ 0
  | cons m2 r =>
    have e : joinMade ⟨⟨[]⟩⟩ (joinL (m :: m2 :: r) ts) = .str ⟨⟨m :: m2 :: r⟩⟩ := by
      show Made.str (Builtin.Str.glued ⟨⟨[]⟩⟩ ((joinL (m :: m2 :: r) ts).map (·.1))) = _
      rw [joinL_fst, glued_signs]
    rw [e]
    exact ⟨h, h1 _ 1⟩
theorem Rp.tok {V : Ev} {h : Heap} {L : Led} {sz tb tb' : Nat} (D : Rp V h L sz tb) (h' : 2349 ≤ tb') : Rp V h L sz tb' := { D with tlow := h' }
theorem hookJoin_ok {V : Ev} {m : Nat} {r : List Nat} (hl : (m :: r).length ≤ sizeLine) : HookOk V (hookJoin (m :: r)) := by
  intro j c A g l cont L sz tb i gl gh h H D
  obtain ⟨j, p, e, ea, H⟩ := inLed_of H
  obtain ⟨ec, H⟩ := eqC_of H
  obtain ⟨ho, H⟩ := eqO_of H
  rw [ea] at ec
  rw [ec]
  have hp := D.own p (ledAt_mem e)
  have hp' : h.get? p.1 = some (listObj (vals (m :: r) (tsG gh)) (seqN p.2)) := hp.trans (congrArg some ho)
  refine hook_call (call_meets PySem.F.slot_str_join (typeIs_str _ _ _) PySem.F.entry_str_join (PySem.F.args_str_join_2 _ _) (meets_str_join_list ⟨⟨[]⟩⟩ (argTok c) p.1 (joinL (m :: r) (tsG gh)) (join_fits hl)) ⟨⟨_, hp', rfl, seqN p.2, ?_⟩, join_post hl fun t k => ?_⟩)
  · rw [joinL_vals]; rfl
  · have hk : 2349 ≤ tb + i + k := by have := D.tlow; omega
    refine ⟨L, sz, tb + i + k, 0, gl, gh, h, rfl, D.tok hk, ?_⟩
    have : good (cont (.ok (.ret (.str ⟨⟨m :: r⟩⟩ t))) L sz (tb + i + k - 2349 + 2349) 0 gl gh) := H t (tb + i + k - 2349)
    rw [Nat.sub_add_cancel hk] at this
    exact this
end Mine
end
-- part F3
section
namespace Mine
noncomputable def hkF3 (P : Params) (rest : List Nat) : HookT := hook2 (hookIter ⟨⟨120 :: rest⟩⟩) (hook2 (hookC3 P ⟨⟨120 :: rest⟩⟩ (120 :: prep rest)) (hookJoin (120 :: prep rest)))
noncomputable abbrev ag3 (rest : List Nat) (t : Nat) : Args := ⟨[.str ⟨⟨120 :: rest⟩⟩ t], []⟩
theorem prep_length : ∀ rest, (prep rest).length ≤ rest.length
  | [] => Nat.le_refl _
  | c :: r => by
    have := prep_length r
    simp only [prep]
    split <;> simp only [List.length_cons] <;> omega
theorem f3 (w : World) (b1 b2 b3 : Bool) (rest : List Nat) (t : Nat) (hc : ∀ c ∈ rest, c ∈ unseenL ∨ c ∈ seenL) (hs : rest.length + 1 ≤ sizeLine) (hna : (⟨⟨120 :: rest⟩⟩ : Str).cps.all (· < 128) = false) :
    PureOk (WB w b1 b2 b3) 320 35 (.call (.ref 153) (ag3 rest t)) (fun t' => .str ⟨⟨120 :: prep rest⟩⟩ t') := by
  refine pure_of (strOf (120 :: prep rest)) (strOf_is _) (Nat.le_of_ble_eq_true rfl) (hkF3 (WB w b1 b2 b3).params rest) (fun V S e => ?_) 1000 [0, 0, 1, 1, 0, 0, 1, 1, 1, 2, 1, 1, 1, 3, 2] ?_
  · have hl := prep_length rest
    have := hookC3_ok S e (x := ⟨⟨120 :: rest⟩⟩) (rest := rest) rfl (fun j => by rw [Nat.add_comm]; simp) hc hs
    rw [e] at this
    exact hook2_ok (hookIter_ok S hna) (hook2_ok this (hookJoin_ok (by rw [List.length_cons]; omega)))
  · intros
    cases b1 <;> cases b2 <;> kernel_rfl
end Mine
end
-- part Hooks3
section
namespace Mine
theorem extend_str2 {prog : Program} {w : World} {A : Around} {s : Shared} {R : Result → Shared → Prop} (hh : A.handled = none) (x : Str) (t : Tok) (S : Addr) (res : Value) (c₀ : Nat) (hS : s.heap.get? S = some (listObj #[] c₀)) (hn : x.cps.size ≤ sizeLine)
    (hR : ∀ h' tk acc' c', s.toks ≤ tk → (∀ b o, b ≠ S → s.heap.get? b = some o → h'.get? b = some o) → h'.get? S = some (listObj acc' c') → ItemsOf (SignAt x) acc' x.cps.size → R (.ok (.ret res)) { s with heap := h', toks := tk }) :
    wpAny (model prog w) A.in1 (Builtin.List.listExtendWith (.ref S) (.str x t) res)
      (fun fin s' => match fin with | .done f => R (.ok f) s' | .again c' => c'.quiet = true ∧ codeAny (model prog w) A c' R s') (fun e s' => R (.error e) s') s := by
  have far : S ∉ [s.heap.objs.size] := fun hm => Nat.ne_of_lt (Heap.lt_size hS) (List.mem_singleton.mp hm)
  unfold Builtin.List.listExtendWith
  refine wpAny_bind (wpAny_typeOf (T := "str") (v := .str x t) rfl ?_)
  simp only [show Builtin.List.listSameRef (.ref S) (.str x t) = false from rfl, show (Value.type "str" == Value.type "list") = false by decide, show (Value.type "str" == Value.type "tuple") = false by decide, Bool.or_false, Bool.false_eq_true, if_false]
  refine wpAny_bind (wpAny_pyIter_str fun o St W hst => ?_)
  refine wpAny_bind (wpAny_holding ?_)
  unfold Builtin.List.listLengthHint
  refine wpAny_bind (wpAny_specialOf (T := "str") (v := .str x t) rfl PySem.F.str_len ?_)
  wp_delta
  refine wpAny_bind (wpAny_isInstance (T := "str") (v := .str x t) (b := true) rfl (by rw [isSubtype_type]; kernel_rfl) ?_)
  show wpAny _ _ (typeOf (Value.str x t) >>= _) _ _ _
  refine wpAny_bind (wpAny_typeOf (T := "str") (v := .str x t) rfl ?_)
  refine wpAny_pure ?_
  rw [if_neg (by decide)]
  refine wpAny_pure ⟨plainId_quiet PySem.F.plain_extend_loop _, codeAny_extend_loopS (W A.in1 hh).toS hn _ far _ x.cps.size 0 _ _ _ rfl (Nat.zero_le _) hst (Heap.get?_push_of_some _ hS) (ItemsOf.nil _) fun s' acc' c' hm hS' hacc => ?_⟩
  have ht : s.toks ≤ s'.toks := hm.toks
  rw [Moved.eq_with hm]
  refine hR s'.heap s'.toks acc' c' ht (fun b ob hb e => hm.heap b ob (fun hmem => ?_) (Heap.get?_push_of_some _ e)) hS' hacc
  rcases List.mem_cons.mp hmem with e' | hmem
  · exact hb e'
  · exact Nat.ne_of_lt (Heap.lt_size e) (List.mem_singleton.mp hmem)
/-- list(str), with the toks' growth told -/
theorem call_list_str2 {prog : Program} {w : World} {A : Around} {E : Value → Shared → Prop} {s : Shared} {Q : Value → Shared → Prop} (hh : A.handled = none) (x : Str) (t : Tok) (hn : x.cps.size ≤ sizeLine)
    (hQ : ∀ h' tk acc' c', s.toks ≤ tk → (∀ b o, s.heap.get? b = some o → h'.get? b = some o) → h'.get? s.heap.objs.size = some (listObj acc' c') → ItemsOf (SignAt x) acc' x.cps.size → Q (.ref s.heap.objs.size) { s with heap := h', toks := tk }) :
    wpAny (model prog w) A (call (.type "list") [.str x t]) Q E s := by
  refine callType_codes (Q₁ := fun obj s₁ => obj = .ref s.heap.objs.size ∧ s₁ = { s with heap := s.heap.push (listObj #[] 0) }) PySem.F.called_list (PySem.F.typeCall_list_1 _) PySem.F.entry_list_init (code_list_new _ ⟨rfl, rfl⟩) fun obj s₁ h₁ => ?_
  obtain ⟨rfl, rfl⟩ := h₁
  have hS : (s.heap.push (listObj #[] 0)).get? s.heap.objs.size = some (listObj #[] 0) := Heap.get?_push_size _ rfl
  refine ⟨⟨_, hS, rfl⟩, PySem.F.args_list_init_2 _ _, ?_⟩
  have old : ∀ b o, s.heap.get? b = some o → b ≠ s.heap.objs.size := fun b o e => Nat.ne_of_lt (Heap.lt_size e)
  generalize s.heap.objs.size = S at hS hQ old
  show wpAny _ _ (do let old ← Builtin.List.listItems (.ref S); Builtin.List.listUpdate (.ref S) (fun _ => #[]); letGo old.toList.reverse; Builtin.List.listExtendWith (.ref S) (.str x t) .none) _ _ _
  refine wpAny_bind ?_
  unfold Builtin.List.listItems
  refine wpAny_bind (wpAny_seqItems hS rfl (wpAny_pure ?_))
  show wpAny _ _ (updateSeq S (fun _ => #[]) >>= fun _ => letGo (#[] : Array Value).toList.reverse >>= fun _ => Builtin.List.listExtendWith (.ref S) (.str x t) .none) _ _ _
  refine wpAny_bind (wpAny_updateSeq hS rfl ?_)
  have hS2 := Heap.get?_update_self (Obj.mapSeq (fun _ => (#[] : Array Value))) hS rfl
  have oth : ∀ b o, b ≠ S → (s.heap.push (listObj #[] 0)).get? b = some o → ((s.heap.push (listObj #[] 0)).update S (Obj.mapSeq (fun _ => (#[] : Array Value)))).get? b = some o := fun b o hb e => (Heap.get?_update_other _ _ (Ne.symm hb)).trans e
  refine wpAny_bind (wpAny_letGo ?_)
  refine extend_str2 (A := A.in1) (R := wants (fun r s₂ => r = .none ∧ Q (.ref S) s₂) E) hh x t S .none 0 hS2 hn fun h' tk acc' c' ht hk hS' hacc => ?_
  exact ⟨rfl, hQ h' tk acc' c' ht (fun b o e => hk b o (old b o e) (oth b o (old b o e) (Heap.get?_push_of_some _ e))) hS' hacc⟩
theorem items_vals {ms : List Nat} : ∀ {acc : List PySem.Value} (ks : List Nat), ms = ks → acc.length = ks.length → (∀ (j : Nat) (v : PySem.Value), acc[j]? = some v → ∃ (c u : Nat), ks[j]? = some c ∧ v = PySem.Value.str ⟨⟨[c]⟩⟩ u) → ∃ ts, acc = valL ks ts := by
  intro acc
  intro ks
  intro e
  clear e
  induction ks generalizing acc with
  | nil =>
    intro hl _
    exact ⟨[], List.length_eq_zero_iff.mp hl⟩
  | cons k ks ih =>
    intro hl hi
    match acc, hl with
    | v :: acc, hl =>
      obtain ⟨c, u, hc, rfl⟩ := hi 0 v rfl
      obtain ⟨ts, rfl⟩ := ih (acc := acc) (Nat.succ.inj hl) fun j v h => hi (j + 1) v h
      cases hc
      exact ⟨u :: ts, rfl⟩
noncomputable def hookList (ms : List Nat) : HookT := fun _ c A cont L sz _ _ gl gh => match A.handled with
  | none => .eqC c (.call (.type "list") ⟨[.str ⟨⟨ms⟩⟩ (argTok c)], []⟩) (.allL fun ts => .allN fun c' => .allN fun n => .allN fun m => cont (.ok (.ret (.ref sz))) ((sz, listObj (vals ms ts) c') :: L) (n + 171) (m + 2349) 0 gl (.str ⟨⟨ts⟩⟩ 0 :: gh))
  | some _ => .bad 88 0
theorem hookList_ok {V : Ev} (S : V.Std) {ms : List Nat} (hn : ms.length ≤ sizeLine) : HookOk V (hookList ms) := by
  intro j c A g l cont L sz tb i gl gh h H D
  unfold hookList at H
  split at H
  · rename_i hA
    obtain ⟨ec, H⟩ := eqC_of H
    rw [ec]
    refine call_any (call_list_str2 hA ⟨⟨ms⟩⟩ (argTok c) hn fun h' tk acc' c' ht hk hS hacc => ?_)
    have es : (sh V h tb i gl).heap.objs.size = sz := D.size
    rw [es] at hS
    obtain ⟨ts, hts⟩ := items_vals (ms := ms) (acc := acc'.toList) ms rfl (by rw [Array.length_toList]; exact hacc.1) (fun j v hv => by
      obtain ⟨c, u, h1, h2⟩ := hacc.2 j v (by rw [← Array.getElem?_toList]; exact hv)
      exact ⟨c, u, by simpa using h1, h2⟩)
    have ea : acc' = vals ms ts := by
      apply Array.ext'
      rw [hts]; simp [vals]
    subst ea
    have hlow := S.n₁ ▸ D.low
    have hlt := Heap.lt_size hS
    have htl := D.tlow
    have ht' : tb + i ≤ tk := ht
    have H : good (cont (.ok (.ret (.ref sz))) ((sz, listObj (vals ms ts) c') :: L) (h'.objs.size - 171 + 171) (tk - 2349 + 2349) 0 gl (.str ⟨⟨ts⟩⟩ 0 :: gh)) := H ts c' (h'.objs.size - 171) (tk - 2349)
    have hlt2 : sz < h'.objs.size := hlt
    rw [Nat.sub_add_cancel (show 171 ≤ h'.objs.size from by omega), Nat.sub_add_cancel (show 2349 ≤ tk from by omega)] at H
    refine ⟨(sz, listObj (vals ms ts) c') :: L, h'.objs.size, tk, 0, gl, .str ⟨⟨ts⟩⟩ 0 :: gh, h', rfl, ?_, ?_⟩
    · refine ⟨by omega, rfl, S.n₁ ▸ (by omega), Nat.le_trans D.mono (Nat.le_of_lt hlt), fun p hp => ?_, ?_, fun p hp => ?_, fun p hp => ?_, fun a o e => hk _ _ (D.top a o e), fun b o e q => hk _ _ (D.old b o e q)⟩
      · rcases List.mem_cons.mp hp with rfl | hp
        · exact hS
        · exact hk _ _ (D.own p hp)
      · refine List.nodup_cons.mpr ⟨fun hm => ?_, D.nodup⟩
        obtain ⟨p, hp, e⟩ := List.mem_map.mp hm
        exact Nat.ne_of_lt (D.lt hp) e
      · rcases List.mem_cons.mp hp with rfl | hp
        · exact Std.low S _ D.low
        · exact D.sep p hp
      · rcases List.mem_cons.mp hp with rfl | hp
        · exact .inl D.mono
        · exact D.mine p hp
    · show good (cont (.ok (.ret (.ref (sh V h tb i gl).heap.objs.size))) _ _ _ _ _ _)
      rw [es]; exact H
  · cases H
end Mine
end
-- part Hooks4
section
namespace Mine
noncomputable def argTok2 (c : Code) : Nat := match c with
  | .call _ ⟨_ :: .str _ t :: _, _⟩ => t
  | .call _ ⟨_ :: .int _ t :: _, _⟩ => t
  | _ => 0
/-- two texts joined, neither empty -/
noncomputable def hookAdd (x y : List Nat) : HookT := fun _ c _ cont L sz tb i gl gh => .eqC c (.call (.builtin "str.__add__") ⟨[.str ⟨⟨x⟩⟩ (argTok c), .str ⟨⟨y⟩⟩ (argTok2 c)], []⟩)
  (cont (.ok (.ret (.str ⟨⟨x ++ y⟩⟩ (tb + i)))) L sz tb (i + 1) gl gh)
theorem append_cps (x y : List Nat) : (⟨⟨x⟩⟩ : Str) ++ (⟨⟨y⟩⟩ : Str) = ⟨⟨x ++ y⟩⟩ := by
  show (⟨(⟨x⟩ : Array Nat) ++ (⟨y⟩ : Array Nat)⟩ : Str) = _
  rw [List.append_toArray]
theorem hookAdd_ok {V : Ev} {x y : List Nat} (hx : x ≠ []) (hy : y ≠ []) (hl : (x ++ y).length ≤ sizeLine) : HookOk V (hookAdd x y) := by
  intro j c A g l cont L sz tb i gl gh h H D
  obtain ⟨ec, H⟩ := eqC_of H
  rw [ec]
  have h1 : ((⟨⟨x⟩⟩ : Str).length == 0) = false := by
    cases x with
    | nil => exact absurd rfl hx
    | cons a x => rfl
  have h2 : ((⟨⟨y⟩⟩ : Str).length == 0) = false := by
    cases y with
    | nil => exact absurd rfl hy
    | cons a y => rfl
  refine hook_call (call_meets PySem.F.slot_str_add (typeIs_str _ _ _) PySem.F.entry_str_add (PySem.F.args_str_add_2 _ _) (gives_str_add ⟨⟨x⟩⟩ ⟨⟨y⟩⟩ (argTok c) (argTok2 c)).meets ?_)
  rw [h1, h2, append_cps]
  exact ⟨hl, L, sz, tb, i + 1, gl, gh, h, rfl, D, H⟩
/-- the first sign taken off -/
noncomputable def hookPop (ch : Nat) (ms ts : List Nat) : HookT := fun _ c _ cont L sz tb i gl gh => inLed (argRV c).1 L fun j p => .eqC c (.call (.builtin "list.pop") ⟨[.ref (argRV c).1, .int 0 (argTok2 c)], []⟩)
  (.eqO p.2 (listObj (vals (ch :: ms) ts) (seqN p.2)) (cont (.ok (.ret (.str ⟨⟨[ch]⟩⟩ (ts.headD 0)))) (ledSet L j (Obj.mapSeq (fun _ => vals ms ts.tail) p.2)) sz tb i gl gh))
theorem vals_size : ∀ ms ts, (vals ms ts).size = ms.length := by
  intro ms
  induction ms with
  | nil => intro ts; rfl
  | cons m r ih => intro ts; show ((valL r ts.tail).toArray.size) + 1 = _; exact congrArg (· + 1) (ih ts.tail)
theorem hookPop_ok {V : Ev} {ch : Nat} {ms ts : List Nat} (hl : ms.length + 1 ≤ sizeLine) : HookOk V (hookPop ch ms ts) := by
  intro j c A g l cont L sz tb i gl gh h H D
  obtain ⟨j, p, e, ea, H⟩ := inLed_of H
  obtain ⟨ec, H⟩ := eqC_of H
  obtain ⟨ho, H⟩ := eqO_of H
  rw [ea] at ec
  rw [ec]
  have hp := D.own p (ledAt_mem e)
  have hp' : h.get? p.1 = some (listObj (vals (ch :: ms) ts) (seqN p.2)) := hp.trans (congrArg some ho)
  have hs : (vals (ch :: ms) ts).size = ms.length + 1 := vals_size _ _
  have hk : seqIndex? 0 (vals (ch :: ms) ts).size = some 0 := by rw [hs]; simp [seqIndex?]
  have he : (vals (ch :: ms) ts).eraseIdxIfInBounds 0 = vals ms ts.tail := by
    simp [vals, valL]
  refine hook_call (call_meets PySem.F.slot_list_pop ⟨_, hp', rfl⟩ PySem.F.entry_list_pop (PySem.F.args_list_pop_2 _ _) (PySem.MeetsSeq.list_pop_at p.1 (vals (ch :: ms) ts) (seqN p.2) 0 (argTok2 c) 0 (.str ⟨⟨[ch]⟩⟩ (ts.headD 0)) (by decide) hk rfl (by rw [hs]; exact hl)) ⟨hp', ?_⟩)
  have eo : (fun xs : Array PySem.Value => xs.eraseIdxIfInBounds 0) (vals (ch :: ms) ts) = vals ms ts.tail := he
  have e2 : Obj.mapSeq (fun xs => xs.eraseIdxIfInBounds 0) p.2 = Obj.mapSeq (fun _ => vals ms ts.tail) p.2 := by
    rw [ho]; show Obj.mk _ _ _ _ = Obj.mk _ _ _ _; simp only [he]
  refine ⟨_, sz, tb, i, gl, gh, _, rfl, D.up e (Obj.mapSeq fun xs => xs.eraseIdxIfInBounds 0) ?_, ?_⟩
  · rw [ho]; rfl
  · rw [e2]; exact H
end Mine
end
-- part HTri
section
namespace Mine
/-- a code by its run, gone into -/
theorem code_go {V : Ev} (O : V.Ok) {c : Code} {L : Led} {sz tb i : Nat} {gl : List GenState} {gh : List PySem.Value} {h : Heap} (n : Nat) (hs : List Nat)
    (e : lft (sim V n c none .base (V.go c V.A₀) L sz tb i gl gh) hs = rgt (sim V n c none .base (V.go c V.A₀) L sz tb i gl gh) hs) (D : Rp V h L sz tb) :
    codeAny (md V) V.A₀ c V.R₀ (sh V h tb i gl) :=
  y_code _ _ _ _ _ _ (O.go _ _ _ _ _ (sim_sound O n _ none .base _ _ _ _ _ _ _ h (good_of _ _ e) D))
/-- a ledger without its i-th object -/
noncomputable def ledDel (L : Led) : Nat → Led :=
  @List.rec (Nat × Obj) (fun _ => Nat → Led) (fun _ => []) (fun p r ih i => @Nat.rec (fun _ => Led) r (fun j _ => p :: ih j) i) L
theorem ledDel_perm : ∀ {L : Led} {i : Nat} {p : Nat × Obj}, ledAt L i = some p → L.Perm (p :: ledDel L i)
  | [], _, _, e => nomatch (show (none : Option (Nat × Obj)) = some _ from e)
  | q :: r, 0, p, e => by have e : some q = some p := e; cases e; exact .refl _
  | q :: r, i + 1, p, e => by
    have := ledDel_perm (L := r) (i := i) e
    exact (this.cons q).trans (.swap p q _)
/-- objects that are wanted, found and taken out -/
noncomputable def pickL (L : Led) (want : Led) (k : Led → Ob) : Ob := match want with
  | [] => k L
  | q :: r => .askA q.1 L fun j => match ledAt L (Nat.pred j) with
    | some p => .eqN q.1 p.1 (.eqO p.2 q.2 (pickL (ledDel L (Nat.pred j)) r k))
    | none => .bad 91 q.1
theorem pickL_of : ∀ {want L : Led} {k : Led → Ob}, good (pickL L want k) → ∃ rest, L.Perm (want ++ rest) ∧ good (k rest)
  | [], L, k, H => ⟨L, .refl _, H⟩
  | q :: r, L, k, H => by
    obtain ⟨j, H⟩ := (show ∃ j, good (match ledAt L (Nat.pred j) with
      | some p => Ob.eqN q.1 p.1 (.eqO p.2 q.2 (pickL (ledDel L (Nat.pred j)) r k))
      | none => Ob.bad 91 q.1) from H)
    split at H
    · rename_i p e
      obtain ⟨e1, H⟩ := eqN_of H
      obtain ⟨e2, H⟩ := eqO_of H
      obtain ⟨rest, hp, H'⟩ := pickL_of H
      have : q = p := Prod.ext e1 e2.symm
      subst this
      exact ⟨rest, (ledDel_perm e).trans (hp.cons _), H'⟩
    · cases H
/-- a call known by a triple: what it wants is read off the ledger -/
noncomputable def hookTri {X : Type} (n u : Nat) (get : Code → Led → List PySem.Value → (X → Ob) → Ob) (code : X → Code) (lin : X → Led) (ok : X → Bool) (after : X → (Result → Led → List PySem.Value → Ob) → Ob) : HookT :=
  fun _ c A cont L _ _ _ gl gh => match inB A n u with
  | true => get c L gh fun x => match ok x with
    | true => .eqC c (code x) (pickL L (lin x) fun rest => after x fun r Lo nt => .allN fun N' => .allN fun T' => cont r (Lo ++ rest) (N' + 171) (T' + 2349) 0 gl (nt ++ gh))
    | false => .bad 92 0
  | false => .bad 80 0
theorem hookTri_ok {V : Ev} (S : V.Std) {X : Type} {n u : Nat} {get : Code → Led → List PySem.Value → (X → Ob) → Ob} {code : X → Code} {lin : X → Led} {ok : X → Bool} {after : X → (Result → Led → List PySem.Value → Ob) → Ob} (P : X → Result → Led → Prop)
    (hget : ∀ c L gh k, good (get c L gh k) → ∃ x, good (k x)) (hafter : ∀ x k r Lo, P x r Lo → good (after x k) → ∃ nt, good (k r Lo nt)) (tri : ∀ x, ok x = true → Tri V.w n u (code x) (lin x) (P x)) : HookOk V (hookTri n u get code lin ok after) := by
  intro j c A g l cont L sz tb i gl gh h H D
  unfold hookTri at H
  split at H
  · rename_i hA
    obtain ⟨x, H⟩ := hget _ _ _ _ H
    split at H
    · rename_i hok
      obtain ⟨ec, H⟩ := eqC_of H
      obtain ⟨rest, hp, H⟩ := pickL_of H
      rw [ec]
      refine call_B hA ?_
      have hn : ((lin x).map (·.1) ++ rest.map (·.1)).Nodup := by
        rw [← List.map_append]
        exact (hp.map _).nodup_iff.mp D.nodup
      refine tri_behind S (rest := rest) (tri x hok) (fun p h => hp.mem_iff.mpr (List.mem_append.mpr (.inl h))) (fun p h => hp.mem_iff.mpr (List.mem_append.mpr (.inr h))) hn (fun r Lo N' T' hP => ?_) D
      obtain ⟨nt, H⟩ := hafter x _ r Lo hP H
      exact ⟨_, H N' T'⟩
    · cases H
  · cases H
theorem behind_note {V : Ev} {cont : Result → Cont} {f : List PySem.Value → List PySem.Value} {r : Result} {s : Shared} (x : Behind V (fun r L sz tb i gl gh => cont r L sz tb i gl (f gh)) r s) : Behind V cont r s := by
  obtain ⟨L', sz', tb', i', gl', gh', h', e, D, H⟩ := x
  exact ⟨L', sz', tb', i', gl', f gh', h', e, D, H⟩
/-- the first sign taken off, the tokens noted -/
noncomputable def hookPopG (ch : Nat) (ms : List Nat) : HookT := fun j c A cont L sz tb i gl gh => hookPop ch ms (tsG gh) j c A (fun r L sz tb i gl gh => cont r L sz tb i gl (.str ⟨⟨(tsG gh).tail⟩⟩ 0 :: gh)) L sz tb i gl gh
theorem hookPopG_ok {V : Ev} {ch : Nat} {ms : List Nat} (hl : ms.length + 1 ≤ sizeLine) : HookOk V (hookPopG ch ms) := by
  intro j c A g l cont L sz tb i gl gh h H D
  exact wpAny_mono (hookPop_ok hl j c A g l _ L sz tb i gl gh h H D) (fun r s' x => behind_note x) fun _ _ x => x
end Mine
end
-- part Hooks5
section
namespace Mine
/-- the next sign -/
noncomputable def hookNextA (x : Str) (k ch : Nat) : HookT := fun _ c _ cont L sz tb i gl gh => inLed (argRV c).1 L fun j p => .eqC c (.call (.builtin "str_ascii_iterator.__next__") ⟨[.ref (argRV c).1], []⟩) (.eqO p.2 (strIt "str_ascii_iterator" x (itTok p.2) k)
      (cont (.ok (.ret (.str ⟨#[ch]⟩ (tb + i)))) (ledSet L j (strIt "str_ascii_iterator" x (itTok p.2) (k + 1))) sz tb (i + 1) gl gh))
theorem hookNextA_ok {V : Ev} {x : Str} {k ch : Nat} (hx : x.cps[k]? = some ch) : HookOk V (hookNextA x k ch) := by
  intro j c A g l cont L sz tb i gl gh h H D
  obtain ⟨j, p, e, ea, H⟩ := inLed_of H
  obtain ⟨ec, H⟩ := eqC_of H
  obtain ⟨ho, H⟩ := eqO_of H
  rw [ea] at ec
  rw [ec]
  have hp := D.own p (ledAt_mem e)
  have hp' : (sh V h tb i gl).heap.get? p.1 = some (strIt "str_ascii_iterator" x (itTok p.2) k) := hp.trans (congrArg some ho)
  refine hook_call (wpAny_call_entry PySem.F.slot_str_ascii_iterator_next ⟨_, hp', rfl⟩ PySem.F.entry_str_ascii_iterator_next ?_ (PySem.F.args_str_ascii_iterator_next_1 _))
  show wpAny _ _ (field (.ref p.1) 0 >>= _) _ _ _
  refine wpAny_bind (wpAny_field hp' rfl (x := .str x (itTok p.2)) rfl ?_)
  show wpAny _ _ (field (.ref p.1) 1 >>= _) _ _ _
  refine wpAny_bind (wpAny_field hp' rfl (x := .int k 0) rfl ?_)
  simp only [Int.toNat_natCast, hx]
  refine wpAny_bind (wpAny_setField hp' rfl (by simp) (wpAny_bind (wpAny_mkStr (wpAny_pure ⟨_, rfl, ?_⟩))))
  refine ⟨_, sz, tb, i + 1, gl, gh, _, rfl, D.up e (Obj.mapFields (·.setIfInBounds 1 (rawInt ((k : Int) + 1)))) ?_, ?_⟩
  · rw [ho, strIt_next]; rfl
  · have e2 : Obj.mapFields (·.setIfInBounds 1 (rawInt ((k : Int) + 1))) p.2 = strIt "str_ascii_iterator" x (itTok p.2) (k + 1) := (congrArg _ ho).trans (strIt_next _ _ _ _)
    rw [e2]; exact H
/-- no sign is left -/
noncomputable def hookEndA (x : Str) (k : Nat) : HookT := fun _ c A cont L sz tb i gl gh => match A.handled with
  | none => inLed (argRV c).1 L fun j p => .eqC c (.call (.builtin "str_ascii_iterator.__next__") ⟨[.ref (argRV c).1], []⟩) (.eqO p.2 (strIt "str_ascii_iterator" x (itTok p.2) k)
      (cont (.error (.ref (sz + 1))) ((sz + 1, stopObj sz) :: (sz, noTuple) :: ledSet L j (strEnd "str_ascii_iterator" k)) (sz + 2) tb i gl gh))
  | some _ => .bad 88 0
theorem hookEndA_ok {V : Ev} (S : V.Std) {x : Str} {k : Nat} (hx : x.cps[k]? = none) : HookOk V (hookEndA x k) := by
  intro j c A g l cont L sz tb i gl gh h H D
  unfold hookEndA at H
  split at H
  · rename_i hA
    obtain ⟨j, p, e, ea, H⟩ := inLed_of H
    obtain ⟨ec, H⟩ := eqC_of H
    obtain ⟨ho, H⟩ := eqO_of H
    rw [ea] at ec
    rw [ec]
    have hp := D.own p (ledAt_mem e)
    have hp' : (sh V h tb i gl).heap.get? p.1 = some (strIt "str_ascii_iterator" x (itTok p.2) k) := hp.trans (congrArg some ho)
    refine call_any (wpAny_call_entry PySem.F.slot_str_ascii_iterator_next ⟨_, hp', rfl⟩ PySem.F.entry_str_ascii_iterator_next ?_ (PySem.F.args_str_ascii_iterator_next_1 _))
    show wpAny _ _ (field (.ref p.1) 0 >>= _) _ _ _
    refine wpAny_bind (wpAny_field hp' rfl (x := .str x (itTok p.2)) rfl ?_)
    show wpAny _ _ (field (.ref p.1) 1 >>= _) _ _ _
    refine wpAny_bind (wpAny_field hp' rfl (x := .int k 0) rfl ?_)
    simp only [Int.toNat_natCast, hx]
    refine wpAny_bind (wpAny_rule (wpAny_bind (wpAny_setField hp' rfl (by simp) (wpAny_bind (wpAny_letGo ?_)))))
    show wpAny _ _ (newExc (.type "StopIteration") [] >>= _) _ _ _
    refine wpAny_bind ?_
    simp only [newExc, newTuple]
    refine wpAny_bind (wpAny_newObj_type ?_ (by size_fits))
    refine wpAny_bind (m := firstArgMember _ _) (wpAny_of_eq (a := Value.none) (by first | rfl | (simp only [firstArgMember]; rfl)) ?_)
    refine wpAny_newObj_type ?_ (by size_fits)
    simp only [raiseNew]
    refine wpAny_bind (wpAny_handled ?_)
    rw [show A.in1.handled = none from hA]
    refine wpAny_bind (wpAny_pure (wpAny_throw ?_))
    have D1 := D.up e (Obj.mapFields (·.setIfInBounds 0 .none)) (by rw [ho, strIt_end]; rfl)
    have e2 : Obj.mapFields (·.setIfInBounds 0 .none) p.2 = strEnd "str_ascii_iterator" k := (congrArg _ ho).trans (strIt_end _ _ _ _)
    rw [e2] at D1
    have D2 := D1.new (Std.low S) (o := noTuple) rfl
    have D3 := D2.new (Std.low S) (o := stopObj sz) rfl
    have es : (h.update p.1 (Obj.mapFields (·.setIfInBounds 0 .none))).objs.size = sz := D1.size
    have es2 : ((h.update p.1 (Obj.mapFields (·.setIfInBounds 0 .none))).push { cls := .type "tuple", data := .seq #[] }).objs.size = sz + 1 := D2.size
    refine ⟨(sz + 1, stopObj sz) :: (sz, noTuple) :: ledSet L j (strEnd "str_ascii_iterator" k), sz + 2, tb, i, gl, gh, _, rfl, ?_, ?_⟩
    · show Rp V ((((h.update p.1 (Obj.mapFields (·.setIfInBounds 0 .none))).push { cls := .type "tuple", data := .seq #[] })).push (stopObj (h.update p.1 (Obj.mapFields (·.setIfInBounds 0 .none))).objs.size)) _ _ _
      rw [es]; exact D3
    · show good (cont (.error (.ref ((h.update p.1 (Obj.mapFields (·.setIfInBounds 0 .none))).push { cls := .type "tuple", data := .seq #[] }).objs.size)) _ _ _ _ _ _)
      rw [es2]; exact H
  · cases H
noncomputable def enumObj (sit : Nat) (k : Nat) (old : PySem.Value) : Obj := ⟨.type "enumerate", none, .fields ⟨[.none, .bool false, .ref sit, .int k 0, .none, old]⟩, #[]⟩
/-- enumerate(text) -/
noncomputable def hookEnum (x : Str) : HookT := fun _ c _ cont L sz tb i gl gh => .eqC c (.call (.type "enumerate") ⟨[.str x (argTok c)], []⟩)
  (cont (.ok (.ret (.ref (sz + 1)))) ((sz + 1, enumObj sz 0 .none) :: (sz, strIt "str_ascii_iterator" x (argTok c) 0) :: L) (sz + 1 + 1) tb i gl gh)
theorem hookEnum_ok {V : Ev} (S : V.Std) {x : Str} (hx : x.cps.all (· < 128) = true) : HookOk V (hookEnum x) := by
  intro j c A g l cont L sz tb i gl gh h H D
  obtain ⟨ec, H⟩ := eqC_of H
  rw [ec]
  refine hook_call (callType_new PySem.F.called_enumerate (by decide) (PySem.F.typeCall_enumerate_1 _) (PySem.F.newCall_enumerate_1 _) (fun obj => PySem.F.args_object_init_2 obj _) PySem.F.entry_enumerate_new
    (meets_enumerate_newS x (argTok c)) ?_)
  have D1 := D.new (Std.low S) (o := strIt "str_ascii_iterator" x (argTok c) 0) rfl
  have D2 := D1.new (Std.low S) (o := enumObj sz 0 .none) rfl
  have es : h.objs.size = sz := D.size
  have es1 : (h.push (strIt "str_ascii_iterator" x (argTok c) 0)).objs.size = sz + 1 := D1.size
  have ety : strIterType x = "str_ascii_iterator" := by unfold strIterType; rw [hx]; rfl
  show _ ∧ _
  rw [ety]
  show Shared.TypeIs { sh V h tb i gl with heap := (h.push (strIt "str_ascii_iterator" x (argTok c) 0)).push (enumObj h.objs.size 0 .none) } (.ref (h.push (strIt "str_ascii_iterator" x (argTok c) 0)).objs.size) _ ∧ Behind V cont (.ok (.ret (.ref (h.push (strIt "str_ascii_iterator" x (argTok c) 0)).objs.size))) { sh V h tb i gl with heap := (h.push (strIt "str_ascii_iterator" x (argTok c) 0)).push (enumObj h.objs.size 0 .none) }
  rw [es, es1]
  exact ⟨⟨_, D2.own _ (.head _), rfl⟩, _, _, tb, i, gl, gh, _, rfl, D2, H⟩
end Mine
end
-- part F5a
section
namespace Mine
/-! the reader's inner loop: its code and the objects that it walks over -/
noncomputable def stmtAt (l : List Stmt) (k : Nat) : Stmt := match l, k with
  | [], _ => .Pass ⟨0, 0, 0, 0⟩
  | s :: _, 0 => s
  | _ :: r, k + 1 => stmtAt r k
noncomputable def forBody (s : Stmt) : List Stmt := match s with
  | .For _ _ b _ _ => b
  | _ => []
noncomputable def forTarget (s : Stmt) : PySem.Expr := match s with
  | .For t _ _ _ _ => t
  | _ => noExpr
noncomputable def forElse (s : Stmt) : List Stmt := match s with
  | .For _ _ _ o _ => o
  | _ => []
noncomputable def ifElse (s : Stmt) : List Stmt := match s with
  | .If _ _ o _ => o
  | _ => []
noncomputable def assigned (s : Stmt) : PySem.Expr := match s with
  | .Assign _ e _ => e
  | _ => noExpr
noncomputable def lamArgs (e : PySem.Expr) : Arguments := match e with
  | .Lambda a _ _ _ => a
  | _ => default
noncomputable def lamBody (e : PySem.Expr) : PySem.Expr := match e with
  | .Lambda _ b _ _ => b
  | _ => noExpr
noncomputable def lamScope (e : PySem.Expr) : Scope := match e with
  | .Lambda _ _ s _ => s
  | _ => default
noncomputable def for5 (P : Params) : Stmt := stmtAt (ifElse (stmtAt (forBody (stmtAt (bodyOf (fdAt P 63)) 3)) 1)) 2
noncomputable def env5 (P : Params) (loc : Nat) : Env := { scope := (fdAt P 63).scope, locals := loc, globals := 3, cells := [], qual := Str.ofString "_netrclex.get_token.<locals>.", func := some 63, code := .ref 62, frame := some loc, builtins := 0 }
noncomputable def cL5 (P : Params) (it loc : Nat) : Code := .forLoop (forTarget (for5 P)) (.ref it) (forBody (for5 P)) (forElse (for5 P)) (env5 P loc)
noncomputable def lam5 (P : Params) : PySem.Expr := assigned (stmtAt (bodyOf (fdAt P 148)) 2)
noncomputable def sSigns : Str := ⟨⟨[115, 105, 103, 110, 115]⟩⟩
noncomputable def sSelf : Str := ⟨⟨[115, 101, 108, 102]⟩⟩
noncomputable def sToken : Str := ⟨⟨[116, 111, 107, 101, 110]⟩⟩
noncomputable def sFiter : Str := ⟨⟨[102, 105, 116, 101, 114]⟩⟩
noncomputable def sCh : Str := ⟨⟨[99, 104]⟩⟩
noncomputable def sLineno : Str := ⟨⟨[108, 105, 110, 101, 110, 111]⟩⟩
noncomputable def sInstream : Str := ⟨⟨[105, 110, 115, 116, 114, 101, 97, 109]⟩⟩
noncomputable def sWhite : Str := ⟨⟨[119, 104, 105, 116, 101, 115, 112, 97, 99, 101]⟩⟩
noncomputable def sPushback : Str := ⟨⟨[112, 117, 115, 104, 98, 97, 99, 107]⟩⟩
noncomputable def sRead : Str := ⟨⟨[114, 101, 97, 100]⟩⟩
noncomputable def lamFd (P : Params) (fd : FuncData) (cell code : Nat) : FuncData :=
  { name := fd.name, qualname := fd.qualname, params := lamArgs (lam5 P), body := .expr (lamBody (lam5 P)), scope := lamScope (lam5 P), globals := 3, closure := [(sSigns, cell)],
    defaults := .none, kwdefaults := .none, doc := fd.doc, pyModule := fd.pyModule, annotations := fd.annotations, code := .ref code, closureTuple := fd.closureTuple, builtins := 0 }
structure Ad5 where
  (it mt loc inst idict sfun sdict lam lcode cell lst pb : Nat)
noncomputable def Ad5.up (a : Ad5) : Ad5 := ⟨a.it + 171, a.mt + 171, a.loc + 171, a.inst + 171, a.idict + 171, a.sfun + 171, a.sdict + 171, a.lam + 171, a.lcode + 171, a.cell + 171, a.lst + 171, a.pb + 171⟩
noncomputable def Ad5.down (a : Ad5) : Ad5 := ⟨a.it - 171, a.mt - 171, a.loc - 171, a.inst - 171, a.idict - 171, a.sfun - 171, a.sdict - 171, a.lam - 171, a.lcode - 171, a.cell - 171, a.lst - 171, a.pb - 171⟩
noncomputable def Ad5.high (a : Ad5) : Bool := Nat.ble 171 a.it && (Nat.ble 171 a.mt && (Nat.ble 171 a.loc && (Nat.ble 171 a.inst && (Nat.ble 171 a.idict && (Nat.ble 171 a.sfun && (Nat.ble 171 a.sdict && (Nat.ble 171 a.lam && (Nat.ble 171 a.lcode && (Nat.ble 171 a.cell && (Nat.ble 171 a.lst && Nat.ble 171 a.pb))))))))))
theorem Ad5.high_up {a : Ad5} (h : a.high = true) : a.down.up = a := by
  obtain ⟨it, mt, loc, inst, idict, sfun, sdict, lam, lcode, cell, lst, pb⟩ := a
  simp only [Ad5.high, Bool.and_eq_true, Nat.ble_eq] at h
  obtain ⟨h1, h2, h3, h4, h5, h6, h7, h8, h9, h10, h11, h12⟩ := h
  simp only [Ad5.up, Ad5.down, Nat.sub_add_cancel, *]
/-- a key's hash and token -/
noncomputable abbrev Ky := Int × Nat
/-- what the loop never turns -/
structure Fx5 where
  (t0 tw : Nat) (i1 i2 i3 i4 d1 : Ky) (dn lt : Nat) (fdS fdL : FuncData) (v0 : PySem.Value) (q : Str) (tq : Nat) (vs : List PySem.Value)
/-- what it turns -/
structure St5 where
  (e1 e2 e3 e4 : Ky) (tt : Nat) (ch : PySem.Value) (ln nl : Nat)
noncomputable def ky (k : Ky) (s : Str) (v : PySem.Value) : DictEntry := ⟨k.1, .str s k.2, v⟩
noncomputable def frameObj (es : List DictEntry) (n : Nat) : Obj := ⟨.type "dict", none, .dict ⟨es⟩ n, #[]⟩
noncomputable def localsObj (es : List DictEntry) (n : Nat) : Obj := ⟨.type "frame", none, .dict ⟨es⟩ n, #[]⟩
noncomputable def instObj5 (a : Ad5) : Obj := ⟨.ref 73, some a.idict, .plain, #[]⟩
noncomputable abbrev fixed5 (P : Params) (a : Ad5) (f : Fx5) : Led :=
  [(a.it, ⟨.type "callable_iterator", none, .fields ⟨[.ref a.mt, .str ⟨⟨[]⟩⟩ f.t0, .bool false]⟩, #[]⟩),
   (a.mt, ⟨.type "method", none, .fields ⟨[.ref 56, .ref a.inst]⟩, #[]⟩),
   (a.inst, instObj5 a),
   (a.sfun, ⟨.type "function", some a.sdict, .func f.fdS, #[]⟩),
   (a.sdict, frameObj [ky f.d1 sRead (.ref a.lam)] f.dn),
   (a.lam, ⟨.type "function", none, .func (lamFd P f.fdL a.cell a.lcode), #[]⟩),
   (a.lcode, ⟨.type "code", none, .fields ⟨f.v0 :: .str f.q f.tq :: f.vs⟩, #[]⟩),
   (a.cell, ⟨.type "cell", none, .cell (some (.ref a.lst)), #[]⟩)]
noncomputable def loc5 (a : Ad5) (x : St5) (tok : List Nat) : Obj := localsObj [ky x.e1 sSelf (.ref a.inst), ky x.e2 sToken (.str ⟨⟨tok⟩⟩ x.tt), ky x.e3 sFiter (.ref a.it), ky x.e4 sCh x.ch] x.ln
noncomputable def idict5 (a : Ad5) (f : Fx5) (i1 : Ky) (k : Int) (lt : Nat) : Obj := frameObj [ky i1 sLineno (.int k lt), ky f.i2 sInstream (.ref a.sfun), ky f.i3 sWhite (.str ⟨⟨[10, 9, 13, 32]⟩⟩ f.tw), ky f.i4 sPushback (.ref a.pb)] 4
noncomputable abbrev lin5 (P : Params) (a : Ad5) (f : Fx5) (x : St5) (tok ms ts : List Nat) : Led :=
  (a.loc, loc5 a x tok) :: (a.lst, listObj (vals ms ts) x.nl) :: (a.idict, idict5 a f f.i1 1 f.lt) :: fixed5 P a f
/-- behind the loop -/
noncomputable abbrev lout5 (P : Params) (a : Ad5) (f : Fx5) (i1 : Ky) (lt nl : Nat) : Led :=
  (a.lst, listObj (vals [] []) nl) :: (a.idict, idict5 a f i1 2 lt) :: fixed5 P a f
noncomputable def kyAt (o : Obj) (k : Nat) : Ky := ((entryAt (entries o) k).1, (entryAt (entries o) k).2.1)
noncomputable def valAt (o : Obj) (k : Nat) : PySem.Value := (entryAt (entries o) k).2.2
noncomputable def dictN (o : Obj) : Nat := match o.data with
  | .dict _ n => n
  | _ => 0
noncomputable def tokV (v : PySem.Value) : Nat := match v with
  | .str _ t => t
  | .int _ t => t
  | _ => 0
noncomputable def st5Of (o : Obj) (q : Obj) : St5 := ⟨kyAt o 0, kyAt o 1, kyAt o 2, kyAt o 3, tokV (valAt o 1), valAt o 3, dictN o, seqN q⟩
/-- gone on with -/
noncomputable def tl5 (P : Params) (a : Ad5) (f : Fx5) (tok ms ts : List Nat) (gl₀ : List GenState) : TailT := fun _ c' L _ _ _ gl _ =>
  .eqC c' (cL5 P a.it a.loc) (.eqG gl gl₀ (inLed a.loc L fun _ p => inLed a.lst L fun _ q => outs L (lin5 P a f (st5Of p.2 q.2) tok ms ts) .ok))
/-- ended -/
noncomputable def fn5 (P : Params) (a : Ad5) (f : Fx5) (tok : List Nat) (gl₀ : List GenState) : Result → Cont := fun r L _ _ _ gl _ => match r with
  | .ok fl => match fl with
    | .ret v => .eqV v (.str ⟨⟨tok⟩⟩ (tokV v)) (.eqG gl gl₀ (inLed a.idict L fun _ p => inLed a.lst L fun _ q => outs L (lout5 P a f (kyAt p.2 0) (tokV (valAt p.2 0)) (seqN q.2)) .ok))
    | _ => .bad 71 0
  | .error _ => .bad 72 0
noncomputable def P5 (P : Params) (a : Ad5) (f : Fx5) (tok : List Nat) (r : Result) (Lo : Led) : Prop := ∃ t i1 lt nl, r = .ok (.ret (.str ⟨⟨tok⟩⟩ t)) ∧ Lo = lout5 P a f i1 lt nl
noncomputable abbrev ks5 (a : Ad5) : List Nat := [a.loc, a.lst, a.idict, a.it, a.mt, a.inst, a.sfun, a.sdict, a.lam, a.lcode, a.cell]
noncomputable def ob5 (b b2 b3 : Bool) (w : World) (a : Ad5) (f : Fx5) (x : St5) (tok ms ts : List Nat) (d : Drawn) (os : OsState) (h : Heap) (N T : Nat) (gl : List GenState) (R : Result → Shared → Prop) (fin : Result → Cont) (hook : HookT) (tail : TailT) : Ob :=
  sim (V2 (WB w b b2 b3) h d os 360 80 (ks5 a) R fin hook tail) 1000 (cL5 w.params a.it a.loc) none .base (Dz (cL5 w.params a.it a.loc)) (lin5 w.params a f x tok ms ts) (N + 171) (T + 2349) 0 gl []
end Mine
end
-- part F5b
section
namespace Mine
noncomputable def h5a : List Nat := [4, 0, 4, 0, 4, 4, 5, 0, 0, 5, 5, 0, 0, 0, 1, 1, 0, 0, 1, 7, 0, 0, 0, 0, 7, 0, 0, 0, 7, 7, 0, 4, 8, 8, 8, 8, 0, 8, 0, 8, 8, 8, 9, 10, 0, 10, 11, 1, 1, 0, 0, 13, 5, 1, 5, 0, 5, 0, 1, 5, 1, 14, 5, 5, 5, 5, 1, 5, 3, 3, 3, 0, 0, 3, 7, 7, 0, 0, 4, 4, 4, 4, 9, 0, 0, 0, 0, 9, 0, 0, 0, 9, 9, 0, 6, 0, 0, 4, 0, 0, 4, 4, 2, 4, 4, 1, 4, 5, 4, 5, 6, 7, 8, 9, 10, 11, 12, 13, 14]
noncomputable def h5b : List Nat := [4, 0, 4, 0, 4, 4, 5, 0, 0, 5, 5, 0, 0, 0, 1, 1, 0, 0, 1, 7, 0, 0, 0, 0, 7, 0, 0, 0, 7, 7, 0, 4, 8, 8, 8, 8, 0, 8, 0, 8, 8, 8, 9, 10, 0, 10, 11, 1, 1, 0, 0, 13, 5, 1, 5, 0, 5, 0, 1, 5, 1, 14, 5, 5, 5, 5, 1, 5, 3, 3, 3, 0, 0, 3, 7, 7, 0, 0, 4, 4, 4, 4, 9, 0, 0, 0, 0, 9, 0, 0, 0, 9, 9, 0, 6, 0, 0, 4, 0, 0, 4, 9, 0, 0, 0, 9, 0, 0, 0, 9, 0, 0, 0, 0, 9, 6, 0, 0, 0, 0, 1, 1, 0, 0, 1, 10, 0, 0, 0, 0, 10, 0, 0, 0, 10, 10, 0, 7, 11, 11, 11, 11, 0, 11, 0, 11, 11, 11, 12, 13, 0, 13, 14, 1, 1, 0, 0, 16, 8, 1, 8, 0, 8, 0, 1, 8, 1, 17, 8, 8, 8, 8, 2, 8, 3, 3, 3, 0, 0, 3, 7, 7, 7, 7, 3, 7, 7, 1, 7, 8, 7, 8, 9, 10, 11, 12, 13, 14, 15, 16, 17]
noncomputable def h5c : List Nat := [4, 0, 4, 0, 4, 4, 5, 0, 0, 5, 5, 0, 0, 0, 1, 1, 0, 0, 1, 7, 0, 0, 0, 0, 7, 0, 0, 0, 7, 7, 0, 4, 8, 8, 8, 8, 0, 8, 0, 8, 8, 8, 9, 10, 0, 10, 11, 1, 1, 0, 0, 13, 5, 1, 5, 0, 5, 0, 1, 5, 1, 14, 5, 5, 5, 5, 1, 5, 3, 3, 3, 0, 0, 3, 9, 0, 0, 0, 0, 9, 0, 0, 0, 9, 9, 0, 6, 0, 0, 9, 0, 0, 0, 0, 9, 0, 0, 9, 0, 9, 0, 0, 0, 9, 0, 6, 6, 6, 3, 7, 7, 0, 0, 4, 4, 4, 4, 9, 0, 0, 0, 0, 9, 0, 0, 0, 9, 9, 0, 6, 0, 0, 4, 6, 5, 5, 6, 7, 8, 9, 10, 11, 12, 13, 14]
noncomputable def hk5a (c : Nat) (tok ms ts : List Nat) : HookT := hook2 (hookPop c ms ts) (hookAdd tok [c])
noncomputable def hk5b (c : Nat) (tok ms ts : List Nat) : HookT := hook2 (hookPop 92 (c :: ms) ts) (hook2 (hookPop c ms ts.tail) (hookAdd tok [c]))
section
variable (b b2 b3 : Bool) (w : World) (it mt loc inst idict sfun sdict lam lcode cell lst pb : Nat) (f : Fx5) (x : St5) (tok ms ts : List Nat) (d : Drawn) (os : OsState) (h : Heap) (N T : Nat) (gl : List GenState) (R : Result → Shared → Prop)
theorem ck5a {c : Nat} (hc : c ∈ [34, 97, 98, 99]) : lft (ob5 b b2 b3 w ⟨it + 171, mt + 171, loc + 171, inst + 171, idict + 171, sfun + 171, sdict + 171, lam + 171, lcode + 171, cell + 171, lst + 171, pb + 171⟩ f x tok (c :: ms) ts d os h N T gl R noFin (hk5a c tok ms ts) (tl5 w.params ⟨it + 171, mt + 171, loc + 171, inst + 171, idict + 171, sfun + 171, sdict + 171, lam + 171, lcode + 171, cell + 171, lst + 171, pb + 171⟩ f (tok ++ [c]) ms ts.tail gl)) h5a =
    rgt (ob5 b b2 b3 w ⟨it + 171, mt + 171, loc + 171, inst + 171, idict + 171, sfun + 171, sdict + 171, lam + 171, lcode + 171, cell + 171, lst + 171, pb + 171⟩ f x tok (c :: ms) ts d os h N T gl R noFin (hk5a c tok ms ts) (tl5 w.params ⟨it + 171, mt + 171, loc + 171, inst + 171, idict + 171, sfun + 171, sdict + 171, lam + 171, lcode + 171, cell + 171, lst + 171, pb + 171⟩ f (tok ++ [c]) ms ts.tail gl)) h5a := by
  simp only [List.mem_cons, List.not_mem_nil, or_false] at hc
  rcases hc with rfl | rfl | rfl | rfl <;> cases b <;> kernel_rfl
theorem ck5b {c : Nat} (hc : c ∈ [92, 34]) : lft (ob5 b b2 b3 w ⟨it + 171, mt + 171, loc + 171, inst + 171, idict + 171, sfun + 171, sdict + 171, lam + 171, lcode + 171, cell + 171, lst + 171, pb + 171⟩ f x tok (92 :: c :: ms) ts d os h N T gl R noFin (hk5b c tok ms ts) (tl5 w.params ⟨it + 171, mt + 171, loc + 171, inst + 171, idict + 171, sfun + 171, sdict + 171, lam + 171, lcode + 171, cell + 171, lst + 171, pb + 171⟩ f (tok ++ [c]) ms ts.tail.tail gl)) h5b =
    rgt (ob5 b b2 b3 w ⟨it + 171, mt + 171, loc + 171, inst + 171, idict + 171, sfun + 171, sdict + 171, lam + 171, lcode + 171, cell + 171, lst + 171, pb + 171⟩ f x tok (92 :: c :: ms) ts d os h N T gl R noFin (hk5b c tok ms ts) (tl5 w.params ⟨it + 171, mt + 171, loc + 171, inst + 171, idict + 171, sfun + 171, sdict + 171, lam + 171, lcode + 171, cell + 171, lst + 171, pb + 171⟩ f (tok ++ [c]) ms ts.tail.tail gl)) h5b := by
  simp only [List.mem_cons, List.not_mem_nil, or_false] at hc
  rcases hc with rfl | rfl <;> cases b <;> kernel_rfl
theorem ck5c : lft (ob5 b b2 b3 w ⟨it + 171, mt + 171, loc + 171, inst + 171, idict + 171, sfun + 171, sdict + 171, lam + 171, lcode + 171, cell + 171, lst + 171, pb + 171⟩ f x tok [10] ts d os h N T gl R (fn5 w.params ⟨it + 171, mt + 171, loc + 171, inst + 171, idict + 171, sfun + 171, sdict + 171, lam + 171, lcode + 171, cell + 171, lst + 171, pb + 171⟩ f tok gl) (hookPop 10 [] ts) noTail) h5c =
    rgt (ob5 b b2 b3 w ⟨it + 171, mt + 171, loc + 171, inst + 171, idict + 171, sfun + 171, sdict + 171, lam + 171, lcode + 171, cell + 171, lst + 171, pb + 171⟩ f x tok [10] ts d os h N T gl R (fn5 w.params ⟨it + 171, mt + 171, loc + 171, inst + 171, idict + 171, sfun + 171, sdict + 171, lam + 171, lcode + 171, cell + 171, lst + 171, pb + 171⟩ f tok gl) (hookPop 10 [] ts) noTail) h5c := by
  cases b <;> kernel_rfl
end
/-- a text in blocks: a sign by itself, or one behind a backslash; a line's end behind them -/
noncomputable def txtB : List (Bool × Nat) → List Nat
  | [] => []
  | (false, c) :: r => c :: txtB r
  | (true, c) :: r => 92 :: c :: txtB r
noncomputable def signsB (l : List (Bool × Nat)) : List Nat := txtB l ++ [10]
noncomputable def readB (l : List (Bool × Nat)) : List Nat := l.map (·.2)
noncomputable def OkB (p : Bool × Nat) : Prop := if p.1 then p.2 ∈ [92, 34] else p.2 ∈ [34, 97, 98, 99]
theorem txtB_length : ∀ l, (txtB l).length ≤ 2 * l.length
  | [] => Nat.le_refl _
  | (false, c) :: r => by have := txtB_length r; simp only [txtB, List.length_cons]; omega
  | (true, c) :: r => by have := txtB_length r; simp only [txtB, List.length_cons]; omega
theorem signsB_length (l : List (Bool × Nat)) : (signsB l).length ≤ 2 * l.length + 1 := by
  have := txtB_length l
  simp only [signsB, List.length_append, List.length_singleton]; omega
theorem lin5_keys (P : Params) (a : Ad5) (f : Fx5) (x : St5) (tok ms ts : List Nat) : (lin5 P a f x tok ms ts).map (·.1) = ks5 a := rfl
theorem fin5_ok {V : Ev} (S : V.Std) {N : Nat} {Lin : Led} {P : Params} {a : Ad5} {f : Fx5} (F : St0 V.w V.h₀ N) (hk : V.keys = Lin.map (·.1)) (hl : Lin.map (·.1) = ks5 a) (hn : (Lin.map (·.1)).Nodup) {tok : List Nat} {gl₀ : List GenState} {r L sz tb i gl gh h}
    (H : good (fn5 P a f tok gl₀ r L sz tb i gl gh)) (D : Rp V h L sz tb) : After V.w gl₀ V.d V.os V.h₀ N Lin (P5 P a f tok) r (sh V h tb i gl) := by
  unfold fn5 at H
  split at H
  · split at H
    · rename_i v
      obtain ⟨ev, H⟩ := eqV_of H
      obtain ⟨eg, H2⟩ := eqG_of H
      subst eg
      obtain ⟨j1, p, e1, a1, H⟩ := inLed_of H2
      obtain ⟨j2, q, e2, a2, H⟩ := inLed_of H
      obtain ⟨ho, -⟩ := outs_of H
      refine after_of S F hk D (Lout := lout5 P a f (kyAt p.2 0) (tokV (valAt p.2 0)) (seqN q.2)) ho ?_ ⟨_, _, _, _, by rw [ev], rfl⟩
      rw [hl] at hn
      exact (List.nodup_cons.mp hn).2
    · cases H
  · cases H
theorem tl5_ok {V : Ev} (S : V.Std) (hA : V.A₀ = Bn 360 80) {N : Nat} {Lin : Led} {P : Params} {a : Ad5} {f : Fx5} (F : St0 V.w V.h₀ N) (hk : V.keys = Lin.map (·.1)) (hl : Lin.map (·.1) = ks5 a) (hn : (Lin.map (·.1)).Nodup) {tok ms ts : List Nat} {gl₀ : List GenState} {Q : Result → Led → Prop}
    (hR : V.R₀ = After V.w gl₀ V.d V.os V.h₀ N Lin Q) (IH : ∀ x, Tri V.w 360 80 (cL5 P a.it a.loc) (lin5 P a f x tok ms ts) Q)
    {j c' L sz tb i gl gh h} (H : good (tl5 P a f tok ms ts gl₀ j c' L sz tb i gl gh)) (D : Rp V h L sz tb) : codeAny (md V) V.A₀ c' V.R₀ (sh V h tb i gl) := by
  unfold tl5 at H
  obtain ⟨ec, H⟩ := eqC_of H
  obtain ⟨eg, H⟩ := eqG_of H
  obtain ⟨j1, p, e1, a1, H⟩ := inLed_of H
  obtain ⟨j2, q, e2, a2, H⟩ := inLed_of H
  obtain ⟨ho, -⟩ := outs_of H
  subst ec eg
  rw [hA, hR]
  exact after_trans S F hk D (Lin1 := lin5 P a f (st5Of p.2 q.2) tok ms ts) ho hl.symm (fun _ _ h => h) (IH _) i hn
theorem loop5 (w : World) (b b2 b3 : Bool) (a : Ad5) (f : Fx5) : ∀ (bs : List (Bool × Nat)) (_ : ∀ p ∈ bs, OkB p) (tok : List Nat) (_ : tok ≠ []) (_ : tok.length + 2 * bs.length + 1 ≤ sizeLine) (ts : List Nat) (x : St5),
    Tri (WB w b b2 b3) 360 80 (cL5 w.params a.up.it a.up.loc) (lin5 w.params a.up f x tok (signsB bs) ts) (P5 w.params a.up f (tok ++ readB bs))
  | [], _, tok, ht, hl, ts, x => fun d os h N T gl F I => by
    obtain ⟨it, mt, loc, inst, idict, sfun, sdict, lam, lcode, cell, lst, pb⟩ := a
    rw [show tok ++ readB [] = tok from List.append_nil _]
    let a : Ad5 := ⟨it + 171, mt + 171, loc + 171, inst + 171, idict + 171, sfun + 171, sdict + 171, lam + 171, lcode + 171, cell + 171, lst + 171, pb + 171⟩
    let V := V2 (WB w b b2 b3) h d os 360 80 (ks5 a) (After (WB w b b2 b3) gl d os h N (lin5 w.params a f x tok [10] ts) (P5 w.params a f tok)) (fn5 w.params a f tok gl) (hookPop 10 [] ts) noTail
    have S : V.Std := V2_std
    have O : V.Ok := V2_ok (fun r L sz tb i gl' gh h' H D => fin5_ok (V := V) S F rfl rfl I.nodup H D) (hookPop_ok (by decide)) (fun _ _ _ _ _ _ _ _ _ H _ => by cases H)
    exact code_run (V := V) O (tb := T + 2349) (i := 0) 1000 h5c (ck5c b b2 b3 w it mt loc inst idict sfun sdict lam lcode cell lst pb f x tok ts d os h N T gl _) (Rp.startL S F I rfl)
  | (false, c) :: bs, hb, tok, ht, hl, ts, x => fun d os h N T gl F I => by
    have IH := loop5 w b b2 b3 a f bs (fun p hp => hb p (.tail _ hp)) (tok ++ [c]) (by simp) (by rw [List.length_append, List.length_singleton]; rw [List.length_cons] at hl; omega) ts.tail
    have hc : c ∈ [34, 97, 98, 99] := hb _ (.head _)
    have hs := signsB_length bs
    rw [List.length_cons] at hl
    obtain ⟨it, mt, loc, inst, idict, sfun, sdict, lam, lcode, cell, lst, pb⟩ := a
    rw [show tok ++ readB ((false, c) :: bs) = (tok ++ [c]) ++ readB bs by rw [List.append_assoc]; rfl]
    let a : Ad5 := ⟨it + 171, mt + 171, loc + 171, inst + 171, idict + 171, sfun + 171, sdict + 171, lam + 171, lcode + 171, cell + 171, lst + 171, pb + 171⟩
    let V := V2 (WB w b b2 b3) h d os 360 80 (ks5 a) (After (WB w b b2 b3) gl d os h N (lin5 w.params a f x tok (c :: signsB bs) ts) (P5 w.params a f ((tok ++ [c]) ++ readB bs))) noFin (hk5a c tok (signsB bs) ts) (tl5 w.params a f (tok ++ [c]) (signsB bs) ts.tail gl)
    have S : V.Std := V2_std
    have O : V.Ok := V2_ok (fun _ _ _ _ _ _ _ _ H _ => by cases H) (hook2_ok (hookPop_ok (by omega)) (hookAdd_ok ht (by simp) (by rw [List.length_append, List.length_singleton]; omega)))
      (fun j c' L sz tb i gl' gh h' H D => tl5_ok (V := V) S rfl F rfl rfl I.nodup rfl IH H D)
    exact code_run (V := V) O (tb := T + 2349) (i := 0) 1000 h5a (ck5a b b2 b3 w it mt loc inst idict sfun sdict lam lcode cell lst pb f x tok (signsB bs) ts d os h N T gl _ hc) (Rp.startL S F I rfl)
  | (true, c) :: bs, hb, tok, ht, hl, ts, x => fun d os h N T gl F I => by
    have IH := loop5 w b b2 b3 a f bs (fun p hp => hb p (.tail _ hp)) (tok ++ [c]) (by simp) (by rw [List.length_append, List.length_singleton]; rw [List.length_cons] at hl; omega) ts.tail.tail
    have hc : c ∈ [92, 34] := hb _ (.head _)
    have hs := signsB_length bs
    rw [List.length_cons] at hl
    obtain ⟨it, mt, loc, inst, idict, sfun, sdict, lam, lcode, cell, lst, pb⟩ := a
    rw [show tok ++ readB ((true, c) :: bs) = (tok ++ [c]) ++ readB bs by rw [List.append_assoc]; rfl]
    let a : Ad5 := ⟨it + 171, mt + 171, loc + 171, inst + 171, idict + 171, sfun + 171, sdict + 171, lam + 171, lcode + 171, cell + 171, lst + 171, pb + 171⟩
    let V := V2 (WB w b b2 b3) h d os 360 80 (ks5 a) (After (WB w b b2 b3) gl d os h N (lin5 w.params a f x tok (92 :: c :: signsB bs) ts) (P5 w.params a f ((tok ++ [c]) ++ readB bs))) noFin (hk5b c tok (signsB bs) ts) (tl5 w.params a f (tok ++ [c]) (signsB bs) ts.tail.tail gl)
    have S : V.Std := V2_std
    have O : V.Ok := V2_ok (fun _ _ _ _ _ _ _ _ H _ => by cases H) (hook2_ok (hookPop_ok (by rw [List.length_cons]; omega)) (hook2_ok (hookPop_ok (by omega)) (hookAdd_ok ht (by simp) (by rw [List.length_append, List.length_singleton]; omega))))
      (fun j c' L sz tb i gl' gh h' H D => tl5_ok (V := V) S rfl F rfl rfl I.nodup rfl IH H D)
    exact code_run (V := V) O (tb := T + 2349) (i := 0) 1000 h5b (ck5b b b2 b3 w it mt loc inst idict sfun sdict lam lcode cell lst pb f x tok (signsB bs) ts d os h N T gl _ hc) (Rp.startL S F I rfl)
end Mine
end
-- part F6a
section
namespace Mine
noncomputable def fieldAt (o : Obj) (k : Nat) : PySem.Value := match o.data with
  | .fields ⟨l⟩ => l.getD k .none
  | _ => .none
noncomputable def fieldsFrom (o : Obj) (k : Nat) : List PySem.Value := match o.data with
  | .fields ⟨l⟩ => l.drop k
  | _ => []
noncomputable def fdOf (o : Obj) : FuncData := match o.data with
  | .func fd => fd
  | _ => default
noncomputable def dictOf (o : Obj) : Nat := o.dict.getD 0
noncomputable def cellOf (o : Obj) : Nat := match o.data with
  | .cell (some v) => nAt v
  | _ => 0
noncomputable def firstCell (fd : FuncData) : Nat := match fd.closure with
  | (_, a) :: _ => a
  | [] => 0
noncomputable def strV (v : PySem.Value) : Str := match v with
  | .str s _ => s
  | _ => ⟨⟨[]⟩⟩
noncomputable def cIt5 (c : Code) : Nat := match c with
  | .forLoop _ it _ _ _ => nAt it
  | _ => 0
noncomputable def cLoc5 (c : Code) : Nat := match c with
  | .forLoop _ _ _ _ env => env.locals
  | _ => 0
structure X5 where
  (a : Ad5) (f : Fx5) (x : St5) (ts : List Nat)
noncomputable def get5 (c : Code) (L : Led) (gh : List PySem.Value) (k : X5 → Ob) : Ob :=
  inLed (cLoc5 c) L fun _ pl => inLed (cIt5 c) L fun _ pi => inLed (nAt (valAt pl.2 0)) L fun _ pin => inLed (dictOf pin.2) L fun _ pid => inLed (nAt (valAt pid.2 1)) L fun _ psf =>
  inLed (dictOf psf.2) L fun _ psd => inLed (nAt (valAt psd.2 0)) L fun _ plam => inLed (nAt (fdOf plam.2).code) L fun _ plc => inLed (firstCell (fdOf plam.2)) L fun _ pc => inLed (cellOf pc.2) L fun _ ps =>
  k ⟨⟨cIt5 c, nAt (fieldAt pi.2 0), cLoc5 c, nAt (valAt pl.2 0), dictOf pin.2, nAt (valAt pid.2 1), dictOf psf.2, nAt (valAt psd.2 0), nAt (fdOf plam.2).code, firstCell (fdOf plam.2), cellOf pc.2, nAt (valAt pid.2 3)⟩,
    ⟨tokV (fieldAt pi.2 1), tokV (valAt pid.2 2), kyAt pid.2 0, kyAt pid.2 1, kyAt pid.2 2, kyAt pid.2 3, kyAt psd.2 0, dictN psd.2, tokV (valAt pid.2 0), fdOf psf.2, fdOf plam.2, fieldAt plc.2 0, strV (fieldAt plc.2 1), tokV (fieldAt plc.2 1), fieldsFrom plc.2 2⟩,
    st5Of pl.2 ps.2, tsG gh⟩
theorem get5_ok (c : Code) (L : Led) (gh : List PySem.Value) (k : X5 → Ob) (H : good (get5 c L gh k)) : ∃ x, good (k x) := by
  unfold get5 at H
  iterate 10 (obtain ⟨_, _, _, _, H⟩ := inLed_of H)
  exact ⟨_, H⟩
noncomputable def after5 (P : Params) (tok : List Nat) (x : X5) (k : Result → Led → List PySem.Value → Ob) : Ob :=
  .allN fun t => .allI fun h => .allN fun kt => .allN fun lt => .allN fun nl => k (.ok (.ret (.str ⟨⟨tok⟩⟩ t))) (lout5 P x.a x.f (h, kt) lt nl) []
noncomputable def hook5 (P : Params) (tok : List Nat) (bs : List (Bool × Nat)) : HookT :=
  hookTri 360 80 get5 (fun x => cL5 P x.a.it x.a.loc) (fun x => lin5 P x.a x.f x.x tok (signsB bs) x.ts) (fun x => x.a.high) (after5 P (tok ++ readB bs))
theorem hook5_ok {V : Ev} (S : V.Std) {w : World} {b b2 b3 : Bool} (hw : V.w = WB w b b2 b3) {tok : List Nat} {bs : List (Bool × Nat)} (hb : ∀ p ∈ bs, OkB p) (ht : tok ≠ []) (hl : tok.length + 2 * bs.length + 1 ≤ sizeLine) : HookOk V (hook5 w.params tok bs) := by
  refine hookTri_ok S (fun x r Lo => P5 w.params x.a x.f (tok ++ readB bs) r Lo) get5_ok (fun x k r Lo hP H => ?_) fun x hx => ?_
  · obtain ⟨t, i1, lt, nl, rfl, rfl⟩ := hP
    exact ⟨[], H t i1.1 i1.2 lt nl⟩
  · rw [hw]
    have := loop5 w b b2 b3 x.a.down x.f bs hb tok ht hl x.ts x.x
    rw [Ad5.high_up hx] at this
    exact this
end Mine
end
-- part F7a
section
namespace Mine
/-! the last look of the reader: nothing is left -/
noncomputable def cRd (a : Ad5) : Code := .call (.ref a.mt) ⟨[], []⟩
noncomputable def fnRd (P : Params) (a : Ad5) (f : Fx5) (i1 : Ky) (lt nl : Nat) (gl₀ : List GenState) : Result → Cont := fun r L _ _ _ gl _ => match r with
  | .ok fl => match fl with
    | .ret v => .eqV v (.str ⟨⟨[]⟩⟩ (tokV v)) (.eqG gl gl₀ (outs L (lout5 P a f i1 lt nl) .ok))
    | _ => .bad 71 0
  | .error _ => .bad 72 0
noncomputable def PRd (P : Params) (a : Ad5) (f : Fx5) (i1 : Ky) (lt nl : Nat) (r : Result) (Lo : Led) : Prop := ∃ t, r = .ok (.ret (.str ⟨⟨[]⟩⟩ t)) ∧ Lo = lout5 P a f i1 lt nl
noncomputable def obRd (b b2 b3 : Bool) (w : World) (a : Ad5) (f : Fx5) (i1 : Ky) (lt nl : Nat) (d : Drawn) (os : OsState) (h : Heap) (N T : Nat) (gl : List GenState) (R : Result → Shared → Prop) : Ob :=
  sim (V2 (WB w b b2 b3) h d os 360 80 ((lout5 w.params a f i1 lt nl).map (·.1)) R (fnRd w.params a f i1 lt nl gl) noHook noTail) 1000 (cRd a) none .base (goF (cRd a) (Bn 360 80)) (lout5 w.params a f i1 lt nl) (N + 171) (T + 2349) 0 gl []
end Mine
end
-- part F7b
section
namespace Mine
noncomputable def hRd : List Nat := [4, 4, 0, 0, 0, 1, 1, 0, 0, 1, 6, 0, 0, 0, 0, 6, 0, 0, 0, 6, 6, 0, 3, 7, 7, 7, 7, 0, 7, 0, 7, 7, 7, 8, 9, 0, 9, 10, 1, 1, 0, 0, 12, 4, 1, 4, 0, 4, 0, 1, 4, 1, 0, 4, 1, 4, 1, 3, 3, 3, 0, 0, 3, 4, 5, 6, 7, 8, 9, 10, 11, 12, 13]
theorem ckRd (b b2 b3 : Bool) (w : World) (it mt loc inst idict sfun sdict lam lcode cell lst pb : Nat) (f : Fx5) (i1 : Ky) (lt nl : Nat) (d : Drawn) (os : OsState) (h : Heap) (N T : Nat) (gl : List GenState) (R : Result → Shared → Prop) :
    lft (obRd b b2 b3 w ⟨it + 171, mt + 171, loc + 171, inst + 171, idict + 171, sfun + 171, sdict + 171, lam + 171, lcode + 171, cell + 171, lst + 171, pb + 171⟩ f i1 lt nl d os h N T gl R) hRd =
    rgt (obRd b b2 b3 w ⟨it + 171, mt + 171, loc + 171, inst + 171, idict + 171, sfun + 171, sdict + 171, lam + 171, lcode + 171, cell + 171, lst + 171, pb + 171⟩ f i1 lt nl d os h N T gl R) hRd := by cases b <;> kernel_rfl
theorem rdE (w : World) (b b2 b3 : Bool) (a : Ad5) (f : Fx5) (i1 : Ky) (lt nl : Nat) : Tri (WB w b b2 b3) 360 80 (cRd a.up) (lout5 w.params a.up f i1 lt nl) (PRd w.params a.up f i1 lt nl) := fun d os h N T gl F I => by
  obtain ⟨it, mt, loc, inst, idict, sfun, sdict, lam, lcode, cell, lst, pb⟩ := a
  let a : Ad5 := ⟨it + 171, mt + 171, loc + 171, inst + 171, idict + 171, sfun + 171, sdict + 171, lam + 171, lcode + 171, cell + 171, lst + 171, pb + 171⟩
  let V := V2 (WB w b b2 b3) h d os 360 80 ((lout5 w.params a f i1 lt nl).map (·.1)) (After (WB w b b2 b3) gl d os h N (lout5 w.params a f i1 lt nl) (PRd w.params a f i1 lt nl)) (fnRd w.params a f i1 lt nl gl) noHook noTail
  have S : V.Std := V2_std
  have hn := I.nodup
  have O : V.Ok := V2_ok (fun r L sz tb i gl' gh h' H D => by
    unfold fnRd at H
    split at H
    · split at H
      · rename_i v
        obtain ⟨ev, H⟩ := eqV_of H
        obtain ⟨eg, H2⟩ := eqG_of H
        subst eg
        obtain ⟨ho, -⟩ := outs_of H2
        exact after_of (V := V) S F rfl D (Lout := lout5 w.params a f i1 lt nl) ho hn ⟨_, by rw [ev], rfl⟩
      · cases H
    · cases H) (noHook_ok _) (fun _ _ _ _ _ _ _ _ _ H _ => by cases H)
  exact code_go (V := V) O (tb := T + 2349) (i := 0) 1000 hRd (ckRd b b2 b3 w it mt loc inst idict sfun sdict lam lcode cell lst pb f i1 lt nl d os h N T gl _) (Rp.startL S F I rfl)
theorem owner_cit : Manifest.owners.lookup (String.ofList ['r', 'o', 't', 'a', 'r', 'e', 't', 'i', '_', 'e', 'l', 'b', 'a', 'l', 'l', 'a', 'c'].reverse) = some Manifest.sig_callable_iterator := by kernel_rfl
theorem slot_cit : Slot "callable_iterator" "__next__" "callable_iterator.__next__" :=
  .of (owner := "callable_iterator") (n := "__next__") (by rw [typeLookup_type, builtinLookup_eq_fast]; kernel_rfl) (by decide +kernel) (by decide +kernel) (by decide +kernel)
    (by first | exact .inl (by decide +kernel) | exact .inr (by decide +kernel)) (by rw [isSubtype_type]; kernel_rfl)
theorem entry_cit : entryFor table "callable_iterator.__next__" = some Builtin.«callable_iterator.__next__» := entryFor_of_tree (by kernel_rfl)
theorem args_cit (a : PySem.Value) : argsOk "callable_iterator.__next__" ⟨[a], []⟩ := by
  unfold argsOk; rw [signature?_of (id := "callable_iterator.__next__") (n := ['_', '_', 't', 'x', 'e', 'n', '_', '_']) (o := ['r', 'o', 't', 'a', 'r', 'e', 't', 'i', '_', 'e', 'l', 'b', 'a', 'l', 'l', 'a', 'c']) (by kernel_rfl) owner_cit]; kernel_rfl
theorem wpAny_borrows {M : Model} {A : Around} {E : PySem.Value → Shared → Prop} {s : Shared} {m f : Nat} {vs : Array PySem.Value} {Q : Bool → Shared → Prop} {o : Obj} {fd : FuncData} (hm : s.heap.get? m = some ⟨.type "method", none, .fields vs, #[]⟩) (hv : vs.getD 0 .none = .ref f) (hf : s.heap.get? f = some o) (ho : o.data = .func fd) (h : Q true s) :
    wpAny M A (borrowsExactly (.ref m)) Q E s := by
  unfold borrowsExactly
  refine wpAny_bind (wpAny_load hm ?_)
  show wpAny M A (if (PySem.Value.type "method" == PySem.Value.type "method") = true then _ else _) Q E s
  rw [if_pos (by simp)]
  show wpAny M A (match vs.getD 0 .none with
    | .ref b => do
      match (← load b).data with
      | .func _ => pure true
      | _ => pure false
    | _ => pure false) Q E s
  rw [hv]
  refine wpAny_bind (wpAny_load hf ?_)
  rw [ho]
  exact wpAny_pure h
end Mine
end
-- part F7c
section
namespace Mine
structure X7 where
  (a : Ad5) (f : Fx5) (i1 : Ky) (lt nl : Nat)
noncomputable def get7 (c : Code) (L : Led) (k : X7 → Ob) : Ob :=
  inLed (argRV c).1 L fun _ pi => inLed (nAt (fieldAt pi.2 0)) L fun _ pm => inLed (nAt (fieldAt pm.2 1)) L fun _ pin => inLed (dictOf pin.2) L fun _ pid => inLed (nAt (valAt pid.2 1)) L fun _ psf =>
  inLed (dictOf psf.2) L fun _ psd => inLed (nAt (valAt psd.2 0)) L fun _ plam => inLed (nAt (fdOf plam.2).code) L fun _ plc => inLed (firstCell (fdOf plam.2)) L fun _ pc => inLed (cellOf pc.2) L fun _ ps =>
  k ⟨⟨(argRV c).1, nAt (fieldAt pi.2 0), (argRV c).1, nAt (fieldAt pm.2 1), dictOf pin.2, nAt (valAt pid.2 1), dictOf psf.2, nAt (valAt psd.2 0), nAt (fdOf plam.2).code, firstCell (fdOf plam.2), cellOf pc.2, nAt (valAt pid.2 3)⟩,
    ⟨tokV (fieldAt pi.2 1), tokV (valAt pid.2 2), kyAt pid.2 0, kyAt pid.2 1, kyAt pid.2 2, kyAt pid.2 3, kyAt psd.2 0, dictN psd.2, tokV (valAt pid.2 0), fdOf psf.2, fdOf plam.2, fieldAt plc.2 0, strV (fieldAt plc.2 1), tokV (fieldAt plc.2 1), fieldsFrom plc.2 2⟩,
    kyAt pid.2 0, tokV (valAt pid.2 0), seqN ps.2⟩
theorem get7_ok {c : Code} {L : Led} {k : X7 → Ob} (H : good (get7 c L k)) : ∃ x, good (k x) := by
  unfold get7 at H
  iterate 10 (obtain ⟨_, _, _, _, H⟩ := inLed_of H)
  exact ⟨_, H⟩
noncomputable def citEnded : Obj := ⟨.type "callable_iterator", none, .fields ⟨[.none, .none, .bool true]⟩, #[]⟩
/-- the reader's iterator, nothing left: it ends -/
noncomputable def hookCit (P : Params) : HookT := fun _ c A cont L _ _ _ gl gh => match inB A 350 75 with
  | true => get7 c L fun x => match x.a.high with
    | true => .eqC c (.call (.builtin "callable_iterator.__next__") ⟨[.ref x.a.it], []⟩) (pickL L (lout5 P x.a x.f x.i1 x.lt x.nl) fun rest => .allN fun N' => .allN fun T' =>
        cont (.error (.ref (N' + 171 + 1))) ((N' + 171 + 1, stopObj (N' + 171)) :: (N' + 171, noTuple) :: ledSet (lout5 P x.a x.f x.i1 x.lt x.nl ++ rest) 2 citEnded) (N' + 171 + 1 + 1) (T' + 2349) 0 gl gh)
    | false => .bad 92 0
  | false => .bad 80 0
theorem cit_end (mt t0 : Nat) : Obj.mapFields (·.setIfInBounds 2 (.bool true)) (Obj.mapFields (·.setIfInBounds 1 .none) (Obj.mapFields (·.setIfInBounds 0 .none) ⟨.type "callable_iterator", none, .fields ⟨[.ref mt, .str ⟨⟨[]⟩⟩ t0, .bool false]⟩, #[]⟩)) = citEnded := by
  simp [Obj.mapFields, citEnded]
theorem fd56 (P : Params) : ∃ o fd, (ktop P).get 56 = some o ∧ o.data = .func fd := ⟨_, fdAt P 56, by with_unfolding_all rfl, by with_unfolding_all rfl⟩
theorem hookCit_ok {V : Ev} (S : V.Std) {w : World} {b b2 b3 : Bool} (hw : V.w = WB w b b2 b3) : HookOk V (hookCit w.params) := by
  intro j c A g l cont L sz tb i gl gh h H D
  unfold hookCit at H
  split at H
  · rename_i hA
    obtain ⟨x, H⟩ := get7_ok H
    split at H
    · rename_i hx
      obtain ⟨ec, H⟩ := eqC_of H
      obtain ⟨rest, hp, H⟩ := pickL_of H
      rw [ec]
      obtain ⟨h0, hd, hu⟩ := inB_of hA
      have hn : ((lout5 w.params x.a x.f x.i1 x.lt x.nl).map (·.1) ++ rest.map (·.1)).Nodup := by
        rw [← List.map_append]
        exact (hp.map _).nodup_iff.mp D.nodup
      have hL : ∀ p ∈ lout5 w.params x.a x.f x.i1 x.lt x.nl, p ∈ L := fun p h => hp.mem_iff.mpr (List.mem_append.mpr (.inl h))
      have hit := D.own _ (hL _ (.tail _ (.tail _ (.head _))))
      have hmt := D.own _ (hL _ (.tail _ (.tail _ (.tail _ (.head _)))))
      obtain ⟨o56, fd, ho56, hfd⟩ := fd56 V.w.params
      have h56 : h.get? 56 = some o56 := D.top _ _ (S.kt ▸ ho56)
      have tri := rdE w b b2 b3 x.a.down x.f x.i1 x.lt x.nl
      rw [Ad5.high_up hx, ← hw] at tri
      refine call_any (wpAny_call_entry slot_cit ⟨_, hit, rfl⟩ entry_cit ?_ (args_cit _))
      show wpAny _ _ (field (.ref x.a.it) 2 >>= _) _ _ _
      refine wpAny_bind (wpAny_field hit rfl (x := .bool false) rfl ?_)
      show wpAny _ _ (field (.ref x.a.it) 0 >>= _) _ _ _
      refine wpAny_bind (wpAny_field hit rfl (x := .ref x.a.mt) rfl ?_)
      refine wpAny_bind (wpAny_attempt ?_)
      unfold callOutOfASlot
      refine wpAny_bind (wpAny_borrows hmt rfl h56 hfd ?_)
      have hB : inB A.in1 360 80 = true := by
        show (match A.handled with | none => Nat.ble A.depth 360 && Nat.ble (A.units + 1) 80 | some _ => false) = true
        rw [h0]
        exact Bool.and_eq_true_iff.mpr ⟨Nat.ble_eq.mpr (by omega), Nat.ble_eq.mpr (by omega)⟩
      show wpAny _ _ ((Sem.call (cRd x.a) none false [borrowed] .pure : Sem Result) >>= fun r => match r with
        | .ok (.ret v) => .pure v
        | .ok _ => .unsupported "internal:call-without-return-value"
        | .error e => .raise e) _ _ _
      refine wpAny_bind (wpAny_mono (call_B hB (tri_rp S tri hL (fun p h => hp.mem_iff.mpr (List.mem_append.mpr (.inr h))) hn D)) (fun r s' y => ?_) fun _ _ h => h.elim)
      obtain ⟨Lo, N', T', h', ⟨t, rfl, rfl⟩, rfl, D'⟩ := y
      refine wpAny_pure ?_
      have hL' : ∀ p ∈ lout5 w.params x.a x.f x.i1 x.lt x.nl, h'.get? p.1 = some p.2 := fun p h => D'.own p (List.mem_append.mpr (.inl h))
      have hit' := hL' _ (.tail _ (.tail _ (.head _)))
      have hmt' := hL' _ (.tail _ (.tail _ (.tail _ (.head _))))
      have h56' : h'.get? 56 = some o56 := D'.top _ _ (S.kt ▸ ho56)
      show wpAny _ _ (field (.ref x.a.it) 2 >>= _) _ _ _
      refine wpAny_bind (wpAny_field hit' rfl (x := .bool false) rfl ?_)
      show wpAny _ _ (field (.ref x.a.it) 1 >>= fun y => holding [.str ⟨⟨[]⟩⟩ t] (eqBool y (.str ⟨⟨[]⟩⟩ t)) >>= _) _ _ _
      refine wpAny_bind (wpAny_field hit' rfl (x := .str ⟨⟨[]⟩⟩ x.f.t0) rfl ?_)
      refine wpAny_bind (wpAny_holding (wpAny_eqBool_str ?_))
      rw [decide_eq_true rfl]
      show wpAny _ _ (rule _ >>= _) _ _ _
      refine wpAny_bind (wpAny_rule ?_)
      show wpAny _ _ ((field (.ref x.a.it) 0 >>= fun y => slotLetsGo "callable_iterator.__next__" y (fun c => match c with | .builtin "callable_iterator.__next__" z => z.pos.head? == some (.ref x.a.it) | _ => false) >>= fun _ => setField (.ref x.a.it) 0 .none >>= fun _ => setField (.ref x.a.it) 1 .none >>= fun _ => setField (.ref x.a.it) 2 (.bool true)) >>= _) _ _ _
      refine wpAny_bind (wpAny_bind (wpAny_field hit' rfl (x := .ref x.a.mt) rfl ?_))
      refine wpAny_bind ?_
      unfold slotLetsGo
      refine wpAny_bind (wpAny_borrows hmt' rfl h56' hfd ?_)
      show wpAny _ _ (pure ()) _ _ _
      refine wpAny_pure ?_
      have D1 := D'.up (j := 2) rfl (Obj.mapFields (·.setIfInBounds 0 .none)) rfl
      refine wpAny_bind (wpAny_setField hit' rfl (by simp) ?_)
      have it1 := D1.own (x.a.it, _) (ledAt_mem (i := 2) rfl)
      have D2 := D1.up (j := 2) rfl (Obj.mapFields (·.setIfInBounds 1 .none)) rfl
      refine wpAny_bind (wpAny_setField it1 rfl (by simp) ?_)
      have it2 := D2.own (x.a.it, _) (ledAt_mem (i := 2) rfl)
      have D3 := D2.up (j := 2) rfl (Obj.mapFields (·.setIfInBounds 2 (.bool true))) rfl
      refine wpAny_setField it2 rfl (by simp) ?_
      show wpAny _ _ (newExc (.type "StopIteration") [] >>= _) _ _ _
      refine wpAny_bind ?_
      simp only [newExc, newTuple]
      refine wpAny_bind (wpAny_newObj_type ?_ (by size_fits))
      refine wpAny_bind (m := firstArgMember _ _) (wpAny_of_eq (a := PySem.Value.none) (by first | rfl | (simp only [firstArgMember]; rfl)) ?_)
      refine wpAny_newObj_type ?_ (by size_fits)
      simp only [raiseNew]
      refine wpAny_bind (wpAny_handled ?_)
      rw [show A.in1.handled = none from h0]
      refine wpAny_bind (wpAny_pure (wpAny_throw ?_))
      have D3' : Rp V (((h'.update x.a.it (Obj.mapFields (·.setIfInBounds 0 .none))).update x.a.it (Obj.mapFields (·.setIfInBounds 1 .none))).update x.a.it (Obj.mapFields (·.setIfInBounds 2 (.bool true)))) (ledSet (lout5 w.params x.a x.f x.i1 x.lt x.nl ++ rest) 2 citEnded) (N' + 171) (T' + 2349) := by
        rw [← cit_end x.a.mt x.f.t0]; exact D3
      have D4 := D3'.new (Std.low S) (o := noTuple) rfl
      have D5 := D4.new (Std.low S) (o := stopObj (N' + 171)) rfl
      have es := D3'.size
      have es2 := D4.size
      refine ⟨(N' + 171 + 1, stopObj (N' + 171)) :: (N' + 171, noTuple) :: ledSet (lout5 w.params x.a x.f x.i1 x.lt x.nl ++ rest) 2 citEnded, N' + 171 + 1 + 1, T' + 2349, 0, gl, gh, _, rfl, ?_, ?_⟩
      · show Rp V ((_ : Heap).push (stopObj (((h'.update x.a.it (Obj.mapFields (·.setIfInBounds 0 .none))).update x.a.it (Obj.mapFields (·.setIfInBounds 1 .none))).update x.a.it (Obj.mapFields (·.setIfInBounds 2 (.bool true)))).objs.size)) _ _ _
        rw [es]; exact D5
      · exact Eq.subst (motive := fun z => good (cont (.error (.ref z)) ((N' + 171 + 1, stopObj (N' + 171)) :: (N' + 171, noTuple) :: ledSet (lout5 w.params x.a x.f x.i1 x.lt x.nl ++ rest) 2 citEnded) (N' + 171 + 1 + 1) (T' + 2349) 0 gl gh)) es2.symm (H N' T')
    · cases H
  · cases H
end Mine
end
-- part F6b
section
namespace Mine
noncomputable abbrev ag6 (bs : List (Bool × Nat)) (t : Nat) : Args := ⟨[.str ⟨⟨120 :: txtB bs⟩⟩ t], []⟩
noncomputable abbrev c6 (bs : List (Bool × Nat)) (t : Nat) : Code := .call (.ref 148) (ag6 bs t)
noncomputable def hk6 (P : Params) (bs : List (Bool × Nat)) : HookT := hook2 (hookAdd (120 :: txtB bs) [10]) (hook2 (hookList (120 :: signsB bs)) (hook2 (hookPopG 120 (signsB bs)) (hook2 (hook5 P [120] bs) (hookCit P))))
/-- a code object, as far as it is asked -/
structure Cd where
  (v0 : PySem.Value) (q : Str) (tq : Nat) (vs : List PySem.Value)
noncomputable def cdObj (x : Cd) : Obj := ⟨.type "code", none, .fields ⟨x.v0 :: .str x.q x.tq :: x.vs⟩, #[]⟩
noncomputable def cdOf (o : Obj) : Cd := ⟨fieldAt o 0, strV (fieldAt o 1), tokV (fieldAt o 1), fieldsFrom o 2⟩
noncomputable def tab6 (c1 c2 : Nat) : Obj := ⟨.none, none, .fields ⟨[.int 93 0, .int 13 0, .ref c1, .int 94 0, .int 18 0, .ref c2]⟩, #[]⟩
noncomputable def tab0 : Obj := ⟨.none, none, .fields ⟨[]⟩, #[]⟩
noncomputable def lin6 (c1 c2 : Nat) (x1 x2 : Cd) : Led := [(143, tab6 c1 c2), (c1, cdObj x1), (c2, cdObj x2)]
noncomputable def fn6 (bs : List (Bool × Nat)) (gl₀ : List GenState) : Result → Cont := fun r L _ _ _ gl _ => match r with
  | .ok fl => match fl with
    | .ret v => .eqV v (.str ⟨⟨120 :: readB bs⟩⟩ (tokV v)) (.eqG gl gl₀ (inLed 143 L fun _ p => inLed (nAt (fieldAt p.2 2)) L fun _ q1 => inLed (nAt (fieldAt p.2 5)) L fun _ q2 =>
        pickL L (lin6 (nAt (fieldAt p.2 2)) (nAt (fieldAt p.2 5)) (cdOf q1.2) (cdOf q2.2)) fun _ => .ok))
    | _ => .bad 71 0
  | .error _ => .bad 72 0
noncomputable def P6 (bs : List (Bool × Nat)) (r : Result) (Lo : Led) : Prop := ∃ t c1 c2 x1 x2, r = .ok (.ret (.str ⟨⟨120 :: readB bs⟩⟩ t)) ∧ Lo = lin6 c1 c2 x1 x2
noncomputable def ob6 (b b2 b3 : Bool) (w : World) (keys : List Nat) (L : Led) (bs : List (Bool × Nat)) (t : Nat) (d : Drawn) (os : OsState) (h : Heap) (N T : Nat) (gl : List GenState) (R : Result → Shared → Prop) : Ob :=
  sim (V2 (WB w b b2 b3) h d os 330 40 keys R (fn6 bs gl) (hk6 w.params bs) noTail) 4000 (c6 bs t) none .base (goF (c6 bs t) (Bn 330 40)) L (N + 171) (T + 2349) 0 gl []
end Mine
end
-- part F6c
section
namespace Mine
noncomputable def h6a : List Nat := [0, 0, 2, 2, 0, 0, 0, 0, 2, 1, 2, 2, 2, 0, 4, 10, 10, 10, 0, 0, 0, 10, 10, 0, 12, 18, 18, 18, 0, 0, 0, 18, 9, 0, 9, 0, 9, 9, 9, 10, 1, 1, 1, 0, 19, 0, 0, 0, 0, 0, 0, 0, 0, 0, 0, 0, 0, 0, 0, 0, 0, 0, 0, 0, 0, 0, 0, 0, 0, 0, 0, 0, 0, 0, 0, 0, 0, 0, 0, 1, 0, 1, 0, 0, 0, 0, 0, 0, 0, 1, 1, 1, 1, 0, 0, 1, 2, 0, 0, 0, 0, 2, 0, 0, 2, 0, 2, 0, 0, 0, 2, 0, 3, 3, 3, 1, 1, 2, 0, 0, 0, 0, 2, 0, 0, 2, 0, 2, 0, 0, 0, 2, 0, 3, 3, 3, 1, 2, 0, 0, 0, 0, 2, 0, 0, 2, 0, 2, 0, 0, 0, 2, 0, 3, 3, 3, 2, 3, 0, 0, 0, 0, 3, 0, 0, 3, 0, 3, 0, 0, 0, 3, 0, 4, 4, 4, 23, 23, 23, 3, 0, 0, 0, 3, 0, 0, 0, 3, 0, 0, 0, 0, 3, 4, 0, 0, 0, 0, 1, 1, 0, 0, 1, 4, 0, 0, 0, 0, 4, 0, 0, 0, 4, 4, 0, 5, 2, 2, 0, 2, 0, 2, 0, 2, 1, 1, 0, 0, 1, 4, 0, 0, 0, 0, 4, 0, 0, 0, 0, 0, 0, 4, 4, 0, 5, 0, 0, 0, 0, 0, 0, 0, 0, 1, 3, 3, 3, 1, 1, 0, 1, 0, 1, 0, 1, 0, 1, 0, 1, 1, 2, 0, 0, 2, 2, 0, 0, 0, 1, 1, 0, 0, 1, 7, 0, 0, 0, 0, 7, 0, 0, 0, 7, 7, 0, 8, 18, 18, 18, 18, 0, 18, 0, 18, 18, 18, 9, 10, 0, 10, 11, 1, 1, 0, 0, 27, 27, 1, 27, 0, 27, 0, 1, 27, 1, 28, 27, 27, 27, 27, 3, 27, 3, 3, 3, 0, 0, 3, 4, 4, 0, 0, 6, 6, 6, 6, 9, 0, 0, 0, 0, 9, 0, 0, 0, 9, 9, 0, 10, 0, 0, 6, 0, 0, 6, 0, 0, 6, 6, 0, 0, 6, 6, 6, 4, 4, 0, 4, 0, 4, 4, 6, 4, 9, 10, 20, 11, 12, 13, 28, 27, 6, 26, 9, 4, 4, 6, 15, 6, 6, 6, 18, 28, 28, 28, 5, 0, 0, 0, 5, 0, 0, 0, 5, 0, 0, 0, 0, 5, 2, 0, 0, 0, 0, 1, 1, 0, 0, 1, 6, 0, 0, 0, 0, 6, 0, 0, 0, 6, 6, 0, 3, 15, 15, 0, 15, 0, 15, 0, 15, 1, 1, 0, 0, 1, 6, 0, 0, 0, 0, 6, 0, 0, 0, 0, 0, 0, 6, 6, 0, 3, 0, 0, 0, 0, 0, 0, 0, 0, 1, 3, 3, 3, 1, 1, 0, 1, 0, 1, 0, 1, 5, 1, 2, 8, 5, 9, 10, 11, 12, 13, 4, 4, 4, 1, 1, 4, 4, 4, 4, 4, 4, 1, 0, 13, 0, 0, 33, 34, 27, 11, 34, 27, 11]
noncomputable def h6b : List Nat := [0, 0, 2, 2, 0, 0, 0, 0, 2, 1, 2, 2, 2, 0, 4, 0, 0, 0, 4, 4, 0, 6, 0, 0, 0, 6, 3, 0, 3, 0, 3, 3, 3, 4, 1, 1, 1, 0, 7, 0, 0, 0, 0, 0, 0, 0, 0, 0, 0, 0, 0, 0, 0, 0, 0, 0, 0, 0, 0, 0, 0, 0, 0, 0, 0, 0, 0, 0, 0, 0, 0, 0, 0, 1, 0, 1, 0, 0, 0, 0, 0, 0, 0, 1, 1, 1, 1, 0, 0, 1, 2, 0, 0, 0, 0, 2, 0, 0, 2, 0, 2, 0, 0, 0, 2, 0, 3, 3, 3, 1, 1, 2, 0, 0, 0, 0, 2, 0, 0, 2, 0, 2, 0, 0, 0, 2, 0, 3, 3, 3, 1, 2, 0, 0, 0, 0, 2, 0, 0, 2, 0, 2, 0, 0, 0, 2, 0, 3, 3, 3, 2, 3, 0, 0, 0, 0, 3, 0, 0, 3, 0, 3, 0, 0, 0, 3, 0, 4, 4, 4, 11, 11, 11, 3, 0, 0, 0, 3, 0, 0, 0, 3, 0, 0, 0, 0, 3, 4, 0, 0, 0, 0, 1, 1, 0, 0, 1, 4, 0, 0, 0, 0, 4, 0, 0, 0, 4, 4, 0, 5, 2, 2, 0, 2, 0, 2, 0, 2, 1, 1, 0, 0, 1, 4, 0, 0, 0, 0, 4, 0, 0, 0, 0, 0, 0, 4, 4, 0, 5, 0, 0, 0, 0, 0, 0, 0, 0, 1, 3, 3, 3, 1, 1, 0, 1, 0, 1, 0, 1, 0, 1, 0, 1, 1, 2, 0, 0, 2, 2, 0, 0, 0, 1, 1, 0, 0, 1, 7, 0, 0, 0, 0, 7, 0, 0, 0, 7, 7, 0, 8, 12, 12, 12, 12, 0, 12, 0, 12, 12, 12, 9, 10, 0, 10, 18, 1, 1, 0, 0, 15, 15, 1, 15, 0, 15, 0, 1, 15, 1, 16, 15, 15, 15, 15, 3, 15, 3, 3, 3, 0, 0, 3, 4, 4, 0, 0, 6, 6, 6, 6, 9, 0, 0, 0, 0, 9, 0, 0, 0, 9, 9, 0, 10, 0, 0, 6, 0, 0, 6, 0, 0, 6, 6, 0, 0, 6, 6, 6, 4, 4, 0, 4, 0, 4, 4, 6, 4, 9, 10, 14, 11, 12, 20, 16, 15, 6, 14, 9, 4, 4, 6, 9, 6, 6, 11, 7, 17, 17, 17, 5, 0, 0, 0, 5, 0, 0, 0, 5, 0, 0, 0, 0, 5, 2, 0, 0, 0, 0, 1, 1, 0, 0, 1, 6, 0, 0, 0, 0, 6, 0, 0, 0, 6, 6, 0, 3, 15, 15, 0, 15, 0, 15, 0, 15, 1, 1, 0, 0, 1, 6, 0, 0, 0, 0, 6, 0, 0, 0, 0, 0, 0, 6, 6, 0, 3, 0, 0, 0, 0, 0, 0, 0, 0, 1, 3, 3, 3, 1, 1, 0, 1, 0, 1, 0, 1, 5, 1, 2, 8, 5, 9, 10, 11, 12, 13, 4, 4, 4, 1, 1, 4, 4, 4, 4, 4, 4, 1, 0, 13, 0, 0, 22, 23, 24, 11, 23, 23, 11]
section
variable (b b2 b3 : Bool) (w : World) (bs : List (Bool × Nat)) (t : Nat) (d : Drawn) (os : OsState) (h : Heap) (N T : Nat) (gl : List GenState) (R : Result → Shared → Prop)
theorem ck6a : lft (ob6 b b2 b3 w [143] [(143, tab0)] bs t d os h N T gl R) h6a = rgt (ob6 b b2 b3 w [143] [(143, tab0)] bs t d os h N T gl R) h6a := by cases b <;> kernel_rfl
theorem ck6b (c1 c2 : Nat) (x1 x2 : Cd) : lft (ob6 b b2 b3 w [143, c1 + 171, c2 + 171] (lin6 (c1 + 171) (c2 + 171) x1 x2) bs t d os h N T gl R) h6b = rgt (ob6 b b2 b3 w [143, c1 + 171, c2 + 171] (lin6 (c1 + 171) (c2 + 171) x1 x2) bs t d os h N T gl R) h6b := by cases b <;> kernel_rfl
end
theorem fin6_ok {V : Ev} (S : V.Std) {N : Nat} {Lin : Led} {bs : List (Bool × Nat)} (F : St0 V.w V.h₀ N) (hk : V.keys = Lin.map (·.1)) {gl₀ : List GenState} {r L sz tb i gl gh h}
    (H : good (fn6 bs gl₀ r L sz tb i gl gh)) (D : Rp V h L sz tb) : After V.w gl₀ V.d V.os V.h₀ N Lin (P6 bs) r (sh V h tb i gl) := by
  unfold fn6 at H
  split at H
  · split at H
    · rename_i v
      obtain ⟨ev, H⟩ := eqV_of H
      obtain ⟨eg, H2⟩ := eqG_of H
      subst eg
      obtain ⟨j1, p, e1, a1, H⟩ := inLed_of H2
      obtain ⟨j2, q, e2, a2, H⟩ := inLed_of H
      obtain ⟨j3, q2, e3, a3, H⟩ := inLed_of H
      obtain ⟨rest, hp, -⟩ := pickL_of H
      refine after_of S F hk D (Lout := lin6 (nAt (fieldAt p.2 2)) (nAt (fieldAt p.2 5)) (cdOf q.2) (cdOf q2.2)) (fun y hy => hp.mem_iff.mpr (List.mem_append.mpr (.inl hy))) ?_ ⟨_, _, _, _, _, by rw [ev], rfl⟩
      have hn := (hp.map (·.1)).nodup_iff.mp D.nodup
      rw [List.map_append] at hn
      exact (List.nodup_append.mp hn).1
    · cases H
  · cases H
theorem hk6_ok {V : Ev} (S : V.Std) {w : World} {b b2 b3 : Bool} (hw : V.w = WB w b b2 b3) {bs : List (Bool × Nat)} (hb : ∀ p ∈ bs, OkB p) (hl : 2 * bs.length + 10 ≤ sizeLine) : HookOk V (hk6 w.params bs) := by
  have h1 := txtB_length bs
  have h2 := signsB_length bs
  refine hook2_ok (hookAdd_ok (by simp) (by simp) ?_) (hook2_ok (hookList_ok S ?_) (hook2_ok (hookPopG_ok ?_) (hook2_ok (hook5_ok S hw hb (by simp) ?_) (hookCit_ok S hw))))
  · simp only [List.length_append, List.length_cons, List.length_nil]; omega
  · simp only [List.length_cons]; omega
  · omega
  · simp only [List.length_cons, List.length_nil]; omega
/-- the reader's first call -/
theorem read1 (w : World) (b b2 b3 : Bool) (bs : List (Bool × Nat)) (hb : ∀ p ∈ bs, OkB p) (hl : 2 * bs.length + 10 ≤ sizeLine) (t : Nat) : Tri (WB w b b2 b3) 330 40 (c6 bs t) [(143, tab0)] (P6 bs) := fun d os h N T gl F I => by
  let V := V2 (WB w b b2 b3) h d os 330 40 [143] (After (WB w b b2 b3) gl d os h N [(143, tab0)] (P6 bs)) (fn6 bs gl) (hk6 w.params bs) noTail
  have S : V.Std := V2_std
  have O : V.Ok := V2_ok (fun r L sz tb i gl' gh h' H D => fin6_ok (V := V) S F rfl H D) (hk6_ok S rfl hb hl) (fun _ _ _ _ _ _ _ _ _ H _ => by cases H)
  exact code_go (V := V) O (tb := T + 2349) (i := 0) 4000 h6a (ck6a b b2 b3 w bs t d os h N T gl _) (Rp.startL S F I rfl)
/-- and one behind it -/
theorem read2 (w : World) (b b2 b3 : Bool) (bs : List (Bool × Nat)) (hb : ∀ p ∈ bs, OkB p) (hl : 2 * bs.length + 10 ≤ sizeLine) (t c1 c2 : Nat) (x1 x2 : Cd) : Tri (WB w b b2 b3) 330 40 (c6 bs t) (lin6 (c1 + 171) (c2 + 171) x1 x2) (P6 bs) := fun d os h N T gl F I => by
  let V := V2 (WB w b b2 b3) h d os 330 40 [143, c1 + 171, c2 + 171] (After (WB w b b2 b3) gl d os h N (lin6 (c1 + 171) (c2 + 171) x1 x2) (P6 bs)) (fn6 bs gl) (hk6 w.params bs) noTail
  have S : V.Std := V2_std
  have O : V.Ok := V2_ok (fun r L sz tb i gl' gh h' H D => fin6_ok (V := V) S F rfl H D) (hk6_ok S rfl hb hl) (fun _ _ _ _ _ _ _ _ _ H _ => by cases H)
  exact code_go (V := V) O (tb := T + 2349) (i := 0) 4000 h6b (ck6b b b2 b3 w bs t d os h N T gl _ c1 c2 x1 x2) (Rp.startL S F I rfl)
end Mine
end
-- part F8a
section
namespace Mine
/-! the generator of a text's signs: what it gives, by recursion on what is left -/
noncomputable def envG (P : Params) (loc : Nat) : Env := { scope := (fdAt P 28).scope, locals := loc, globals := 3, cells := [], qual := Str.ofString "_iter_escaped_chars.<locals>.", func := some 28, code := .ref 27, frame := some loc, builtins := 0 }
noncomputable def cG (P : Params) (loc : Nat) : Code := .func (bodyOf (fdAt P 28)) (envG P loc)
noncomputable def forG (P : Params) : Stmt := stmtAt (bodyOf (fdAt P 28)) 2
noncomputable def cLG (P : Params) (en loc : Nat) : Code := .forLoop (forTarget (forG P)) (.ref en) (forBody (forG P)) (forElse (forG P)) (envG P loc)
noncomputable def cBG (P : Params) (loc : Nat) : Code := .block (forElse (forG P)) (envG P loc)
noncomputable def sAddr : Str := ⟨⟨[97, 100, 100, 114]⟩⟩
noncomputable def sPos : Str := ⟨⟨[112, 111, 115]⟩⟩
noncomputable def sEscape : Str := ⟨⟨[101, 115, 99, 97, 112, 101]⟩⟩
structure AdG where
  (loc en sit : Nat)
noncomputable def AdG.up (a : AdG) : AdG := ⟨a.loc + 171, a.en + 171, a.sit + 171⟩
noncomputable def AdG.down (a : AdG) : AdG := ⟨a.loc - 171, a.en - 171, a.sit - 171⟩
noncomputable def AdG.high (a : AdG) : Bool := Nat.ble 171 a.loc && (Nat.ble 171 a.en && Nat.ble 171 a.sit)
theorem AdG.high_up {a : AdG} (h : a.high = true) : a.down.up = a := by
  obtain ⟨loc, en, sit⟩ := a
  simp only [AdG.high, Bool.and_eq_true, Nat.ble_eq] at h
  obtain ⟨h1, h2, h3⟩ := h
  simp only [AdG.up, AdG.down, Nat.sub_add_cancel, *]
/-- what may stand in its objects -/
structure StG where
  (e1 e2 e3 e4 : Ky) (ta ln tx : Nat) (vp vc old : PySem.Value)
noncomputable def locG (x : Str) (d : StG) (esc : Bool) : Obj := localsObj [ky d.e1 sAddr (.str x d.ta), ky d.e2 sPos d.vp, ky d.e3 sEscape (.bool esc), ky d.e4 sCh d.vc] d.ln
noncomputable def linT (x : Str) (en sit tx k : Nat) (old : PySem.Value) : Led := [(en, enumObj sit k old), (sit, strIt "str_ascii_iterator" x tx k)]
noncomputable def linG (x : Str) (a : AdG) (d : StG) (k : Nat) (esc : Bool) : Led := linT x a.en a.sit d.tx k d.old ++ [(a.loc, locG x d esc)]
noncomputable def keysG (a : AdG) : List Nat := [a.en, a.sit, a.loc]
theorem linG_keys (x : Str) (a : AdG) (d : StG) (k : Nat) (esc : Bool) : (linG x a d k esc).map (·.1) = keysG a := rfl
noncomputable def startOf (gs : GenState) : Option (Code × Sem PySem.Fin × List Frame) := match gs with
  | .fresh c => some (c, denote table c, [])
  | .suspended k _ c _ fs _ => some (c, k (.send .none), fs)
  | _ => none
/-- a stretch of a generator's run -/
noncomputable def Seg1 (w : World) (n u : Nat) (c : Code) (t : Sem PySem.Fin) (fs : List Frame) (Lin : Led) (P : End → Led → Prop) : Prop :=
  ∀ d os h N T gl, St0 w h N → InL w h Lin → SegX (model pw w) (Bn n u) c t fs (st h gl d T os) (fun e s' => After w gl d os h N Lin (fun _ Lo => P e Lo) (.ok .next) s')
noncomputable def Wakes1 (w : World) (n u : Nat) (gs : GenState) (Lin : Led) (P : End → Led → Prop) : Prop := ∃ c t fs, startOf gs = some (c, t, fs) ∧ Seg1 w n u c t fs Lin P
noncomputable def wdB (b : Bool × Nat) : Nat := if b.1 then 2 else 1
noncomputable def yieldT (b : Bool × Nat) : List Nat := if b.1 then [92, b.2] else [b.2]
/-- the pair that a block gives -/
noncomputable def pairObj (b : Bool × Nat) (k t1 t2 : Nat) : Obj := ⟨.type "tuple", none, .seq ⟨[.int ((k + wdB b - 1 : Nat) : Int) t1, .str ⟨⟨yieldT b⟩⟩ t2]⟩ 0, #[]⟩
/-- what comes at the next waking -/
noncomputable def specG (w : World) (n u : Nat) (x : Str) (a : AdG) : List (Bool × Nat) → Nat → End → Led → Prop
  | [], _, e, _ => e = .ret (.ok (.ret .none))
  | b :: bs, k, e, Lo => ∃ tup t1 t2 d' l kk c p fs, e = .susp (.ref tup) false l kk c p fs ∧ Lo = (tup, pairObj b k t1 t2) :: linG x a d' (k + wdB b) b.1 ∧ ∀ d, Wakes1 w n u e.genState (linG x a d (k + wdB b) b.1) (specG w n u x a bs (k + wdB b))
noncomputable def GOk (w : World) (n u : Nat) (x : Str) (a : AdG) (esc : Bool) (bs : List (Bool × Nat)) (k : Nat) (gs : GenState) : Prop := ∀ d, Wakes1 w n u gs (linG x a d k esc) (specG w n u x a bs k)
/-- a generator's run that is cut at its yields and at its loop's head -/
noncomputable def VG (w : World) (h : Heap) (d : Drawn) (os : OsState) (n u : Nat) (keys : List Nat) (P₀ : End → Shared → Prop) (hook : HookT) (susp : End → Cont) (gtail : Nat → Code → List Frame → Cont) (gstop : Result → Code → List Frame → Cont) : Ev :=
  { V1 w h d os n u keys (fun _ _ => False) noFin hook with P₀ := P₀, susp := susp, gtail := gtail, gstop := gstop }
theorem VG_std {w h d os n u keys P₀ hook susp gtail gstop} : (VG w h d os n u keys P₀ hook susp gtail gstop).Std := ⟨rfl, rfl⟩
theorem sim_indep (w : World) (h h' : Heap) (d d' : Drawn) (os os' : OsState) (n u : Nat) (keys keys' : List Nat) (P₀ P₀' : End → Shared → Prop) (hook : HookT) (susp : End → Cont) (gtail : Nat → Code → List Frame → Cont) (gstop : Result → Code → List Frame → Cont) (k : Nat) :
    sim (VG w h d os n u keys P₀ hook susp gtail gstop) k = sim (VG w h' d' os' n u keys' P₀' hook susp gtail gstop) k := by kernel_rfl
noncomputable def itemAt (o : Obj) (k : Nat) : PySem.Value := match o.data with
  | .seq ⟨l⟩ _ => l.getD k .none
  | _ => .none
noncomputable def stGOf (pl pe ps : Obj) : StG := ⟨kyAt pl 0, kyAt pl 1, kyAt pl 2, kyAt pl 3, tokV (valAt pl 0), dictN pl, tokV (fieldAt ps 0), valAt pl 1, valAt pl 3, fieldAt pe 5⟩
noncomputable def frG (fs : List Frame) : List GenState := [.suspended (fun _ => .pure (.done .next)) [] (.builtin "" {}) ⟨0, 0, 0, 0⟩ fs false]
theorem frG_inj {fs fs' : List Frame} (h : frG fs = frG fs') : fs = fs' := by
  unfold frG at h; injection h with h _; injection h
theorem eqG_of' {a b : List GenState} {k : Ob} (H : good (.eqG a b k)) : a = b ∧ good k := H
/-- the loop's head is reached again -/
noncomputable def gtG (P : Params) (x : Str) (a : AdG) (k : Nat) (esc : Bool) (fs₀ : List Frame) (gl₂ : List GenState) : Nat → Code → List Frame → Cont := fun _ c' fs' L _ _ _ gl _ =>
  .eqC c' (cLG P a.en a.loc) (.eqG (frG fs') (frG fs₀) (.eqG gl gl₂ (inLed a.loc L fun _ pl => inLed a.en L fun _ pe => inLed a.sit L fun _ ps => outs L (linG x a (stGOf pl.2 pe.2 ps.2) k esc) .ok)))
noncomputable def noSusp : End → Cont := fun _ => nay 99
noncomputable def noStop : Result → Code → List Frame → Cont := fun _ _ _ => nay 95
noncomputable def noGtail : Nat → Code → List Frame → Cont := fun _ _ _ => nay 96
/-- behind a yield: to the loop's head -/
noncomputable def nextG (w : World) (h : Heap) (d₀ : Drawn) (os : OsState) (n u : Nat) (P₀ : End → Shared → Prop) (x : Str) (a : AdG) (k : Nat) (esc : Bool) (fs₀ : List Frame) (c : Code) (t : Sem PySem.Fin) (fs : List Frame) : Ob :=
  .allI fun h1 => .allN fun t1 => .allI fun h2 => .allN fun t2 => .allI fun h3 => .allN fun t3 => .allI fun h4 => .allN fun t4 => .allN fun ta => .allN fun ln => .allN fun tx => .allV fun vp => .allV fun vc => .allV fun old => .allG fun gl₂ => .allN fun N' => .allN fun T' =>
    sim (VG w h d₀ os n u [] P₀ noHook noSusp (gtG w.params x a k false fs₀ gl₂) noStop) 300 c (some fs) .base t (linG x a ⟨(h1, t1), (h2, t2), (h3, t3), (h4, t4), ta, ln, tx, vp, vc, old⟩ k esc) (N' + 171) (T' + 2349) 0 gl₂ []
/-- a yield -/
noncomputable def spG (w : World) (h : Heap) (d₀ : Drawn) (os : OsState) (n u : Nat) (P₀ : End → Shared → Prop) (x : Str) (a : AdG) (b : Bool × Nat) (k : Nat) (fs₀ : List Frame) (gl₀ : List GenState) : End → Cont := fun e L _ _ _ gl _ => match e with
  | .susp v _ _ kk c _ fs => match v with
    | .ref tup => .eqG gl gl₀ (inLed tup L fun _ q => inLed a.loc L fun _ pl => inLed a.en L fun _ pe => inLed a.sit L fun _ ps =>
        pickL L ((tup, pairObj b k (tokV (itemAt q.2 0)) (tokV (itemAt q.2 1))) :: linG x a (stGOf pl.2 pe.2 ps.2) (k + wdB b) b.1) fun _ => nextG w h d₀ os n u P₀ x a (k + wdB b) b.1 fs₀ c (kk (.send .none)) fs)
    | _ => .bad 301 0
  | .ret _ => .bad 302 0
/-- the loop's end -/
noncomputable def gsG (P : Params) (x : Str) (a : AdG) (fs₀ : List Frame) (gl₀ : List GenState) : Result → Code → List Frame → Cont := fun r c fs L _ _ _ gl _ => match r with
  | .ok f => match f with
    | .next => .eqC c (cBG P a.loc) (.eqG (frG fs) (frG fs₀) (.eqG gl gl₀ (inLed a.loc L fun _ pl => outs L [(a.loc, locG x (stGOf pl.2 pl.2 pl.2) false)] .ok)))
    | _ => .bad 303 0
  | .error _ => .bad 304 0
end Mine
end
-- part F8b
section
namespace Mine
/-! the head of the generator's loop: the next pair is taken -/
theorem seg_on {α : Type} {w : World} {A : Around} {c : Code} {fs : List Frame} {P : End → Shared → Prop} {s : Shared} {m : Sem α} {k : α → Sem PySem.Fin} {hd : PySem.Value → Sem Unit}
    (x : wpAny (model pw w) (A.over c fs) m (fun a s' => SegX (model pw w) A c ((k a).onRaise hd) fs s' P) (fun _ _ => False) s) : SegX (model pw w) A c ((m.bind k).onRaise hd) fs s P := by
  have e : (m.bind k).onRaise hd = m.wrap (fun a => (k a).onRaise hd) (fun e => (Sem.raise e : Sem PySem.Fin).onRaise hd) id id := by
    rw [Sem.bind_eq_wrap, Sem.onRaise_eq_wrap, Sem.wrap_wrap]
    exact Sem.wrap_congr _ _ _ (fun a => (Sem.onRaise_eq_wrap _ _).symm) fun _ => (Sem.onRaise_eq_wrap _ _).symm
  rw [e]
  rintro Γ p rfl hΓ
  obtain ⟨e, s', hr, hq⟩ := runs_wrap_of_wp (Φ := fun e s' => e.quiet = true ∧ P e s') (fun a => (k a).onRaise hd) (fun e => (Sem.raise e : Sem PySem.Fin).onRaise hd) id id m (x (Γ.over fs) p (hΓ.over fs)) (fun a p' s' h' => h' Γ p' rfl hΓ) (fun x p' s' h' => h'.elim)
  exact ⟨e, s', hr, hq⟩
noncomputable abbrev asT := Fast.tw17772580674575903948
theorem asT_eq : asT = PySem.assign := (Fast.te17772580674575903948).symm
noncomputable abbrev exT := Fast.tw12563942051412417395
theorem exT_eq : exT = PySem.execs := (Fast.te12563942051412417395).symm
noncomputable def loopHd (env : Env) : PySem.Value → Sem Unit := fun x => (noteFrame x env).bind fun _ => theTreesLotGoes x
/-- a loop's turn behind its next item -/
noncomputable def turnT (tgt : PySem.Expr) (it : PySem.Value) (body orelse : List Stmt) (env : Env) (v : PySem.Value) : Sem PySem.Fin :=
  ((asT tgt env v).bind fun _ => (exT body env).bind fun f => match f with
    | .next => again (.forLoop tgt it body orelse env)
    | .cont => again (.forLoop tgt it body orelse env)
    | .brk => .pure (.done .next)
    | .ret v => .pure (.done (.ret v))).onRaise (loopHd env)
noncomputable def pairT (k t1 ch t2 : Nat) : Obj := ⟨.type "tuple", none, .seq ⟨[.int (k : Int) t1, .str ⟨⟨[ch]⟩⟩ t2]⟩ 0, #[]⟩
theorem enum_up (sit k : Nat) (old v : PySem.Value) (a : Nat) : Obj.mapFields (·.setIfInBounds 0 .none) (Obj.mapFields (·.setIfInBounds 1 (.bool false)) (Obj.mapFields (·.setIfInBounds 0 (rawInt a)) (Obj.mapFields (·.setIfInBounds 5 v) (Obj.mapFields (·.setIfInBounds 4 .none) (Obj.mapFields (·.setIfInBounds 3 (rawInt ((k : Int) + 1))) (enumObj sit k old)))))) = enumObj sit (k + 1) v := by
  simp [Obj.mapFields, enumObj, rawInt]
theorem newTuple_at {M : Model} {A : Around} {E : PySem.Value → Shared → Prop} {s : Shared} {items : List PySem.Value} {sz : Nat} {Q : PySem.Value → Shared → Prop} (hs : s.heap.objs.size = sz) (h : Q (.ref sz) { s with heap := s.heap.push { cls := .type "tuple", data := .seq items.toArray } })
    (hsz : items.length ≤ sizeLine := by size_fits) : wpAny M A (newTuple items) Q E s := wpAny_newTuple (hs.symm ▸ h) hsz
/-- the next pair of enumerate(text), at the loop's head -/
theorem genHead {V : Ev} (S : V.Std) {x : Str} {en sit tx k ch : Nat} {old : PySem.Value} {L : Led} (hx : x.cps[k]? = some ch) {elts : List PySem.Expr} {x1 : Nat} {pos : Pos} {body orelse : List Stmt} {env : Env}
    {fs : List Frame} {P : End → Shared → Prop} {h : Heap} {sz tb i : Nat} {gl : List GenState} (D : Rp V h (linT x en sit tx k old ++ L) sz tb)
    (H : ∀ h', Rp V h' ((sz, pairT k (tb + (i + 1)) ch (tb + i)) :: (linT x en sit tx (k + 1) (.str ⟨⟨[ch]⟩⟩ (tb + i)) ++ L)) (sz + 1) tb →
      SegX (md V) V.A₀ (.forLoop (.Tuple elts x1 pos) (.ref en) body orelse env) (turnT (.Tuple elts x1 pos) (.ref en) body orelse env (.ref sz)) fs (sh V h' tb (i + 2) gl) P) :
    SegX (md V) V.A₀ (.forLoop (.Tuple elts x1 pos) (.ref en) body orelse env) (denote table (.forLoop (.Tuple elts x1 pos) (.ref en) body orelse env)) fs (sh V h tb i gl) P := by
  show SegX (md V) V.A₀ _ ((forTurn (.Tuple elts x1 pos) (.ref en) body orelse env).onRaise (loopHd env)) fs _ P
  unfold forTurn
  refine seg_on (wpAny_standAt ?_)
  have hen := D.own (en, enumObj sit k old) (.head _)
  have hsit := D.own (sit, strIt "str_ascii_iterator" x tx k) (.tail _ (.head _))
  have hT : (sh V h tb i gl).TypeIs (.ref en) "enumerate" := ⟨_, hen, rfl⟩
  refine seg_on (wpAny_onRaise ?_)
  unfold pyNext
  refine wpAny_bind (wpAny_attempt (wpAny_callSpecial?_slot (name := Str.ofString "__next__") hT PySem.F.slot_enumerate_next
    (wpAny_call_entry PySem.F.slot_enumerate_next hT PySem.F.entry_enumerate_next ?_ (PySem.F.args_enumerate_next_1 _))))
  show wpAny _ _ (field (.ref en) 2 >>= _) _ _ _
  refine wpAny_bind (wpAny_field hen rfl (x := .ref sit) rfl ?_)
  unfold Builtin.SmallTypes.nextOf
  have hT2 : (sh V h tb i gl).TypeIs (.ref sit) "str_ascii_iterator" := ⟨_, hsit, rfl⟩
  refine wpAny_bind (wpAny_bind (wpAny_callSpecial?_slot (name := Str.ofString "__next__") hT2 PySem.F.slot_str_ascii_iterator_next
    (wpAny_call_entry PySem.F.slot_str_ascii_iterator_next hT2 PySem.F.entry_str_ascii_iterator_next ?_ (PySem.F.args_str_ascii_iterator_next_1 _))))
  show wpAny _ _ (field (.ref sit) 0 >>= _) _ _ _
  refine wpAny_bind (wpAny_field hsit rfl (x := .str x tx) rfl ?_)
  show wpAny _ _ (field (.ref sit) 1 >>= _) _ _ _
  refine wpAny_bind (wpAny_field hsit rfl (x := .int k 0) rfl ?_)
  simp only [Int.toNat_natCast, hx]
  refine wpAny_bind (wpAny_setField hsit rfl (by simp) (wpAny_bind (wpAny_mkStr (wpAny_pure ⟨_, rfl, wpAny_pure ?_⟩))))
  have D1 := D.up (j := 1) rfl (Obj.mapFields (·.setIfInBounds 1 (rawInt ((k : Int) + 1)))) rfl
  have hen1 := D1.own (en, enumObj sit k old) (ledAt_mem (i := 0) rfl)
  show wpAny _ _ (field (.ref en) 3 >>= _) _ _ _
  refine wpAny_bind (wpAny_field hen1 rfl (x := .int k 0) rfl ?_)
  show wpAny _ _ (field (.ref en) 4 >>= _) _ _ _
  refine wpAny_bind (wpAny_field hen1 rfl (x := .none) rfl ?_)
  show wpAny _ _ (mkInt k >>= _) _ _ _
  refine wpAny_bind (wpAny_mkInt ?_)
  have D2 := D1.up (j := 0) rfl (Obj.mapFields (·.setIfInBounds 3 (rawInt ((k : Int) + 1)))) rfl
  show wpAny _ _ (setField (.ref en) 3 (rawInt ((k : Int) + 1)) >>= _) _ _ _
  refine wpAny_bind (wpAny_setField hen1 rfl (by simp) ?_)
  have hen2 := D2.own (en, _) (ledAt_mem (i := 0) rfl)
  have D3 := D2.up (j := 0) rfl (Obj.mapFields (·.setIfInBounds 4 .none)) rfl
  show wpAny _ _ (setField (.ref en) 4 .none >>= _) _ _ _
  refine wpAny_bind (wpAny_setField hen2 rfl (by simp) ?_)
  have hen3 := D3.own (en, _) (ledAt_mem (i := 0) rfl)
  have es3 := D3.size
  have D4 := D3.new (Std.low S) (o := pairT k (tb + (i + 1)) ch (tb + i)) rfl
  refine wpAny_bind (newTuple_at (sz := sz) es3 ?_)
  have hen4 := D4.own (en, _) (ledAt_mem (i := 1) rfl)
  refine wpAny_bind ?_
  unfold Builtin.SmallTypes.ownedTupleIsFree
  refine wpAny_bind (wpAny_field hen4 rfl (x := .none) rfl (wpAny_pure ?_))
  simp only [if_true]
  refine wpAny_bind (wpAny_rule ?_)
  refine wpAny_bind (wpAny_field hen4 rfl (x := old) rfl ?_)
  have D5 := D4.up (j := 1) rfl (Obj.mapFields (·.setIfInBounds 5 (.str ⟨⟨[ch]⟩⟩ (tb + i)))) rfl
  refine wpAny_bind (wpAny_setField hen4 rfl (by simp) ?_)
  have hen5 := D5.own (en, _) (ledAt_mem (i := 1) rfl)
  show wpAny _ _ (Builtin.SmallTypes.ownedTupleHandOut (.ref en) (.ref sz) >>= _) _ _ _
  refine wpAny_bind ?_
  unfold Builtin.SmallTypes.ownedTupleHandOut
  have D6 := D5.up (j := 1) rfl (Obj.mapFields (·.setIfInBounds 0 (rawInt sz))) rfl
  refine wpAny_bind (wpAny_setField hen5 rfl (by simp) ?_)
  have hen6 := D6.own (en, _) (ledAt_mem (i := 1) rfl)
  have D7 := D6.up (j := 1) rfl (Obj.mapFields (·.setIfInBounds 1 (.bool false))) rfl
  refine wpAny_setField hen6 rfl (by simp) ?_
  have hen7 := D7.own (en, _) (ledAt_mem (i := 1) rfl)
  refine wpAny_bind (wpAny_letGo (wpAny_pure ⟨_, rfl, wpAny_pure ?_⟩))
  refine seg_on ?_
  unfold letOwnedTupleGo
  refine wpAny_bind (wpAny_load hen7 ?_)
  show wpAny _ _ (if (["enumerate", "zip", "dict_itemiterator", "dict_reverseitemiterator", "odict_iterator", "itertools.zip_longest", "itertools.pairwise"].contains "enumerate" &&
      (#[rawInt sz, .bool false, .ref sit, rawInt ((k : Int) + 1), .none, .str ⟨⟨[ch]⟩⟩ (tb + i)] : Array PySem.Value)[0]? == some (rawInt sz)) = true then _ else _) _ _ _
  rw [if_pos (by simp)]
  refine wpAny_bind (wpAny_rule ?_)
  have D8 := D7.up (j := 1) rfl (Obj.mapFields (·.setIfInBounds 0 .none)) rfl
  show wpAny _ _ (setField (.ref en) 0 .none) _ _ _
  refine wpAny_setField hen7 rfl (by simp) ?_
  change Rp V _ ((sz, pairT k (tb + (i + 1)) ch (tb + i)) :: (en, Obj.mapFields (·.setIfInBounds 0 .none) (Obj.mapFields (·.setIfInBounds 1 (.bool false)) (Obj.mapFields (·.setIfInBounds 0 (rawInt sz)) (Obj.mapFields (·.setIfInBounds 5 (.str ⟨⟨[ch]⟩⟩ (tb + i))) (Obj.mapFields (·.setIfInBounds 4 .none) (Obj.mapFields (·.setIfInBounds 3 (rawInt ((k : Int) + 1))) (enumObj sit k old))))))) ::
    (sit, Obj.mapFields (·.setIfInBounds 1 (rawInt ((k : Int) + 1))) (strIt "str_ascii_iterator" x tx k)) :: L) _ _ at D8
  rw [enum_up, strIt_next] at D8
  have z := H _ D8
  unfold turnT at z
  rw [asT_eq, exT_eq] at z
  exact z
end Mine
end
-- part F8c
section
namespace Mine
noncomputable abbrev fs1 (kF : Result → Sem PySem.Fin) (lF : List PySem.Value) (cF : Code) (pF : Pos) : List Frame := [.ret kF none false lF cF pF []]
noncomputable abbrev tG (P : Params) (en loc sz : Nat) : Sem PySem.Fin := turnT (forTarget (forG P)) (.ref en) (forBody (forG P)) (forElse (forG P)) (envG P loc) (.ref sz)
/-- a turn's run: behind its head -/
noncomputable def obT (w : World) (V : Ev) (a : AdG) (fs : List Frame) (k ch N T : Nat) (L : Led) (gl : List GenState) : Ob :=
  sim V 600 (cLG w.params a.en a.loc) (some fs) .base (tG w.params a.en a.loc (N + 171)) ((N + 171, pairT k (T + 2349 + (0 + 1)) ch (T + 2349 + 0)) :: L) (N + 171 + 1) (T + 2349) (0 + 2) gl []
/-- the ledger behind the head -/
noncomputable def linH (x : Str) (a : AdG) (d : StG) (k ch T : Nat) (esc : Bool) : Led := linT x a.en a.sit d.tx (k + 1) (.str ⟨⟨[ch]⟩⟩ (T + 2349 + 0)) ++ [(a.loc, locG x d esc)]
/-- a backslash -/
noncomputable def obA (w : World) (x : Str) (a : AdG) (d : StG) (k : Nat) (fs : List Frame) (d₀ : Drawn) (os : OsState) (h : Heap) (N T : Nat) (gl : List GenState) (P : End → Shared → Prop) : Ob :=
  obT w (VG w h d₀ os 350 60 (keysG a) P noHook noSusp (gtG w.params x a (k + 1) true fs gl) noStop) a fs k 92 N T (linH x a d k 92 T false) gl
/-- the sign behind it -/
noncomputable def obB (w : World) (x : Str) (a : AdG) (d : StG) (k c : Nat) (fs : List Frame) (d₀ : Drawn) (os : OsState) (h : Heap) (N T : Nat) (gl : List GenState) (P : End → Shared → Prop) : Ob :=
  obT w (VG w h d₀ os 350 60 (keysG a) P noHook (spG w h d₀ os 350 60 P x a (true, c) k fs gl) noGtail noStop) a fs (k + 1) c N T (linH x a d (k + 1) c T true) gl
/-- another sign -/
noncomputable def obC (w : World) (x : Str) (a : AdG) (d : StG) (k c : Nat) (fs : List Frame) (d₀ : Drawn) (os : OsState) (h : Heap) (N T : Nat) (gl : List GenState) (P : End → Shared → Prop) : Ob :=
  obT w (VG w h d₀ os 350 60 (keysG a) P noHook (spG w h d₀ os 350 60 P x a (false, c) k fs gl) noGtail noStop) a fs k c N T (linH x a d k c T false) gl
/-- the objects at the loop's first head -/
noncomputable def loc0 (x : Str) (d : StG) : Obj := localsObj [ky d.e1 sAddr (.str x d.ta), ky d.e2 sPos d.vp, ky d.e3 sEscape (.bool false)] d.ln
noncomputable def lin0 (x : Str) (a : AdG) (d : StG) : Led := linT x a.en a.sit d.tx 0 d.old ++ [(a.loc, loc0 x d)]
/-- the first sign -/
noncomputable def obF (w : World) (x : Str) (a : AdG) (d : StG) (fs : List Frame) (d₀ : Drawn) (os : OsState) (h : Heap) (N T : Nat) (gl : List GenState) (P : End → Shared → Prop) : Ob :=
  obT w (VG w h d₀ os 350 60 (keysG a) P noHook (spG w h d₀ os 350 60 P x a (false, 120) 0 fs gl) noGtail noStop) a fs 0 120 N T (linT x a.en a.sit d.tx (0 + 1) (.str ⟨⟨[120]⟩⟩ (T + 2349 + 0)) ++ [(a.loc, loc0 x d)]) gl
/-- no sign is left -/
noncomputable def obE (w : World) (x : Str) (a : AdG) (d : StG) (k : Nat) (fs : List Frame) (d₀ : Drawn) (os : OsState) (h : Heap) (N T : Nat) (gl : List GenState) (P : End → Shared → Prop) : Ob :=
  sim (VG w h d₀ os 350 60 (keysG a) P (hookEndA x k) noSusp noGtail (gsG w.params x a fs gl)) 600 (cLG w.params a.en a.loc) (some fs) .base (Dz (cLG w.params a.en a.loc)) (linG x a d k false) (N + 171) (T + 2349) 0 gl []
/-- the generator's end -/
noncomputable def endG (gl₀ : List GenState) : End → Cont := fun e _ _ _ _ gl _ => match e with
  | .ret r => match r with
    | .ok f => match f with
      | .ret v => .eqV v .none (.eqG gl gl₀ .ok)
      | _ => .bad 305 0
    | .error _ => .bad 306 0
  | .susp .. => .bad 307 0
/-- the frame behind the loop, its run -/
noncomputable def fokG (w : World) (h : Heap) (d₀ : Drawn) (os : OsState) (P : End → Shared → Prop) (x : Str) (a : AdG) (fs : List Frame) : Ob :=
  .allI fun h1 => .allN fun t1 => .allI fun h2 => .allN fun t2 => .allI fun h3 => .allN fun t3 => .allI fun h4 => .allN fun t4 => .allN fun ta => .allN fun ln => .allN fun tx => .allV fun vp => .allV fun vc => .allV fun old => .allG fun gl₂ => .allN fun N' => .allN fun T' =>
    sim (VG w h d₀ os 350 60 [] P noHook (endG gl₂) noGtail noStop) 300 (cBG w.params a.loc) (some fs) .base (leafOf (.ok .next)) [(a.loc, locG x ⟨(h1, t1), (h2, t2), (h3, t3), (h4, t4), ta, ln, tx, vp, vc, old⟩ false)] (N' + 171) (T' + 2349) 0 gl₂ []
noncomputable def shapeF (fs : List Frame) : Bool := match fs with
  | .ret _ none false _ _ _ [] :: [] => true
  | _ => false
noncomputable def sitOf (o : Obj) : Nat := nAt (fieldAt o 2)
/-- the loop is entered -/
noncomputable def gtF (w : World) (h : Heap) (d₀ : Drawn) (os : OsState) (P : End → Shared → Prop) (x : Str) (loc : Nat) (gl₀ : List GenState) : Nat → Code → List Frame → Cont := fun _ c' fs L _ _ _ gl _ =>
  inLed (cIt5 c') L fun _ pe => inLed loc L fun _ pl => inLed (sitOf pe.2) L fun _ ps => match AdG.high ⟨loc, cIt5 c', sitOf pe.2⟩ && shapeF fs with
    | true => .eqC c' (cLG w.params (cIt5 c') loc) (.eqG gl gl₀ (pickL L (lin0 x ⟨loc, cIt5 c', sitOf pe.2⟩ (stGOf pl.2 pe.2 ps.2)) fun _ => fokG w h d₀ os P x ⟨loc, cIt5 c', sitOf pe.2⟩ fs))
    | false => .bad 308 0
noncomputable def linS (x : Str) (loc : Nat) (e1 : Ky) (ta ln : Nat) : Led := [(loc, localsObj [ky e1 sAddr (.str x ta)] ln)]
/-- the generator from its start -/
noncomputable def obS (w : World) (x : Str) (loc : Nat) (e1 : Ky) (ta ln : Nat) (d₀ : Drawn) (os : OsState) (h : Heap) (N T : Nat) (gl : List GenState) (P : End → Shared → Prop) : Ob :=
  sim (VG w h d₀ os 350 60 [loc] P (hookEnum x) noSusp (gtF w h d₀ os P x loc gl) noStop) 600 (cG w.params loc) (some []) .base (Dz (cG w.params loc)) (linS x loc e1 ta ln) (N + 171) (T + 2349) 0 gl []
end Mine
end
-- part F8d
section
namespace Mine
noncomputable def hgA : List Nat := [1, 1, 1, 0, 0, 1, 0, 0, 1, 1, 0, 0, 1, 0, 1, 1, 2, 1, 1, 0, 1, 0, 0, 1, 0, 1, 1, 2, 1, 1, 0, 1, 0, 0, 1, 0, 1, 1, 2, 1, 1, 0, 1, 7, 7, 7, 7, 7, 7, 0, 0, 0, 0, 7, 7, 1, 7, 5, 6, 5, 6, 7]
noncomputable def hgB : List Nat := [1, 1, 1, 0, 0, 1, 0, 0, 1, 1, 0, 0, 1, 0, 1, 1, 2, 1, 1, 0, 1, 0, 0, 1, 0, 1, 1, 2, 1, 1, 0, 1, 0, 0, 1, 0, 1, 1, 2, 1, 1, 0, 1, 7, 7, 7, 7, 7, 7, 7, 0, 0, 0, 0, 1, 8, 6, 7, 1, 5, 5, 5, 3, 3, 1, 3, 1, 2, 1, 2, 3]
noncomputable def hgC : List Nat := [1, 1, 1, 0, 0, 1, 0, 0, 1, 1, 0, 0, 1, 0, 1, 1, 2, 1, 1, 0, 1, 0, 0, 1, 0, 1, 1, 2, 1, 1, 0, 1, 0, 0, 1, 0, 1, 1, 2, 1, 1, 0, 1, 7, 7, 7, 7, 7, 7, 0, 0, 0, 0, 7, 7, 1, 8, 6, 7, 1, 5, 5, 5, 1, 3, 1, 2, 1, 2, 3]
noncomputable def hgF : List Nat := [1, 1, 1, 0, 0, 1, 0, 0, 1, 1, 0, 0, 1, 0, 1, 1, 2, 1, 1, 0, 1, 0, 0, 1, 0, 1, 1, 2, 1, 1, 0, 1, 0, 0, 1, 0, 1, 1, 2, 1, 1, 0, 1, 7, 7, 7, 7, 7, 7, 0, 0, 0, 0, 7, 7, 1, 8, 6, 7, 1, 5, 5, 5, 1, 3, 1, 2, 1, 2, 3]
noncomputable def hgE : List Nat := [1, 0, 0, 1, 0, 1, 2, 1, 2, 0, 1, 0, 1, 5, 5]
noncomputable def hgS : List Nat := [1, 1, 1, 1, 0, 0, 1, 1, 1, 1, 0, 0, 1, 0, 0, 1, 0, 1, 1, 3, 2, 1, 1, 1, 0, 1]
section
variable (w : World) (b1 b2 b3 : Bool) (x : Str) (loc en sit k : Nat) (d : StG) (kF : Result → Sem PySem.Fin) (lF : List PySem.Value) (cF : Code) (pF : Pos) (d₀ : Drawn) (os : OsState) (h : Heap) (N T : Nat) (gl : List GenState) (P : End → Shared → Prop)
theorem ckA : lft (obA (WB w b1 b2 b3) x ⟨loc + 171, en + 171, sit + 171⟩ d k (fs1 kF lF cF pF) d₀ os h N T gl P) hgA = rgt (obA (WB w b1 b2 b3) x ⟨loc + 171, en + 171, sit + 171⟩ d k (fs1 kF lF cF pF) d₀ os h N T gl P) hgA := by
  cases b1 <;> kernel_rfl
theorem ckB {c : Nat} (hc : c ∈ [92, 34]) : lft (obB (WB w b1 b2 b3) x ⟨loc + 171, en + 171, sit + 171⟩ d k c (fs1 kF lF cF pF) d₀ os h N T gl P) hgB = rgt (obB (WB w b1 b2 b3) x ⟨loc + 171, en + 171, sit + 171⟩ d k c (fs1 kF lF cF pF) d₀ os h N T gl P) hgB := by
  simp only [List.mem_cons, List.not_mem_nil, or_false] at hc
  rcases hc with rfl | rfl <;> cases b1 <;> kernel_rfl
theorem ckC {c : Nat} (hc : c ∈ [34, 97, 98, 99]) : lft (obC (WB w b1 b2 b3) x ⟨loc + 171, en + 171, sit + 171⟩ d k c (fs1 kF lF cF pF) d₀ os h N T gl P) hgC = rgt (obC (WB w b1 b2 b3) x ⟨loc + 171, en + 171, sit + 171⟩ d k c (fs1 kF lF cF pF) d₀ os h N T gl P) hgC := by
  simp only [List.mem_cons, List.not_mem_nil, or_false] at hc
  rcases hc with rfl | rfl | rfl | rfl <;> cases b1 <;> kernel_rfl
theorem ckF : lft (obF (WB w b1 b2 b3) x ⟨loc + 171, en + 171, sit + 171⟩ d (fs1 kF lF cF pF) d₀ os h N T gl P) hgF = rgt (obF (WB w b1 b2 b3) x ⟨loc + 171, en + 171, sit + 171⟩ d (fs1 kF lF cF pF) d₀ os h N T gl P) hgF := by
  cases b1 <;> kernel_rfl
theorem ckE : lft (obE (WB w b1 b2 b3) x ⟨loc + 171, en + 171, sit + 171⟩ d k (fs1 kF lF cF pF) d₀ os h N T gl P) hgE = rgt (obE (WB w b1 b2 b3) x ⟨loc + 171, en + 171, sit + 171⟩ d k (fs1 kF lF cF pF) d₀ os h N T gl P) hgE := by
  cases b1 <;> kernel_rfl
theorem ckS (e1 : Int) (e2 ta ln : Nat) : lft (obS (WB w b1 b2 b3) x (loc + 171) (e1, e2) ta ln d₀ os h N T gl P) hgS = rgt (obS (WB w b1 b2 b3) x (loc + 171) (e1, e2) ta ln d₀ os h N T gl P) hgS := by
  cases b1 <;> kernel_rfl
end
end Mine
end
-- part F8e
section
namespace Mine
theorem seg_trans {V : Ev} (S : V.Std) {N : Nat} {Lin Lin1 : Led} {P P1 : End → Led → Prop} (F : St0 V.w V.h₀ N) (hk : V.keys = Lin.map (·.1)) {L : Led} {sz tb : Nat} {gl : List GenState} {h : Heap} (D : Rp V h L sz tb)
    (hL : ∀ q ∈ Lin1, q ∈ L) (hsub : ∀ a ∈ Lin1.map (·.1), a ∈ Lin.map (·.1)) (hn : (Lin1.map (·.1)).Nodup) (hP : ∀ e Lo, P1 e Lo → P e Lo) {n u : Nat} {c : Code} {t : Sem PySem.Fin} {fs : List Frame} (t1 : Seg1 V.w n u c t fs Lin1 P1) (i : Nat) :
    SegX (md V) (Bn n u) c t fs (sh V h tb i gl) (fun e s' => After V.w gl V.d V.os V.h₀ N Lin (fun _ Lo => P e Lo) (.ok .next) s') := by
  obtain ⟨N1, T, rfl, rfl, F1⟩ := St0.of S D
  have I : InL V.w h Lin1 := ⟨fun p hp => D.own p (hL p hp), hn, fun p hp => S.kt ▸ D.sep p (hL p hp)⟩
  have z := t1 V.d V.os h N1 (T + i) gl F1 I
  have e : st h gl V.d (T + i) V.os = sh V h (T + 2349) i gl := by unfold st sh; rw [Nat.add_right_comm]
  rw [e] at z
  have le : N ≤ N1 := by
    have := D.mono
    have e3 : V.h₀.objs.size = N + 171 := F.size
    have : V.h₀.objs.size ≤ N1 + 171 := this
    omega
  refine z.mono fun r s' x => ?_
  obtain ⟨h', N', T', Lo, rfl, F', le', k, I', hm, hp⟩ := x
  refine ⟨h', N', T', Lo, rfl, F', Nat.le_trans le le', fun b o eb q => k b o (D.old b o eb (hk ▸ q)) (fun z => q (hsub b z)), I', fun p hp => ?_, hP _ _ hp⟩
  rcases hm p hp with m | m
  · exact .inl (hsub _ m)
  · exact .inr (by omega)
theorem VG_ok {w : World} {h : Heap} {d : Drawn} {os : OsState} {n u : Nat} {keys : List Nat} {P₀ : End → Shared → Prop} {hook : HookT} {susp : End → Cont} {gtail : Nat → Code → List Frame → Cont} {gstop : Result → Code → List Frame → Cont}
    (hret : ∀ r L sz tb i gl gh h', good (susp (.ret r) L sz tb i gl gh) → Rp (VG w h d os n u keys P₀ hook susp gtail gstop) h' L sz tb → P₀ (.ret r) ⟨h', ⟨gl⟩, d, tb + i, os⟩)
    (hsusp : ∀ v l k c fs L sz tb i gl gh h', good (susp (.susp v false l k c ⟨0, 0, 0, 0⟩ fs) L sz tb i gl gh) → Rp (VG w h d os n u keys P₀ hook susp gtail gstop) h' L sz tb → ∀ p, P₀ (.susp v false l k c p fs) ⟨h', ⟨gl⟩, d, tb + i, os⟩)
    (hh : HookOk (VG w h d os n u keys P₀ hook susp gtail gstop) hook)
    (htail : ∀ j c fs L sz tb i gl gh h', good (gtail j c fs L sz tb i gl gh) → Rp (VG w h d os n u keys P₀ hook susp gtail gstop) h' L sz tb → SegX (model pw w) (Bn n u) c (denote table c) fs ⟨h', ⟨gl⟩, d, tb + i, os⟩ P₀)
    (hstop : ∀ r c fs L sz tb i gl gh h', good (gstop r c fs L sz tb i gl gh) → Rp (VG w h d os n u keys P₀ hook susp gtail gstop) h' L sz tb → SegX (model pw w) (Bn n u) c (leafOf r) fs ⟨h', ⟨gl⟩, d, tb + i, os⟩ P₀) : (VG w h d os n u keys P₀ hook susp gtail gstop).Ok where
  den := Dz_eq
  go := fun _ _ _ _ _ x => goF_sound x
  ktlow := fun a h => ktop_low _ a h
  fin := fun _ _ _ _ _ _ _ _ H _ => by cases H
  gret := hret
  susp := fun v l k c fs L sz tb i gl gh h' H D _ _ p => hsusp v l k c fs L sz tb i gl gh h' H D p
  hook := hh
  tail := fun _ _ _ _ _ _ _ _ _ H _ => by cases H
  gtail := htail
  gstop := hstop
  cut := fun _ _ _ _ _ _ _ _ _ _ _ _ H _ => by cases H
/-- a stretch by its run -/
theorem seg_run {V : Ev} (O : V.Ok) {c : Code} {t : Sem PySem.Fin} {fs : List Frame} {L : Led} {sz tb i : Nat} {gl : List GenState} {gh : List PySem.Value} {h : Heap} {n : Nat}
    (H : good (sim V n c (some fs) .base t L sz tb i gl gh)) (D : Rp V h L sz tb) : SegX (md V) V.A₀ c t fs (sh V h tb i gl) V.P₀ := sim_sound O n _ (some fs) .base _ _ _ _ _ _ _ h H D
theorem gtG_ok {V : Ev} (S : V.Std) {N n u : Nat} {Lin : Led} {x : Str} {a : AdG} {k : Nat} {esc : Bool} {fs₀ : List Frame} {gl₂ : List GenState} {Q : End → Led → Prop} (F : St0 V.w V.h₀ N) (hk : V.keys = Lin.map (·.1)) (hl : Lin.map (·.1) = keysG a) (hn : (Lin.map (·.1)).Nodup) (hA : V.A₀ = Bn n u)
    (hP : V.P₀ = fun e s' => After V.w gl₂ V.d V.os V.h₀ N Lin (fun _ Lo => Q e Lo) (.ok .next) s')
    (IH : ∀ d, Seg1 V.w n u (cLG V.w.params a.en a.loc) (denote table (cLG V.w.params a.en a.loc)) fs₀ (linG x a d k esc) Q)
    {j c fs L sz tb i gl gh h} (H : good (gtG V.w.params x a k esc fs₀ gl₂ j c fs L sz tb i gl gh)) (D : Rp V h L sz tb) : SegX (md V) V.A₀ c (denote table c) fs (sh V h tb i gl) V.P₀ := by
  unfold gtG at H
  obtain ⟨ec, H⟩ := eqC_of H
  obtain ⟨ef, H⟩ := eqG_of' H
  obtain ⟨eg, H⟩ := eqG_of' H
  obtain ⟨_, pl, _, _, H⟩ := inLed_of H
  obtain ⟨_, pe, _, _, H⟩ := inLed_of H
  obtain ⟨_, ps, _, _, H⟩ := inLed_of H
  obtain ⟨ho, -⟩ := outs_of H
  rw [ec, frG_inj ef, eg, hA, hP]
  exact seg_trans S F hk D ho (fun a h => hl ▸ h) (hl ▸ hn : (keysG a).Nodup) (fun _ _ h => h) (IH _) i
theorem nextG_ok {w : World} {h : Heap} {d₀ : Drawn} {os : OsState} {n u : Nat} {P₀ : End → Shared → Prop} {x : Str} {a : AdG} {k : Nat} {esc : Bool} {fs₀ : List Frame} {c : Code} {t : Sem PySem.Fin} {fs : List Frame} {Q : End → Led → Prop}
    (H : good (nextG w h d₀ os n u P₀ x a k esc fs₀ c t fs)) (IH : ∀ d, Seg1 w n u (cLG w.params a.en a.loc) (denote table (cLG w.params a.en a.loc)) fs₀ (linG x a d k false) Q) (d : StG) : Seg1 w n u c t fs (linG x a d k esc) Q := fun d1 os1 h1 N1 T1 gl1 F I => by
  have H' := H d.e1.1 d.e1.2 d.e2.1 d.e2.2 d.e3.1 d.e3.2 d.e4.1 d.e4.2 d.ta d.ln d.tx d.vp d.vc d.old gl1 N1 T1
  replace H' : good (sim (VG w h d₀ os n u [] P₀ noHook noSusp (gtG w.params x a k false fs₀ gl1) noStop) 300 c (some fs) .base t (linG x a d k esc) (N1 + 171) (T1 + 2349) 0 gl1 []) := H'
  rw [sim_indep w h h1 d₀ d1 os os1 n u [] (keysG a) P₀ (fun e s' => After w gl1 d1 os1 h1 N1 (linG x a d k esc) (fun _ Lo => Q e Lo) (.ok .next) s')] at H'
  let V := VG w h1 d1 os1 n u (keysG a) (fun e s' => After w gl1 d1 os1 h1 N1 (linG x a d k esc) (fun _ Lo => Q e Lo) (.ok .next) s') noHook noSusp (gtG w.params x a k false fs₀ gl1) noStop
  have S : V.Std := VG_std
  have O : V.Ok := VG_ok (fun _ _ _ _ _ _ _ _ H _ => by cases H) (fun _ _ _ _ _ _ _ _ _ _ _ _ H _ => by cases H) (noHook_ok _)
    (fun j c fs L sz tb i gl gh h' H D => gtG_ok (V := V) S F rfl rfl I.nodup rfl rfl IH H D) (fun _ _ _ _ _ _ _ _ _ _ H _ => by cases H)
  exact seg_run (V := V) O (tb := T1 + 2349) (i := 0) H' (Rp.startL (V := V) S F I rfl)
theorem spG_ok {V : Ev} (S : V.Std) {N n u : Nat} {Lin : Led} {w : World} {h₁ : Heap} {d₁ : Drawn} {os₁ : OsState} {P₁ : End → Shared → Prop} {x : Str} {a : AdG} {b : Bool × Nat} {bs : List (Bool × Nat)} {k : Nat} {fs₀ : List Frame} {gl₀ : List GenState} (hw : V.w = w) (F : St0 V.w V.h₀ N) (hk : V.keys = Lin.map (·.1))
    (IH : ∀ d, Seg1 w n u (cLG w.params a.en a.loc) (denote table (cLG w.params a.en a.loc)) fs₀ (linG x a d (k + wdB b) false) (specG w n u x a bs (k + wdB b)))
    {v l kk c fs L sz tb i gl gh h} (H : good (spG w h₁ d₁ os₁ n u P₁ x a b k fs₀ gl₀ (.susp v false l kk c ⟨0, 0, 0, 0⟩ fs) L sz tb i gl gh)) (D : Rp V h L sz tb) (p : Pos) :
    After V.w gl₀ V.d V.os V.h₀ N Lin (fun _ Lo => specG w n u x a (b :: bs) k (.susp v false l kk c p fs) Lo) (.ok .next) (sh V h tb i gl) := by
  unfold spG at H
  simp only at H
  split at H
  · rename_i tup
    obtain ⟨eg, H2⟩ := eqG_of' H
    subst eg
    obtain ⟨_, q, _, _, H⟩ := inLed_of H2
    obtain ⟨_, pl, _, _, H⟩ := inLed_of H
    obtain ⟨_, pe, _, _, H⟩ := inLed_of H
    obtain ⟨_, ps, _, _, H⟩ := inLed_of H
    obtain ⟨rest, hp, H⟩ := pickL_of H
    refine after_of S F hk D (fun y hy => hp.mem_iff.mpr (List.mem_append.mpr (.inl hy))) ?_ ⟨tup, _, _, _, l, kk, c, p, fs, rfl, rfl, fun d => ⟨c, kk (.send .none), fs, rfl, nextG_ok H IH d⟩⟩
    have hn := (hp.map (·.1)).nodup_iff.mp D.nodup
    rw [List.map_append] at hn
    exact (List.nodup_append.mp hn).1
  · cases H
end Mine
end
-- part F8f
section
namespace Mine
noncomputable def tupE (e : PySem.Expr) : List PySem.Expr := match e with
  | .Tuple l _ _ => l
  | _ => []
noncomputable def tupN (e : PySem.Expr) : Nat := match e with
  | .Tuple _ n _ => n
  | _ => 0
noncomputable def tupP (e : PySem.Expr) : Pos := match e with
  | .Tuple _ _ p => p
  | _ => ⟨0, 0, 0, 0⟩
theorem tgtG (P : Params) : forTarget (forG P) = .Tuple (tupE (forTarget (forG P))) (tupN (forTarget (forG P))) (tupP (forTarget (forG P))) := by kernel_rfl
theorem genHeadG {V : Ev} (S : V.Std) {Pm : Params} {x : Str} {en sit tx k ch loc : Nat} {old : PySem.Value} {L : Led} (hx : x.cps[k]? = some ch)
    {fs : List Frame} {P : End → Shared → Prop} {h : Heap} {sz tb i : Nat} {gl : List GenState} (D : Rp V h (linT x en sit tx k old ++ L) sz tb)
    (H : ∀ h', Rp V h' ((sz, pairT k (tb + (i + 1)) ch (tb + i)) :: (linT x en sit tx (k + 1) (.str ⟨⟨[ch]⟩⟩ (tb + i)) ++ L)) (sz + 1) tb →
      SegX (md V) V.A₀ (cLG Pm en loc) (tG Pm en loc sz) fs (sh V h' tb (i + 2) gl) P) :
    SegX (md V) V.A₀ (cLG Pm en loc) (denote table (cLG Pm en loc)) fs (sh V h tb i gl) P := by
  unfold cLG tG at *
  rw [tgtG Pm] at *
  exact genHead S hx D H
noncomputable def FOk (w : World) (x : Str) (a : AdG) (fs : List Frame) : Prop := ∀ d, Seg1 w 350 60 (cBG w.params a.loc) (leafOf (.ok .next)) fs [(a.loc, locG x d false)] (fun e _ => e = .ret (.ok (.ret .none)))
theorem gsG_ok {V : Ev} (S : V.Std) {N : Nat} {Lin : Led} {x : Str} {a : AdG} {fs₀ : List Frame} {gl₀ : List GenState} (F : St0 V.w V.h₀ N) (hk : V.keys = Lin.map (·.1)) (hl : Lin.map (·.1) = keysG a) (hA : V.A₀ = Bn 350 60)
    (hP : V.P₀ = fun e s' => After V.w gl₀ V.d V.os V.h₀ N Lin (fun _ _ => e = .ret (.ok (.ret .none))) (.ok .next) s') (hF : FOk V.w x a fs₀)
    {r c fs L sz tb i gl gh h} (H : good (gsG V.w.params x a fs₀ gl₀ r c fs L sz tb i gl gh)) (D : Rp V h L sz tb) : SegX (md V) V.A₀ c (leafOf r) fs (sh V h tb i gl) V.P₀ := by
  unfold gsG at H
  split at H
  · split at H
    · obtain ⟨ec, H⟩ := eqC_of H
      obtain ⟨ef, H⟩ := eqG_of' H
      obtain ⟨eg, H⟩ := eqG_of' H
      obtain ⟨_, pl, _, _, H⟩ := inLed_of H
      obtain ⟨ho, -⟩ := outs_of H
      rw [ec, frG_inj ef, eg, hA, hP]
      exact seg_trans (P := fun e _ => e = .ret (.ok (.ret .none))) S F hk D ho (fun y hy => by
        rw [hl]
        rcases List.mem_singleton.mp hy with rfl
        exact .tail _ (.tail _ (.head _))) (by simp) (fun _ _ h => h) (hF _) i
    · cases H
  · cases H
section
variable (w : World) (b1 b2 b3 : Bool) (x : Str) (a : AdG) (kF : Result → Sem PySem.Fin) (lF : List PySem.Value) (cF : Code) (pF : Pos)
noncomputable abbrev LoopG (bs : List (Bool × Nat)) (k : Nat) (esc : Bool) (Q : End → Led → Prop) : Prop :=
  ∀ d, Seg1 (WB w b1 b2 b3) 350 60 (cLG (WB w b1 b2 b3).params a.up.en a.up.loc) (denote table (cLG (WB w b1 b2 b3).params a.up.en a.up.loc)) (fs1 kF lF cF pF) (linG x a.up d k esc) Q
theorem loopG (hF : FOk (WB w b1 b2 b3) x a.up (fs1 kF lF cF pF)) : ∀ (bs : List (Bool × Nat)) (k : Nat) (_ : ∀ j, x.cps[k + j]? = (txtB bs)[j]?) (_ : ∀ p ∈ bs, OkB p),
    LoopG w b1 b2 b3 x a kF lF cF pF bs k false (specG (WB w b1 b2 b3) 350 60 x a.up bs k)
  | [], k, hx, _ => fun d d₀ os h N T gl F I => by
    obtain ⟨loc, en, sit⟩ := a
    let W := WB w b1 b2 b3
    let a : AdG := ⟨loc + 171, en + 171, sit + 171⟩
    let V := VG W h d₀ os 350 60 (keysG a) (fun e s' => After W gl d₀ os h N (linG x a d k false) (fun _ _ => e = .ret (.ok (.ret .none))) (.ok .next) s') (hookEndA x k) noSusp noGtail (gsG W.params x a (fs1 kF lF cF pF) gl)
    have S : V.Std := VG_std
    have O : V.Ok := VG_ok (fun _ _ _ _ _ _ _ _ H _ => by cases H) (fun _ _ _ _ _ _ _ _ _ _ _ _ H _ => by cases H) (hookEndA_ok S ((hx 0).trans rfl)) (fun _ _ _ _ _ _ _ _ _ _ H _ => by cases H)
      (fun r c fs L sz tb i gl gh h' H D => gsG_ok (V := V) S F rfl rfl rfl rfl hF H D)
    have z := good_of _ _ (ckE w b1 b2 b3 x loc en sit k d kF lF cF pF d₀ os h N T gl V.P₀)
    rw [← Dz_eq]
    exact seg_run (V := V) O (tb := T + 2349) (i := 0) z (Rp.startL (V := V) S F I rfl)
  | (false, c) :: bs, k, hx, hb => fun d d₀ os h N T gl F I => by
    have hc : c ∈ [34, 97, 98, 99] := hb _ (.head _)
    have IH := loopG hF bs (k + 1) (fun j => by rw [show k + 1 + j = k + (j + 1) by omega, hx (j + 1)]; rfl) (fun p hp => hb p (.tail _ hp))
    have hx0 : x.cps[k]? = some c := (hx 0).trans rfl
    obtain ⟨loc, en, sit⟩ := a
    let W := WB w b1 b2 b3
    let a : AdG := ⟨loc + 171, en + 171, sit + 171⟩
    let P₀ : End → Shared → Prop := fun e s' => After W gl d₀ os h N (linG x a d k false) (fun _ Lo => specG W 350 60 x a ((false, c) :: bs) k e Lo) (.ok .next) s'
    let V := VG W h d₀ os 350 60 (keysG a) P₀ noHook (spG W h d₀ os 350 60 P₀ x a (false, c) k (fs1 kF lF cF pF) gl) noGtail noStop
    have S : V.Std := VG_std
    have O : V.Ok := VG_ok (fun _ _ _ _ _ _ _ _ H _ => by cases H) (fun v l kk c' fs L sz tb i gl gh h' H D p => spG_ok (V := V) (n := 350) (u := 60) (x := x) (a := a) (k := k) (b := (false, c)) (bs := bs) S rfl F rfl IH H D p) (noHook_ok _) (fun _ _ _ _ _ _ _ _ _ _ H _ => by cases H) (fun _ _ _ _ _ _ _ _ _ _ H _ => by cases H)
    have z := good_of _ _ (ckC w b1 b2 b3 x loc en sit k d kF lF cF pF d₀ os h N T gl P₀ hc)
    exact genHeadG (V := V) S (tb := T + 2349) (i := 0) hx0 (Rp.startL (V := V) S F I rfl) fun h' D' => seg_run (V := V) (n := 600) (gh := []) O z D'
  | (true, c) :: bs, k, hx, hb => fun d d₀ os h N T gl F I => by
    have hc : c ∈ [92, 34] := hb _ (.head _)
    have IH := loopG hF bs (k + 2) (fun j => by rw [show k + 2 + j = k + (j + 1 + 1) by omega, hx (j + 1 + 1)]; rfl) (fun p hp => hb p (.tail _ hp))
    have hx0 : x.cps[k]? = some 92 := (hx 0).trans rfl
    have hx1 : x.cps[k + 1]? = some c := (hx 1).trans rfl
    obtain ⟨loc, en, sit⟩ := a
    let W := WB w b1 b2 b3
    let a : AdG := ⟨loc + 171, en + 171, sit + 171⟩
    have IB : LoopG w b1 b2 b3 x ⟨loc, en, sit⟩ kF lF cF pF bs (k + 1) true (specG W 350 60 x a ((true, c) :: bs) k) := fun d d₀ os h N T gl F I => by
      let P₀ : End → Shared → Prop := fun e s' => After W gl d₀ os h N (linG x a d (k + 1) true) (fun _ Lo => specG W 350 60 x a ((true, c) :: bs) k e Lo) (.ok .next) s'
      let V := VG W h d₀ os 350 60 (keysG a) P₀ noHook (spG W h d₀ os 350 60 P₀ x a (true, c) k (fs1 kF lF cF pF) gl) noGtail noStop
      have S : V.Std := VG_std
      have O : V.Ok := VG_ok (fun _ _ _ _ _ _ _ _ H _ => by cases H) (fun v l kk c' fs L sz tb i gl gh h' H D p => spG_ok (V := V) (n := 350) (u := 60) (x := x) (a := a) (k := k) (b := (true, c)) (bs := bs) S rfl F rfl IH H D p) (noHook_ok _) (fun _ _ _ _ _ _ _ _ _ _ H _ => by cases H) (fun _ _ _ _ _ _ _ _ _ _ H _ => by cases H)
      have z := good_of _ _ (ckB w b1 b2 b3 x loc en sit k d kF lF cF pF d₀ os h N T gl P₀ hc)
      exact genHeadG (V := V) S (tb := T + 2349) (i := 0) hx1 (Rp.startL (V := V) S F I rfl) fun h' D' => seg_run (V := V) (n := 600) (gh := []) O z D'
    let P₀ : End → Shared → Prop := fun e s' => After W gl d₀ os h N (linG x a d k false) (fun _ Lo => specG W 350 60 x a ((true, c) :: bs) k e Lo) (.ok .next) s'
    let V := VG W h d₀ os 350 60 (keysG a) P₀ noHook noSusp (gtG W.params x a (k + 1) true (fs1 kF lF cF pF) gl) noStop
    have S : V.Std := VG_std
    have O : V.Ok := VG_ok (fun _ _ _ _ _ _ _ _ H _ => by cases H) (fun _ _ _ _ _ _ _ _ _ _ _ _ H _ => by cases H) (noHook_ok _) (fun j c fs L sz tb i gl gh h' H D => gtG_ok (V := V) S F rfl rfl I.nodup rfl rfl IB H D) (fun _ _ _ _ _ _ _ _ _ _ H _ => by cases H)
    have z := good_of _ _ (ckA w b1 b2 b3 x loc en sit k d kF lF cF pF d₀ os h N T gl P₀)
    exact genHeadG (V := V) S (tb := T + 2349) (i := 0) hx0 (Rp.startL (V := V) S F I rfl) fun h' D' => seg_run (V := V) (n := 600) (gh := []) O z D'
end
end Mine
end
-- part F8g
section
namespace Mine
theorem seg_trans2 {V : Ev} (S : V.Std) {N : Nat} {Lin Lin1 : Led} {P P1 : End → Led → Prop} (F : St0 V.w V.h₀ N) (hk : V.keys = Lin.map (·.1)) {L : Led} {sz tb : Nat} {gl : List GenState} {h : Heap} (D : Rp V h L sz tb)
    (hL : ∀ q ∈ Lin1, q ∈ L) (hn : (Lin1.map (·.1)).Nodup) (hP : ∀ e Lo, P1 e Lo → P e Lo) {n u : Nat} {c : Code} {t : Sem PySem.Fin} {fs : List Frame} (t1 : Seg1 V.w n u c t fs Lin1 P1) (i : Nat) :
    SegX (md V) (Bn n u) c t fs (sh V h tb i gl) (fun e s' => After V.w gl V.d V.os V.h₀ N Lin (fun _ Lo => P e Lo) (.ok .next) s') := by
  obtain ⟨N1, T, rfl, rfl, F1⟩ := St0.of S D
  have I : InL V.w h Lin1 := ⟨fun p hp => D.own p (hL p hp), hn, fun p hp => S.kt ▸ D.sep p (hL p hp)⟩
  have z := t1 V.d V.os h N1 (T + i) gl F1 I
  have e : st h gl V.d (T + i) V.os = sh V h (T + 2349) i gl := by unfold st sh; rw [Nat.add_right_comm]
  rw [e] at z
  have le : N ≤ N1 := by
    have := D.mono
    have e3 : V.h₀.objs.size = N + 171 := F.size
    have : V.h₀.objs.size ≤ N1 + 171 := this
    omega
  have own : ∀ a ∈ Lin1.map (·.1), a ∈ Lin.map (·.1) ∨ N + 171 ≤ a := fun a ha => by
    obtain ⟨p, hp, rfl⟩ := List.mem_map.mp ha
    rcases D.mine p (hL p hp) with m | m
    · exact .inr (F.size ▸ m)
    · exact .inl (hk ▸ m)
  refine z.mono fun r s' x => ?_
  obtain ⟨h', N', T', Lo, rfl, F', le', k, I', hm, hp⟩ := x
  refine ⟨h', N', T', Lo, rfl, F', Nat.le_trans le le', fun b o eb q => k b o (D.old b o eb (hk ▸ q)) (fun z => ?_), I', fun p hp => ?_, hP _ _ hp⟩
  · rcases own b z with m | m
    · exact q m
    · have := Heap.lt_size eb
      rw [F.size] at this
      exact absurd this (Nat.not_lt.mpr m)
  · rcases hm p hp with m | m
    · exact own _ m
    · exact .inr (by omega)
theorem fokG_ok {w : World} {h : Heap} {d₀ : Drawn} {os : OsState} {P : End → Shared → Prop} {x : Str} {a : AdG} {fs : List Frame} (H : good (fokG w h d₀ os P x a fs)) : FOk w x a fs := fun d d1 os1 h1 N1 T1 gl1 F I => by
  have H' := H d.e1.1 d.e1.2 d.e2.1 d.e2.2 d.e3.1 d.e3.2 d.e4.1 d.e4.2 d.ta d.ln d.tx d.vp d.vc d.old gl1 N1 T1
  replace H' : good (sim (VG w h d₀ os 350 60 [] P noHook (endG gl1) noGtail noStop) 300 (cBG w.params a.loc) (some fs) .base (leafOf (.ok .next)) [(a.loc, locG x d false)] (N1 + 171) (T1 + 2349) 0 gl1 []) := H'
  rw [sim_indep w h h1 d₀ d1 os os1 350 60 [] [a.loc] P (fun e s' => After w gl1 d1 os1 h1 N1 [(a.loc, locG x d false)] (fun _ _ => e = .ret (.ok (.ret .none))) (.ok .next) s')] at H'
  let V := VG w h1 d1 os1 350 60 [a.loc] (fun e s' => After w gl1 d1 os1 h1 N1 [(a.loc, locG x d false)] (fun _ _ => e = .ret (.ok (.ret .none))) (.ok .next) s') noHook (endG gl1) noGtail noStop
  have S : V.Std := VG_std
  have O : V.Ok := VG_ok (fun r L sz tb i gl gh h' H D => by
      unfold endG at H
      simp only at H
      split at H
      · split at H
        · obtain ⟨ev, H⟩ := eqV_of H
          obtain ⟨eg, -⟩ := eqG_of' H
          rw [ev, eg]
          exact after_of (V := V) S F rfl D (Lout := []) (fun _ h => (nomatch h)) List.nodup_nil rfl
        · cases H
      · cases H) (fun _ _ _ _ _ _ _ _ _ _ _ _ H _ => by cases H) (noHook_ok _)
    (fun _ _ _ _ _ _ _ _ _ _ H _ => by cases H) (fun _ _ _ _ _ _ _ _ _ _ H _ => by cases H)
  exact seg_run (V := V) O (tb := T1 + 2349) (i := 0) H' (Rp.startL (V := V) S F I rfl)
theorem shapeF_of {fs : List Frame} (h : shapeF fs = true) : ∃ kF lF cF pF, fs = fs1 kF lF cF pF := by
  unfold shapeF at h
  split at h
  · exact ⟨_, _, _, _, rfl⟩
  · cases h
section
variable (w : World) (b1 b2 b3 : Bool) (x : Str)
theorem headF (a : AdG) (kF : Result → Sem PySem.Fin) (lF : List PySem.Value) (cF : Code) (pF : Pos) (hF : FOk (WB w b1 b2 b3) x a.up (fs1 kF lF cF pF)) (bs : List (Bool × Nat)) (hx0 : x.cps[0]? = some 120) (hx : ∀ j, x.cps[1 + j]? = (txtB bs)[j]?) (hb : ∀ p ∈ bs, OkB p) (d : StG) :
    Seg1 (WB w b1 b2 b3) 350 60 (cLG (WB w b1 b2 b3).params a.up.en a.up.loc) (denote table (cLG (WB w b1 b2 b3).params a.up.en a.up.loc)) (fs1 kF lF cF pF) (lin0 x a.up d) (specG (WB w b1 b2 b3) 350 60 x a.up ((false, 120) :: bs) 0) := fun d₀ os h N T gl F I => by
  have IH := loopG w b1 b2 b3 x a kF lF cF pF hF bs 1 hx hb
  obtain ⟨loc, en, sit⟩ := a
  let W := WB w b1 b2 b3
  let a : AdG := ⟨loc + 171, en + 171, sit + 171⟩
  let P₀ : End → Shared → Prop := fun e s' => After W gl d₀ os h N (lin0 x a d) (fun _ Lo => specG W 350 60 x a ((false, 120) :: bs) 0 e Lo) (.ok .next) s'
  let V := VG W h d₀ os 350 60 (keysG a) P₀ noHook (spG W h d₀ os 350 60 P₀ x a (false, 120) 0 (fs1 kF lF cF pF) gl) noGtail noStop
  have S : V.Std := VG_std
  have O : V.Ok := VG_ok (fun _ _ _ _ _ _ _ _ H _ => by cases H) (fun v l kk c' fs L sz tb i gl gh h' H D p => spG_ok (V := V) (n := 350) (u := 60) (x := x) (a := a) (k := 0) (b := (false, 120)) (bs := bs) S rfl F rfl IH H D p) (noHook_ok _) (fun _ _ _ _ _ _ _ _ _ _ H _ => by cases H) (fun _ _ _ _ _ _ _ _ _ _ H _ => by cases H)
  have z := good_of _ _ (ckF w b1 b2 b3 x loc en sit d kF lF cF pF d₀ os h N T gl P₀)
  exact genHeadG (V := V) S (tb := T + 2349) (i := 0) hx0 (Rp.startL (V := V) S F I rfl) fun h' D' => seg_run (V := V) (n := 600) (gh := []) O z D'
noncomputable def specS (w : World) (x : Str) (loc : Nat) (bs : List (Bool × Nat)) (e : End) (Lo : Led) : Prop := ∃ en sit, AdG.high ⟨loc, en, sit⟩ = true ∧ specG w 350 60 x ⟨loc, en, sit⟩ ((false, 120) :: bs) 0 e Lo
theorem startG (loc : Nat) (e1 : Ky) (ta ln : Nat) (bs : List (Bool × Nat)) (hx0 : x.cps[0]? = some 120) (hx : ∀ j, x.cps[1 + j]? = (txtB bs)[j]?) (hb : ∀ p ∈ bs, OkB p) (ha : x.cps.all (· < 128) = true) :
    Wakes1 (WB w b1 b2 b3) 350 60 (.fresh (cG (WB w b1 b2 b3).params (loc + 171))) (linS x (loc + 171) e1 ta ln) (specS (WB w b1 b2 b3) x (loc + 171) bs) := ⟨_, _, _, rfl, fun d₀ os h N T gl F I => by
  let W := WB w b1 b2 b3
  let P₀ : End → Shared → Prop := fun e s' => After W gl d₀ os h N (linS x (loc + 171) e1 ta ln) (fun _ Lo => specS W x (loc + 171) bs e Lo) (.ok .next) s'
  let V := VG W h d₀ os 350 60 [loc + 171] P₀ (hookEnum x) noSusp (gtF W h d₀ os P₀ x (loc + 171) gl) noStop
  have S : V.Std := VG_std
  have O : V.Ok := VG_ok (fun _ _ _ _ _ _ _ _ H _ => by cases H) (fun _ _ _ _ _ _ _ _ _ _ _ _ H _ => by cases H) (hookEnum_ok S ha)
    (fun j c fs L sz tb i gl' gh h' H D => by
      unfold gtF at H
      obtain ⟨_, pe, _, _, H⟩ := inLed_of H
      obtain ⟨_, pl, _, _, H⟩ := inLed_of H
      obtain ⟨_, ps, _, _, H⟩ := inLed_of H
      split at H
      · rename_i hc
        obtain ⟨hh, hs⟩ := Bool.and_eq_true_iff.mp hc
        obtain ⟨ec, H⟩ := eqC_of H
        obtain ⟨eg, H⟩ := eqG_of' H
        obtain ⟨rest, hp, H⟩ := pickL_of H
        have ho : ∀ q ∈ lin0 x ⟨loc + 171, cIt5 c, sitOf pe.2⟩ (stGOf pl.2 pe.2 ps.2), q ∈ L := fun y hy => hp.mem_iff.mpr (List.mem_append.mpr (.inl hy))
        have hF := fokG_ok H
        obtain ⟨kF, lF, cF, pF, rfl⟩ := shapeF_of hs
        have hd := headF w b1 b2 b3 x (AdG.down ⟨loc + 171, cIt5 c, sitOf pe.2⟩) kF lF cF pF
        rw [AdG.high_up hh] at hd
        have t1 := hd hF bs hx0 hx hb (stGOf pl.2 pe.2 ps.2)
        rw [ec, eg]
        have hn : ((lin0 x ⟨loc + 171, cIt5 c, sitOf pe.2⟩ (stGOf pl.2 pe.2 ps.2)).map (·.1)).Nodup := by
          have hn := (hp.map (·.1)).nodup_iff.mp D.nodup
          rw [List.map_append] at hn
          exact (List.nodup_append.mp hn).1
        exact seg_trans2 (V := V) S F rfl D ho hn (fun e Lo hq => ⟨_, _, hh, hq⟩) t1 i
      · cases H) (fun _ _ _ _ _ _ _ _ _ _ H _ => by cases H)
  have z := good_of _ _ (ckS w b1 b2 b3 x loc d₀ os h N T gl P₀ e1.1 e1.2 ta ln)
  rw [← Dz_eq]
  exact seg_run (V := V) O (tb := T + 2349) (i := 0) z (Rp.startL (V := V) S F I rfl)⟩
end
end Mine
end
-- part F9a
section
namespace Mine
/-! a generator's __next__, by what is known of its waking -/
theorem after_rp {V : Ev} (S : V.Std) {N : Nat} {Lin rest L : Led} {P : Result → Led → Prop} {gl : List GenState} {r : Result} {s' : Shared} {h : Heap} {sz tb : Nat} (es : sz = N + 171)
    (h1 : ∀ p ∈ Lin, p ∈ L) (h2 : ∀ p ∈ rest, p ∈ L) (h3 : (Lin.map (·.1) ++ rest.map (·.1)).Nodup) (D : Rp V h L sz tb) (x : After V.w gl V.d V.os h N Lin P r s') :
    ∃ Lo N' T' h', P r Lo ∧ s' = sh V h' (T' + 2349) 0 gl ∧ Rp V h' (Lo ++ rest) (N' + 171) (T' + 2349) := by
  subst es
  obtain ⟨n1, n2, n3⟩ := List.nodup_append.mp h3
  obtain ⟨h', N', T₁, Lo, rfl, F', le, k, I', hm, hP⟩ := x
  have off : ∀ p ∈ rest, p.1 ∉ Lin.map (·.1) := fun p hp q => n3 _ q _ (List.mem_map.mpr ⟨p, hp, rfl⟩) rfl
  have le' : N + 171 ≤ N' + 171 := Nat.add_le_add_right le _
  have key : ∀ p ∈ Lo, (∃ q ∈ Lin, q.1 = p.1) ∨ N + 171 ≤ p.1 := fun p hp => (hm p hp).imp (fun q => by obtain ⟨a, b, c⟩ := List.mem_map.mp q; exact ⟨a, b, c⟩) id
  refine ⟨Lo, N', T₁, h', hP, rfl, ⟨Nat.le_add_left .., F'.size, Nat.le_trans D.low le', Nat.le_trans D.mono le', fun p hp => ?_, ?_, fun p hp => ?_, fun p hp => ?_, S.kt ▸ F'.top, fun b o eb q => ?_⟩⟩
  · rcases List.mem_append.mp hp with hp | hp
    · exact I'.own p hp
    · exact k _ _ (D.own p (h2 p hp)) (off p hp)
  · rw [List.map_append]
    refine List.nodup_append.mpr ⟨I'.nodup, n2, fun a ha b hb hab => ?_⟩
    obtain ⟨p, hp, rfl⟩ := List.mem_map.mp ha
    obtain ⟨q, hq, rfl⟩ := List.mem_map.mp hb
    rcases key p hp with ⟨y, hy, hyp⟩ | hge
    · exact off q hq (hab ▸ hyp ▸ List.mem_map.mpr ⟨y, hy, rfl⟩)
    · exact absurd (D.lt (h2 q hq)) (Nat.not_lt.mpr (hab ▸ hge))
  · rcases List.mem_append.mp hp with hp | hp
    · exact S.kt ▸ I'.sep p hp
    · exact D.sep p (h2 p hp)
  · rcases List.mem_append.mp hp with hp | hp
    · rcases key p hp with ⟨y, hy, hyp⟩ | hge
      · exact hyp ▸ D.mine y (h1 y hy)
      · exact .inl (Nat.le_trans D.mono hge)
    · exact D.mine p (h2 p hp)
  · refine k b o (D.old b o eb q) fun hb => ?_
    obtain ⟨y, hy, hyb⟩ := List.mem_map.mp hb
    rcases D.mine y (h1 y hy) with m | m
    · exact absurd (Heap.lt_size eb) (Nat.not_lt.mpr (hyb ▸ m))
    · exact q (hyb ▸ m)
noncomputable def statE (P : Params) : Array DictEntry := match (ktop P).get 2 with
  | some o => match o.data with
    | .dict es _ => es
    | _ => #[]
  | none => #[]
noncomputable def statO (P : Params) : Obj := match (ktop P).get 2 with
  | some o => o
  | none => default
theorem stat_get (P : Params) : (ktop P).get 2 = some (statO P) := by kernel_rfl
noncomputable def statN (P : Params) : Nat := match (ktop P).get 2 with
  | some o => match o.data with
    | .dict _ n => n
    | _ => 0
  | none => 0
theorem stat_data (P : Params) : (statO P).data = .dict (statE P) (statN P) := by kernel_rfl
noncomputable def strKeysB (l : List DictEntry) : Bool := l.all fun e => match e.key with
  | .str _ _ => true
  | _ => false
theorem stat_keys (P : Params) : strKeysB (statE P).toList = true := by kernel_rfl
theorem stat_none (P : Params) : nsFind (statE P) "sys.recursionlimit" = none := by kernel_rfl
theorem seg_B {M : Model} {A : Around} {n u : Nat} (e : inB A n u = true) {c : Code} {t : Sem PySem.Fin} {fs : List Frame} {s : Shared} {P : End → Shared → Prop} (x : SegX M (Bn n u) c t fs s P) : SegX M A c t fs s P := fun Γ p hc hΓ => x Γ p hc ⟨below_B e hΓ.1, hΓ.2⟩
noncomputable def genObj (g : Nat) (nm qn : PySem.Value) : Obj := ⟨.type "generator", none, .fields ⟨[.int (g : Int) 0, nm, qn]⟩, #[]⟩
theorem set_last (l : List GenState) (a b : GenState) : (⟨l ++ [a]⟩ : Array GenState).setIfInBounds l.length b = ⟨l ++ [b]⟩ := by
  simp
theorem get_last (l : List GenState) (a : GenState) : (⟨l ++ [a]⟩ : Array GenState)[l.length]? = some a := by simp
end Mine
end
-- part F9b
section
namespace Mine
theorem no_limit {V : Ev} (S : V.Std) {h : Heap} {L : Led} {sz tb : Nat} (D : Rp V h L sz tb) : h.NoLimit := by
  refine ⟨fun n => nsFind (statE V.w.params) n, ⟨_, _, _, D.top 2 _ (S.kt ▸ stat_get _), stat_data _, fun e he => ?_, fun _ => rfl⟩, stat_none _⟩
  have := List.all_eq_true.mp (stat_keys V.w.params) e (Array.mem_toList_iff.mpr he)
  split at this
  · rename_i n t hk; exact ⟨n, t, hk⟩
  · cases this
theorem startOf_cases {gs : GenState} {c : Code} {t : Sem PySem.Fin} {fs : List Frame} (h : startOf gs = some (c, t, fs)) :
    ((gs = .fresh c ∧ (Resume.send .none : Resume) = .send .none ∧ t = denote table c ∧ fs = []) ∨ (∃ k₀ l₀ p₀ cl, gs = .suspended k₀ l₀ c p₀ fs cl ∧ t = k₀ (.send .none))) := by
  unfold startOf at h
  split at h
  · injection h with h; injection h with h1 h; injection h with h2 h3
    subst h1 h2 h3; exact .inl ⟨rfl, rfl, rfl, rfl⟩
  · injection h with h; injection h with h1 h; injection h with h2 h3
    subst h1 h2 h3; exact .inr ⟨_, _, _, _, rfl, rfl⟩
  · cases h
theorem genNext {V : Ev} (S : V.Std) {gs : GenState} {Lg rest L : Led} {Q : End → Led → Prop} {A : Around} (hA : inB A 345 55 = true) {g : Nat} {gl₀ : List GenState} {nm qn : PySem.Value} (W1 : Wakes1 V.w 350 60 gs Lg Q)
    (hQ : ∀ e Lo, Q e Lo → (∃ v l k c p fs, e = .susp v false l k c p fs) ∨ e = .ret (.ok (.ret .none)))
    (hL : ∀ p ∈ Lg, p ∈ L) (hr : ∀ p ∈ rest, p ∈ L) (hn : (Lg.map (·.1) ++ rest.map (·.1)).Nodup) (hg : (g, genObj gl₀.length nm qn) ∈ L) {h : Heap} {sz tb : Nat} (D : Rp V h L sz tb) (gb : Bool) (l : List PySem.Value) (i : Nat) {R : Result → Shared → Prop}
    (H1 : ∀ e Lo N' T' h' v l k c p fs, Q e Lo → e = .susp v false l k c p fs → Rp V h' (Lo ++ rest) (N' + 171) (T' + 2349) → R (.ok (.ret v)) (sh V h' (T' + 2349) 0 (gl₀ ++ [e.genState])))
    (H2 : ∀ Lo N' T' h', Q (.ret (.ok (.ret .none))) Lo → Rp V h' ((N' + 171 + 1, stopObj (N' + 171)) :: (N' + 171, noTuple) :: (Lo ++ rest)) (N' + 171 + 1 + 1) (T' + 2349) → R (.error (.ref (N' + 171 + 1))) (sh V h' (T' + 2349) 0 (gl₀ ++ [.finished]))) :
    wpAny (md V) A (.call (.call (.builtin "generator.__next__") ⟨[.ref g], []⟩) none gb l .pure : Sem Result) R (fun _ _ => False) (sh V h tb i (gl₀ ++ [gs])) := by
  obtain ⟨h0, hd, hu⟩ := inB_of hA
  obtain ⟨c₀, t₀, fs₀, hst, seg⟩ := W1
  have hgo := D.own _ hg
  have hG : (sh V h tb i (gl₀ ++ [gs])).heap.IsGen g gl₀.length := ⟨_, nm, qn, hgo, rfl, rfl, rfl⟩
  have hgs : (sh V h tb i (gl₀ ++ [gs])).gens[gl₀.length]? = some gs := get_last _ _
  refine call_any (wpAny_call_entry slot_gen_next hG.typeIs entry_gen_next ?_ (args_gen_next _))
  show wpAny _ _ (Builtin.Generator.genWake (.ref g) (.send .none)) _ _ _
  unfold Builtin.Generator.genWake
  refine wpAny_bind (wpAny_holding (wpAny_genNumber hG (wpAny_bind (wpAny_genState hgs ?_))))
  have hroom : A.in1.depth < recursionLimit := Nat.lt_of_le_of_lt hd (by decide)
  obtain ⟨N, T, rfl, rfl, F⟩ := St0.of S D
  have hsz : N + 171 = N + 171 := rfl
  have I : InL V.w h Lg := ⟨fun p hp => D.own p (hL p hp), (List.nodup_append.mp hn).1, fun p hp => S.kt ▸ D.sep p (hL p hp)⟩
  have z := seg V.d V.os h N (T + i) (gl₀ ++ [.running]) F I
  have hB : inB A.in1 350 60 = true := by
    show (match A.handled with | none => Nat.ble A.depth 350 && Nat.ble (A.units + 1) 60 | some _ => false) = true
    rw [h0]
    exact Bool.and_eq_true_iff.mpr ⟨Nat.ble_eq.mpr (by omega), Nat.ble_eq.mpr (by omega)⟩
  have e1 : (sh V h (T + 2349) i (gl₀ ++ [gs])).setGen gl₀.length .running = st h (gl₀ ++ [.running]) V.d (T + i) V.os := by
    unfold Shared.setGen sh st
    simp only [set_last, Nat.add_right_comm]
  have key : ∀ (k : GenResult → Sem PySem.Fin) (R' : PySem.Fin → Shared → Prop) (E' : PySem.Value → Shared → Prop),
      (∀ e Lo N' T' h', Q e Lo → Rp V h' (Lo ++ rest) (N' + 171) (T' + 2349) → wpAny (md V) A.in1 (k e.result) R' E' (sh V h' (T' + 2349) 0 (gl₀ ++ [e.genState]))) →
      wpAny (md V) A.in1 (.resume gl₀.length (.send .none) [] k) R' E' (sh V h (T + 2349) i (gl₀ ++ [gs])) := fun k R' E' hk Γ p hΓ => by
    refine wake_any _ _ _ hgs (startOf_cases hst) (fun Γ => Γ.In A.in1) (fun _ h => h) ?_ Γ p hΓ
    rw [e1]
    refine (seg_B hB z).mono fun e s' x Γ p hΓ => ?_
    obtain ⟨Lo, N', T', h', hq, rfl, D'⟩ := after_rp S rfl hL hr hn D x
    have e2 : (sh V h' (T' + 2349) 0 (gl₀ ++ [.running])).setGen gl₀.length e.genState = sh V h' (T' + 2349) 0 (gl₀ ++ [e.genState]) := by
      unfold Shared.setGen sh
      simp only [set_last]
    rw [e2]
    exact hk e Lo N' T' h' hq D' Γ p hΓ
  cases gs with
  | running => simp [startOf] at hst
  | finished => simp [startOf] at hst
  | fresh c =>
    refine wpAny_bind (wpAny_roomToWake (no_limit S D) hroom ?_)
    show wpAny _ _ (.resume gl₀.length (.send .none) [] _) _ _ _
    refine key _ _ _ fun e Lo N' T' h' hq D' => ?_
    rcases hQ e Lo hq with ⟨v, l, k, c, p, fs, rfl⟩ | rfl
    · exact wpAny_pure ⟨v, rfl, H1 _ Lo N' T' h' v l k c p fs hq rfl D'⟩
    · show wpAny _ _ (newExc (.type "StopIteration") [] >>= _) _ _ _
      refine wpAny_bind ?_
      simp only [newExc, newTuple]
      refine wpAny_bind (wpAny_newObj_type ?_ (by size_fits))
      refine wpAny_bind (m := firstArgMember _ _) (wpAny_of_eq (a := PySem.Value.none) (by first | rfl | (simp only [firstArgMember]; rfl)) ?_)
      refine wpAny_newObj_type ?_ (by size_fits)
      simp only [raiseNew]
      refine wpAny_bind (wpAny_bind (wpAny_handled ?_))
      rw [show A.in1.handled = none from h0]
      refine wpAny_throw ?_
      have D2 := D'.new (Std.low S) (o := noTuple) rfl
      have D3 := D2.new (Std.low S) (o := stopObj (N' + 171)) rfl
      have es : h'.objs.size = N' + 171 := D'.size
      have es2 : (h'.push noTuple).objs.size = N' + 171 + 1 := D2.size
      have z := H2 Lo N' T' _ hq D3
      show R (.error (.ref (h'.push noTuple).objs.size)) (sh V ((h'.push noTuple).push (stopObj h'.objs.size)) (T' + 2349) 0 (gl₀ ++ [.finished]))
      rw [es2, es]
      exact z
  | suspended k l c p fs cl =>
    refine wpAny_bind (wpAny_roomToWake (no_limit S D) hroom ?_)
    show wpAny _ _ (.resume gl₀.length (.send .none) [] _) _ _ _
    refine key _ _ _ fun e Lo N' T' h' hq D' => ?_
    rcases hQ e Lo hq with ⟨v, l, k, c, p, fs, rfl⟩ | rfl
    · exact wpAny_pure ⟨v, rfl, H1 _ Lo N' T' h' v l k c p fs hq rfl D'⟩
    · show wpAny _ _ (newExc (.type "StopIteration") [] >>= _) _ _ _
      refine wpAny_bind ?_
      simp only [newExc, newTuple]
      refine wpAny_bind (wpAny_newObj_type ?_ (by size_fits))
      refine wpAny_bind (m := firstArgMember _ _) (wpAny_of_eq (a := PySem.Value.none) (by first | rfl | (simp only [firstArgMember]; rfl)) ?_)
      refine wpAny_newObj_type ?_ (by size_fits)
      simp only [raiseNew]
      refine wpAny_bind (wpAny_bind (wpAny_handled ?_))
      rw [show A.in1.handled = none from h0]
      refine wpAny_throw ?_
      have D2 := D'.new (Std.low S) (o := noTuple) rfl
      have D3 := D2.new (Std.low S) (o := stopObj (N' + 171)) rfl
      have es : h'.objs.size = N' + 171 := D'.size
      have es2 : (h'.push noTuple).objs.size = N' + 171 + 1 := D2.size
      have z := H2 Lo N' T' _ hq D3
      show R (.error (.ref (h'.push noTuple).objs.size)) (sh V ((h'.push noTuple).push (stopObj h'.objs.size)) (T' + 2349) 0 (gl₀ ++ [.finished]))
      rw [es2, es]
      exact z
end Mine
end
-- part Hooks6
section
namespace Mine
/-- a call of two values by what it gives -/
noncomputable def hookV2 (id : String) (a b : Nat → PySem.Value) (v : PySem.Value) : HookT := fun _ c _ cont L sz tb i gl gh => .eqC c (.call (.builtin id) ⟨[a (argTok c), b (argTok2 c)], []⟩) (cont (.ok (.ret v)) L sz tb i gl gh)
theorem hookV2_ok {V : Ev} {id : String} {a b : Nat → PySem.Value} {v : PySem.Value}
    (hc : ∀ t u (A : Around) (s : Shared) (Q : PySem.Value → Shared → Prop), Q v s → wpAny (md V) A (call (.builtin id) [a t, b u]) Q (fun _ _ => False) s) : HookOk V (hookV2 id a b v) := by
  intro j c A g l cont L sz tb i gl gh h H D
  obtain ⟨ec, H⟩ := eqC_of H
  rw [ec]
  exact hook_call (hc _ _ _ _ _ ⟨L, sz, tb, i, gl, gh, h, rfl, D, H⟩)
theorem hookNe_ok {V : Ev} (a b : Int) {v : Bool} (hv : (a != b) = v) : HookOk V (hookV2 "int.__ne__" (fun t => .int a t) (fun t => .int b t) (.bool v)) :=
  hookV2_ok fun t u A s Q hq => call_meets PySem.F.slot_int_ne (typeIs_int _ _ _) PySem.F.entry_int_ne (PySem.F.args_int_ne_2 _ _) (gives_int_ne a b t u).meets (by rw [hv]; exact hq)
theorem hookLt_ok {V : Ev} (a b : Int) {v : Bool} (hv : decide (a < b) = v) : HookOk V (hookV2 "int.__lt__" (fun t => .int a t) (fun t => .int b t) (.bool v)) :=
  hookV2_ok fun t u A s Q hq => call_meets PySem.F.slot_int_lt (typeIs_int _ _ _) PySem.F.entry_int_lt (PySem.F.args_int_lt_2 _ _) (gives_int_lt a b t u).meets (by rw [hv]; exact hq)
theorem hookHas_ok {V : Ev} (x y : Str) {v : Bool} (hv : (!(Builtin.Str.occurrences x y 0 x.length 1).isEmpty) = v) : HookOk V (hookV2 "str.__contains__" (fun t => .str x t) (fun t => .str y t) (.bool v)) :=
  hookV2_ok fun t u A s Q hq => call_meets PySem.F.slot_str_contains (typeIs_str _ _ _) PySem.F.entry_str_contains (PySem.F.args_str_contains_2 _ _) (gives_str_contains x y t u).meets (by rw [hv]; exact hq)
/-- a piece of a text -/
noncomputable def pickN' (x : List Nat) (s : Nat) (o : Option Nat) : List Nat := slicePicked ⟨⟨x⟩⟩ (some (s, 0)) (o.map fun o => ((o : Nat), 0)) none
noncomputable def pieceL (x : List Nat) (s : Nat) (o : Option Nat) : List Nat := if ((pickN' x s o).length == x.length) = true then x else (pickN' x s o).filterMap ((⟨x⟩ : Array Nat)[·]?)
theorem pick_length (x : List Nat) (s : Nat) (o : Option Nat) : (pickN' x s o).length ≤ x.length := by
  unfold pickN' slicePicked Builtin.Str.strSliceIndices sliceRange
  simp only [List.length_map, List.length_range, Option.map_map, Option.map_some, Option.map_none, Option.getD_none]
  have hx : ((⟨⟨x⟩⟩ : Str).length : Int) = x.length := rfl
  simp only [show ((1 : Int) > 0) from by decide, if_true, hx]
  cases o with
  | none =>
    simp only [Option.map_none]
    split <;> (repeat' split) <;> omega
  | some o =>
    simp only [Option.map_some, Function.comp]
    split <;> (repeat' split) <;> omega
theorem filterMap_length {α β : Type} (f : α → Option β) : ∀ l : List α, (l.filterMap f).length ≤ l.length
  | [] => Nat.le_refl _
  | a :: l => by
    have := filterMap_length f l
    rw [List.filterMap_cons]
    split <;> simp only [List.length_cons] <;> omega
theorem piece_length (x : List Nat) (s : Nat) (o : Option Nat) : (pieceL x s o).length ≤ x.length := by
  unfold pieceL
  split
  · exact Nat.le_refl _
  · exact Nat.le_trans (filterMap_length _ _) (pick_length x s o)
noncomputable def sliceObj (s t1 : Nat) (o : Option Nat) (t2 : Nat) : Obj := ⟨.type "slice", none, .fields ⟨[.int (s : Int) t1, (match o with | some o => .int (o : Int) t2 | none => .none), .none]⟩, #[]⟩
theorem slice_post {x : List Nat} {t s t1 t2 : Nat} {o : Option Nat} {Q : PySem.Value → Shared → Prop} {st : Shared} (hx : x.length ≤ sizeLine) (h : ∀ t' k, Q (.str ⟨⟨pieceL x s o⟩⟩ t') { st with toks := st.toks + k }) :
    (sliceMade ⟨⟨x⟩⟩ t (some ((s : Int), t1)) (o.map fun o => ((o : Int), t2)) none).post Q st := by
  have e : sliceMade ⟨⟨x⟩⟩ t (some ((s : Int), t1)) (o.map fun o => ((o : Int), t2)) none = if ((pickN' x s o).length == x.length) = true then .val (.str ⟨⟨x⟩⟩ t) else .str ⟨⟨(pickN' x s o).filterMap ((⟨x⟩ : Array Nat)[·]?)⟩⟩ := by
    cases o <;> rfl
  rw [e]
  have hl := piece_length x s o
  unfold pieceL at h hl
  split
  · rename_i q
    rw [if_pos q] at h
    exact h t 0
  · rename_i q
    rw [if_neg q] at h hl
    exact ⟨Nat.le_trans hl hx, h _ 1⟩
noncomputable def hookSlice (x : List Nat) (s : Nat) (o : Option Nat) : HookT := fun _ c _ cont L sz _ _ gl gh => inLed (argSR c) L fun _ p => .eqC c (.call (.builtin "str.__getitem__") ⟨[.str ⟨⟨x⟩⟩ (argTok c), .ref (argSR c)], []⟩)
  (.eqO p.2 (sliceObj s (tokV (fieldAt p.2 0)) o (tokV (fieldAt p.2 1))) (.allN fun t => .allN fun T => cont (.ok (.ret (.str ⟨⟨pieceL x s o⟩⟩ t))) L sz (T + 2349) 0 gl gh))
theorem hookSlice_ok {V : Ev} {x : List Nat} {s : Nat} {o : Option Nat} (hx : x.length ≤ sizeLine) : HookOk V (hookSlice x s o) := by
  intro j c A g l cont L sz tb i gl gh h H D
  obtain ⟨j, p, e, ea, H⟩ := inLed_of H
  obtain ⟨ec, H⟩ := eqC_of H
  obtain ⟨ho, H⟩ := eqO_of H
  rw [ea] at ec
  rw [ec]
  have hp' : h.get? p.1 = some (sliceObj s (tokV (fieldAt p.2 0)) o (tokV (fieldAt p.2 1))) := (D.own p (ledAt_mem e)).trans (congrArg some ho)
  have hs : h.IsSlice p.1 (some ((s : Int), tokV (fieldAt p.2 0))) (o.map fun o => ((o : Int), tokV (fieldAt p.2 1))) none := ⟨_, hp', rfl, by cases o <;> rfl⟩
  refine hook_call (call_meets PySem.F.slot_str_getitem (typeIs_str _ _ _) PySem.F.entry_str_getitem (PySem.F.args_str_getitem_2 _ _) (meets_str_getitem_slice ⟨⟨x⟩⟩ (argTok c) p.1 _ _ none rfl) ⟨hs, slice_post hx fun t k => ?_⟩)
  have hk : 2349 ≤ tb + i + k := by have := D.tlow; omega
  refine ⟨L, sz, tb + i + k, 0, gl, gh, h, rfl, D.tok hk, ?_⟩
  have : good (cont (.ok (.ret (.str ⟨⟨pieceL x s o⟩⟩ t))) L sz (tb + i + k - 2349 + 2349) 0 gl gh) := H t (tb + i + k - 2349)
  rw [Nat.sub_add_cancel hk] at this
  exact this
/-! texts joined -/
noncomputable def valS : List (List Nat) → List Nat → List PySem.Value
  | [], _ => []
  | m :: r, ts => .str ⟨⟨m⟩⟩ (ts.headD 0) :: valS r ts.tail
noncomputable def pairS : List (List Nat) → List Nat → List (Str × Nat)
  | [], _ => []
  | m :: r, ts => (⟨⟨m⟩⟩, ts.headD 0) :: pairS r ts.tail
theorem pairS_vals : ∀ ms ts, strValues (pairS ms ts) = valS ms ts
  | [], _ => rfl
  | m :: r, ts => by
    have := pairS_vals r ts.tail
    show _ :: _ = _ :: _
    rw [← this]; rfl
theorem pairS_fst : ∀ ms ts, (pairS ms ts).map (·.1) = ms.map fun m => (⟨⟨m⟩⟩ : Str)
  | [], _ => rfl
  | m :: r, ts => by
    have := pairS_fst r ts.tail
    show _ :: _ = _ :: _
    rw [← this]
theorem foldl_len : ∀ (ms : List (List Nat)) (k : Nat), (ms.map fun m => (⟨⟨m⟩⟩ : Str)).foldl (fun x1 x2 => x1 + x2.length + (⟨⟨[]⟩⟩ : Str).length) k = k + ms.flatten.length
  | [], k => rfl
  | m :: r, k => by
    rw [List.map_cons, List.foldl_cons, foldl_len r, List.flatten_cons, List.length_append]
    show k + m.length + 0 + r.flatten.length = _
    omega
theorem glue_fold : ∀ (r : List (List Nat)) (acc : Array Nat), (r.map fun m => (⟨⟨m⟩⟩ : Str)).foldl (fun acc p => acc ++ (⟨⟨[]⟩⟩ : Str).cps ++ p.cps) acc = ⟨acc.toList ++ r.flatten⟩
  | [], acc => by simp
  | m :: r, acc => by
    rw [List.map_cons, List.foldl_cons, glue_fold r]
    congr 1
    show (acc ++ (⟨[]⟩ : Array Nat) ++ (⟨m⟩ : Array Nat)).toList ++ r.flatten = _
    simp
theorem glued_all (ms : List (List Nat)) : Builtin.Str.glued ⟨⟨[]⟩⟩ (ms.map fun m => (⟨⟨m⟩⟩ : Str)) = ⟨⟨ms.flatten⟩⟩ := by
  cases ms with
  | nil => rfl
  | cons m r =>
    unfold Builtin.Str.glued
    show (⟨(r.map fun m => (⟨⟨m⟩⟩ : Str)).foldl _ _⟩ : Str) = _
    rw [glue_fold r]; rfl
theorem joinS_post {ms : List (List Nat)} {ts : List Nat} {Q : PySem.Value → Shared → Prop} {s : Shared} (h : ms.flatten.length ≤ sizeLine) (h1 : ∀ t k, Q (.str ⟨⟨ms.flatten⟩⟩ t) { s with toks := s.toks + k }) : (joinMade ⟨⟨[]⟩⟩ (pairS ms ts)).post Q s := by
  match ms with
  | [m] =>
    have := h1 (ts.headD 0) 0
    rw [show [m].flatten = m by simp] at this
    exact this
  | [] =>
    have e : joinMade ⟨⟨[]⟩⟩ (pairS [] ts) = .str ⟨⟨[]⟩⟩ := rfl
    rw [e]
    exact ⟨h, h1 _ 1⟩
  | m :: m2 :: r =>
    have e : joinMade ⟨⟨[]⟩⟩ (pairS (m :: m2 :: r) ts) = .str ⟨⟨(m :: m2 :: r).flatten⟩⟩ := by
      show Made.str (Builtin.Str.glued ⟨⟨[]⟩⟩ ((pairS (m :: m2 :: r) ts).map (·.1))) = _
      rw [pairS_fst, glued_all]
    rw [e]
    exact ⟨h, h1 _ 1⟩
noncomputable def hookJoinS (ms : List (List Nat)) : HookT := fun _ c _ cont L sz _ _ gl gh => inLed (argSR c) L fun _ p => .eqC c (.call (.builtin "str.join") ⟨[.str ⟨⟨[]⟩⟩ (argTok c), .ref (argSR c)], []⟩)
  (.eqO p.2 (listObj ⟨valS ms (tsG gh)⟩ (seqN p.2)) (.allN fun t => .allN fun T => cont (.ok (.ret (.str ⟨⟨ms.flatten⟩⟩ t))) L sz (T + 2349) 0 gl gh))
theorem hookJoinS_ok {V : Ev} {ms : List (List Nat)} (hl : ms.flatten.length ≤ sizeLine) : HookOk V (hookJoinS ms) := by
  intro j c A g l cont L sz tb i gl gh h H D
  obtain ⟨j, p, e, ea, H⟩ := inLed_of H
  obtain ⟨ec, H⟩ := eqC_of H
  obtain ⟨ho, H⟩ := eqO_of H
  rw [ea] at ec
  rw [ec]
  have hp' : h.get? p.1 = some (listObj ⟨valS ms (tsG gh)⟩ (seqN p.2)) := (D.own p (ledAt_mem e)).trans (congrArg some ho)
  have hfit : Builtin.Str.tooLong (Array.foldl (fun x1 x2 => x1 + x2.length + (⟨⟨[]⟩⟩ : Str).length) 0 (List.map (fun x => x.1) (pairS ms (tsG gh))).toArray) = false := by
    rw [List.foldl_toArray, pairS_fst, foldl_len]
    unfold Builtin.Str.tooLong
    exact decide_eq_false (by omega)
  refine hook_call (call_meets PySem.F.slot_str_join (typeIs_str _ _ _) PySem.F.entry_str_join (PySem.F.args_str_join_2 _ _) (meets_str_join_list ⟨⟨[]⟩⟩ (argTok c) p.1 (pairS ms (tsG gh)) hfit) ⟨⟨_, hp', rfl, seqN p.2, ?_⟩, joinS_post hl fun t k => ?_⟩)
  · rw [pairS_vals]; rfl
  · have hk : 2349 ≤ tb + i + k := by have := D.tlow; omega
    refine ⟨L, sz, tb + i + k, 0, gl, gh, h, rfl, D.tok hk, ?_⟩
    have : good (cont (.ok (.ret (.str ⟨⟨ms.flatten⟩⟩ t))) L sz (tb + i + k - 2349 + 2349) 0 gl gh) := H t (tb + i + k - 2349)
    rw [Nat.sub_add_cancel hk] at this
    exact this
end Mine
end
-- part F10a
section
namespace Mine
/-! the loop that strips: its code, its objects -/
noncomputable def forS (P : Params) : Stmt := stmtAt (bodyOf (fdAt P 35)) 4
noncomputable def envS (P : Params) (loc : Nat) : Env := { scope := (fdAt P 35).scope, locals := loc, globals := 3, cells := [], qual := Str.ofString "_strip_quoted_realnames.<locals>.", func := some 35, code := .ref 34, frame := some loc, builtins := 0 }
noncomputable def cLS (P : Params) (g loc : Nat) : Code := .forLoop (forTarget (forS P)) (.ref g) (forBody (forS P)) (forElse (forS P)) (envS P loc)
noncomputable def sStart : Str := ⟨⟨[115, 116, 97, 114, 116]⟩⟩
noncomputable def sOpen : Str := ⟨⟨[111, 112, 101, 110, 95, 112, 111, 115]⟩⟩
noncomputable def sResult : Str := ⟨⟨[114, 101, 115, 117, 108, 116]⟩⟩
structure AdS where
  (loc g res : Nat)
structure StS where
  (e1 e2 e3 e4 e5 e6 : Ky) (ta n ln : Nat) (vp vc : PySem.Value)
structure FxS where
  (gn : Nat) (nm qn : PySem.Value)
noncomputable def locS (x : List Nat) (a : AdS) (d : StS) (vs vo : PySem.Value) : Obj := localsObj [ky d.e1 sAddr (.str ⟨⟨x⟩⟩ d.ta), ky d.e2 sStart vs, ky d.e3 sOpen vo, ky d.e4 sResult (.ref a.res), ky d.e5 sPos d.vp, ky d.e6 sCh d.vc] d.n
noncomputable def locS0 (x : List Nat) (a : AdS) (d : StS) (vs vo : PySem.Value) : Obj := localsObj [ky d.e1 sAddr (.str ⟨⟨x⟩⟩ d.ta), ky d.e2 sStart vs, ky d.e3 sOpen vo, ky d.e4 sResult (.ref a.res)] d.n
noncomputable def linC (a : AdS) (f : FxS) (lo : Obj) (xs : Array PySem.Value) (ln : Nat) : Led := [(a.loc, lo), (a.res, listObj xs ln), (a.g, genObj f.gn f.nm f.qn)]
noncomputable def keysC (a : AdS) : List Nat := [a.loc, a.res, a.g]
noncomputable def stSOf (o q : Obj) : StS := ⟨kyAt o 0, kyAt o 1, kyAt o 2, kyAt o 3, kyAt o 4, kyAt o 5, tokV (valAt o 0), dictN o, seqN q, valAt o 4, valAt o 5⟩
noncomputable def cNx (g : Nat) : Code := .call (.builtin "generator.__next__") ⟨[.ref g], []⟩
/-- the loop's head is reached again -/
noncomputable def tlS (P : Params) (x : List Nat) (aS : AdS) (f : FxS) (aG : AdG) (k : Nat) (esc : Bool) (vs vo : PySem.Value → PySem.Value) (nx : List PySem.Value → Array PySem.Value) (gl₂ : List GenState) : TailT := fun _ c' L _ _ _ gl gh =>
  .eqC c' (cLS P aS.g aS.loc) (.eqG gl gl₂ (inLed aS.loc L fun _ pl => inLed aS.res L fun _ pr => inLed aG.loc L fun _ ql => inLed aG.en L fun _ qe => inLed aG.sit L fun _ qs =>
    pickL L (linC aS f (locS x aS (stSOf pl.2 pr.2) (vs (valAt pl.2 1)) (vo (valAt pl.2 2))) (nx gh) (seqN pr.2) ++ linG ⟨⟨x⟩⟩ aG (stGOf ql.2 qe.2 qs.2) k esc) fun _ => .ok))
/-- the loop's end -/
noncomputable def fnS (x : List Nat) (aS : AdS) (xs : Array PySem.Value) (vs vo : PySem.Value) (gl₂ : List GenState) : Result → Cont := fun r L _ _ _ gl _ => match r with
  | .ok fl => match fl with
    | .next => .eqG gl gl₂ (inLed aS.loc L fun _ pl => inLed aS.res L fun _ pr => outs L [(aS.loc, locS x aS (stSOf pl.2 pr.2) vs vo), (aS.res, listObj xs (seqN pr.2))] .ok)
    | _ => .bad 311 0
  | .error _ => .bad 312 0
/-- a run of the stripping code, cut at the generator's next -/
noncomputable def VS (w : World) (h : Heap) (d : Drawn) (os : OsState) (keys : List Nat) (R₀ : Result → Shared → Prop) (cut : Code → Code → Bool → List PySem.Value → (Result → Sem PySem.Fin) → Cont) : Ev := { V2 w h d os 330 45 keys R₀ noFin noHook noTail with cut := cut }
/-- a pair has come -/
noncomputable def itemS (V : Ev) (x : List Nat) (aS : AdS) (f : FxS) (aG : AdG) (lo : Obj) (xs : Array PySem.Value) (ln : Nat) (b : Bool × Nat) (k₀ : Nat) (c : Code) (k : Result → Sem PySem.Fin) (mk : List GenState → Ev) : Ob :=
  .allN fun tup => .allN fun t1 => .allN fun t2 => .allI fun h1 => .allN fun s1 => .allI fun h2 => .allN fun s2 => .allI fun h3 => .allN fun s3 => .allI fun h4 => .allN fun s4 => .allN fun ta => .allN fun n' => .allN fun tx => .allV fun vp => .allV fun vc => .allV fun old => .allG fun gl₂ => .allN fun N' => .allN fun T' =>
    sim (mk gl₂) 700 c none .base (k (.ok (.ret (.ref tup)))) (((tup, pairObj b k₀ t1 t2) :: linG ⟨⟨x⟩⟩ aG ⟨(h1, s1), (h2, s2), (h3, s3), (h4, s4), ta, n', tx, vp, vc, old⟩ (k₀ + wdB b) b.1) ++ linC aS f lo xs ln) (N' + 171) (T' + 2349) 0 gl₂ []
/-- nothing comes any more -/
noncomputable def stopS (aS : AdS) (f : FxS) (lo : Obj) (xs : Array PySem.Value) (ln : Nat) (c : Code) (k : Result → Sem PySem.Fin) (mk : List GenState → Ev) : Ob :=
  .allG fun gl₂ => .allN fun N' => .allN fun T' => sim (mk gl₂) 700 c none .base (k (.error (.ref (N' + 171 + 1)))) ((N' + 171 + 1, stopObj (N' + 171)) :: (N' + 171, noTuple) :: linC aS f lo xs ln) (N' + 171 + 1 + 1) (T' + 2349) 0 gl₂ []
/-- the cut at next -/
noncomputable def cutS (P : Params) (aS : AdS) (lin : Led) (glv : List GenState) (go : Code → (Result → Sem PySem.Fin) → Ob) : Code → Code → Bool → List PySem.Value → (Result → Sem PySem.Fin) → Cont := fun c c' _ _ k L _ _ _ gl _ =>
  .eqC c (cLS P aS.g aS.loc) (.eqC c' (cNx aS.g) (.eqG gl glv (pickL L lin fun _ => go c k)))
end Mine
end
-- part F10b
section
namespace Mine
section
variable (w : World) (x : List Nat) (aS : AdS) (f : FxS) (aG : AdG) (dG : StG) (lo : Obj) (xs : Array PySem.Value) (ln : Nat) (d₀ : Drawn) (os : OsState) (h : Heap) (N T : Nat) (glv : List GenState) (R : Result → Shared → Prop) (keys : List Nat)
noncomputable def startS (k : Nat) (esc : Bool) (go : Code → (Result → Sem PySem.Fin) → Ob) : Ob :=
  sim (VS w h d₀ os keys R (cutS w.params aS (linC aS f lo xs ln ++ linG ⟨⟨x⟩⟩ aG dG k esc) glv go)) 300 (cLS w.params aS.g aS.loc) none .base (Dz (cLS w.params aS.g aS.loc)) (linC aS f lo xs ln ++ linG ⟨⟨x⟩⟩ aG dG k esc) (N + 171) (T + 2349) 0 glv []
/-- a pair that is no mark -/
noncomputable def mkN (k' : Nat) (e' : Bool) (vs vo : PySem.Value) (gl₂ : List GenState) : Ev := V2 w h d₀ os 330 45 keys R noFin noHook (tlS w.params x aS f aG k' e' (fun _ => vs) (fun _ => vo) (fun _ => xs) gl₂)
noncomputable def obN (k : Nat) (esc : Bool) (b : Bool × Nat) (vs vo : PySem.Value) : Ob := startS w x aS f aG dG lo xs ln d₀ os h N T glv R keys k esc fun c kk => itemS (VS w h d₀ os keys R fun _ _ _ _ _ => nay 0) x aS f aG lo xs ln b k c kk (mkN w x aS f aG xs d₀ os h R keys (k + wdB b) b.1 vs vo)
/-- a mark that opens -/
noncomputable def mkO (p k' : Nat) (vs : PySem.Value) (gl₂ : List GenState) : Ev := V2 w h d₀ os 330 45 keys R noFin noHook (tlS w.params x aS f aG k' false (fun _ => vs) (fun v => .int (p : Int) (tokV v)) (fun _ => xs) gl₂)
noncomputable def obO (k : Nat) (esc : Bool) (vs : PySem.Value) : Ob := startS w x aS f aG dG lo xs ln d₀ os h N T glv R keys k esc fun c kk => itemS (VS w h d₀ os keys R fun _ _ _ _ _ => nay 0) x aS f aG lo xs ln (false, 34) k c kk (mkO w x aS f aG xs d₀ os h R keys k (k + 1) vs)
/-- a mark that closes, a piece ahead of it -/
noncomputable def hkS1 (s o : Nat) : HookT := hook2 (hookV2 "int.__ne__" (fun t => .int (s : Int) t) (fun t => .int (o : Int) t) (.bool true)) (hook2 (hookSlice x s (some o)) (hookAppend xs))
noncomputable def nxP (s o : Nat) (gh : List PySem.Value) : Array PySem.Value := xs.push (.str ⟨⟨pieceL x s (some o)⟩⟩ (tokG gh))
noncomputable def mkC1 (s o p k' : Nat) (gl₂ : List GenState) : Ev := V2 w h d₀ os 330 45 keys R noFin (hkS1 x xs s o) (tlS w.params x aS f aG k' false (fun v => .int ((p + 1 : Nat) : Int) (tokV v)) (fun _ => .none) (nxP x xs s o) gl₂)
noncomputable def obC1 (k : Nat) (esc : Bool) (s o : Nat) : Ob := startS w x aS f aG dG lo xs ln d₀ os h N T glv R keys k esc fun c kk => itemS (VS w h d₀ os keys R fun _ _ _ _ _ => nay 0) x aS f aG lo xs ln (false, 34) k c kk (mkC1 w x aS f aG xs d₀ os h R keys s o k (k + 1))
/-- a mark that closes, nothing ahead of it -/
noncomputable def hkS2 (s : Nat) : HookT := hookV2 "int.__ne__" (fun t => .int (s : Int) t) (fun t => .int (s : Int) t) (.bool false)
noncomputable def mkC2 (s p k' : Nat) (gl₂ : List GenState) : Ev := V2 w h d₀ os 330 45 keys R noFin (hkS2 s) (tlS w.params x aS f aG k' false (fun v => .int ((p + 1 : Nat) : Int) (tokV v)) (fun _ => .none) (fun _ => xs) gl₂)
noncomputable def obC2 (k : Nat) (esc : Bool) (s : Nat) : Ob := startS w x aS f aG dG lo xs ln d₀ os h N T glv R keys k esc fun c kk => itemS (VS w h d₀ os keys R fun _ _ _ _ _ => nay 0) x aS f aG lo xs ln (false, 34) k c kk (mkC2 w x aS f aG xs d₀ os h R keys s k (k + 1))
/-- the end -/
noncomputable def mkE (vs vo : PySem.Value) (gl₂ : List GenState) : Ev := V2 w h d₀ os 330 45 keys R (fnS x aS xs vs vo gl₂) noHook noTail
noncomputable def obEnd (k : Nat) (esc : Bool) (vs vo : PySem.Value) : Ob := startS w x aS f aG dG lo xs ln d₀ os h N T glv R keys k esc fun c kk => stopS aS f lo xs ln c kk (mkE w x aS xs d₀ os h R keys vs vo)
/-- the first pair -/
noncomputable def linS0 (lg : Nat) (e1 : Ky) (ta n : Nat) : Led := linS ⟨⟨x⟩⟩ lg e1 ta n
noncomputable def item0 (aS : AdS) (f : FxS) (lg : Nat) (lo : Obj) (c : Code) (k : Result → Sem PySem.Fin) (mk : AdG → List GenState → Ev) : Ob :=
  .allN fun en => .allN fun sit => .allN fun tup => .allN fun t1 => .allN fun t2 => .allI fun h1 => .allN fun s1 => .allI fun h2 => .allN fun s2 => .allI fun h3 => .allN fun s3 => .allI fun h4 => .allN fun s4 => .allN fun ta => .allN fun n' => .allN fun tx => .allV fun vp => .allV fun vc => .allV fun old => .allG fun gl₂ => .allN fun N' => .allN fun T' =>
    sim (mk ⟨lg, en, sit⟩ gl₂) 700 c none .base (k (.ok (.ret (.ref tup)))) (((tup, pairObj (false, 120) 0 t1 t2) :: linG ⟨⟨x⟩⟩ ⟨lg, en, sit⟩ ⟨(h1, s1), (h2, s2), (h3, s3), (h4, s4), ta, n', tx, vp, vc, old⟩ 1 false) ++ linC aS f lo xs ln) (N' + 171) (T' + 2349) 0 gl₂ []
noncomputable def ob0 (lg : Nat) (e1 : Ky) (ta n : Nat) (vs vo : PySem.Value) : Ob :=
  sim (VS w h d₀ os keys R (cutS w.params aS (linC aS f lo xs ln ++ linS ⟨⟨x⟩⟩ lg e1 ta n) glv fun c kk => item0 x xs ln aS f lg lo c kk fun aG gl₂ => mkN w x aS f aG xs d₀ os h R keys 1 false vs vo gl₂)) 300 (cLS w.params aS.g aS.loc) none .base (Dz (cLS w.params aS.g aS.loc)) (linC aS f lo xs ln ++ linS ⟨⟨x⟩⟩ lg e1 ta n) (N + 171) (T + 2349) 0 glv []
end
end Mine
end
-- part F10c
section
namespace Mine
noncomputable def hsN : List Nat := [3, 902, 1, 1, 1, 1, 1, 1, 7, 1, 1, 1, 0, 1, 0, 1, 1, 0, 1, 0, 1, 1, 2, 1, 1, 1, 0, 1, 0, 1, 1, 2, 1, 1, 1, 0, 1, 0, 1, 1, 2, 1, 1, 1, 8, 8, 8, 8, 8, 0, 0, 1, 8, 9, 7, 5, 6, 8, 8, 8, 5, 5, 5]
noncomputable def hsO : List Nat := [3, 902, 1, 1, 1, 1, 1, 1, 7, 1, 1, 1, 0, 1, 0, 1, 1, 0, 1, 0, 1, 1, 2, 1, 1, 1, 0, 1, 0, 1, 1, 2, 1, 1, 1, 0, 1, 0, 1, 1, 2, 1, 1, 1, 8, 8, 8, 8, 8, 0, 0, 8, 8, 8, 8, 1, 8, 9, 7, 5, 6, 8, 8, 8, 5, 5, 5]
noncomputable def hsC1 : List Nat := [3, 902, 1, 1, 1, 1, 1, 1, 7, 1, 1, 1, 0, 1, 0, 1, 1, 0, 1, 0, 1, 1, 2, 1, 1, 1, 0, 1, 0, 1, 1, 2, 1, 1, 1, 0, 1, 0, 1, 1, 2, 1, 1, 1, 8, 8, 8, 8, 8, 0, 0, 8, 8, 8, 1, 8, 9, 9, 9, 9, 8, 8, 8, 2, 1, 3, 10, 9, 0, 0, 9, 9, 9, 9, 1, 9, 10, 8, 6, 7, 9, 9, 9, 6, 6, 6]
noncomputable def hsC2 : List Nat := [3, 902, 1, 1, 1, 1, 1, 1, 7, 1, 1, 1, 0, 1, 0, 1, 1, 0, 1, 0, 1, 1, 2, 1, 1, 1, 0, 1, 0, 1, 1, 2, 1, 1, 1, 0, 1, 0, 1, 1, 2, 1, 1, 1, 8, 8, 8, 8, 8, 0, 0, 8, 8, 8, 1, 8, 0, 0, 8, 8, 8, 8, 1, 8, 9, 7, 5, 6, 8, 8, 8, 5, 5, 5]
noncomputable def hsE : List Nat := [3, 902, 1, 1, 1, 1, 1, 1, 1, 0, 3, 4, 3, 4]
noncomputable def hs0 : List Nat := [3, 902, 1, 1, 1, 1, 7, 1, 1, 1, 0, 1, 0, 1, 1, 0, 1, 0, 1, 1, 2, 1, 1, 1, 0, 1, 0, 1, 1, 2, 1, 1, 1, 0, 1, 0, 1, 1, 2, 1, 1, 1, 8, 8, 8, 8, 8, 0, 0, 1, 8, 9, 7, 5, 6, 8, 8, 8, 5, 5, 5]
section
variable (w : World) (b1 b2 b3 : Bool) (x : List Nat) (loc g res : Nat) (f : FxS) (lg en sit : Nat) (dG : StG) (dS : StS) (xs : Array PySem.Value) (ln : Nat) (d₀ : Drawn) (os : OsState) (h : Heap) (N T : Nat) (glv : List GenState) (R : Result → Shared → Prop) (keys : List Nat) (k : Nat) (esc : Bool)
theorem csN (vs vo : PySem.Value) {b : Bool × Nat} (hb : b ∈ [(false, 97), (false, 98), (false, 99), (true, 92), (true, 34)]) : lft (obN (WB w b1 b2 b3) x ⟨loc + 171, g + 171, res + 171⟩ f ⟨lg + 171, en + 171, sit + 171⟩ dG (locS x ⟨loc + 171, g + 171, res + 171⟩ dS vs vo) xs ln d₀ os h N T glv R keys k esc b vs vo) hsN = rgt (obN (WB w b1 b2 b3) x ⟨loc + 171, g + 171, res + 171⟩ f ⟨lg + 171, en + 171, sit + 171⟩ dG (locS x ⟨loc + 171, g + 171, res + 171⟩ dS vs vo) xs ln d₀ os h N T glv R keys k esc b vs vo) hsN := by
  simp only [List.mem_cons, List.not_mem_nil, or_false] at hb
  rcases hb with rfl | rfl | rfl | rfl | rfl <;> cases b1 <;> kernel_rfl
theorem csO (vs : PySem.Value) : lft (obO (WB w b1 b2 b3) x ⟨loc + 171, g + 171, res + 171⟩ f ⟨lg + 171, en + 171, sit + 171⟩ dG (locS x ⟨loc + 171, g + 171, res + 171⟩ dS vs .none) xs ln d₀ os h N T glv R keys k esc vs) hsO = rgt (obO (WB w b1 b2 b3) x ⟨loc + 171, g + 171, res + 171⟩ f ⟨lg + 171, en + 171, sit + 171⟩ dG (locS x ⟨loc + 171, g + 171, res + 171⟩ dS vs .none) xs ln d₀ os h N T glv R keys k esc vs) hsO := by
  cases b1 <;> kernel_rfl
theorem csC1 (s o ts to : Nat) : lft (obC1 (WB w b1 b2 b3) x ⟨loc + 171, g + 171, res + 171⟩ f ⟨lg + 171, en + 171, sit + 171⟩ dG (locS x ⟨loc + 171, g + 171, res + 171⟩ dS (.int (s : Int) ts) (.int (o : Int) to)) xs ln d₀ os h N T glv R keys k esc s o) hsC1 = rgt (obC1 (WB w b1 b2 b3) x ⟨loc + 171, g + 171, res + 171⟩ f ⟨lg + 171, en + 171, sit + 171⟩ dG (locS x ⟨loc + 171, g + 171, res + 171⟩ dS (.int (s : Int) ts) (.int (o : Int) to)) xs ln d₀ os h N T glv R keys k esc s o) hsC1 := by
  cases b1 <;> kernel_rfl
theorem csC2 (s ts to : Nat) : lft (obC2 (WB w b1 b2 b3) x ⟨loc + 171, g + 171, res + 171⟩ f ⟨lg + 171, en + 171, sit + 171⟩ dG (locS x ⟨loc + 171, g + 171, res + 171⟩ dS (.int (s : Int) ts) (.int (s : Int) to)) xs ln d₀ os h N T glv R keys k esc s) hsC2 = rgt (obC2 (WB w b1 b2 b3) x ⟨loc + 171, g + 171, res + 171⟩ f ⟨lg + 171, en + 171, sit + 171⟩ dG (locS x ⟨loc + 171, g + 171, res + 171⟩ dS (.int (s : Int) ts) (.int (s : Int) to)) xs ln d₀ os h N T glv R keys k esc s) hsC2 := by
  cases b1 <;> kernel_rfl
theorem csE (vs vo : PySem.Value) : lft (obEnd (WB w b1 b2 b3) x ⟨loc + 171, g + 171, res + 171⟩ f ⟨lg + 171, en + 171, sit + 171⟩ dG (locS x ⟨loc + 171, g + 171, res + 171⟩ dS vs vo) xs ln d₀ os h N T glv R keys k esc vs vo) hsE = rgt (obEnd (WB w b1 b2 b3) x ⟨loc + 171, g + 171, res + 171⟩ f ⟨lg + 171, en + 171, sit + 171⟩ dG (locS x ⟨loc + 171, g + 171, res + 171⟩ dS vs vo) xs ln d₀ os h N T glv R keys k esc vs vo) hsE := by
  cases b1 <;> kernel_rfl
theorem cs0 (e1 : Int) (e2 ta n : Nat) (vs vo : PySem.Value) : lft (ob0 (WB w b1 b2 b3) x ⟨loc + 171, g + 171, res + 171⟩ f (locS0 x ⟨loc + 171, g + 171, res + 171⟩ dS vs vo) xs ln d₀ os h N T glv R keys (lg + 171) (e1, e2) ta n vs vo) hs0 = rgt (ob0 (WB w b1 b2 b3) x ⟨loc + 171, g + 171, res + 171⟩ f (locS0 x ⟨loc + 171, g + 171, res + 171⟩ dS vs vo) xs ln d₀ os h N T glv R keys (lg + 171) (e1, e2) ta n vs vo) hs0 := by
  cases b1 <;> kernel_rfl
end
end Mine
end
-- part F10d
section
namespace Mine
noncomputable def AfterG (w : World) (gl₀ : List GenState) (d : Drawn) (os : OsState) (h : Heap) (N : Nat) (Lin : Led) (P : Result → Led → Prop) (r : Result) (s' : Shared) : Prop := After w (gl₀ ++ [.finished]) d os h N Lin P r s'
/-- a code that drives a generator -/
noncomputable def TriG (w : World) (n u : Nat) (c : Code) (gn : Nat) (gp : GenState → Prop) (Lin : Led) (P : Result → Led → Prop) : Prop :=
  ∀ d os h N T gl₀ gs, List.length gl₀ = gn → gp gs → St0 w h N → InL w h Lin → codeAny (model pw w) (Bn n u) c (AfterG w gl₀ d os h N Lin P) (st h (gl₀ ++ [gs]) d T os)
theorem after_new {V : Ev} (S : V.Std) {N : Nat} {Lin Lin1 : Led} {P P1 : Result → Led → Prop} (F : St0 V.w V.h₀ N) (hk : V.keys = Lin.map (·.1)) {L : Led} {sz tb N1 : Nat} {gl : List GenState} {h : Heap} (D : Rp V h L sz tb) (hs : sz = N1 + 171)
    (hL : ∀ q ∈ Lin1, q ∈ L) (hP : ∀ r Lo, P1 r Lo → P r Lo) {r : Result} {s' : Shared} (x : After V.w gl V.d V.os h N1 Lin1 P1 r s') : After V.w gl V.d V.os V.h₀ N Lin P r s' := by
  have le : N ≤ N1 := by
    have := D.mono
    have e3 : V.h₀.objs.size = N + 171 := F.size
    have : V.h₀.objs.size ≤ N1 + 171 := hs ▸ this
    omega
  have own : ∀ a ∈ Lin1.map (·.1), a ∈ Lin.map (·.1) ∨ N + 171 ≤ a := fun a ha => by
    obtain ⟨p, hp, rfl⟩ := List.mem_map.mp ha
    rcases D.mine p (hL p hp) with m | m
    · exact .inr (F.size ▸ m)
    · exact .inl (hk ▸ m)
  obtain ⟨h', N', T', Lo, rfl, F', le', k, I', hm, hp⟩ := x
  refine ⟨h', N', T', Lo, rfl, F', Nat.le_trans le le', fun b o eb q => k b o (D.old b o eb (hk ▸ q)) (fun z => ?_), I', fun p hp => ?_, hP _ _ hp⟩
  · rcases own b z with m | m
    · exact q m
    · have := Heap.lt_size eb
      rw [F.size] at this
      exact absurd this (Nat.not_lt.mpr m)
  · rcases hm p hp with m | m
    · exact own _ m
    · exact .inr (by omega)
theorem VS_std {w h d os keys R₀ cut} : (VS w h d os keys R₀ cut).Std := ⟨rfl, rfl⟩
theorem VS_ok {w : World} {h : Heap} {d : Drawn} {os : OsState} {keys : List Nat} {R₀ : Result → Shared → Prop} {cut : Code → Code → Bool → List PySem.Value → (Result → Sem PySem.Fin) → Cont}
    (hc : ∀ c c' g l k L sz tb i gl gh h', good (cut c c' g l k L sz tb i gl gh) → Rp (VS w h d os keys R₀ cut) h' L sz tb → wpOwn (model pw w) (Bn 330 45) c (.call c' none g l k) (postC pw w (Bn 330 45) R₀) (postE R₀) ⟨h', ⟨gl⟩, d, tb + i, os⟩) : (VS w h d os keys R₀ cut).Ok where
  den := Dz_eq
  go := fun _ _ _ _ _ x => goF_sound x
  ktlow := fun a h => ktop_low _ a h
  fin := fun _ _ _ _ _ _ _ _ H _ => by cases H
  gret := fun _ _ _ _ _ _ _ _ H _ => by cases H
  susp := fun _ _ _ _ _ _ _ _ _ _ _ _ H _ _ _ _ => by cases H
  hook := noHook_ok _
  tail := fun _ _ _ _ _ _ _ _ _ H _ => by cases H
  gtail := fun _ _ _ _ _ _ _ _ _ _ H _ => by cases H
  gstop := fun _ _ _ _ _ _ _ _ _ _ H _ => by cases H
  cut := hc
theorem Rp.conv {V V' : Ev} (h1 : V.h₀ = V'.h₀) (h2 : V.keys = V'.keys) (h3 : V.n₁ = V'.n₁) (h4 : V.kt = V'.kt) {h : Heap} {L : Led} {sz tb : Nat} (D : Rp V h L sz tb) : Rp V' h L sz tb :=
  ⟨D.tlow, D.size, h3 ▸ D.low, h1 ▸ D.mono, D.own, D.nodup, h4 ▸ D.sep, h1 ▸ h2 ▸ D.mine, h4 ▸ D.top, h1 ▸ h2 ▸ D.old⟩
theorem Rp.sub {V : Ev} {h : Heap} {L L' : Led} {sz tb : Nat} (D : Rp V h L sz tb) (hs : ∀ p ∈ L', p ∈ L) (hn : (L'.map (·.1)).Nodup) : Rp V h L' sz tb :=
  ⟨D.tlow, D.size, D.low, D.mono, fun p hp => D.own p (hs p hp), hn, fun p hp => D.sep p (hs p hp), fun p hp => D.mine p (hs p hp), D.top, D.old⟩
/-- the cut, by what is known of the generator -/
theorem cutS_ok {V : Ev} (S : V.Std) {aS : AdS} {LC Lg : Led} {gl₀ : List GenState} {gs : GenState} {go : Code → (Result → Sem PySem.Fin) → Ob} {Q : End → Led → Prop} {nm qn : PySem.Value} (W1 : Wakes1 V.w 350 60 gs Lg Q)
    (hQ : ∀ e Lo, Q e Lo → (∃ v l k c p fs, e = .susp v false l k c p fs) ∨ e = .ret (.ok (.ret .none))) (hg : (aS.g, genObj gl₀.length nm qn) ∈ LC) {R₀ : Result → Shared → Prop}
    (K1 : ∀ kk, good (go (cLS V.w.params aS.g aS.loc) kk) → ∀ e Lo N' T' h' v l k2 c2 p fs, Q e Lo → e = .susp v false l k2 c2 p fs → Rp V h' (Lo ++ LC) (N' + 171) (T' + 2349) →
      wpOwn (md V) (Bn 330 45) (cLS V.w.params aS.g aS.loc) (kk (.ok (.ret v))) (postC pw V.w (Bn 330 45) R₀) (postE R₀) (sh V h' (T' + 2349) 0 (gl₀ ++ [e.genState])))
    (K2 : ∀ kk, good (go (cLS V.w.params aS.g aS.loc) kk) → ∀ N' T' h', Q (.ret (.ok (.ret .none))) [] ∨ True → (∃ Lo, Q (.ret (.ok (.ret .none))) Lo) → Rp V h' ((N' + 171 + 1, stopObj (N' + 171)) :: (N' + 171, noTuple) :: LC) (N' + 171 + 1 + 1) (T' + 2349) →
      wpOwn (md V) (Bn 330 45) (cLS V.w.params aS.g aS.loc) (kk (.error (.ref (N' + 171 + 1)))) (postC pw V.w (Bn 330 45) R₀) (postE R₀) (sh V h' (T' + 2349) 0 (gl₀ ++ [.finished])))
    {c c' : Code} {g : Bool} {l : List PySem.Value} {kk : Result → Sem PySem.Fin} {L : Led} {sz tb i : Nat} {gl : List GenState} {gh : List PySem.Value} {h : Heap}
    (H : good (cutS V.w.params aS (LC ++ Lg) (gl₀ ++ [gs]) go c c' g l kk L sz tb i gl gh)) (D : Rp V h L sz tb) : wpOwn (md V) (Bn 330 45) c (.call c' none g l kk) (postC pw V.w (Bn 330 45) R₀) (postE R₀) (sh V h tb i gl) := by
  unfold cutS at H
  obtain ⟨ec, H⟩ := eqC_of H
  obtain ⟨ec', H⟩ := eqC_of H
  obtain ⟨eg, H⟩ := eqG_of' H
  obtain ⟨rest, hp, H⟩ := pickL_of H
  rw [ec] at H ⊢
  rw [ec', eg]
  have hL : ∀ p ∈ Lg, p ∈ L := fun p h => hp.mem_iff.mpr (List.mem_append.mpr (.inl (List.mem_append.mpr (.inr h))))
  have hr : ∀ p ∈ LC, p ∈ L := fun p h => hp.mem_iff.mpr (List.mem_append.mpr (.inl (List.mem_append.mpr (.inl h))))
  have hn : (Lg.map (·.1) ++ LC.map (·.1)).Nodup := by
    have hn := (hp.map (·.1)).nodup_iff.mp D.nodup
    rw [List.map_append, List.map_append] at hn
    exact List.perm_append_comm.nodup_iff.mp (List.nodup_append.mp hn).1
  have hA : inB ((Bn 330 45).under (cLS V.w.params aS.g aS.loc)) 345 55 = true := rfl
  refine wpOwn_bind (m := (.call (cNx aS.g) none g l .pure : Sem Result)) (f := kk) (wpOwn_of_wpAny (wpAny_mono (genNext S hA W1 hQ hL hr hn (hr _ hg) D g l i (R := fun r s' => wpOwn (md V) (Bn 330 45) (cLS V.w.params aS.g aS.loc) (kk r) (postC pw V.w (Bn 330 45) R₀) (postE R₀) s')
    (fun e Lo N' T' h' v l k2 c2 p fs hq he D' => K1 kk H e Lo N' T' h' v l k2 c2 p fs hq he D') (fun Lo N' T' h' hq D' => K2 kk H N' T' h' (.inr trivial) ⟨Lo, hq⟩ (D'.sub (fun p hp => ?_) ?_))) (fun r s' x => x) fun _ _ x => x.elim))
  · rcases List.mem_cons.mp hp with rfl | hp
    · exact .head _
    · rcases List.mem_cons.mp hp with rfl | hp
      · exact .tail _ (.head _)
      · exact .tail _ (.tail _ (List.mem_append.mpr (.inr hp)))
  · have hn := D'.nodup
    simp only [List.map_cons, List.map_append, List.nodup_cons, List.mem_cons, List.mem_append, not_or] at hn ⊢
    exact ⟨⟨hn.1.1, hn.1.2.2⟩, hn.2.1.2, (List.nodup_append.mp hn.2.2).2.1⟩
end Mine
end
-- part F10e
section
namespace Mine
noncomputable abbrev keysA (aS : AdS) (aG : AdG) : List Nat := keysC aS ++ keysG aG
theorem linA_keys (x : List Nat) (aS : AdS) (f : FxS) (aG : AdG) (dG : StG) (lo : Obj) (xs : Array PySem.Value) (ln k : Nat) (esc : Bool) : (linC aS f lo xs ln ++ linG ⟨⟨x⟩⟩ aG dG k esc).map (·.1) = keysA aS aG := rfl
theorem code_good {V : Ev} (O : V.Ok) {c : Code} {L : Led} {sz tb i : Nat} {gl : List GenState} {gh : List PySem.Value} {h : Heap} {n : Nat}
    (H : good (sim V n c none .base (V.den c) L sz tb i gl gh)) (D : Rp V h L sz tb) : codeAny (md V) V.A₀ c V.R₀ (sh V h tb i gl) := by
  have z := sim_sound O n _ none .base _ _ _ _ _ _ _ h H D
  rw [O.den] at z
  exact y_code _ _ _ _ _ _ z
noncomputable abbrev Next (w : World) (x : List Nat) (aG : AdG) (bs : List (Bool × Nat)) (k : Nat) (esc : Bool) (gs : GenState) : Prop := ∀ dG, Wakes1 w 350 60 gs (linG ⟨⟨x⟩⟩ aG dG k esc) (specG w 350 60 ⟨⟨x⟩⟩ aG bs k)
theorem specG_form (w : World) (n u : Nat) (x : Str) (a : AdG) (bs : List (Bool × Nat)) (k : Nat) : ∀ e Lo, specG w n u x a bs k e Lo → (∃ v l k c p fs, e = .susp v false l k c p fs) ∨ e = .ret (.ok (.ret .none)) := by
  cases bs with
  | nil => exact fun e Lo h => .inr h
  | cons b bs => exact fun e Lo ⟨tup, t1, t2, d', l, kk, c, p, fs, he, _⟩ => .inl ⟨_, l, kk, c, p, fs, he⟩
section
variable {W : World} {x : List Nat} {aS : AdS} {f : FxS} {aG : AdG}
theorem tlS_ok {V : Ev} (S : V.Std) {N : Nat} {Lin : Led} (F : St0 V.w V.h₀ N) (hk : V.keys = Lin.map (·.1)) {gl₀ : List GenState} {gs' : GenState} {k' : Nat} {e' : Bool} {vsf vof : PySem.Value → PySem.Value} {nx : List PySem.Value → Array PySem.Value} {gp : GenState → Prop} {P : Result → Led → Prop}
    (hlen : gl₀.length = f.gn) (hgs : gp gs')
    (IH : ∀ d v1 v2 gh ln dG, TriG V.w 330 45 (cLS V.w.params aS.g aS.loc) f.gn gp (linC aS f (locS x aS d (vsf v1) (vof v2)) (nx gh) ln ++ linG ⟨⟨x⟩⟩ aG dG k' e') P)
    {j c' L sz tb i gl gh h} (H : good (tlS V.w.params x aS f aG k' e' vsf vof nx (gl₀ ++ [gs']) j c' L sz tb i gl gh)) (D : Rp V h L sz tb) : codeAny (model pw V.w) (Bn 330 45) c' (AfterG V.w gl₀ V.d V.os V.h₀ N Lin P) (sh V h tb i gl) := by
  unfold tlS at H
  obtain ⟨ec, H⟩ := eqC_of H
  obtain ⟨eg, H⟩ := eqG_of' H
  obtain ⟨_, pl, _, _, H⟩ := inLed_of H
  obtain ⟨_, pr, _, _, H⟩ := inLed_of H
  obtain ⟨_, ql, _, _, H⟩ := inLed_of H
  obtain ⟨_, qe, _, _, H⟩ := inLed_of H
  obtain ⟨_, qs, _, _, H⟩ := inLed_of H
  obtain ⟨rest, hp, -⟩ := pickL_of H
  have hL : ∀ q ∈ linC aS f (locS x aS (stSOf pl.2 pr.2) (vsf (valAt pl.2 1)) (vof (valAt pl.2 2))) (nx gh) (seqN pr.2) ++ linG ⟨⟨x⟩⟩ aG (stGOf ql.2 qe.2 qs.2) k' e', q ∈ L := fun y hy => hp.mem_iff.mpr (List.mem_append.mpr (.inl hy))
  have hn := (hp.map (·.1)).nodup_iff.mp D.nodup
  rw [List.map_append] at hn
  obtain ⟨N1, T1, rfl, rfl, F1⟩ := St0.of S D
  have z := IH (stSOf pl.2 pr.2) (valAt pl.2 1) (valAt pl.2 2) gh (seqN pr.2) (stGOf ql.2 qe.2 qs.2) V.d V.os h N1 (T1 + i) gl₀ gs' hlen hgs F1
    ⟨fun p hp => D.own p (hL p hp), (List.nodup_append.mp hn).1, fun p hp => S.kt ▸ D.sep p (hL p hp)⟩
  have e : st h (gl₀ ++ [gs']) V.d (T1 + i) V.os = sh V h (T1 + 2349) i (gl₀ ++ [gs']) := by unfold st sh; rw [Nat.add_right_comm]
  rw [e] at z
  rw [ec, eg]
  exact codeAny_mono z fun r s' y => after_new S F hk D rfl hL (fun _ _ h => h) y
theorem turnS {lo : Obj} {xs : Array PySem.Value} {ln k : Nat} {esc : Bool} {dG : StG} {b : Bool × Nat} {bs : List (Bool × Nat)} {hook : HookT} {vsf vof : PySem.Value → PySem.Value} {nx : List PySem.Value → Array PySem.Value} {P : Result → Led → Prop}
    (hh : ∀ V : Ev, V.Std → HookOk V hook)
    (hgood : ∀ d₀ os h N T glv R, good (startS W x aS f aG dG lo xs ln d₀ os h N T glv R (keysA aS aG) k esc fun c kk => itemS (VS W h d₀ os (keysA aS aG) R fun _ _ _ _ _ => nay 0) x aS f aG lo xs ln b k c kk fun gl₂ =>
      V2 W h d₀ os 330 45 (keysA aS aG) R noFin hook (tlS W.params x aS f aG (k + wdB b) b.1 vsf vof nx gl₂)))
    (IH : ∀ d v1 v2 gh ln dG, TriG W 330 45 (cLS W.params aS.g aS.loc) f.gn (Next W x aG bs (k + wdB b) b.1) (linC aS f (locS x aS d (vsf v1) (vof v2)) (nx gh) ln ++ linG ⟨⟨x⟩⟩ aG dG (k + wdB b) b.1) P) :
    TriG W 330 45 (cLS W.params aS.g aS.loc) f.gn (Next W x aG (b :: bs) k esc) (linC aS f lo xs ln ++ linG ⟨⟨x⟩⟩ aG dG k esc) P := fun d₀ os h N T gl₀ gs hlen hgs F I => by
  let Lin := linC aS f lo xs ln ++ linG ⟨⟨x⟩⟩ aG dG k esc
  let R := AfterG W gl₀ d₀ os h N Lin P
  let go : Code → (Result → Sem PySem.Fin) → Ob := fun c kk => itemS (VS W h d₀ os (keysA aS aG) R fun _ _ _ _ _ => nay 0) x aS f aG lo xs ln b k c kk fun gl₂ => V2 W h d₀ os 330 45 (keysA aS aG) R noFin hook (tlS W.params x aS f aG (k + wdB b) b.1 vsf vof nx gl₂)
  let V := VS W h d₀ os (keysA aS aG) R (cutS W.params aS Lin (gl₀ ++ [gs]) go)
  have S : V.Std := VS_std
  have hgl : (aS.g, genObj gl₀.length f.nm f.qn) ∈ linC aS f lo xs ln := by rw [hlen]; exact .tail _ (.tail _ (.head _))
  have O : V.Ok := VS_ok fun c c' g l kk L sz tb i gl gh h' H D => cutS_ok (V := V) S (hgs dG) (specG_form _ _ _ _ _ _ _) hgl
    (fun kk H e Lo N' T' h' v l k2 c2 p fs hq he D' => by
      obtain ⟨tup, t1, t2, d', l', kk', c'', p', fs', he', hLo, hnext⟩ := hq
      subst hLo
      rw [he'] at he
      injection he with hv
      subst hv
      have H' := H tup t1 t2 d'.e1.1 d'.e1.2 d'.e2.1 d'.e2.2 d'.e3.1 d'.e3.2 d'.e4.1 d'.e4.2 d'.ta d'.ln d'.tx d'.vp d'.vc d'.old (gl₀ ++ [e.genState]) N' T'
      let V' := V2 W h d₀ os 330 45 (keysA aS aG) R noFin hook (tlS W.params x aS f aG (k + wdB b) b.1 vsf vof nx (gl₀ ++ [e.genState]))
      have S' : V'.Std := V2_std
      have O' : V'.Ok := V2_ok (fun _ _ _ _ _ _ _ _ H _ => by cases H) (hh _ S') fun j c' L sz tb i gl gh h' H D => tlS_ok (V := V') S' (Lin := Lin) F rfl hlen hnext IH H D
      exact sim_sound (V := V') O' 700 _ none .base _ _ _ _ _ _ _ h' H' (Rp.conv (V := V) (V' := V') rfl rfl rfl rfl D'))
    (fun kk H N' T' h' _ hq D' => by
      obtain ⟨Lo, tup, t1, t2, d', l', kk', c'', p', fs', he', _⟩ := hq
      cases he') H D
  exact code_good (V := V) O (tb := T + 2349) (i := 0) (n := 300) (hgood d₀ os h N T (gl₀ ++ [gs]) R) (Rp.startL (V := V) S F I rfl)
theorem endS {lo : Obj} {xs : Array PySem.Value} {ln k : Nat} {esc : Bool} {dG : StG} {vs vo : PySem.Value}
    (hgood : ∀ d₀ os h N T glv R, good (obEnd W x aS f aG dG lo xs ln d₀ os h N T glv R (keysA aS aG) k esc vs vo)) (hne : aS.loc ≠ aS.res) :
    TriG W 330 45 (cLS W.params aS.g aS.loc) f.gn (Next W x aG [] k esc) (linC aS f lo xs ln ++ linG ⟨⟨x⟩⟩ aG dG k esc) (fun r Lo => r = .ok .next ∧ ∃ d ln', Lo = [(aS.loc, locS x aS d vs vo), (aS.res, listObj xs ln')]) := fun d₀ os h N T gl₀ gs hlen hgs F I => by
  let Lin := linC aS f lo xs ln ++ linG ⟨⟨x⟩⟩ aG dG k esc
  let P : Result → Led → Prop := fun r Lo => r = .ok .next ∧ ∃ d ln', Lo = [(aS.loc, locS x aS d vs vo), (aS.res, listObj xs ln')]
  let R := AfterG W gl₀ d₀ os h N Lin P
  let go : Code → (Result → Sem PySem.Fin) → Ob := fun c kk => stopS aS f lo xs ln c kk (mkE W x aS xs d₀ os h R (keysA aS aG) vs vo)
  let V := VS W h d₀ os (keysA aS aG) R (cutS W.params aS Lin (gl₀ ++ [gs]) go)
  have S : V.Std := VS_std
  have hgl : (aS.g, genObj gl₀.length f.nm f.qn) ∈ linC aS f lo xs ln := by rw [hlen]; exact .tail _ (.tail _ (.head _))
  have O : V.Ok := VS_ok fun c c' g l kk L sz tb i gl gh h' H D => cutS_ok (V := V) S (hgs dG) (specG_form _ _ _ _ _ _ _) hgl
    (fun kk H e Lo N' T' h' v l k2 c2 p fs hq he D' => by
      rw [show e = .ret (.ok (.ret .none)) from hq] at he
      cases he)
    (fun kk H N' T' h' _ hq D' => by
      have H' := H (gl₀ ++ [.finished]) N' T'
      let V' := mkE W x aS xs d₀ os h R (keysA aS aG) vs vo (gl₀ ++ [.finished])
      have S' : V'.Std := V2_std
      have O' : V'.Ok := V2_ok (fun r L sz tb i gl gh h' H D => by
        unfold fnS at H
        split at H
        · split at H
          · obtain ⟨eg, H⟩ := eqG_of' H
            obtain ⟨_, pl, _, _, H⟩ := inLed_of H
            obtain ⟨_, pr, _, _, H⟩ := inLed_of H
            obtain ⟨ho, -⟩ := outs_of H
            rw [eg]
            exact after_of (V := V') S' (Lin := Lin) F rfl D ho (by simp [hne]) ⟨rfl, _, _, rfl⟩
          · cases H
        · cases H) (noHook_ok _) fun _ _ _ _ _ _ _ _ _ H _ => by cases H
      exact sim_sound (V := V') O' 700 _ none .base _ _ _ _ _ _ _ h' H' (Rp.conv (V := V) (V' := V') rfl rfl rfl rfl D')) H D
  exact code_good (V := V) O (tb := T + 2349) (i := 0) (n := 300) (hgood d₀ os h N T (gl₀ ++ [gs]) R) (Rp.startL (V := V) S F I rfl)
end
end Mine
end
-- part F10f
section
namespace Mine
noncomputable def isQ (b : Bool × Nat) : Bool := !b.1 && Nat.beq b.2 34
/-- what the stripping loop comes to: the pieces, the start, the open mark -/
noncomputable def runS (x : List Nat) : List (Bool × Nat) → Nat → Nat → Option Nat → List (List Nat) × Nat × Option Nat
  | [], _, s, op => ([], s, op)
  | b :: bs, k, s, op => match isQ b, op with
    | false, op => runS x bs (k + wdB b) s op
    | true, none => runS x bs (k + wdB b) s (some k)
    | true, some o => if s = o then runS x bs (k + wdB b) (k + 1) none else (pieceL x s (some o) :: (runS x bs (k + wdB b) (k + 1) none).1, (runS x bs (k + wdB b) (k + 1) none).2)
noncomputable def opV : Option Nat → Nat → PySem.Value
  | none, _ => .none
  | some o, t => .int (o : Int) t
noncomputable def PS (x : List Nat) (aS : AdS) (xs : Array PySem.Value) (q : List (List Nat) × Nat × Option Nat) (r : Result) (Lo : Led) : Prop :=
  r = .ok .next ∧ ∃ d ts to tks ln, Lo = [(aS.loc, locS x aS d (.int (q.2.1 : Int) ts) (opV q.2.2 to)), (aS.res, listObj (xs ++ ⟨valS q.1 tks⟩) ln)]
theorem TriG.mono {w : World} {n u : Nat} {c : Code} {gn : Nat} {gp : GenState → Prop} {Lin : Led} {P P' : Result → Led → Prop} (t : TriG w n u c gn gp Lin P) (hp : ∀ r L, P r L → P' r L) : TriG w n u c gn gp Lin P' :=
  fun d os h N T gl₀ gs h1 h2 F I => codeAny_mono (t d os h N T gl₀ gs h1 h2 F I) fun _ _ ⟨h', N', T', Lo, a, b, c, d, e, f, g⟩ => ⟨h', N', T', Lo, a, b, c, d, e, f, hp _ _ g⟩
theorem notQ_mem {b : Bool × Nat} (h : isQ b = false) (hb : OkB b) : b ∈ [(false, 97), (false, 98), (false, 99), (true, 92), (true, 34)] := by
  obtain ⟨e, c⟩ := b
  cases e with
  | true =>
    have hb : c ∈ [92, 34] := hb
    simp only [List.mem_cons, List.not_mem_nil, or_false] at hb
    rcases hb with rfl | rfl <;> decide
  | false =>
    have hb : c ∈ [34, 97, 98, 99] := hb
    simp only [List.mem_cons, List.not_mem_nil, or_false] at hb
    rcases hb with rfl | rfl | rfl | rfl
    · cases h
    · decide
    · decide
    · decide
theorem isQ_eq {b : Bool × Nat} (h : isQ b = true) : b = (false, 34) := by
  obtain ⟨e, c⟩ := b
  obtain ⟨h1, h2⟩ := Bool.and_eq_true_iff.mp (show (!e && Nat.beq c 34) = true from h)
  cases e with
  | true => cases h1
  | false => rw [Nat.eq_of_beq_eq_true h2]
section
variable (w : World) (b1 b2 b3 : Bool) (x : List Nat) (f : FxS) (loc g res lg en sit : Nat)
noncomputable abbrev aSx : AdS := ⟨loc + 171, g + 171, res + 171⟩
noncomputable abbrev aGx : AdG := ⟨lg + 171, en + 171, sit + 171⟩
theorem loopS (hx : x.length ≤ sizeLine) (hne : loc ≠ res) : ∀ (bs : List (Bool × Nat)) (_ : ∀ p ∈ bs, OkB p) (k s : Nat) (op : Option Nat) (xs : Array PySem.Value) (_ : xs.size + bs.length ≤ sizeLine) (esc : Bool) (ts to : Nat) (d : StS) (ln : Nat) (dG : StG),
    TriG (WB w b1 b2 b3) 330 45 (cLS (WB w b1 b2 b3).params (g + 171) (loc + 171)) f.gn (Next (WB w b1 b2 b3) x (aGx lg en sit) bs k esc)
      (linC (aSx loc g res) f (locS x (aSx loc g res) d (.int (s : Int) ts) (opV op to)) xs ln ++ linG ⟨⟨x⟩⟩ (aGx lg en sit) dG k esc) (PS x (aSx loc g res) xs (runS x bs k s op))
  | [], _, k, s, op, xs, _, esc, ts, to, d, ln, dG =>
    (endS (aS := aSx loc g res) (f := f) (aG := aGx lg en sit) (fun d₀ os h N T glv R => good_of _ _ (csE w b1 b2 b3 x loc g res f lg en sit dG d xs ln d₀ os h N T glv R _ k esc (.int (s : Int) ts) (opV op to))) (fun h => hne (Nat.add_right_cancel h))).mono
      fun r Lo ⟨h1, d', ln', h2⟩ => ⟨h1, d', ts, to, [], ln', by rw [h2]; simp [runS, valS]⟩
  | b :: bs, hb, k, s, op, xs, hs, esc, ts, to, d, ln, dG => by
    have hb' : ∀ p ∈ bs, OkB p := fun p hp => hb p (.tail _ hp)
    have hs' : xs.size + (bs.length + 1) ≤ sizeLine := hs
    cases hq : isQ b with
    | false =>
      have e : runS x (b :: bs) k s op = runS x bs (k + wdB b) s op := by simp only [runS, hq]
      rw [e]
      refine turnS (aS := aSx loc g res) (f := f) (aG := aGx lg en sit) (hook := noHook) (vsf := fun _ => .int (s : Int) ts) (vof := fun _ => opV op to) (nx := fun _ => xs) (fun V _ => noHook_ok V) (fun d₀ os h N T glv R => ?_)
        fun d' v1 v2 gh ln' dG' => loopS hx hne bs hb' (k + wdB b) s op xs (by omega) b.1 ts to d' ln' dG'
      exact good_of _ _ (csN w b1 b2 b3 x loc g res f lg en sit dG d xs ln d₀ os h N T glv R _ k esc (.int (s : Int) ts) (opV op to) (notQ_mem hq (hb b (.head _))))
    | true =>
      have eb := isQ_eq hq
      subst eb
      cases op with
      | none =>
        have e : runS x ((false, 34) :: bs) k s none = runS x bs (k + 1) s (some k) := by simp only [runS, hq]; rfl
        rw [e]
        refine turnS (aS := aSx loc g res) (f := f) (aG := aGx lg en sit) (hook := noHook) (vsf := fun _ => .int (s : Int) ts) (vof := fun v => .int (k : Int) (tokV v)) (nx := fun _ => xs) (fun V _ => noHook_ok V) (fun d₀ os h N T glv R => ?_)
          fun d' v1 v2 gh ln' dG' => loopS hx hne bs hb' (k + 1) s (some k) xs (by omega) false ts (tokV v2) d' ln' dG'
        exact good_of _ _ (csO w b1 b2 b3 x loc g res f lg en sit dG d xs ln d₀ os h N T glv R _ k esc (.int (s : Int) ts))
      | some o =>
        by_cases hso : s = o
        · subst hso
          have e : runS x ((false, 34) :: bs) k s (some s) = runS x bs (k + 1) (k + 1) none := by simp only [runS, hq, if_true]; rfl
          rw [e]
          refine turnS (aS := aSx loc g res) (f := f) (aG := aGx lg en sit) (hook := hkS2 s) (vsf := fun v => .int ((k + 1 : Nat) : Int) (tokV v)) (vof := fun _ => .none) (nx := fun _ => xs) (fun V _ => hookNe_ok _ _ (by simp)) (fun d₀ os h N T glv R => ?_)
            fun d' v1 v2 gh ln' dG' => loopS hx hne bs hb' (k + 1) (k + 1) none xs (by omega) false (tokV v1) 0 d' ln' dG'
          exact good_of _ _ (csC2 w b1 b2 b3 x loc g res f lg en sit dG d xs ln d₀ os h N T glv R _ k esc s ts to)
        · have e : runS x ((false, 34) :: bs) k s (some o) = (pieceL x s (some o) :: (runS x bs (k + 1) (k + 1) none).1, (runS x bs (k + 1) (k + 1) none).2) := by simp only [runS, hq, if_neg hso]; rfl
          rw [e]
          refine turnS (aS := aSx loc g res) (f := f) (aG := aGx lg en sit) (hook := hkS1 x xs s o) (vsf := fun v => .int ((k + 1 : Nat) : Int) (tokV v)) (vof := fun _ => .none) (nx := nxP x xs s o)
            (fun V _ => hook2_ok (hookNe_ok _ _ (by simp only [bne_iff_ne, ne_eq]; omega)) (hook2_ok (hookSlice_ok hx) (hookAppend_ok (by omega)))) (fun d₀ os h N T glv R => ?_)
            fun d' v1 v2 gh ln' dG' => ?_
          · exact good_of _ _ (csC1 w b1 b2 b3 x loc g res f lg en sit dG d xs ln d₀ os h N T glv R _ k esc s o ts to)
          · refine (loopS hx hne bs hb' (k + 1) (k + 1) none (nxP x xs s o gh) (by unfold nxP; rw [Array.size_push]; omega) false (tokV v1) 0 d' ln' dG').mono fun r Lo ⟨h1, d2, ts2, to2, tks, ln2, h2⟩ => ⟨h1, d2, ts2, to2, tokG gh :: tks, ln2, ?_⟩
            rw [h2]
            have : nxP x xs s o gh ++ (⟨valS (runS x bs (k + 1) (k + 1) none).1 tks⟩ : Array PySem.Value) = xs ++ ⟨valS (pieceL x s (some o) :: (runS x bs (k + 1) (k + 1) none).1) (tokG gh :: tks)⟩ := by
              apply Array.ext'
              unfold nxP
              rw [Array.toList_append, Array.toList_append, Array.toList_push, List.append_assoc]; rfl
            rw [this]
end
end Mine
end
-- part F10g
section
namespace Mine
section
variable (w : World) (b1 b2 b3 : Bool) (f : FxS) (loc g res lg : Nat)
/-- the stripping loop from its start -/
theorem loopS0 (x : List Nat) (bs : List (Bool × Nat)) (ex : x = 120 :: txtB bs) (hb : ∀ p ∈ bs, OkB p) (ha : (⟨⟨x⟩⟩ : Str).cps.all (· < 128) = true) (hx : x.length ≤ sizeLine) (hne : loc ≠ res) (xs : Array PySem.Value) (hs : xs.size + bs.length ≤ sizeLine) (ts : Nat) (d : StS) (ln : Nat) (e1 : Ky) (ta n : Nat) :
    TriG (WB w b1 b2 b3) 330 45 (cLS (WB w b1 b2 b3).params (g + 171) (loc + 171)) f.gn (fun gs => gs = .fresh (cG (WB w b1 b2 b3).params (lg + 171)))
      (linC (aSx loc g res) f (locS0 x (aSx loc g res) d (.int (0 : Nat) ts) .none) xs ln ++ linS ⟨⟨x⟩⟩ (lg + 171) e1 ta n) (PS x (aSx loc g res) xs (runS x bs 1 0 none)) := fun d₀ os h N T gl₀ gs hlen hgs F I => by
  have hx0 : (⟨⟨x⟩⟩ : Str).cps[0]? = some 120 := by rw [ex]; rfl
  have hxj : ∀ j, (⟨⟨x⟩⟩ : Str).cps[1 + j]? = (txtB bs)[j]? := fun j => by rw [ex, Nat.add_comm]; simp
  let W := WB w b1 b2 b3
  let aS := aSx loc g res
  let lo := locS0 x aS d (.int (0 : Nat) ts) .none
  let Lin := linC aS f lo xs ln ++ linS ⟨⟨x⟩⟩ (lg + 171) e1 ta n
  let P := PS x aS xs (runS x bs 1 0 none)
  let R := AfterG W gl₀ d₀ os h N Lin P
  let go : Code → (Result → Sem PySem.Fin) → Ob := fun c kk => item0 x xs ln aS f (lg + 171) lo c kk fun aG gl₂ => mkN W x aS f aG xs d₀ os h R (Lin.map (·.1)) 1 false (.int (0 : Nat) ts) .none gl₂
  let V := VS W h d₀ os (Lin.map (·.1)) R (cutS W.params aS Lin (gl₀ ++ [gs]) go)
  have S : V.Std := VS_std
  have hgl : (aS.g, genObj gl₀.length f.nm f.qn) ∈ linC aS f lo xs ln := by rw [hlen]; exact .tail _ (.tail _ (.head _))
  have W1 : Wakes1 V.w 350 60 gs (linS ⟨⟨x⟩⟩ (lg + 171) e1 ta n) (specS W ⟨⟨x⟩⟩ (lg + 171) bs) := by
    rw [hgs]; exact startG w b1 b2 b3 ⟨⟨x⟩⟩ lg e1 ta n bs hx0 hxj hb ha
  have O : V.Ok := VS_ok fun c c' gB l kk L sz tb i gl gh h' H D => cutS_ok (V := V) S W1 (fun e Lo ⟨en, sit, _, hq⟩ => specG_form _ _ _ _ _ _ _ e Lo hq) hgl
    (fun kk H e Lo N' T' h' v l k2 c2 p fs hq he D' => by
      obtain ⟨en, sit, hhigh, tup, t1, t2, d', l', kk', c'', p', fs', he', hLo, hnext⟩ := hq
      subst hLo
      rw [he'] at he
      injection he with hv
      subst hv
      have H' := H en sit tup t1 t2 d'.e1.1 d'.e1.2 d'.e2.1 d'.e2.2 d'.e3.1 d'.e3.2 d'.e4.1 d'.e4.2 d'.ta d'.ln d'.tx d'.vp d'.vc d'.old (gl₀ ++ [e.genState]) N' T'
      obtain ⟨en', rfl⟩ : ∃ en', en = en' + 171 := ⟨en - 171, by
        have := hhigh; simp only [AdG.high, Bool.and_eq_true, Nat.ble_eq] at this; omega⟩
      obtain ⟨sit', rfl⟩ : ∃ sit', sit = sit' + 171 := ⟨sit - 171, by
        have := hhigh; simp only [AdG.high, Bool.and_eq_true, Nat.ble_eq] at this; omega⟩
      let V' := mkN W x aS f ⟨lg + 171, en' + 171, sit' + 171⟩ xs d₀ os h R (Lin.map (·.1)) 1 false (.int (0 : Nat) ts) .none (gl₀ ++ [e.genState])
      have S' : V'.Std := V2_std
      have O' : V'.Ok := V2_ok (fun _ _ _ _ _ _ _ _ H _ => by cases H) (noHook_ok _) fun j c' L sz tb i gl gh h' H D => tlS_ok (V := V') S' (Lin := Lin) F rfl hlen hnext
        (fun d2 v1 v2 gh2 ln2 dG2 => loopS w b1 b2 b3 x f loc g res lg en' sit' hx hne bs hb 1 0 none xs hs false ts 0 d2 ln2 dG2) H D
      exact sim_sound (V := V') O' 700 _ none .base _ _ _ _ _ _ _ h' H' (Rp.conv (V := V) (V' := V') rfl rfl rfl rfl D'))
    (fun kk H N' T' h' _ hq D' => by
      obtain ⟨Lo, en, sit, _, tup, t1, t2, d', l', kk', c'', p', fs', he', _⟩ := hq
      cases he') H D
  have z := good_of _ _ (cs0 w b1 b2 b3 x loc g res f lg d xs ln d₀ os h N T (gl₀ ++ [gs]) R (Lin.map (·.1)) e1.1 e1.2 ta n (.int (0 : Nat) ts) .none)
  exact code_good (V := V) O (tb := T + 2349) (i := 0) (n := 300) z (Rp.startL (V := V) S F I rfl)
end
end Mine
end
-- part F11a
section
namespace Mine
/-! the stripping function whole -/
noncomputable def padS : List (List Nat) → List Nat → List Nat
  | [], _ => []
  | _ :: r, ts => ts.headD 0 :: padS r ts.tail
theorem valS_append (p : List Nat) (t : Nat) : ∀ (ms : List (List Nat)) (ts : List Nat), valS ms ts ++ [.str ⟨⟨p⟩⟩ t] = valS (ms ++ [p]) (padS ms ts ++ [t])
  | [], ts => rfl
  | m :: r, ts => by
    show _ :: (valS r ts.tail ++ _) = _ :: valS (r ++ [p]) (padS r ts.tail ++ [t])
    rw [valS_append p t r ts.tail]; rfl
theorem valS_length : ∀ ms ts, (valS ms ts).length = ms.length
  | [], _ => rfl
  | m :: r, ts => by simp [valS, valS_length r ts.tail]
noncomputable def hookAppendS (ms : List (List Nat)) (p : List Nat) : HookT := fun _ c _ cont L sz tb i gl gh => inLed (argRV c).1 L fun j q => .eqC c (.call (.builtin "list.append") ⟨[.ref (argRV c).1, .str ⟨⟨p⟩⟩ (tokV (argRV c).2)], []⟩) (.eqO q.2 (listObj ⟨valS ms (tsG gh)⟩ (seqN q.2))
      (cont (.ok (.ret .none)) (ledSet L j (Obj.mapSeq (fun _ => ⟨valS (ms ++ [p]) (padS ms (tsG gh) ++ [tokV (argRV c).2])⟩) q.2)) sz tb i gl (.str ⟨⟨padS ms (tsG gh) ++ [tokV (argRV c).2]⟩⟩ 0 :: gh)))
theorem hookAppendS_ok {V : Ev} {ms : List (List Nat)} {p : List Nat} (hx : ms.length ≤ sizeLine) : HookOk V (hookAppendS ms p) := by
  intro j c A g l cont L sz tb i gl gh h H D
  obtain ⟨j, q, e, ea, H⟩ := inLed_of H
  obtain ⟨ec, H⟩ := eqC_of H
  obtain ⟨ho, H⟩ := eqO_of H
  rw [ea] at ec
  rw [ec]
  have hp' : h.get? q.1 = some (listObj ⟨valS ms (tsG gh)⟩ (seqN q.2)) := (D.own q (ledAt_mem e)).trans (congrArg some ho)
  have e2 : Obj.mapSeq (fun xs => xs.push (.str ⟨⟨p⟩⟩ (tokV (argRV c).2))) q.2 = Obj.mapSeq (fun _ => ⟨valS (ms ++ [p]) (padS ms (tsG gh) ++ [tokV (argRV c).2])⟩) q.2 := by
    rw [ho]
    have : (⟨valS ms (tsG gh)⟩ : Array PySem.Value).push (.str ⟨⟨p⟩⟩ (tokV (argRV c).2)) = ⟨valS (ms ++ [p]) (padS ms (tsG gh) ++ [tokV (argRV c).2])⟩ := by
      apply Array.ext'
      rw [Array.toList_push]
      exact valS_append _ _ _ _
    show Obj.mk _ _ _ _ = Obj.mk _ _ _ _
    simp only [this]
  refine hook_call (call_meets PySem.F.slot_list_append ⟨_, hp', rfl⟩ PySem.F.entry_list_append (PySem.F.args_list_append_2 _ _) (PySem.AutoListH.list_append_list_val_0 q.1 ⟨valS ms (tsG gh)⟩ (seqN q.2) _ (by show (valS ms (tsG gh)).length ≤ _; rw [valS_length]; exact hx)) ⟨hp', ?_⟩)
  refine ⟨_, sz, tb, i, gl, .str ⟨⟨padS ms (tsG gh) ++ [tokV (argRV c).2]⟩⟩ 0 :: gh, _, rfl, D.up e (Obj.mapSeq fun xs => xs.push (.str ⟨⟨p⟩⟩ (tokV (argRV c).2))) ?_, ?_⟩
  · rw [ho]; rfl
  · rw [e2]; exact H
/-- the stripping loop as a call that is known -/
noncomputable def hookSL (P : Params) (x : List Nat) (bs : List (Bool × Nat)) (gl₀ : List GenState) : HookT := fun _ c A cont L _ _ _ gl gh => match inB A 330 45 with
  | true => inLed (cLoc5 c) L fun _ pl => inLed (cIt5 c) L fun _ pg => inLed (nAt (valAt pl.2 3)) L fun _ pr => inLed (Nat.pred (cIt5 c)) L fun _ pn =>
    match Nat.ble 171 (cLoc5 c) && (Nat.ble 171 (cIt5 c) && (Nat.ble 171 (nAt (valAt pl.2 3)) && Nat.ble 171 (Nat.pred (cIt5 c)))) with
    | true => .eqC c (cLS P (cIt5 c) (cLoc5 c)) (.eqG gl (gl₀ ++ [.fresh (cG P (Nat.pred (cIt5 c)))])
      (pickL L (linC ⟨cLoc5 c, cIt5 c, nAt (valAt pl.2 3)⟩ ⟨gl₀.length, fieldAt pg.2 1, fieldAt pg.2 2⟩ (locS0 x ⟨cLoc5 c, cIt5 c, nAt (valAt pl.2 3)⟩ (stSOf pl.2 pr.2) (.int (0 : Nat) (tokV (valAt pl.2 1))) .none) #[] (seqN pr.2) ++ linS ⟨⟨x⟩⟩ (Nat.pred (cIt5 c)) (kyAt pn.2 0) (tokV (valAt pn.2 0)) (dictN pn.2)) fun rest =>
      .allI fun h1 => .allN fun s1 => .allI fun h2 => .allN fun s2 => .allI fun h3 => .allN fun s3 => .allI fun h4 => .allN fun s4 => .allI fun h5 => .allN fun s5 => .allI fun h6 => .allN fun s6 => .allN fun ta => .allN fun n' => .allN fun ln => .allV fun vp => .allV fun vc =>
      .allN fun ts => .allN fun to => .allL fun tks => .allN fun ln' => .allN fun N' => .allN fun T' =>
        cont (.ok .next) ([(cLoc5 c, locS x ⟨cLoc5 c, cIt5 c, nAt (valAt pl.2 3)⟩ ⟨(h1, s1), (h2, s2), (h3, s3), (h4, s4), (h5, s5), (h6, s6), ta, n', ln, vp, vc⟩ (.int ((runS x bs 1 0 none).2.1 : Int) ts) (opV (runS x bs 1 0 none).2.2 to)), (nAt (valAt pl.2 3), listObj ⟨valS (runS x bs 1 0 none).1 tks⟩ ln')] ++ rest)
          (N' + 171) (T' + 2349) 0 (gl₀ ++ [.finished]) (.str ⟨⟨tks⟩⟩ 0 :: gh)))
    | false => .bad 313 0
  | false => .bad 80 0
theorem hookSL_ok {V : Ev} (S : V.Std) {w : World} {b1 b2 b3 : Bool} (hw : V.w = WB w b1 b2 b3) {x : List Nat} {bs : List (Bool × Nat)} {gl₀ : List GenState} (ex : x = 120 :: txtB bs) (hb : ∀ p ∈ bs, OkB p) (ha : (⟨⟨x⟩⟩ : Str).cps.all (· < 128) = true) (hx : x.length ≤ sizeLine) (hs : bs.length ≤ sizeLine) :
    HookOk V (hookSL V.w.params x bs gl₀) := by
  intro j c A g l cont L sz tb i gl gh h H D
  unfold hookSL at H
  split at H
  · rename_i hA
    obtain ⟨_, pl, _, _, H⟩ := inLed_of H
    obtain ⟨_, pg, _, _, H⟩ := inLed_of H
    obtain ⟨_, pr, _, _, H⟩ := inLed_of H
    obtain ⟨_, pn, _, _, H⟩ := inLed_of H
    split at H
    · rename_i hc
      simp only [Bool.and_eq_true, Nat.ble_eq] at hc
      obtain ⟨q1, q2, q3, q4⟩ := hc
      obtain ⟨ec, H⟩ := eqC_of H
      obtain ⟨eg, H⟩ := eqG_of' H
      obtain ⟨rest, hp, H⟩ := pickL_of H
      obtain ⟨loc, e1⟩ : ∃ loc, cLoc5 c = loc + 171 := ⟨cLoc5 c - 171, by omega⟩
      obtain ⟨g', e2⟩ : ∃ g', cIt5 c = g' + 171 := ⟨cIt5 c - 171, by omega⟩
      obtain ⟨res, e3⟩ : ∃ res, nAt (valAt pl.2 3) = res + 171 := ⟨nAt (valAt pl.2 3) - 171, by omega⟩
      obtain ⟨lg, e4⟩ : ∃ lg, Nat.pred (cIt5 c) = lg + 171 := ⟨Nat.pred (cIt5 c) - 171, by omega⟩
      rw [e4] at hp eg
      rw [e1, e2, e3] at H hp
      rw [e1, e2] at ec
      have hn := (hp.map (·.1)).nodup_iff.mp D.nodup
      rw [List.map_append] at hn
      have hne : loc ≠ res := fun z => by
        have := (List.nodup_append.mp hn).1
        rw [z] at this
        simp [linC] at this
      have t := loopS0 w b1 b2 b3 ⟨gl₀.length, fieldAt pg.2 1, fieldAt pg.2 2⟩ loc g' res lg x bs ex hb ha hx hne #[] (by simpa using hs) (tokV (valAt pl.2 1)) (stSOf pl.2 pr.2) (seqN pr.2) (kyAt pn.2 0) (tokV (valAt pn.2 0)) (dictN pn.2)
      have hL : ∀ p ∈ linC (aSx loc g' res) ⟨gl₀.length, fieldAt pg.2 1, fieldAt pg.2 2⟩ (locS0 x (aSx loc g' res) (stSOf pl.2 pr.2) (.int (0 : Nat) (tokV (valAt pl.2 1))) .none) #[] (seqN pr.2) ++ linS ⟨⟨x⟩⟩ (lg + 171) (kyAt pn.2 0) (tokV (valAt pn.2 0)) (dictN pn.2), p ∈ L :=
        fun p h => hp.mem_iff.mpr (List.mem_append.mpr (.inl h))
      have hr : ∀ p ∈ rest, p ∈ L := fun p h => hp.mem_iff.mpr (List.mem_append.mpr (.inr h))
      rw [ec]
      refine call_B hA ?_
      obtain ⟨N, T, rfl, rfl, F⟩ := St0.of S D
      have I : InL V.w h _ := ⟨fun p hp => D.own p (hL p hp), (List.nodup_append.mp hn).1, fun p hp => S.kt ▸ D.sep p (hL p hp)⟩
      rw [← hw] at t
      have z := t V.d V.os h N (T + i) gl₀ _ rfl rfl F I
      have e : st h (gl₀ ++ [GenState.fresh (cG V.w.params (lg + 171))]) V.d (T + i) V.os = sh V h (T + 2349) i gl := by rw [eg]; unfold st sh; rw [Nat.add_right_comm]
      rw [e] at z
      refine codeAny_mono z fun r s' y => ?_
      obtain ⟨Lo, N', T', h', ⟨hr1, d, ts, to, tks, ln, hLo⟩, hs', D'⟩ := after_rp S rfl hL hr hn D y
      rw [hr1]
      subst hLo
      refine ⟨_, N' + 171, T' + 2349, 0, gl₀ ++ [.finished], .str ⟨⟨tks⟩⟩ 0 :: gh, h', hs', D', ?_⟩
      have k := H d.e1.1 d.e1.2 d.e2.1 d.e2.2 d.e3.1 d.e3.2 d.e4.1 d.e4.2 d.e5.1 d.e5.2 d.e6.1 d.e6.2 d.ta d.n d.ln d.vp d.vc ts to tks ln N' T'
      rw [Array.empty_append]
      exact k
    · cases H
  · cases H
end Mine
namespace Mine
/-- len(text) -/
noncomputable def hookLen (x : List Nat) : HookT := fun _ c _ cont L sz tb i gl gh => .eqC c (.call (.builtin "len") ⟨[.str ⟨⟨x⟩⟩ (argTok c)], []⟩) (cont (.ok (.ret (.int (x.length : Int) (tb + (i + 1))))) L sz tb (i + 2) gl gh)
theorem hookLen_ok {V : Ev} {x : List Nat} (hx : x.length ≤ sizeLine) : HookOk V (hookLen x) := by
  intro j c A g l cont L sz tb i gl gh h H D
  obtain ⟨ec, H⟩ := eqC_of H
  rw [ec]
  have hfit : ¬ ((x.length : Nat) : Int) ≥ 2 ^ 63 := by
    have h1 : sizeLine < 2 ^ 63 := by decide
    have h2 : x.length < 2 ^ 63 := Nat.lt_of_le_of_lt hx h1
    omega
  exact hook_call (call_len_gives (n := (x.length : Int)) (typeIs_str _ _ _) PySem.F.slot_str_len PySem.F.entry_str_len (PySem.F.args_str_len_1 _) (gives_str_len ⟨⟨x⟩⟩ (argTok c)) (by omega) hfit ⟨L, sz, tb, i + 2, gl, gh, h, rfl, D, H⟩)
end Mine
namespace Mine
/-- the stripping of a text in blocks -/
noncomputable def stripL (x : List Nat) (bs : List (Bool × Nat)) : List Nat := (if (runS x bs 1 0 none).2.1 < x.length then (runS x bs 1 0 none).1 ++ [pieceL x (runS x bs 1 0 none).2.1 none] else (runS x bs 1 0 none).1).flatten
noncomputable abbrev c11 (x : List Nat) (t : Nat) : Code := .call (.ref 35) ⟨[.str ⟨⟨x⟩⟩ t], []⟩
noncomputable def fn11 (val : List Nat) (gl₀ : List GenState) : Result → Cont := fun r _ _ _ _ gl _ => match r with
  | .ok fl => match fl with
    | .ret v => .eqV v (.str ⟨⟨val⟩⟩ (tokV v)) (.eqG gl (gl₀ ++ [.finished]) .ok)
    | _ => .bad 71 0
  | .error _ => .bad 72 0
noncomputable def hk11 (P : Params) (x : List Nat) (bs : List (Bool × Nat)) (gl₀ : List GenState) (q : Bool) : HookT :=
  hook2 (hookV2 "str.__contains__" (fun t => .str ⟨⟨x⟩⟩ t) (fun t => .str ⟨⟨[34]⟩⟩ t) (.bool true)) (hook2 (hookSL P x bs gl₀) (hook2 (hookV2 "int.__lt__" (fun t => .int ((runS x bs 1 0 none).2.1 : Int) t) (fun t => .int (x.length : Int) t) (.bool q))
    (hook2 (hookSlice x (runS x bs 1 0 none).2.1 none) (hook2 (hookAppendS (runS x bs 1 0 none).1 (pieceL x (runS x bs 1 0 none).2.1 none)) (hook2 (hookJoinS (match q with | true => (runS x bs 1 0 none).1 ++ [pieceL x (runS x bs 1 0 none).2.1 none] | false => (runS x bs 1 0 none).1)) (hookLen x))))))
noncomputable def ob11 (w : World) (x : List Nat) (bs : List (Bool × Nat)) (q : Bool) (val : List Nat) (t : Nat) (d₀ : Drawn) (os : OsState) (h : Heap) (N T : Nat) (gl : List GenState) (R : Result → Shared → Prop) : Ob :=
  sim (V2 w h d₀ os 320 35 [] R (fn11 val gl) (hk11 w.params x bs gl q) noTail) 1500 (c11 x t) none .base (goF (c11 x t) (Bn 320 35)) [] (N + 171) (T + 2349) 0 gl []
end Mine
end
-- part F11b
section
namespace Mine
noncomputable def h11t : List Nat := [0, 0, 1, 1, 0, 0, 1, 1, 1, 1, 1, 1, 2, 2, 0, 2, 0, 0, 0, 0, 1, 1, 0, 1, 1, 0, 1, 0, 1, 2, 4, 1, 3, 2, 4, 3, 1, 1, 1, 0, 0, 1, 7, 3, 1, 2, 2, 2, 2, 1, 1, 4, 1, 5, 3, 2, 6, 3]
noncomputable def h11f : List Nat := [0, 0, 1, 1, 0, 0, 1, 1, 1, 1, 1, 1, 2, 2, 0, 2, 0, 0, 0, 0, 1, 1, 0, 1, 1, 0, 1, 0, 1, 2, 4, 1, 3, 2, 4, 3, 1, 1, 1, 0, 0, 1, 7, 3, 1, 6, 2]
section
variable (w : World) (b1 b2 b3 : Bool) (x : List Nat) (bs : List (Bool × Nat)) (t : Nat) (d₀ : Drawn) (os : OsState) (h : Heap) (N T : Nat) (gl : List GenState) (R : Result → Shared → Prop)
theorem ck11t : lft (ob11 (WB w b1 b2 b3) x bs true ((runS x bs 1 0 none).1 ++ [pieceL x (runS x bs 1 0 none).2.1 none]).flatten t d₀ os h N T gl R) h11t = rgt (ob11 (WB w b1 b2 b3) x bs true ((runS x bs 1 0 none).1 ++ [pieceL x (runS x bs 1 0 none).2.1 none]).flatten t d₀ os h N T gl R) h11t := by
  cases b1 <;> kernel_rfl
theorem ck11f : lft (ob11 (WB w b1 b2 b3) x bs false ((runS x bs 1 0 none).1).flatten t d₀ os h N T gl R) h11f = rgt (ob11 (WB w b1 b2 b3) x bs false ((runS x bs 1 0 none).1).flatten t d₀ os h N T gl R) h11f := by
  cases b1 <;> kernel_rfl
end
/-- a code that leaves a finished generator behind -/
noncomputable def TriF (w : World) (n u : Nat) (c : Code) (Lin : Led) (P : Result → Led → Prop) : Prop :=
  ∀ d os h N T gl, St0 w h N → InL w h Lin → codeAny (model pw w) (Bn n u) c (After w (gl ++ [.finished]) d os h N Lin P) (st h gl d T os)
theorem runS_length (x : List Nat) : ∀ (bs : List (Bool × Nat)) (k s : Nat) (op : Option Nat), (runS x bs k s op).1.length ≤ bs.length
  | [], _, _, _ => Nat.le_refl _
  | b :: bs, k, s, op => by
    have h1 := runS_length x bs (k + wdB b)
    unfold runS
    split
    · exact Nat.le_succ_of_le (h1 _ _)
    · exact Nat.le_succ_of_le (h1 _ _)
    · split
      · exact Nat.le_succ_of_le (h1 _ _)
      · exact Nat.succ_le_succ (h1 _ _)
noncomputable def P11 (x : List Nat) (bs : List (Bool × Nat)) (r : Result) (Lo : Led) : Prop := (∃ t, r = .ok (.ret (.str ⟨⟨stripL x bs⟩⟩ t))) ∧ Lo = []
theorem strip (w : World) (b1 b2 b3 : Bool) (x : List Nat) (bs : List (Bool × Nat)) (ex : x = 120 :: txtB bs) (hb : ∀ p ∈ bs, OkB p) (ha : (⟨⟨x⟩⟩ : Str).cps.all (· < 128) = true) (hx : x.length ≤ sizeLine) (hs : bs.length ≤ sizeLine)
    (hm : (!(Builtin.Str.occurrences ⟨⟨x⟩⟩ ⟨⟨[34]⟩⟩ 0 (⟨⟨x⟩⟩ : Str).length 1).isEmpty) = true) (hj : (stripL x bs).length ≤ sizeLine) (t : Nat) : TriF (WB w b1 b2 b3) 320 35 (c11 x t) [] (P11 x bs) := fun d os h N T gl F I => by
  have key : ∀ (q : Bool) (val : List Nat) (hs' : List Nat), decide (((runS x bs 1 0 none).2.1 : Int) < x.length) = q → val = stripL x bs → (match q with | true => (runS x bs 1 0 none).1 ++ [pieceL x (runS x bs 1 0 none).2.1 none] | false => (runS x bs 1 0 none).1).flatten.length ≤ sizeLine →
      (∀ R, lft (ob11 (WB w b1 b2 b3) x bs q val t d os h N T gl R) hs' = rgt (ob11 (WB w b1 b2 b3) x bs q val t d os h N T gl R) hs') → codeAny (model pw (WB w b1 b2 b3)) (Bn 320 35) (c11 x t) (After (WB w b1 b2 b3) (gl ++ [.finished]) d os h N [] (P11 x bs)) (st h gl d T os) := fun q val hs' hq hv hl hk => by
    let V := V2 (WB w b1 b2 b3) h d os 320 35 [] (After (WB w b1 b2 b3) (gl ++ [.finished]) d os h N [] (P11 x bs)) (fn11 val gl) (hk11 (WB w b1 b2 b3).params x bs gl q) noTail
    have S : V.Std := V2_std
    have O : V.Ok := V2_ok (fun r L sz tb i gl' gh h' H D => by
      unfold fn11 at H
      split at H
      · split at H
        · obtain ⟨ev, H⟩ := eqV_of H
          obtain ⟨eg, -⟩ := eqG_of' H
          rw [ev, eg, hv]
          exact after_of (V := V) S (Lout := []) F rfl D (fun _ h => (nomatch h)) List.nodup_nil ⟨⟨_, rfl⟩, rfl⟩
        · cases H
      · cases H)
      (hook2_ok (hookHas_ok _ _ hm) (hook2_ok (hookSL_ok S rfl ex hb ha hx hs) (hook2_ok (hookLt_ok _ _ hq) (hook2_ok (hookSlice_ok hx) (hook2_ok (hookAppendS_ok (Nat.le_trans (runS_length x bs 1 0 none) hs)) (hook2_ok (hookJoinS_ok hl) (hookLen_ok hx)))))))
      (fun _ _ _ _ _ _ _ _ _ H _ => by cases H)
    exact code_go (V := V) O (tb := T + 2349) (i := 0) 1500 hs' (hk _) (Rp.startL (V := V) S F I rfl)
  by_cases hq : (runS x bs 1 0 none).2.1 < x.length
  · have e : stripL x bs = ((runS x bs 1 0 none).1 ++ [pieceL x (runS x bs 1 0 none).2.1 none]).flatten := by unfold stripL; rw [if_pos hq]
    exact key true _ h11t (decide_eq_true (by omega)) e.symm (e ▸ hj) fun R => ck11t w b1 b2 b3 x bs t d os h N T gl R
  · have e : stripL x bs = ((runS x bs 1 0 none).1).flatten := by unfold stripL; rw [if_neg hq]
    exact key false _ h11f (decide_eq_false (by omega)) e.symm (e ▸ hj) fun R => ck11f w b1 b2 b3 x bs t d os h N T gl R
end Mine
end
-- part Hooks7
section
namespace Mine
noncomputable def rangeObj (n t1 t t2 : Nat) : Obj := ⟨.type "range", none, .fields ⟨[.int 0 t1, .int (n : Int) t, .int 1 t2]⟩, #[]⟩
noncomputable def rangeIt (x left : Nat) : Obj := ⟨.type "range_iterator", none, .fields ⟨[.int (x : Int) 0, .int (left : Int) 0, .int 1 0]⟩, #[]⟩
noncomputable def intV (v : PySem.Value) : Nat := match v with
  | .int i _ => i.toNat
  | _ => 0
/-- iter(range(n)) -/
noncomputable def hookRIter (n : Nat) : HookT := fun _ c _ cont L sz tb i gl gh => inLed (argRV c).1 L fun _ p => .eqC c (.call (.builtin "range.__iter__") ⟨[.ref (argRV c).1], []⟩) (.eqO p.2 (rangeObj n (tokV (fieldAt p.2 0)) (tokV (fieldAt p.2 1)) (tokV (fieldAt p.2 2)))
  (cont (.ok (.ret (.ref sz))) ((sz, rangeIt 0 n) :: L) (sz + 1) tb i gl gh))
theorem small_range {n : Nat} (hn : n ≤ sizeLine) : Builtin.Range.small 0 (n : Int) 1 = true ∧ Builtin.Range.rangeSize 0 (n : Int) 1 = n := by
  have h1 : (sizeLine : Int) = 16777216 := by decide
  have h2 : (n : Int) ≤ 16777216 := by omega
  have hz : Builtin.Range.rangeSize 0 (n : Int) 1 = n := by
    unfold Builtin.Range.rangeSize
    split
    · split <;> omega
    · omega
  refine ⟨?_, hz⟩
  unfold Builtin.Range.small
  rw [hz]
  unfold Builtin.Range.rangeFitsLong
  simp only [Bool.and_eq_true, Bool.or_eq_true, decide_eq_true_eq]
  refine ⟨⟨⟨⟨by omega, by omega⟩, by omega⟩, by omega⟩, .inr ?_⟩
  rw [if_pos (by omega)]
  simp only [Bool.and_eq_true, decide_eq_true_eq]
  omega
theorem call_range_iter {prog : Program} {w : World} {A : Around} {E : PySem.Value → Shared → Prop} {s : Shared} {r : Addr} {a b c : Int} {t u v : Tok} {Q : PySem.Value → Shared → Prop} (hr : IsRange s.heap r a b c t u v) (hsmall : Builtin.Range.small a b c = true)
    (hQ : Q (.ref s.heap.objs.size) { s with heap := s.heap.push { cls := .type "range_iterator", data := .fields #[rawInt a, rawInt (Builtin.Range.rangeSize a b c), rawInt c] } }) :
    wpAny (model prog w) A (call (.builtin "range.__iter__") [.ref r]) Q E s := by
  have hT : s.TypeIs (.ref r) "range" := ⟨_, hr, rfl⟩
  refine call_meets PySem.F.slot_range_iter hT PySem.F.entry_range_iter (PySem.F.args_range_iter_1 _)
    (AutoRange.range___iter___range_1 r a b c t u v (by unfold Builtin.Range.small at hsmall; simp [hsmall])) ⟨hr, ?_⟩
  unfold Builtin.Range.small at hsmall
  simp only [hsmall, if_true]
  exact hQ
theorem hookRIter_ok {V : Ev} (S : V.Std) {n : Nat} (hn : n ≤ sizeLine) : HookOk V (hookRIter n) := by
  intro j c A g l cont L sz tb i gl gh h H D
  obtain ⟨j, p, e, ea, H⟩ := inLed_of H
  obtain ⟨ec, H⟩ := eqC_of H
  obtain ⟨ho, H⟩ := eqO_of H
  rw [ea] at ec
  rw [ec]
  have hp' : h.get? p.1 = some (rangeObj n (tokV (fieldAt p.2 0)) (tokV (fieldAt p.2 1)) (tokV (fieldAt p.2 2))) := (D.own p (ledAt_mem e)).trans (congrArg some ho)
  obtain ⟨hs, hz⟩ := small_range hn
  have D1 := D.new (Std.low S) (o := rangeIt 0 n) rfl
  have es : h.objs.size = sz := D.size
  refine hook_call (call_range_iter (s := sh V h tb i gl) hp' hs ?_)
  rw [hz]
  refine ⟨_, sz + 1, tb, i, gl, gh, _, rfl, D1, ?_⟩
  show good (cont (.ok (.ret (.ref h.objs.size))) _ _ _ _ _ _)
  rw [es]; exact H
theorem ledAt_set : ∀ {L : Led} {i : Nat} {p : Nat × Obj}, ledAt L i = some p → ∀ o, ledAt (ledSet L i o) i = some (p.1, o)
  | [], _, _, e, _ => nomatch (show (none : Option (Nat × Obj)) = some _ from e)
  | q :: r, 0, p, e, o => by have e : some q = some p := e; cases e; rfl
  | q :: r, i + 1, p, e, o => ledAt_set (L := r) (i := i) e o
theorem ledSet_set : ∀ (L : Led) (i : Nat) (o o' : Obj), ledSet (ledSet L i o) i o' = ledSet L i o'
  | [], _, _, _ => rfl
  | q :: r, 0, _, _ => rfl
  | q :: r, i + 1, o, o' => by
    show q :: ledSet (ledSet r i o) i o' = q :: ledSet r i o'
    rw [ledSet_set r i o o']
/-- the next number -/
noncomputable def hookRNext (x left : Nat) : HookT := fun _ c _ cont L sz tb i gl gh => inLed (argRV c).1 L fun j p => .eqC c (.call (.builtin "range_iterator.__next__") ⟨[.ref (argRV c).1], []⟩) (.eqO p.2 (rangeIt x (left + 1))
  (cont (.ok (.ret (.int (x : Int) (tb + i)))) (ledSet L j (rangeIt (x + 1) left)) sz tb (i + 1) gl gh))
theorem range_up (x left : Nat) : Obj.mapFields (·.setIfInBounds 1 (rawInt (((left + 1 : Nat) : Int) - 1))) (Obj.mapFields (·.setIfInBounds 0 (rawInt ((x : Int) + 1))) (rangeIt x (left + 1))) = rangeIt (x + 1) left := by
  simp [Obj.mapFields, rangeIt, rawInt]
theorem hookRNext_ok {V : Ev} {x left : Nat} : HookOk V (hookRNext x left) := by
  intro j c A g l cont L sz tb i gl gh h H D
  obtain ⟨j, p, e, ea, H⟩ := inLed_of H
  obtain ⟨ec, H⟩ := eqC_of H
  obtain ⟨ho, H⟩ := eqO_of H
  rw [ea] at ec
  rw [ec]
  have hp' : h.get? p.1 = some (rangeIt x (left + 1)) := (D.own p (ledAt_mem e)).trans (congrArg some ho)
  have hT : (sh V h tb i gl).TypeIs (.ref p.1) "range_iterator" := ⟨_, hp', rfl⟩
  refine hook_call (call_meets PySem.F.slot_range_iterator_next hT PySem.F.entry_range_iterator_next (PySem.F.args_range_iterator_next_1 _) (AutoRange.range_iterator___next___range_iterator_1 p.1 x ((left + 1 : Nat) : Int) 1 (by omega)) ⟨hp', ?_⟩)
  have D1 := D.up e (Obj.mapFields (·.setIfInBounds 0 (rawInt ((x : Int) + 1)))) (by rw [ho]; rfl)
  have e1 : ledAt (ledSet L j (Obj.mapFields (·.setIfInBounds 0 (rawInt ((x : Int) + 1))) p.2)) j = some (p.1, Obj.mapFields (·.setIfInBounds 0 (rawInt ((x : Int) + 1))) p.2) := ledAt_set e _
  have D2 := D1.up e1 (Obj.mapFields (·.setIfInBounds 1 (rawInt (((left + 1 : Nat) : Int) - 1)))) (by rw [ho]; rfl)
  refine ⟨_, sz, tb, i + 1, gl, gh, _, rfl, D2, ?_⟩
  show good (cont _ (ledSet (ledSet L j _) j _) _ _ _ _ _)
  rw [ledSet_set, ho, range_up]
  exact H
end Mine
end
-- part Hooks8
section
namespace Mine
/-! numbers in lists and in a dict -/
noncomputable def valI : List Nat → List Nat → List PySem.Value
  | [], _ => []
  | m :: r, ts => .int (m : Int) (ts.headD 0) :: valI r ts.tail
noncomputable def padI : List Nat → List Nat → List Nat
  | [], _ => []
  | _ :: r, ts => ts.headD 0 :: padI r ts.tail
theorem valI_append (ms2 ts2 : List Nat) : ∀ (ms ts : List Nat), valI ms ts ++ valI ms2 ts2 = valI (ms ++ ms2) (padI ms ts ++ ts2)
  | [], ts => rfl
  | m :: r, ts => by
    show _ :: (valI r ts.tail ++ _) = _ :: valI (r ++ ms2) (padI r ts.tail ++ ts2)
    rw [valI_append ms2 ts2 r ts.tail]; rfl
theorem valI_length : ∀ ms ts, (valI ms ts).length = ms.length
  | [], _ => rfl
  | m :: r, ts => by simp [valI, valI_length r ts.tail]
theorem valI_any (v : Nat) : ∀ (ms ts : List Nat), ((valI ms ts).any fun y => match y with | .int i _ => i == (v : Int) | _ => false) = ms.contains v
  | [], _ => rfl
  | m :: r, ts => by
    show (((m : Int) == (v : Int)) || (valI r ts.tail).any _) = (List.contains (m :: r) v)
    rw [valI_any v r ts.tail, List.contains_cons]
    congr 1
    by_cases h : m = v
    · subst h; rw [beq_self_eq_true, beq_self_eq_true]
    · have h2 : ¬ v = m := fun e => h e.symm
      rw [beq_eq_false_iff_ne.mpr h2]
      exact beq_eq_false_iff_ne.mpr (fun e => h (by exact_mod_cast e))
theorem valI_int : ∀ (ms ts : List Nat) (y : PySem.Value), y ∈ valI ms ts → ∃ i t, y = .int i t
  | [], _, _, h => nomatch h
  | m :: r, ts, y, h => by
    rcases List.mem_cons.mp h with rfl | h
    · exact ⟨_, _, rfl⟩
    · exact valI_int r ts.tail y h
/-- v in a list of numbers -/
noncomputable def hookHasI (ms : List Nat) (ts : List PySem.Value → List Nat) (v : Nat) (q : Bool) : HookT := fun _ c _ cont L sz tb i gl gh => inLed (argRV c).1 L fun _ p => .eqC c (.call (.builtin "list.__contains__") ⟨[.ref (argRV c).1, .int (v : Int) (argTok2 c)], []⟩)
  (.eqO p.2 (listObj ⟨valI ms (ts gh)⟩ (seqN p.2)) (cont (.ok (.ret (.bool q))) L sz tb i gl gh))
theorem hookHasI_ok {V : Ev} {ms : List Nat} {ts : List PySem.Value → List Nat} {v : Nat} {q : Bool} (hq : ms.contains v = q) : HookOk V (hookHasI ms ts v q) := by
  intro j c A g l cont L sz tb i gl gh h H D
  obtain ⟨j, p, e, ea, H⟩ := inLed_of H
  obtain ⟨ec, H⟩ := eqC_of H
  obtain ⟨ho, H⟩ := eqO_of H
  rw [ea] at ec
  rw [ec]
  have hp' : h.get? p.1 = some (listObj ⟨valI ms (ts gh)⟩ (seqN p.2)) := (D.own p (ledAt_mem e)).trans (congrArg some ho)
  refine hook_call (call_meets PySem.F.slot_list_contains ⟨_, hp', rfl⟩ PySem.F.entry_list_contains (PySem.F.args_list_contains_2 _ _)
    (PySem.MeetsSeq.list_contains p.1 ⟨valI ms (ts gh)⟩ (seqN p.2) (.int (v : Int) (argTok2 c)) (fun y => match y with | .int i _ => i == (v : Int) | _ => false) (fun y hy => ?_)) ⟨hp', ?_⟩)
  · obtain ⟨i, t, rfl⟩ := valI_int ms (ts gh) y (by simpa using hy)
    exact PySem.MeetsSeq.EqGives.int _ _ _ _
  · have e2 : (⟨valI ms (ts gh)⟩ : Array PySem.Value).any (fun y => match y with | .int i _ => i == (v : Int) | _ => false) = q := by
      rw [List.any_toArray, valI_any, hq]
    rw [e2]
    exact ⟨L, sz, tb, i, gl, gh, h, rfl, D, H⟩
/-- one list of numbers put behind another -/
noncomputable def hookExtI (ms ms2 : List Nat) (ts ts2 : List PySem.Value → List Nat) : HookT := fun _ c _ cont L sz tb i gl gh => inLed (argRV c).1 L fun j p => inLed (argSR c) L fun _ p2 => .eqC c (.call (.builtin "list.extend") ⟨[.ref (argRV c).1, .ref (argSR c)], []⟩)
  (.eqO p.2 (listObj ⟨valI ms (ts gh)⟩ (seqN p.2)) (.eqO p2.2 (listObj ⟨valI ms2 (ts2 gh)⟩ (seqN p2.2))
    (cont (.ok (.ret .none)) (ledSet L j (Obj.mapSeq (fun _ => ⟨valI (ms ++ ms2) (padI ms (ts gh) ++ ts2 gh)⟩) p.2)) sz tb i gl (.str ⟨⟨padI ms (ts gh) ++ ts2 gh⟩⟩ 0 :: gh))))
theorem hookExtI_ok {V : Ev} {ms ms2 : List Nat} {ts ts2 : List PySem.Value → List Nat} (hs : ms.length + ms2.length ≤ sizeLine) : HookOk V (hookExtI ms ms2 ts ts2) := by
  intro j c A g l cont L sz tb i gl gh h H D
  obtain ⟨j, p, e, ea, H⟩ := inLed_of H
  obtain ⟨j2, p2, e2, ea2, H⟩ := inLed_of H
  obtain ⟨ec, H⟩ := eqC_of H
  obtain ⟨ho, H⟩ := eqO_of H
  obtain ⟨ho2, H⟩ := eqO_of H
  rw [ea, ea2] at ec
  rw [ec]
  have hp' : h.get? p.1 = some (listObj ⟨valI ms (ts gh)⟩ (seqN p.2)) := (D.own p (ledAt_mem e)).trans (congrArg some ho)
  have hp2 : h.get? p2.1 = some (listObj ⟨valI ms2 (ts2 gh)⟩ (seqN p2.2)) := (D.own p2 (ledAt_mem e2)).trans (congrArg some ho2)
  have l1 : (⟨valI ms (ts gh)⟩ : Array PySem.Value).size = ms.length := valI_length _ _
  have l2 : (⟨valI ms2 (ts2 gh)⟩ : Array PySem.Value).size = ms2.length := valI_length _ _
  have e3 : Obj.mapSeq (fun xs => xs ++ (⟨valI ms2 (ts2 gh)⟩ : Array PySem.Value)) p.2 = Obj.mapSeq (fun _ => ⟨valI (ms ++ ms2) (padI ms (ts gh) ++ ts2 gh)⟩) p.2 := by
    rw [ho]
    have : (⟨valI ms (ts gh)⟩ : Array PySem.Value) ++ (⟨valI ms2 (ts2 gh)⟩ : Array PySem.Value) = ⟨valI (ms ++ ms2) (padI ms (ts gh) ++ ts2 gh)⟩ := by
      rw [List.append_toArray, valI_append]
    show Obj.mk _ _ _ _ = Obj.mk _ _ _ _
    simp only [this]
  have hlong : ¬ (!(⟨valI ms (ts gh)⟩ : Array PySem.Value).isEmpty && Builtin.List.listTooLong ((⟨valI ms (ts gh)⟩ : Array PySem.Value).size + (⟨valI ms2 (ts2 gh)⟩ : Array PySem.Value).size)) = true := by
    rw [l1, l2]
    have : Builtin.List.listTooLong (ms.length + ms2.length) = false := by
      unfold Builtin.List.listTooLong
      have h1 : sizeLine = 16777216 := by decide
      simp only [decide_eq_false_iff_not]
      omega
    rw [this]; simp
  refine hook_call (call_meets PySem.F.slot_list_extend ⟨_, hp', rfl⟩ PySem.F.entry_list_extend (PySem.F.args_list_extend_2 _ _)
    (PySem.AutoSeq1.list_extend_list_list_0 p.1 ⟨valI ms (ts gh)⟩ (seqN p.2) p2.1 ⟨valI ms2 (ts2 gh)⟩ (seqN p2.2) hlong (by rw [l1]; omega) (by rw [l1, l2]; omega)) ⟨hp', hp2, ?_⟩)
  refine ⟨_, sz, tb, i, gl, .str ⟨⟨padI ms (ts gh) ++ ts2 gh⟩⟩ 0 :: gh, _, rfl, D.up e (Obj.mapSeq fun xs => xs ++ (⟨valI ms2 (ts2 gh)⟩ : Array PySem.Value)) ?_, ?_⟩
  · rw [ho]; rfl
  · rw [e3]; exact H
end Mine
end
-- part Hooks9
section
namespace Mine
noncomputable def entW : List (Nat × Nat) → List Nat → List DictEntry
  | [], _ => []
  | p :: r, ts => ⟨hashInt (p.1 : Int), .int (p.1 : Int) (ts.headD 0), .int (p.2 : Int) (ts.tail.headD 0)⟩ :: entW r ts.tail.tail
noncomputable def padW : List (Nat × Nat) → List Nat → List Nat
  | [], _ => []
  | _ :: r, ts => ts.headD 0 :: ts.tail.headD 0 :: padW r ts.tail.tail
noncomputable def dictW (ents : List (Nat × Nat)) (ts : List Nat) (n : Nat) : Obj := ⟨.type "dict", none, .dict ⟨entW ents ts⟩ n, #[]⟩
theorem entW_append (k v t u : Nat) : ∀ (ents : List (Nat × Nat)) (ts : List Nat), entW ents ts ++ [⟨hashInt (k : Int), .int (k : Int) t, .int (v : Int) u⟩] = entW (ents ++ [(k, v)]) (padW ents ts ++ [t, u])
  | [], ts => rfl
  | p :: r, ts => by
    show _ :: (entW r ts.tail.tail ++ _) = _ :: entW (r ++ [(k, v)]) (padW r ts.tail.tail ++ [t, u])
    rw [entW_append k v t u r ts.tail.tail]; rfl
theorem entW_length : ∀ (ents : List (Nat × Nat)) (ts : List Nat), (entW ents ts).length = ents.length
  | [], _ => rfl
  | p :: r, ts => by simp [entW, entW_length r ts.tail.tail]
theorem entW_keys : ∀ (ents : List (Nat × Nat)) (ts : List Nat), ∀ e ∈ entW ents ts, ∃ p ∈ ents, ∃ t u, e = ⟨hashInt (p.1 : Int), .int (p.1 : Int) t, .int (p.2 : Int) u⟩
  | [], _, _, h => nomatch h
  | p :: r, ts, e, h => by
    rcases List.mem_cons.mp h with rfl | h
    · exact ⟨p, .head _, _, _, rfl⟩
    · obtain ⟨q, hq, t, u, he⟩ := entW_keys r ts.tail.tail e h
      exact ⟨q, .tail _ hq, t, u, he⟩
theorem entW_int (ents : List (Nat × Nat)) (ts : List Nat) : IntKeys ⟨entW ents ts⟩ := fun e he => by
  obtain ⟨p, _, t, u, rfl⟩ := entW_keys ents ts e (by simpa using he)
  exact ⟨_, t, rfl, rfl⟩
theorem look_ent (k v : Nat) : ∀ (ents : List (Nat × Nat)) (ts : List Nat), ents.lookup k = some v → ∃ u, lookI (k : Int) (entW ents ts) = some (.int (v : Int) u)
  | [], _, h => nomatch h
  | (a, b) :: r, ts, h => by
    rw [show entW ((a, b) :: r) ts = _ :: entW r ts.tail.tail from rfl, lookI_cons]
    show ∃ u, (match Z.eqB (a : Int) (k : Int) with | true => some (PySem.Value.int (b : Int) (ts.tail.headD 0)) | false => lookI (k : Int) (entW r ts.tail.tail)) = _
    by_cases e : k = a
    · subst e
      rw [List.lookup_cons, beq_self_eq_true] at h
      injection h with h
      subst h
      have : Z.eqB (k : Int) (k : Int) = true := (Z.eqB_iff _ _).mpr rfl
      rw [this]
      exact ⟨_, rfl⟩
    · rw [List.lookup_cons, beq_eq_false_iff_ne.mpr e] at h
      have : Z.eqB (a : Int) (k : Int) = false := Z.bool_no (Z.eqB_iff _ _) (fun h => e (by exact_mod_cast h.symm))
      rw [this]
      exact look_ent k v r ts.tail.tail h
theorem map_ent {prog : Program} {w : World} {h : Heap} {d : Nat} {ents : List (Nat × Nat)} {ts : List Nat} {n : Nat} (hd : h.get? d = some (dictW ents ts n)) : h.MapOf (intKind prog w) d (fun k => lookI k (entW ents ts)) :=
  ⟨_, ⟨entW ents ts⟩, n, hd, ⟨rfl, rfl, rfl⟩, rfl, fun e he => by
    obtain ⟨k, t, h1, h2⟩ := entW_int ents ts e he
    exact ⟨k, by rw [h1]; exact intKind_is _ _ _ _, h2⟩, fun k => lookI_find k _⟩
/-- d[k] -/
noncomputable def hookGetD (ents : List (Nat × Nat)) (ts : List Nat) (k v : Nat) : HookT := fun _ c _ cont L sz tb i gl gh => inLed (argRV c).1 L fun _ p => .eqC c (.call (.builtin "dict.__getitem__") ⟨[.ref (argRV c).1, .int (k : Int) (argTok2 c)], []⟩)
  (.eqO p.2 (dictW ents ts (dictN p.2)) (.allN fun u => cont (.ok (.ret (.int (v : Int) u))) L sz tb (i + 1) gl gh))
theorem hookGetD_ok {V : Ev} {ents : List (Nat × Nat)} {ts : List Nat} {k v : Nat} (hk : ents.lookup k = some v) : HookOk V (hookGetD ents ts k v) := by
  intro j c A g l cont L sz tb i gl gh h H D
  obtain ⟨j, p, e, ea, H⟩ := inLed_of H
  obtain ⟨ec, H⟩ := eqC_of H
  obtain ⟨ho, H⟩ := eqO_of H
  rw [ea] at ec
  rw [ec]
  have hp' : h.get? p.1 = some (dictW ents ts (dictN p.2)) := (D.own p (ledAt_mem e)).trans (congrArg some ho)
  have hm := map_ent (prog := pw) (w := V.w) hp'
  obtain ⟨u, hu⟩ := look_ent k v ents ts hk
  refine hook_call ?_
  refine call_meetsIn PySem.F.slot_dict_getitem hm.typeIs PySem.F.entry_dict_getitem (PySem.F.args_dict_getitem_2 _ _) (meets_dict_getitem (intKind pw V.w) p.1 (intKind_is _ _ _ _)) ⟨_, _, hm, hu, ?_⟩
  exact ⟨L, sz, tb, i + 1, gl, gh, h, rfl, D, H u⟩
theorem find_none {ents : List (Nat × Nat)} {ts : List Nat} {k : Nat} (h : k ∉ ents.map (·.1)) : (⟨entW ents ts⟩ : Array DictEntry).findIdx? (fun e => PySem.Value.isInt (k : Int) e.key) = none := by
  rw [Array.findIdx?_eq_none_iff]
  intro e he
  obtain ⟨p, hp, t, u, rfl⟩ := entW_keys ents ts e (by simpa using he)
  have : p.1 ≠ k := fun q => h (List.mem_map.mpr ⟨p, hp, q⟩)
  simp only [PySem.Value.isInt]
  exact beq_eq_false_iff_ne.mpr (fun q => this (by exact_mod_cast q))
/-- d[k] = v, k being new -/
noncomputable def hookSetD (ents : List (Nat × Nat)) (ts : List Nat) (k v : Nat) : HookT := fun _ c _ cont L sz tb i gl gh => inLed (argRV c).1 L fun j p => .eqC c (.call (.builtin "dict.__setitem__") ⟨[.ref (argRV c).1, .int (k : Int) (argTok2 c), .int (v : Int) (argTok3 c)], []⟩)
  (.eqO p.2 (dictW ents ts (dictN p.2)) (cont (.ok (.ret .none)) (ledSet L j (dictW (ents ++ [(k, v)]) (padW ents ts ++ [argTok2 c, argTok3 c]) (dictN p.2 + 1))) sz tb (i + 1) gl (.str ⟨⟨padW ents ts ++ [argTok2 c, argTok3 c]⟩⟩ 0 :: gh)))
where argTok3 (c : Code) : Nat := match c with
  | .call _ ⟨_ :: _ :: .int _ t :: _, _⟩ => t
  | _ => 0
theorem hookSetD_ok {V : Ev} {ents : List (Nat × Nat)} {ts : List Nat} {k v : Nat} (hk : k ∉ ents.map (·.1)) (hs : ents.length ≤ sizeLine) : HookOk V (hookSetD ents ts k v) := by
  intro j c A g l cont L sz tb i gl gh h H D
  obtain ⟨j, p, e, ea, H⟩ := inLed_of H
  obtain ⟨ec, H⟩ := eqC_of H
  obtain ⟨ho, H⟩ := eqO_of H
  rw [ea] at ec
  rw [ec]
  have hp' : (sh V h tb i gl).heap.get? p.1 = some (dictW ents ts (dictN p.2)) := (D.own p (ledAt_mem e)).trans (congrArg some ho)
  have hm := map_ent (prog := pw) (w := V.w) hp'
  generalize ht : argTok2 c = t at *
  generalize hu : hookSetD.argTok3 c = u at *
  have hup : Obj.mapDictKeys (·.push ⟨hashInt (k : Int), .int (k : Int) t, .int (v : Int) u⟩) p.2 = dictW (ents ++ [(k, v)]) (padW ents ts ++ [t, u]) (dictN p.2 + 1) := by
    have : (⟨entW ents ts⟩ : Array DictEntry).push ⟨hashInt (k : Int), .int (k : Int) t, .int (v : Int) u⟩ = ⟨entW (ents ++ [(k, v)]) (padW ents ts ++ [t, u])⟩ := by
      apply Array.ext'
      rw [Array.toList_push]
      exact entW_append k v t u ents ts
    generalize dictN p.2 = n at *
    rw [ho]
    show Obj.mk _ _ _ _ = Obj.mk _ _ _ _
    simp only [this]
  refine hook_call (wpAny_call_entry PySem.F.slot_dict_setitem hm.typeIs PySem.F.entry_dict_setitem ?_ (PySem.F.args_dict_setitem_3 _ _ _))
  show wpAny _ _ (Builtin.Dict.notOrdered "__setitem__" ⟨[.ref p.1, .int (k : Int) t, .int (v : Int) u], []⟩ >>= _) _ _ _
  refine wpAny_bind (wpAny_notOrdered_dict hm.typeIs ?_)
  show wpAny _ _ (dictSet p.1 (.int (k : Int) t) (.int (v : Int) u) >>= _) _ _ _
  refine wpAny_bind ?_
  unfold dictSet
  try with_reducible refine wpAny_holding ?_
  refine wpAny_bind (wpAny_pyHash_int ?_)
  unfold dictSetHashed
  try with_reducible refine wpAny_holding ?_
  refine wpAny_bind (wpAny_dictFind_int hp' rfl (entW_int ents ts) ?_)
  rw [find_none hk]
  have D1 := D.up e (Obj.mapDictKeys (·.push ⟨hashInt (k : Int), .int (k : Int) t, .int (v : Int) u⟩)) (by rw [hup]; rfl)
  refine wpAny_bind (wpAny_rule (wpAny_updateDictKeys (hz := by show (entW ents ts).length ≤ sizeLine; rw [entW_length]; exact hs) hp' rfl (wpAny_pure ⟨_, rfl, ?_⟩)))
  rw [hup] at D1
  exact ⟨_, sz, tb, i + 1, gl, .str ⟨⟨padW ents ts ++ [t, u]⟩⟩ 0 :: gh, _, rfl, D1, H⟩
end Mine
end
-- part GTri
section
namespace Mine
/-! runs from triple to triple, by one pattern -/
/-- objects looked for at their addresses -/
noncomputable def gets (L : Led) (as : List Nat) : (List Obj → Ob) → Ob := match as with
  | [] => fun k => k []
  | a :: r => fun k => inLed a L fun _ p => gets L r fun os => k (p.2 :: os)
theorem gets_of {L : Led} : ∀ {as : List Nat} {k : List Obj → Ob}, good (gets L as k) → ∃ os, good (k os)
  | [], _, H => ⟨[], H⟩
  | a :: r, k, H => by
    obtain ⟨_, p, _, _, H⟩ := inLed_of (show good (inLed a L fun _ p => gets L r fun os => k (p.2 :: os)) from H)
    obtain ⟨os, H⟩ := gets_of H
    exact ⟨_, H⟩
noncomputable def oAt (os : List Obj) (k : Nat) : Obj := match os, k with
  | [], _ => noTuple
  | o :: _, 0 => o
  | _ :: r, k + 1 => oAt r k
noncomputable abbrev LinT := List Obj → List PySem.Value → Led
noncomputable def tlT (c₁ : Code) (as : List Nat) (lin : LinT) (gl₀ : List GenState) : TailT := fun _ c' L _ _ _ gl gh => .eqC c' c₁ (.eqG gl gl₀ (gets L as fun os => outs L (lin os gh) .ok))
noncomputable def fnT (as : List Nat) (lin : LinT) (gl₀ : List GenState) : Result → Cont := fun r L _ _ _ gl gh => match r with
  | .ok fl => match fl with
    | .next => .eqG gl gl₀ (gets L as fun os => outs L (lin os gh) .ok)
    | _ => .bad 401 0
  | .error _ => .bad 402 0
noncomputable def fnR (val : PySem.Value → PySem.Value) (as : List Nat) (lin : LinT) (gl₀ : List GenState) : Result → Cont := fun r L _ _ _ gl gh => match r with
  | .ok fl => match fl with
    | .ret v => .eqV v (val v) (.eqG gl gl₀ (gets L as fun os => outs L (lin os gh) .ok))
    | _ => .bad 403 0
  | .error _ => .bad 404 0
section
variable {W : World} {n u m : Nat} {c c₁ : Code} {Lin : Led} {hook : HookT} {as : List Nat} {lin : LinT} {P : Result → Led → Prop}
theorem tri_turn (hh : ∀ V : Ev, V.Std → V.w = W → HookOk V hook) (hk : ∀ os gh, (lin os gh).map (·.1) = Lin.map (·.1))
    (hg : ∀ d os h N T gl R, good (sim (V2 W h d os n u (Lin.map (·.1)) R noFin hook (tlT c₁ as lin gl)) m c none .base (goF c (Bn n u)) Lin (N + 171) (T + 2349) 0 gl []))
    (IH : ∀ os gh, Tri W n u c₁ (lin os gh) P) : Tri W n u c Lin P := fun d os h N T gl F I => by
  let V := V2 W h d os n u (Lin.map (·.1)) (After W gl d os h N Lin P) noFin hook (tlT c₁ as lin gl)
  have S : V.Std := V2_std
  have O : V.Ok := V2_ok (fun _ _ _ _ _ _ _ _ H _ => by cases H) (hh _ V2_std rfl) (fun j c' L sz tb i gl' gh h' H D => by
    unfold tlT at H
    obtain ⟨ec, H⟩ := eqC_of H
    obtain ⟨eg, H2⟩ := eqG_of H
    subst ec eg
    obtain ⟨xs, H⟩ := gets_of H2
    obtain ⟨ho, -⟩ := outs_of H
    exact after_trans (V := V) S F rfl D ho (hk _ _) (fun _ _ h => h) (IH xs gh) i I.nodup)
  have z := sim_sound O m _ none .base _ _ _ _ _ _ _ h (hg d os h N T gl _) (Rp.startL (V := V) S F I rfl)
  exact y_code _ _ _ _ _ _ (O.go _ _ _ _ _ z)
theorem tri_end (hh : ∀ V : Ev, V.Std → V.w = W → HookOk V hook) (hk : (Lin.map (·.1)).Nodup → ∀ os gh, ((lin os gh).map (·.1)).Nodup)
    (hg : ∀ d os h N T gl R, good (sim (V2 W h d os n u (Lin.map (·.1)) R (fnT as lin gl) hook noTail) m c none .base (goF c (Bn n u)) Lin (N + 171) (T + 2349) 0 gl [])) :
    Tri W n u c Lin (fun r Lo => r = .ok .next ∧ ∃ os gh, Lo = lin os gh) := fun d os h N T gl F I => by
  let V := V2 W h d os n u (Lin.map (·.1)) (After W gl d os h N Lin (fun r Lo => r = .ok .next ∧ ∃ os gh, Lo = lin os gh)) (fnT as lin gl) hook noTail
  have S : V.Std := V2_std
  have O : V.Ok := V2_ok (fun r L sz tb i gl' gh h' H D => by
    unfold fnT at H
    split at H
    · split at H
      · obtain ⟨eg, H2⟩ := eqG_of H
        subst eg
        obtain ⟨xs, H⟩ := gets_of H2
        obtain ⟨ho, -⟩ := outs_of H
        exact after_of (V := V) S F rfl D ho (hk I.nodup _ _) ⟨rfl, _, _, rfl⟩
      · cases H
    · cases H) (hh _ V2_std rfl) (fun _ _ _ _ _ _ _ _ _ H _ => by cases H)
  have z := sim_sound O m _ none .base _ _ _ _ _ _ _ h (hg d os h N T gl _) (Rp.startL (V := V) S F I rfl)
  exact y_code _ _ _ _ _ _ (O.go _ _ _ _ _ z)
theorem tri_ret {val : PySem.Value → PySem.Value} (hh : ∀ V : Ev, V.Std → V.w = W → HookOk V hook) (hk : (Lin.map (·.1)).Nodup → ∀ os gh, ((lin os gh).map (·.1)).Nodup)
    (hg : ∀ d os h N T gl R, good (sim (V2 W h d os n u (Lin.map (·.1)) R (fnR val as lin gl) hook noTail) m c none .base (goF c (Bn n u)) Lin (N + 171) (T + 2349) 0 gl [])) :
    Tri W n u c Lin (fun r Lo => ∃ v os gh, r = .ok (.ret (val v)) ∧ Lo = lin os gh) := fun d os h N T gl F I => by
  let V := V2 W h d os n u (Lin.map (·.1)) (After W gl d os h N Lin (fun r Lo => ∃ v os gh, r = .ok (.ret (val v)) ∧ Lo = lin os gh)) (fnR val as lin gl) hook noTail
  have S : V.Std := V2_std
  have O : V.Ok := V2_ok (fun r L sz tb i gl' gh h' H D => by
    unfold fnR at H
    split at H
    · split at H
      · rename_i v
        obtain ⟨ev, H⟩ := eqV_of H
        obtain ⟨eg, H2⟩ := eqG_of H
        subst eg
        obtain ⟨xs, H⟩ := gets_of H2
        obtain ⟨ho, -⟩ := outs_of H
        exact after_of (V := V) S F rfl D ho (hk I.nodup _ _) ⟨v, _, _, by rw [← ev], rfl⟩
      · cases H
    · cases H) (hh _ V2_std rfl) (fun _ _ _ _ _ _ _ _ _ H _ => by cases H)
  have z := sim_sound O m _ none .base _ _ _ _ _ _ _ h (hg d os h N T gl _) (Rp.startL (V := V) S F I rfl)
  exact y_code _ _ _ _ _ _ (O.go _ _ _ _ _ z)
end
end Mine
end
-- part F12a
section
namespace Mine
/-! the worths: codes and objects -/
noncomputable def exprOf (s : Stmt) : PySem.Expr := match s with
  | .Expr e _ => e
  | .Assign _ e _ => e
  | _ => noExpr
noncomputable def callArg (e : PySem.Expr) : PySem.Expr := match e with
  | .Call _ (a :: _) _ _ => a
  | _ => noExpr
noncomputable def whTest (s : Stmt) : PySem.Expr := match s with
  | .While t _ _ _ => t
  | _ => noExpr
noncomputable def whBody (s : Stmt) : List Stmt := match s with
  | .While _ b _ _ => b
  | _ => []
noncomputable def whElse (s : Stmt) : List Stmt := match s with
  | .While _ _ o _ => o
  | _ => []
noncomputable def forWA (P : Params) : Stmt := stmtAt (bodyOf (fdAt P 158)) 1
noncomputable def forWB (P : Params) : Stmt := stmtAt (forBody (forWA P)) 0
noncomputable def forWC (P : Params) : Stmt := stmtAt (forBody (forWB P)) 0
noncomputable def compW (P : Params) (j : Nat) : PySem.Expr := match j with
  | 0 => exprOf (stmtAt (forBody (forWC P)) 0)
  | 1 => callArg (exprOf (stmtAt (forBody (forWC P)) 1))
  | _ => callArg (exprOf (stmtAt (forBody (forWC P)) 2))
noncomputable def whileW (P : Params) : Stmt := stmtAt (forBody (forWC P)) 4
structure AdW where
  (loc cw ca cb cc d : Nat)
noncomputable def AdW.up (a : AdW) : AdW := ⟨a.loc + 171, a.cw + 171, a.ca + 171, a.cb + 171, a.cc + 171, a.d + 171⟩
noncomputable def sWo : String := "worths"
noncomputable def envW (P : Params) (a : AdW) : Env := { scope := (fdAt P 158).scope, locals := a.loc, globals := 3, cells := [(Str.ofString "c", a.cc), (Str.ofString "b", a.cb), (Str.ofString "a", a.ca), (Str.ofString "worths", a.cw)], qual := Str.ofString "_law_worths.<locals>.", func := some 158, code := .ref 157, frame := some a.loc, builtins := 0 }
noncomputable def cellsJ (a : AdW) (j : Nat) : List (Str × Nat) := match j with
  | 0 => [(Str.ofString "worths", a.cw), (Str.ofString "c", a.cc), (Str.ofString "b", a.cb)]
  | 1 => [(Str.ofString "worths", a.cw), (Str.ofString "c", a.cc), (Str.ofString "a", a.ca)]
  | _ => [(Str.ofString "worths", a.cw), (Str.ofString "b", a.cb), (Str.ofString "a", a.ca)]
/-- the names that are cells of the function around -/
noncomputable def toCell : List (Str × NameKind) → List (Str × NameKind)
  | [] => []
  | (n, .free) :: r => (n, .cell) :: toCell r
  | x :: r => x :: toCell r
noncomputable def envWJ (P : Params) (a : AdW) (j cl : Nat) : Env := { scope := { scopeE (compW P j) with names := toCell (scopeE (compW P j)).names }, locals := cl, globals := 3, cells := cellsJ a j, qual := Str.ofString "_law_worths.<locals>.", func := none, code := .ref 157, frame := some a.loc, builtins := 0 }
noncomputable def cLW (P : Params) (a : AdW) (j it acc cl : Nat) : Code := .compLoop (compW P j) 0 (.ref it) (.ref acc) (envWJ P a j cl)
noncomputable def cellO (v : PySem.Value) : Obj := ⟨.type "cell", none, .cell (some v), #[]⟩
noncomputable def cellTok (o : Obj) : Nat := match o.data with
  | .cell (some v) => tokV v
  | _ => 0
noncomputable def sK : Str := ⟨⟨[107]⟩⟩
noncomputable def locKes (e : Option (Int × Nat × PySem.Value)) : List DictEntry := match e with
  | none => []
  | some e => [⟨e.1, .str sK e.2.1, e.2.2⟩]
noncomputable def locK (e : Option (Int × Nat × PySem.Value)) (n : Nat) : Obj := ⟨.type "dict", none, .dict ⟨locKes e⟩ n, #[]⟩
/-- the cells and the dict -/
noncomputable def linK (a : AdW) (p q r : Nat) (tp tq tr : Nat) (ents : List (Nat × Nat)) (ts : List Nat) (n : Nat) : Led :=
  [(a.d, dictW ents ts n), (a.cw, cellO (.ref a.d)), (a.ca, cellO (.int (p : Int) tp)), (a.cb, cellO (.int (q : Int) tq)), (a.cc, cellO (.int (r : Int) tr))]
noncomputable def linJ (a : AdW) (it acc cl : Nat) (p q r : Nat) (tp tq tr : Nat) (ents : List (Nat × Nat)) (ts : List Nat) (n : Nat) (e : Option (Int × Nat × PySem.Value)) (m : Nat) (xs : Array PySem.Value) (ln x left : Nat) : Led :=
  (cl, locK e m) :: (acc, listObj xs ln) :: (it, rangeIt x left) :: linK a p q r tp tq tr ents ts n
noncomputable def keyJ (j p q r k : Nat) : Nat := match j with
  | 0 => k + 5 * q + 25 * r
  | 1 => p + 5 * k + 25 * r
  | _ => p + 5 * q + 25 * k
noncomputable def tokI (gh : List PySem.Value) : Nat := tokV (gh.headD .none)
noncomputable def hkJ (j p q r : Nat) (ents : List (Nat × Nat)) (ts : List Nat) (x left v : Nat) (xs : Array PySem.Value) : HookT := hook2 (hookRNext x left) (hook2 (hookGetD ents ts (keyJ j p q r x) v) (hookAppend xs))
noncomputable def asJ (a : AdW) (it acc cl : Nat) : List Nat := [cl, acc, it, a.d, a.cw, a.ca, a.cb, a.cc]
noncomputable def upE (e : Option (Int × Nat × PySem.Value)) (m : Nat) : Nat := match e with
  | none => m + 1
  | some _ => m
noncomputable def linJT (m' : Nat) (a : AdW) (it acc cl : Nat) (p q r : Nat) (ents : List (Nat × Nat)) (ts : List Nat) (x left v : Nat) (xs : Array PySem.Value) : LinT := fun os gh =>
  linJ a it acc cl p q r (cellTok (oAt os 5)) (cellTok (oAt os 6)) (cellTok (oAt os 7)) ents ts (dictN (oAt os 3)) (some (entryAt (entries (oAt os 0)) 0)) m' (xs.push (.int (v : Int) (tokI gh))) (seqN (oAt os 1)) (x + 1) left
/-- the list is ready -/
noncomputable def linJE (a : AdW) (acc cl : Nat) (p q r : Nat) (ents : List (Nat × Nat)) (ts : List Nat) (e : Option (Int × Nat × PySem.Value)) (m : Nat) (xs : Array PySem.Value) : LinT := fun os _ =>
  (cl, locK e m) :: (acc, listObj xs (seqN (oAt os 1))) :: linK a p q r (cellTok (oAt os 5)) (cellTok (oAt os 6)) (cellTok (oAt os 7)) ents ts (dictN (oAt os 3))
noncomputable def obJ (w : World) (b1 b2 b3 : Bool) (j : Nat) (a : AdW) (it acc cl : Nat) (p q r : Nat) (tp tq tr : Nat) (ents : List (Nat × Nat)) (ts : List Nat) (n : Nat) (e : Option (Int × Nat × PySem.Value)) (m : Nat) (xs : Array PySem.Value) (ln x left v : Nat) (d : Drawn) (os : OsState) (h : Heap) (N T : Nat) (gl : List GenState) (R : Result → Shared → Prop) : Ob :=
  let W := WB w b1 b2 b3
  sim (V2 W h d os 350 55 ((linJ a it acc cl p q r tp tq tr ents ts n e m xs ln x (left + 1)).map (·.1)) R noFin (hkJ j p q r ents ts x left v xs) (tlT (cLW W.params a j it acc cl) (asJ a it acc cl) (linJT (upE e m) a it acc cl p q r ents ts x left v xs) gl)) 1000
    (cLW W.params a j it acc cl) none .base (goF (cLW W.params a j it acc cl) (Bn 350 55)) (linJ a it acc cl p q r tp tq tr ents ts n e m xs ln x (left + 1)) (N + 171) (T + 2349) 0 gl []
noncomputable def obJE (w : World) (b1 b2 b3 : Bool) (j : Nat) (a : AdW) (it acc cl : Nat) (p q r : Nat) (tp tq tr : Nat) (ents : List (Nat × Nat)) (ts : List Nat) (n : Nat) (e : Option (Int × Nat × PySem.Value)) (m : Nat) (xs : Array PySem.Value) (ln x : Nat) (d : Drawn) (os : OsState) (h : Heap) (N T : Nat) (gl : List GenState) (R : Result → Shared → Prop) : Ob :=
  let W := WB w b1 b2 b3
  sim (V2 W h d os 350 55 ((linJ a it acc cl p q r tp tq tr ents ts n e m xs ln x 0).map (·.1)) R (fnT (asJ a it acc cl) (linJE a acc cl p q r ents ts e m xs) gl) noHook noTail) 1000
    (cLW W.params a j it acc cl) none .base (goF (cLW W.params a j it acc cl) (Bn 350 55)) (linJ a it acc cl p q r tp tq tr ents ts n e m xs ln x 0) (N + 171) (T + 2349) 0 gl []
end Mine
end
-- part F12b
section
namespace Mine
noncomputable def hJ0 : List Nat := [3, 1, 3, 1, 1, 5, 1, 7, 0, 0, 0, 0, 8, 0, 0, 0, 0, 4, 4, 4, 2, 4, 3, 2, 1, 1, 2, 3, 4, 5, 6, 7, 8, 1, 2, 3, 4, 5, 6, 7, 8]
noncomputable def hJ1 : List Nat := [3, 1, 3, 1, 1, 5, 6, 1, 0, 0, 0, 0, 8, 0, 0, 0, 0, 4, 4, 4, 2, 4, 3, 2, 1, 1, 2, 3, 4, 5, 6, 7, 8, 1, 2, 3, 4, 5, 6, 7, 8]
noncomputable def hJ2 : List Nat := [3, 1, 3, 1, 1, 5, 6, 7, 0, 0, 0, 0, 1, 0, 0, 0, 0, 4, 4, 4, 2, 4, 3, 2, 1, 1, 2, 3, 4, 5, 6, 7, 8, 1, 2, 3, 4, 5, 6, 7, 8]
noncomputable def hJE : List Nat := [3, 0, 3, 0, 3, 3, 3, 1, 3, 4, 5, 6, 7, 8, 9, 10, 3, 4, 6, 7, 8, 9, 10]
section
variable (w : World) (b1 b2 b3 : Bool) (loc cw ca cb cc dd it acc cl p q r tp tq tr n m ln x left v h2 : Nat) (ents : List (Nat × Nat)) (ts : List Nat) (h1 : Int) (h3 : PySem.Value) (xs : Array PySem.Value) (d : Drawn) (os : OsState) (h : Heap) (N T : Nat) (gl : List GenState) (R : Result → Shared → Prop)
theorem ckJ0s : lft (obJ w b1 b2 b3 0 (AdW.up ⟨loc, cw, ca, cb, cc, dd⟩) (it + 171) (acc + 171) (cl + 171) p q r tp tq tr ents ts n none m xs ln x left v d os h N T gl R) hJ0 = rgt (obJ w b1 b2 b3 0 (AdW.up ⟨loc, cw, ca, cb, cc, dd⟩) (it + 171) (acc + 171) (cl + 171) p q r tp tq tr ents ts n none m xs ln x left v d os h N T gl R) hJ0 := by cases b1 <;> kernel_rfl
theorem ckJ0t : lft (obJ w b1 b2 b3 0 (AdW.up ⟨loc, cw, ca, cb, cc, dd⟩) (it + 171) (acc + 171) (cl + 171) p q r tp tq tr ents ts n (some (h1, h2, h3)) m xs ln x left v d os h N T gl R) hJ0 = rgt (obJ w b1 b2 b3 0 (AdW.up ⟨loc, cw, ca, cb, cc, dd⟩) (it + 171) (acc + 171) (cl + 171) p q r tp tq tr ents ts n (some (h1, h2, h3)) m xs ln x left v d os h N T gl R) hJ0 := by cases b1 <;> kernel_rfl
theorem ckJ1s : lft (obJ w b1 b2 b3 1 (AdW.up ⟨loc, cw, ca, cb, cc, dd⟩) (it + 171) (acc + 171) (cl + 171) p q r tp tq tr ents ts n none m xs ln x left v d os h N T gl R) hJ1 = rgt (obJ w b1 b2 b3 1 (AdW.up ⟨loc, cw, ca, cb, cc, dd⟩) (it + 171) (acc + 171) (cl + 171) p q r tp tq tr ents ts n none m xs ln x left v d os h N T gl R) hJ1 := by cases b1 <;> kernel_rfl
theorem ckJ1t : lft (obJ w b1 b2 b3 1 (AdW.up ⟨loc, cw, ca, cb, cc, dd⟩) (it + 171) (acc + 171) (cl + 171) p q r tp tq tr ents ts n (some (h1, h2, h3)) m xs ln x left v d os h N T gl R) hJ1 = rgt (obJ w b1 b2 b3 1 (AdW.up ⟨loc, cw, ca, cb, cc, dd⟩) (it + 171) (acc + 171) (cl + 171) p q r tp tq tr ents ts n (some (h1, h2, h3)) m xs ln x left v d os h N T gl R) hJ1 := by cases b1 <;> kernel_rfl
theorem ckJ2s : lft (obJ w b1 b2 b3 2 (AdW.up ⟨loc, cw, ca, cb, cc, dd⟩) (it + 171) (acc + 171) (cl + 171) p q r tp tq tr ents ts n none m xs ln x left v d os h N T gl R) hJ2 = rgt (obJ w b1 b2 b3 2 (AdW.up ⟨loc, cw, ca, cb, cc, dd⟩) (it + 171) (acc + 171) (cl + 171) p q r tp tq tr ents ts n none m xs ln x left v d os h N T gl R) hJ2 := by cases b1 <;> kernel_rfl
theorem ckJ2t : lft (obJ w b1 b2 b3 2 (AdW.up ⟨loc, cw, ca, cb, cc, dd⟩) (it + 171) (acc + 171) (cl + 171) p q r tp tq tr ents ts n (some (h1, h2, h3)) m xs ln x left v d os h N T gl R) hJ2 = rgt (obJ w b1 b2 b3 2 (AdW.up ⟨loc, cw, ca, cb, cc, dd⟩) (it + 171) (acc + 171) (cl + 171) p q r tp tq tr ents ts n (some (h1, h2, h3)) m xs ln x left v d os h N T gl R) hJ2 := by cases b1 <;> kernel_rfl
end
section
variable (w : World) (b1 b2 b3 : Bool) (loc cw ca cb cc dd it acc cl p q r tp tq tr n m ln x h2 : Nat) (ents : List (Nat × Nat)) (ts : List Nat) (h1 : Int) (h3 : PySem.Value) (xs : Array PySem.Value) (d : Drawn) (os : OsState) (h : Heap) (N T : Nat) (gl : List GenState) (R : Result → Shared → Prop)
theorem ckJEs0 : lft (obJE w b1 b2 b3 0 (AdW.up ⟨loc, cw, ca, cb, cc, dd⟩) (it + 171) (acc + 171) (cl + 171) p q r tp tq tr ents ts n none m xs ln x d os h N T gl R) hJE = rgt (obJE w b1 b2 b3 0 (AdW.up ⟨loc, cw, ca, cb, cc, dd⟩) (it + 171) (acc + 171) (cl + 171) p q r tp tq tr ents ts n none m xs ln x d os h N T gl R) hJE := by cases b1 <;> kernel_rfl
theorem ckJEt0 : lft (obJE w b1 b2 b3 0 (AdW.up ⟨loc, cw, ca, cb, cc, dd⟩) (it + 171) (acc + 171) (cl + 171) p q r tp tq tr ents ts n (some (h1, h2, h3)) m xs ln x d os h N T gl R) hJE = rgt (obJE w b1 b2 b3 0 (AdW.up ⟨loc, cw, ca, cb, cc, dd⟩) (it + 171) (acc + 171) (cl + 171) p q r tp tq tr ents ts n (some (h1, h2, h3)) m xs ln x d os h N T gl R) hJE := by cases b1 <;> kernel_rfl
theorem ckJEs1 : lft (obJE w b1 b2 b3 1 (AdW.up ⟨loc, cw, ca, cb, cc, dd⟩) (it + 171) (acc + 171) (cl + 171) p q r tp tq tr ents ts n none m xs ln x d os h N T gl R) hJE = rgt (obJE w b1 b2 b3 1 (AdW.up ⟨loc, cw, ca, cb, cc, dd⟩) (it + 171) (acc + 171) (cl + 171) p q r tp tq tr ents ts n none m xs ln x d os h N T gl R) hJE := by cases b1 <;> kernel_rfl
theorem ckJEt1 : lft (obJE w b1 b2 b3 1 (AdW.up ⟨loc, cw, ca, cb, cc, dd⟩) (it + 171) (acc + 171) (cl + 171) p q r tp tq tr ents ts n (some (h1, h2, h3)) m xs ln x d os h N T gl R) hJE = rgt (obJE w b1 b2 b3 1 (AdW.up ⟨loc, cw, ca, cb, cc, dd⟩) (it + 171) (acc + 171) (cl + 171) p q r tp tq tr ents ts n (some (h1, h2, h3)) m xs ln x d os h N T gl R) hJE := by cases b1 <;> kernel_rfl
theorem ckJEs2 : lft (obJE w b1 b2 b3 2 (AdW.up ⟨loc, cw, ca, cb, cc, dd⟩) (it + 171) (acc + 171) (cl + 171) p q r tp tq tr ents ts n none m xs ln x d os h N T gl R) hJE = rgt (obJE w b1 b2 b3 2 (AdW.up ⟨loc, cw, ca, cb, cc, dd⟩) (it + 171) (acc + 171) (cl + 171) p q r tp tq tr ents ts n none m xs ln x d os h N T gl R) hJE := by cases b1 <;> kernel_rfl
theorem ckJEt2 : lft (obJE w b1 b2 b3 2 (AdW.up ⟨loc, cw, ca, cb, cc, dd⟩) (it + 171) (acc + 171) (cl + 171) p q r tp tq tr ents ts n (some (h1, h2, h3)) m xs ln x d os h N T gl R) hJE = rgt (obJE w b1 b2 b3 2 (AdW.up ⟨loc, cw, ca, cb, cc, dd⟩) (it + 171) (acc + 171) (cl + 171) p q r tp tq tr ents ts n (some (h1, h2, h3)) m xs ln x d os h N T gl R) hJE := by cases b1 <;> kernel_rfl
end
theorem ckJ (w : World) (b1 b2 b3 : Bool) {j : Nat} (hj : j < 3) (loc cw ca cb cc dd it acc cl p q r tp tq tr n m ln x left v : Nat) (ents : List (Nat × Nat)) (ts : List Nat) (e : Option (Int × Nat × PySem.Value)) (xs : Array PySem.Value) (d : Drawn) (os : OsState) (h : Heap) (N T : Nat) (gl : List GenState) (R : Result → Shared → Prop) :
    good (obJ w b1 b2 b3 j (AdW.up ⟨loc, cw, ca, cb, cc, dd⟩) (it + 171) (acc + 171) (cl + 171) p q r tp tq tr ents ts n e m xs ln x left v d os h N T gl R) := by
  rcases j with _ | _ | _ | j
  · rcases e with _ | ⟨h1, h2, h3⟩
    · exact good_of _ _ (ckJ0s ..)
    · exact good_of _ _ (ckJ0t ..)
  · rcases e with _ | ⟨h1, h2, h3⟩
    · exact good_of _ _ (ckJ1s ..)
    · exact good_of _ _ (ckJ1t ..)
  · rcases e with _ | ⟨h1, h2, h3⟩
    · exact good_of _ _ (ckJ2s ..)
    · exact good_of _ _ (ckJ2t ..)
  · omega
theorem ckJE (w : World) (b1 b2 b3 : Bool) {j : Nat} (hj : j < 3) (loc cw ca cb cc dd it acc cl p q r tp tq tr n m ln x : Nat) (ents : List (Nat × Nat)) (ts : List Nat) (e : Option (Int × Nat × PySem.Value)) (xs : Array PySem.Value) (d : Drawn) (os : OsState) (h : Heap) (N T : Nat) (gl : List GenState) (R : Result → Shared → Prop) :
    good (obJE w b1 b2 b3 j (AdW.up ⟨loc, cw, ca, cb, cc, dd⟩) (it + 171) (acc + 171) (cl + 171) p q r tp tq tr ents ts n e m xs ln x d os h N T gl R) := by
  rcases j with _ | _ | _ | j
  · rcases e with _ | ⟨h1, h2, h3⟩
    · exact good_of _ _ (ckJEs0 ..)
    · exact good_of _ _ (ckJEt0 ..)
  · rcases e with _ | ⟨h1, h2, h3⟩
    · exact good_of _ _ (ckJEs1 ..)
    · exact good_of _ _ (ckJEt1 ..)
  · rcases e with _ | ⟨h1, h2, h3⟩
    · exact good_of _ _ (ckJEs2 ..)
    · exact good_of _ _ (ckJEt2 ..)
  · omega
noncomputable def StE (e₀ : Option (Int × Nat × PySem.Value)) (m₀ left : Nat) (e : Option (Int × Nat × PySem.Value)) (m : Nat) : Prop := (left = 0 ∧ e = e₀ ∧ m = m₀) ∨ (left ≠ 0 ∧ (∃ x, e = some x) ∧ m = upE e₀ m₀)
/-- the list of a comprehension is ready -/
noncomputable def PJ (a : AdW) (acc cl : Nat) (p q r : Nat) (ents : List (Nat × Nat)) (ts : List Nat) (xs : Array PySem.Value) (vs : List Nat) (e₀ : Option (Int × Nat × PySem.Value)) (m₀ left : Nat) (rr : Result) (Lo : Led) : Prop :=
  rr = .ok .next ∧ ∃ tp tq tr n ln tks e m, Lo = (cl, locK e m) :: (acc, listObj (xs ++ ⟨valI vs tks⟩) ln) :: linK a p q r tp tq tr ents ts n ∧ StE e₀ m₀ left e m
theorem loopJ (w : World) (b1 b2 b3 : Bool) {j : Nat} (hj : j < 3) (loc cw ca cb cc dd it acc cl p q r : Nat) (ents : List (Nat × Nat)) (ts : List Nat) (f : Nat → Nat) : ∀ (left x : Nat) (_ : ∀ k, x ≤ k → k < x + left → ents.lookup (keyJ j p q r k) = some (f k)) (xs : Array PySem.Value) (_ : xs.size + left ≤ sizeLine) (tp tq tr n m ln : Nat) (e : Option (Int × Nat × PySem.Value)),
    Tri (WB w b1 b2 b3) 350 55 (cLW (WB w b1 b2 b3).params (AdW.up ⟨loc, cw, ca, cb, cc, dd⟩) j (it + 171) (acc + 171) (cl + 171)) (linJ (AdW.up ⟨loc, cw, ca, cb, cc, dd⟩) (it + 171) (acc + 171) (cl + 171) p q r tp tq tr ents ts n e m xs ln x left)
      (PJ (AdW.up ⟨loc, cw, ca, cb, cc, dd⟩) (acc + 171) (cl + 171) p q r ents ts xs ((List.range' x left).map f) e m left)
  | 0, x, hf, xs, hs, tp, tq, tr, n, m, ln, e => by
    have z := tri_end (W := WB w b1 b2 b3) (n := 350) (u := 55) (m := 1000) (c := cLW (WB w b1 b2 b3).params (AdW.up ⟨loc, cw, ca, cb, cc, dd⟩) j (it + 171) (acc + 171) (cl + 171)) (Lin := linJ (AdW.up ⟨loc, cw, ca, cb, cc, dd⟩) (it + 171) (acc + 171) (cl + 171) p q r tp tq tr ents ts n e m xs ln x 0) (hook := noHook) (as := asJ (AdW.up ⟨loc, cw, ca, cb, cc, dd⟩) (it + 171) (acc + 171) (cl + 171)) (lin := linJE (AdW.up ⟨loc, cw, ca, cb, cc, dd⟩) (acc + 171) (cl + 171) p q r ents ts e m xs) (fun V _ _ => noHook_ok V) (fun hn os gh => ?_) (fun d os h N T gl R => by have g := ckJE w b1 b2 b3 hj loc cw ca cb cc dd it acc cl p q r tp tq tr n m ln x ents ts e xs d os h N T gl R; unfold obJE at g; exact g)
    · exact z.mono fun rr Lo ⟨h1, os, gh, h2⟩ => ⟨h1, cellTok (oAt os 5), cellTok (oAt os 6), cellTok (oAt os 7), dictN (oAt os 3), seqN (oAt os 1), [], e, m, by rw [h2]; simp [linJE, valI], .inl ⟨rfl, rfl, rfl⟩⟩
    have hn : (_ :: _ :: _ :: _ : List Nat).Nodup := hn
    obtain ⟨h0, hn⟩ := List.nodup_cons.mp hn
    obtain ⟨h1, hn⟩ := List.nodup_cons.mp hn
    obtain ⟨-, hn⟩ := List.nodup_cons.mp hn
    refine List.nodup_cons.mpr ⟨fun h => h0 ?_, List.nodup_cons.mpr ⟨fun h => h1 (.tail _ h), hn⟩⟩
    rcases List.mem_cons.mp h with h | h
    · rw [h]; exact .head _
    · exact .tail _ (.tail _ h)
  | left + 1, x, hf, xs, hs, tp, tq, tr, n, m, ln, e => by
    refine tri_turn (W := WB w b1 b2 b3) (n := 350) (u := 55) (m := 1000) (c := cLW (WB w b1 b2 b3).params (AdW.up ⟨loc, cw, ca, cb, cc, dd⟩) j (it + 171) (acc + 171) (cl + 171)) (c₁ := cLW (WB w b1 b2 b3).params (AdW.up ⟨loc, cw, ca, cb, cc, dd⟩) j (it + 171) (acc + 171) (cl + 171)) (Lin := linJ (AdW.up ⟨loc, cw, ca, cb, cc, dd⟩) (it + 171) (acc + 171) (cl + 171) p q r tp tq tr ents ts n e m xs ln x (left + 1)) (as := asJ (AdW.up ⟨loc, cw, ca, cb, cc, dd⟩) (it + 171) (acc + 171) (cl + 171)) (lin := linJT (upE e m) (AdW.up ⟨loc, cw, ca, cb, cc, dd⟩) (it + 171) (acc + 171) (cl + 171) p q r ents ts x left (f x) xs) (hook := hkJ j p q r ents ts x left (f x) xs) (fun V S _ => hook2_ok hookRNext_ok (hook2_ok (hookGetD_ok (hf x (Nat.le_refl _) (by omega))) (hookAppend_ok (by omega)))) (fun _ _ => rfl) (fun d os h N T gl R => by have g := ckJ w b1 b2 b3 hj loc cw ca cb cc dd it acc cl p q r tp tq tr n m ln x left (f x) ents ts e xs d os h N T gl R; unfold obJ at g; exact g) fun os gh => ?_
    refine (loopJ w b1 b2 b3 hj loc cw ca cb cc dd it acc cl p q r ents ts f left (x + 1) (fun k h1 h2 => hf k (by omega) (by omega)) (xs.push (.int (f x : Int) (tokI gh))) (by rw [Array.size_push]; omega) _ _ _ _ _ _ _).mono fun rr Lo ⟨h1, tp', tq', tr', n', ln', tks, e', m', h2, h3⟩ => ⟨h1, tp', tq', tr', n', ln', tokI gh :: tks, e', m', ?_, .inr ⟨Nat.succ_ne_zero _, ?_⟩⟩
    · rw [h2]
      have : xs.push (.int (f x : Int) (tokI gh)) ++ (⟨valI ((List.range' (x + 1) left).map f) tks⟩ : Array PySem.Value) = xs ++ ⟨valI ((List.range' x (left + 1)).map f) (tokI gh :: tks)⟩ := by
        apply Array.ext'
        rw [Array.toList_append, Array.toList_append, Array.toList_push, List.append_assoc]; rfl
      rw [this]
    rcases h3 with ⟨-, rfl, rfl⟩ | ⟨-, h, rfl⟩
    · exact ⟨⟨_, rfl⟩, rfl⟩
    · exact ⟨h, rfl⟩
end Mine
end
-- part F12c
section
namespace Mine
noncomputable def sHeaps : Str := ⟨⟨[104, 101, 97, 112, 115]⟩⟩
noncomputable def sReached : Str := ⟨⟨[114, 101, 97, 99, 104, 101, 100]⟩⟩
noncomputable def sLeast : Str := ⟨⟨[108, 101, 97, 115, 116]⟩⟩
noncomputable def locW (e1 e2 e3 : Ky) (hl acc : Nat) (lv : PySem.Value) (n : Nat) : Obj := localsObj [ky e1 sHeaps (.ref hl), ky e2 sReached (.ref acc), ky e3 sLeast lv] n
noncomputable def cWh (P : Params) (a : AdW) : Code := .whileLoop (whTest (whileW P)) (whBody (whileW P)) (whElse (whileW P)) (envW P a)
noncomputable def linWh (a : AdW) (e1 e2 e3 : Ky) (hl acc : Nat) (lv tl n : Nat) (ms ts : List Nat) (ln : Nat) : Led := [(a.loc, locW e1 e2 e3 hl acc (.int (lv : Int) tl) n), (acc, listObj ⟨valI ms ts⟩ ln)]
noncomputable def linWhT (a : AdW) (hl acc : Nat) (lv : Nat) (ms ts : List Nat) : LinT := fun os _ => linWh a (kyAt (oAt os 0) 0) (kyAt (oAt os 0) 1) (kyAt (oAt os 0) 2) hl acc lv (tokV (valAt (oAt os 0) 2)) (dictN (oAt os 0)) ms ts (seqN (oAt os 1))
noncomputable def obWh (w : World) (b1 b2 b3 : Bool) (a : AdW) (e1 e2 e3 : Ky) (hl acc : Nat) (lv tl n : Nat) (ms ts : List Nat) (ln : Nat) (d : Drawn) (os : OsState) (h : Heap) (N T : Nat) (gl : List GenState) (R : Result → Shared → Prop) : Ob :=
  let W := WB w b1 b2 b3
  sim (V2 W h d os 350 55 ((linWh a e1 e2 e3 hl acc lv tl n ms ts ln).map (·.1)) R noFin (hookHasI ms (fun _ => ts) lv true) (tlT (cWh W.params a) [a.loc, acc] (linWhT a hl acc (lv + 1) ms ts) gl)) 1000
    (cWh W.params a) none .base (goF (cWh W.params a) (Bn 350 55)) (linWh a e1 e2 e3 hl acc lv tl n ms ts ln) (N + 171) (T + 2349) 0 gl []
noncomputable def obWhE (w : World) (b1 b2 b3 : Bool) (a : AdW) (e1 e2 e3 : Ky) (hl acc : Nat) (lv tl n : Nat) (ms ts : List Nat) (ln : Nat) (d : Drawn) (os : OsState) (h : Heap) (N T : Nat) (gl : List GenState) (R : Result → Shared → Prop) : Ob :=
  let W := WB w b1 b2 b3
  sim (V2 W h d os 350 55 ((linWh a e1 e2 e3 hl acc lv tl n ms ts ln).map (·.1)) R (fnT [a.loc, acc] (linWhT a hl acc lv ms ts) gl) (hookHasI ms (fun _ => ts) lv false) noTail) 1000
    (cWh W.params a) none .base (goF (cWh W.params a) (Bn 350 55)) (linWh a e1 e2 e3 hl acc lv tl n ms ts ln) (N + 171) (T + 2349) 0 gl []
end Mine
end
-- part F12d
section
namespace Mine
noncomputable def hWh : List Nat := [1, 1, 2, 2, 1, 2, 1, 0, 0, 1, 1, 1, 1, 2, 1, 2]
noncomputable def hWhE : List Nat := [1, 1, 2, 2, 1, 2, 1, 2, 1, 2]
section
variable (w : World) (b1 b2 b3 : Bool) (loc cw ca cb cc dd hl acc lv tl n ln : Nat) (e1 e2 e3 : Ky) (ms ts : List Nat) (d : Drawn) (os : OsState) (h : Heap) (N T : Nat) (gl : List GenState) (R : Result → Shared → Prop)
theorem ckWh : lft (obWh w b1 b2 b3 (AdW.up ⟨loc, cw, ca, cb, cc, dd⟩) e1 e2 e3 hl (acc + 171) lv tl n ms ts ln d os h N T gl R) hWh = rgt (obWh w b1 b2 b3 (AdW.up ⟨loc, cw, ca, cb, cc, dd⟩) e1 e2 e3 hl (acc + 171) lv tl n ms ts ln d os h N T gl R) hWh := by cases b1 <;> kernel_rfl
theorem ckWhE : lft (obWhE w b1 b2 b3 (AdW.up ⟨loc, cw, ca, cb, cc, dd⟩) e1 e2 e3 hl (acc + 171) lv tl n ms ts ln d os h N T gl R) hWhE = rgt (obWhE w b1 b2 b3 (AdW.up ⟨loc, cw, ca, cb, cc, dd⟩) e1 e2 e3 hl (acc + 171) lv tl n ms ts ln d os h N T gl R) hWhE := by cases b1 <;> kernel_rfl
end
section
variable (w : World) (b1 b2 b3 : Bool) (loc cw ca cb cc dd hl acc lv tl n ln : Nat) (e1 e2 e3 : Ky) (ms ts : List Nat) (d : Drawn) (os : OsState) (h : Heap) (N T : Nat) (gl : List GenState) (R : Result → Shared → Prop)
theorem gWh : good (obWh w b1 b2 b3 (AdW.up ⟨loc, cw, ca, cb, cc, dd⟩) e1 e2 e3 hl (acc + 171) lv tl n ms ts ln d os h N T gl R) := good_of _ _ (ckWh w b1 b2 b3 loc cw ca cb cc dd hl acc lv tl n ln e1 e2 e3 ms ts d os h N T gl R)
theorem gWhE : good (obWhE w b1 b2 b3 (AdW.up ⟨loc, cw, ca, cb, cc, dd⟩) e1 e2 e3 hl (acc + 171) lv tl n ms ts ln d os h N T gl R) := good_of _ _ (ckWhE w b1 b2 b3 loc cw ca cb cc dd hl acc lv tl n ln e1 e2 e3 ms ts d os h N T gl R)
end
theorem linWh_keys (a : AdW) (e1 e2 e3 : Ky) (hl acc lv tl n : Nat) (ms ts : List Nat) (ln : Nat) : (linWh a e1 e2 e3 hl acc lv tl n ms ts ln).map (·.1) = [a.loc, acc] := rfl
noncomputable def PWh (a : AdW) (hl acc lv : Nat) (ms ts : List Nat) (rr : Result) (Lo : Led) : Prop := rr = .ok .next ∧ ∃ e1 e2 e3 tl n ln, Lo = linWh a e1 e2 e3 hl acc lv tl n ms ts ln
theorem loopWh (w : World) (b1 b2 b3 : Bool) (loc cw ca cb cc dd hl acc : Nat) (ms ts : List Nat) : ∀ (k lv : Nat) (_ : ∀ j, lv ≤ j → j < lv + k → ms.contains j = true) (_ : ms.contains (lv + k) = false) (e1 e2 e3 : Ky) (tl n ln : Nat),
    Tri (WB w b1 b2 b3) 350 55 (cWh (WB w b1 b2 b3).params (AdW.up ⟨loc, cw, ca, cb, cc, dd⟩)) (linWh (AdW.up ⟨loc, cw, ca, cb, cc, dd⟩) e1 e2 e3 hl (acc + 171) lv tl n ms ts ln) (PWh (AdW.up ⟨loc, cw, ca, cb, cc, dd⟩) hl (acc + 171) (lv + k) ms ts)
  | 0, lv, hin, hout, e1, e2, e3, tl, n, ln => by
    have z := tri_end (W := WB w b1 b2 b3) (n := 350) (u := 55) (m := 1000) (c := cWh (WB w b1 b2 b3).params (AdW.up ⟨loc, cw, ca, cb, cc, dd⟩)) (Lin := linWh (AdW.up ⟨loc, cw, ca, cb, cc, dd⟩) e1 e2 e3 hl (acc + 171) lv tl n ms ts ln) (hook := hookHasI ms (fun _ => ts) lv false) (as := [(AdW.up ⟨loc, cw, ca, cb, cc, dd⟩).loc, acc + 171]) (lin := linWhT (AdW.up ⟨loc, cw, ca, cb, cc, dd⟩) hl (acc + 171) lv ms ts)
      (fun V _ _ => hookHasI_ok hout) (fun hn os gh => by simp only [linWhT, linWh_keys] at hn ⊢; exact hn) (fun d os h N T gl R => by have g := gWhE w b1 b2 b3 loc cw ca cb cc dd hl acc lv tl n ln e1 e2 e3 ms ts d os h N T gl R; unfold obWhE at g; exact g)
    exact z.mono fun rr Lo ⟨h1, os, gh, h2⟩ => ⟨h1, kyAt (oAt os 0) 0, kyAt (oAt os 0) 1, kyAt (oAt os 0) 2, tokV (valAt (oAt os 0) 2), dictN (oAt os 0), seqN (oAt os 1), h2⟩
  | k + 1, lv, hin, hout, e1, e2, e3, tl, n, ln => by
    refine tri_turn (W := WB w b1 b2 b3) (n := 350) (u := 55) (m := 1000) (c := cWh (WB w b1 b2 b3).params (AdW.up ⟨loc, cw, ca, cb, cc, dd⟩)) (c₁ := cWh (WB w b1 b2 b3).params (AdW.up ⟨loc, cw, ca, cb, cc, dd⟩)) (Lin := linWh (AdW.up ⟨loc, cw, ca, cb, cc, dd⟩) e1 e2 e3 hl (acc + 171) lv tl n ms ts ln) (hook := hookHasI ms (fun _ => ts) lv true) (as := [(AdW.up ⟨loc, cw, ca, cb, cc, dd⟩).loc, acc + 171]) (lin := linWhT (AdW.up ⟨loc, cw, ca, cb, cc, dd⟩) hl (acc + 171) (lv + 1) ms ts)
      (fun V _ _ => hookHasI_ok (hin lv (Nat.le_refl _) (by omega))) (fun _ _ => by simp only [linWhT, linWh_keys]) (fun d os h N T gl R => by have g := gWh w b1 b2 b3 loc cw ca cb cc dd hl acc lv tl n ln e1 e2 e3 ms ts d os h N T gl R; unfold obWh at g; exact g) fun os gh => ?_
    have e : lv + (k + 1) = lv + 1 + k := by omega
    rw [e]
    exact loopWh w b1 b2 b3 loc cw ca cb cc dd hl acc ms ts k (lv + 1) (fun j h1 h2 => hin j (by omega) (by omega)) (e ▸ hout) (kyAt (oAt os 0) 0) (kyAt (oAt os 0) 1) (kyAt (oAt os 0) 2) (tokV (valAt (oAt os 0) 2)) (dictN (oAt os 0)) (seqN (oAt os 1))
end Mine
end
-- part F12s
section
namespace Mine
noncomputable def cSW (P : Params) (a : AdW) (j it acc cl : Nat) : Code := .compStart (compW P j) 0 (.ref it) (.ref acc) (envWJ P a j cl)
noncomputable def linJS (m : Nat) (a : AdW) (it acc cl : Nat) (p q r : Nat) (ents : List (Nat × Nat)) (ts : List Nat) (left : Nat) : LinT := fun os _ =>
  linJ a it acc cl p q r (cellTok (oAt os 5)) (cellTok (oAt os 6)) (cellTok (oAt os 7)) ents ts (dictN (oAt os 3)) none m #[] (seqN (oAt os 1)) 0 left
noncomputable def obJS (w : World) (b1 b2 b3 : Bool) (j : Nat) (a : AdW) (it acc cl : Nat) (p q r : Nat) (tp tq tr : Nat) (ents : List (Nat × Nat)) (ts : List Nat) (n m ln left : Nat) (d : Drawn) (os : OsState) (h : Heap) (N T : Nat) (gl : List GenState) (R : Result → Shared → Prop) : Ob :=
  let W := WB w b1 b2 b3
  sim (V2 W h d os 350 55 ((linJ a it acc cl p q r tp tq tr ents ts n none m #[] ln 0 left).map (·.1)) R noFin noHook (tlT (cLW W.params a j it acc cl) (asJ a it acc cl) (linJS m a it acc cl p q r ents ts left) gl)) 1000
    (cSW W.params a j it acc cl) none .base (goF (cSW W.params a j it acc cl) (Bn 350 55)) (linJ a it acc cl p q r tp tq tr ents ts n none m #[] ln 0 left) (N + 171) (T + 2349) 0 gl []
noncomputable def hJS2 : List Nat := [3, 3, 0, 3, 0, 3, 1, 1, 2, 3, 4, 5, 6, 7, 8, 1, 2, 3, 4, 5, 6, 7, 8]
noncomputable def hJS : List Nat := [1, 1, 2, 3, 4, 5, 6, 7, 8, 1, 2, 3, 4, 5, 6, 7, 8]
section
variable (w : World) (b1 b2 b3 : Bool) (loc cw ca cb cc dd it acc cl p q r tp tq tr : Nat) (ents : List (Nat × Nat)) (ts : List Nat) (n m ln left : Nat) (d : Drawn) (os : OsState) (h : Heap) (N T : Nat) (gl : List GenState) (R : Result → Shared → Prop)
theorem ckJS0T : lft (obJS w b1 true b3 0 (AdW.up ⟨loc, cw, ca, cb, cc, dd⟩) (it + 171) (acc + 171) (cl + 171) p q r tp tq tr ents ts n m ln left d os h N T gl R) hJS = rgt (obJS w b1 true b3 0 (AdW.up ⟨loc, cw, ca, cb, cc, dd⟩) (it + 171) (acc + 171) (cl + 171) p q r tp tq tr ents ts n m ln left d os h N T gl R) hJS := by cases b1 <;> kernel_rfl
theorem ckJS0F : lft (obJS w b1 false b3 0 (AdW.up ⟨loc, cw, ca, cb, cc, dd⟩) (it + 171) (acc + 171) (cl + 171) p q r tp tq tr ents ts n m ln left d os h N T gl R) hJS2 = rgt (obJS w b1 false b3 0 (AdW.up ⟨loc, cw, ca, cb, cc, dd⟩) (it + 171) (acc + 171) (cl + 171) p q r tp tq tr ents ts n m ln left d os h N T gl R) hJS2 := by cases b1 <;> kernel_rfl
theorem ckJS1T : lft (obJS w b1 true b3 1 (AdW.up ⟨loc, cw, ca, cb, cc, dd⟩) (it + 171) (acc + 171) (cl + 171) p q r tp tq tr ents ts n m ln left d os h N T gl R) hJS = rgt (obJS w b1 true b3 1 (AdW.up ⟨loc, cw, ca, cb, cc, dd⟩) (it + 171) (acc + 171) (cl + 171) p q r tp tq tr ents ts n m ln left d os h N T gl R) hJS := by cases b1 <;> kernel_rfl
theorem ckJS1F : lft (obJS w b1 false b3 1 (AdW.up ⟨loc, cw, ca, cb, cc, dd⟩) (it + 171) (acc + 171) (cl + 171) p q r tp tq tr ents ts n m ln left d os h N T gl R) hJS2 = rgt (obJS w b1 false b3 1 (AdW.up ⟨loc, cw, ca, cb, cc, dd⟩) (it + 171) (acc + 171) (cl + 171) p q r tp tq tr ents ts n m ln left d os h N T gl R) hJS2 := by cases b1 <;> kernel_rfl
theorem ckJS2T : lft (obJS w b1 true b3 2 (AdW.up ⟨loc, cw, ca, cb, cc, dd⟩) (it + 171) (acc + 171) (cl + 171) p q r tp tq tr ents ts n m ln left d os h N T gl R) hJS = rgt (obJS w b1 true b3 2 (AdW.up ⟨loc, cw, ca, cb, cc, dd⟩) (it + 171) (acc + 171) (cl + 171) p q r tp tq tr ents ts n m ln left d os h N T gl R) hJS := by cases b1 <;> kernel_rfl
theorem ckJS2F : lft (obJS w b1 false b3 2 (AdW.up ⟨loc, cw, ca, cb, cc, dd⟩) (it + 171) (acc + 171) (cl + 171) p q r tp tq tr ents ts n m ln left d os h N T gl R) hJS2 = rgt (obJS w b1 false b3 2 (AdW.up ⟨loc, cw, ca, cb, cc, dd⟩) (it + 171) (acc + 171) (cl + 171) p q r tp tq tr ents ts n m ln left d os h N T gl R) hJS2 := by cases b1 <;> kernel_rfl
theorem ckJS {j : Nat} (hj : j < 3) : good (obJS w b1 b2 b3 j (AdW.up ⟨loc, cw, ca, cb, cc, dd⟩) (it + 171) (acc + 171) (cl + 171) p q r tp tq tr ents ts n m ln left d os h N T gl R) := by
  rcases j with _ | _ | _ | j
  · cases b2
    · exact good_of _ _ (ckJS0F ..)
    · exact good_of _ _ (ckJS0T ..)
  · cases b2
    · exact good_of _ _ (ckJS1F ..)
    · exact good_of _ _ (ckJS1T ..)
  · cases b2
    · exact good_of _ _ (ckJS2F ..)
    · exact good_of _ _ (ckJS2T ..)
  · omega
end
theorem linJ_keys (a : AdW) (it acc cl : Nat) (p q r : Nat) (tp tq tr : Nat) (ents : List (Nat × Nat)) (ts : List Nat) (n : Nat) (e : Option (Int × Nat × PySem.Value)) (m : Nat) (xs : Array PySem.Value) (ln x left : Nat) : (linJ a it acc cl p q r tp tq tr ents ts n e m xs ln x left).map (·.1) = asJ a it acc cl := rfl
theorem startJ (w : World) (b1 b2 b3 : Bool) {j : Nat} (hj : j < 3) (loc cw ca cb cc dd it acc cl p q r : Nat) (ents : List (Nat × Nat)) (ts : List Nat) (f : Nat → Nat) (left : Nat) (hf : ∀ k, 0 ≤ k → k < 0 + left → ents.lookup (keyJ j p q r k) = some (f k)) (hs : left ≤ sizeLine) (tp tq tr n m ln : Nat) :
    Tri (WB w b1 b2 b3) 350 55 (cSW (WB w b1 b2 b3).params (AdW.up ⟨loc, cw, ca, cb, cc, dd⟩) j (it + 171) (acc + 171) (cl + 171)) (linJ (AdW.up ⟨loc, cw, ca, cb, cc, dd⟩) (it + 171) (acc + 171) (cl + 171) p q r tp tq tr ents ts n none m #[] ln 0 left)
      (PJ (AdW.up ⟨loc, cw, ca, cb, cc, dd⟩) (acc + 171) (cl + 171) p q r ents ts #[] ((List.range' 0 left).map f) none m left) :=
  tri_turn (W := WB w b1 b2 b3) (n := 350) (u := 55) (m := 1000) (c := cSW (WB w b1 b2 b3).params (AdW.up ⟨loc, cw, ca, cb, cc, dd⟩) j (it + 171) (acc + 171) (cl + 171)) (c₁ := cLW (WB w b1 b2 b3).params (AdW.up ⟨loc, cw, ca, cb, cc, dd⟩) j (it + 171) (acc + 171) (cl + 171)) (Lin := linJ (AdW.up ⟨loc, cw, ca, cb, cc, dd⟩) (it + 171) (acc + 171) (cl + 171) p q r tp tq tr ents ts n none m #[] ln 0 left) (as := asJ (AdW.up ⟨loc, cw, ca, cb, cc, dd⟩) (it + 171) (acc + 171) (cl + 171)) (lin := linJS m (AdW.up ⟨loc, cw, ca, cb, cc, dd⟩) (it + 171) (acc + 171) (cl + 171) p q r ents ts left) (hook := noHook)
    (fun V _ _ => noHook_ok V) (fun _ _ => by simp only [linJS, linJ_keys]) (fun d os h N T gl R => by have g := ckJS w b1 b2 b3 loc cw ca cb cc dd it acc cl p q r tp tq tr ents ts n m ln left d os h N T gl R hj; unfold obJS at g; exact g)
    fun os gh => loopJ w b1 b2 b3 hj loc cw ca cb cc dd it acc cl p q r ents ts f left 0 hf #[] (by show 0 + left ≤ _; omega) _ _ _ _ _ _ _
end Mine
end
-- part F12e
section
namespace Mine
/-! one cell of the table of worths -/
noncomputable def mB (fl : Bool) : Nat := match fl with
  | true => 1
  | false => 0
noncomputable def optE (fl : Bool) (h1 : Int) (h2 : Nat) (h3 : PySem.Value) : Option (Int × Nat × PySem.Value) := match fl with
  | false => none
  | true => some (h1, h2, h3)
structure XJ where
  (it acc cl tp tq tr n ln : Nat)
noncomputable def hookComp (fl : Bool) (P : Params) (j : Nat) (a : AdW) (p q r left : Nat) (ents : List (Nat × Nat)) (ts : List Nat) (vs : List Nat) : HookT :=
  hookTri (X := XJ) 350 55 (fun c L _ k => match c with
    | .compStart _ _ (.ref it) (.ref acc) env => gets L [env.locals, acc, a.d, a.ca, a.cb, a.cc] fun os => k ⟨it, acc, env.locals, cellTok (oAt os 3), cellTok (oAt os 4), cellTok (oAt os 5), dictN (oAt os 2), seqN (oAt os 1)⟩
    | _ => .bad 410 0)
    (fun x => cSW P a j x.it x.acc x.cl) (fun x => linJ a x.it x.acc x.cl p q r x.tp x.tq x.tr ents ts x.n none 0 #[] x.ln 0 left) (fun x => Nat.ble 171 x.it && (Nat.ble 171 x.acc && Nat.ble 171 x.cl))
    (fun x k => .allN fun tp => .allN fun tq => .allN fun tr => .allN fun n => .allN fun ln => .allL fun tks => .allI fun h1 => .allN fun h2 => .allV fun h3 => k (.ok .next) ((x.cl, locK (optE fl h1 h2 h3) (mB fl)) :: (x.acc, listObj ⟨valI vs tks⟩ ln) :: linK a p q r tp tq tr ents ts n) [.str ⟨⟨tks⟩⟩ 0])
theorem hookComp_ok {V : Ev} (S : V.Std) {w : World} {b1 b2 b3 : Bool} (hw : V.w = WB w b1 b2 b3) {j : Nat} (hj : j < 3) {loc cw ca cb cc dd : Nat} {p q r left : Nat} {ents : List (Nat × Nat)} {ts : List Nat} {f : Nat → Nat} (hf : ∀ k, 0 ≤ k → k < 0 + left → ents.lookup (keyJ j p q r k) = some (f k)) (hl : left ≤ sizeLine) {fl : Bool} (hfl : fl = !Nat.beq left 0) :
    HookOk V (hookComp fl V.w.params j (AdW.up ⟨loc, cw, ca, cb, cc, dd⟩) p q r left ents ts ((List.range' 0 left).map f)) := by
  refine hookTri_ok S (fun x r' Lo => PJ (AdW.up ⟨loc, cw, ca, cb, cc, dd⟩) x.acc x.cl p q r ents ts #[] ((List.range' 0 left).map f) none 0 left r' Lo) (fun c L gh k H => ?_) (fun x k r' Lo hP H => ?_) (fun x hx => ?_)
  · split at H
    · obtain ⟨os, H⟩ := gets_of H
      exact ⟨_, H⟩
    · cases H
  · obtain ⟨rfl, tp, tq, tr, n, ln, tks, e, m, rfl, hst⟩ := hP
    obtain ⟨h1, h2, h3, rfl, rfl⟩ : ∃ h1 h2 h3, e = optE fl h1 h2 h3 ∧ m = (mB fl) := by
      rcases hst with ⟨rfl, rfl, rfl⟩ | ⟨h, ⟨⟨h1, h2, h3⟩, rfl⟩, rfl⟩
      · subst hfl; exact ⟨0, 0, .none, rfl, rfl⟩
      · have : fl = true := by
          rw [hfl]
          rcases left with _ | left
          · exact absurd rfl h
          · rfl
        subst this; exact ⟨h1, h2, h3, rfl, rfl⟩
    refine ⟨[.str ⟨⟨tks⟩⟩ 0], ?_⟩
    have z := H tp tq tr n ln tks h1 h2 h3
    have e : (#[] : Array PySem.Value) ++ ⟨valI ((List.range' 0 left).map f) tks⟩ = ⟨valI ((List.range' 0 left).map f) tks⟩ := by simp
    rw [e]; exact z
  · rw [hw]
    obtain ⟨it, acc, cl, tp, tq, tr, n, ln⟩ := x
    obtain ⟨h1, hx⟩ := Bool.and_eq_true_iff.mp hx
    obtain ⟨h2, h3⟩ := Bool.and_eq_true_iff.mp hx
    obtain ⟨it, rfl⟩ : ∃ k, it = k + 171 := ⟨it - 171, by have : 171 ≤ it := Nat.le_of_ble_eq_true h1; omega⟩
    obtain ⟨acc, rfl⟩ : ∃ k, acc = k + 171 := ⟨acc - 171, by have : 171 ≤ acc := Nat.le_of_ble_eq_true h2; omega⟩
    obtain ⟨cl, rfl⟩ : ∃ k, cl = k + 171 := ⟨cl - 171, by have : 171 ≤ cl := Nat.le_of_ble_eq_true h3; omega⟩
    exact startJ w b1 b2 b3 hj loc cw ca cb cc dd it acc cl p q r ents ts f left hf hl _ _ _ _ _ _
structure XWh where
  (e1 e2 e3 : Ky) (acc tl n : Nat) (ts : List Nat) (ln : Nat)
noncomputable def hookWh (P : Params) (a : AdW) (hl : Nat) (ms : List Nat) (v : Nat) : HookT :=
  hookTri (X := XWh) 350 55 (fun _ L gh k => gets L [a.loc] fun os => gets L [nAt (valAt (oAt os 0) 1)] fun os2 => k ⟨kyAt (oAt os 0) 0, kyAt (oAt os 0) 1, kyAt (oAt os 0) 2, nAt (valAt (oAt os 0) 1), tokV (valAt (oAt os 0) 2), dictN (oAt os 0), tsG gh, seqN (oAt os2 0)⟩)
    (fun _ => cWh P a) (fun x => linWh a x.e1 x.e2 x.e3 hl x.acc 0 x.tl x.n ms x.ts x.ln) (fun x => Nat.ble 171 x.acc)
    (fun x k => .allI fun h1 => .allN fun k1 => .allI fun h2 => .allN fun k2 => .allI fun h3 => .allN fun k3 => .allN fun tl => .allN fun n => .allN fun ln => k (.ok .next) (linWh a (h1, k1) (h2, k2) (h3, k3) hl x.acc v tl n ms x.ts ln) [])
theorem hookWh_ok {V : Ev} (S : V.Std) {w : World} {b1 b2 b3 : Bool} (hw : V.w = WB w b1 b2 b3) {loc cw ca cb cc dd hl : Nat} {ms : List Nat} {v : Nat} (hin : ∀ j, 0 ≤ j → j < 0 + v → ms.contains j = true) (hout : ms.contains (0 + v) = false) :
    HookOk V (hookWh V.w.params (AdW.up ⟨loc, cw, ca, cb, cc, dd⟩) hl ms v) := by
  refine hookTri_ok S (fun x r' Lo => PWh (AdW.up ⟨loc, cw, ca, cb, cc, dd⟩) hl x.acc (0 + v) ms x.ts r' Lo) (fun c L gh k H => ?_) (fun x k r' Lo hP H => ?_) (fun x hx => ?_)
  · obtain ⟨os, H⟩ := gets_of H
    obtain ⟨os2, H⟩ := gets_of H
    exact ⟨_, H⟩
  · obtain ⟨rfl, e1, e2, e3, tl, n, ln, rfl⟩ := hP
    refine ⟨[], ?_⟩
    rw [Nat.zero_add]
    exact H e1.1 e1.2 e2.1 e2.2 e3.1 e3.2 tl n ln
  · rw [hw]
    obtain ⟨e1, e2, e3, acc, tl, n, ts, ln⟩ := x
    obtain ⟨acc, rfl⟩ : ∃ k, acc = k + 171 := ⟨acc - 171, by have : 171 ≤ acc := Nat.le_of_ble_eq_true hx; omega⟩
    exact loopWh w b1 b2 b3 loc cw ca cb cc dd hl acc ms ts v 0 hin hout _ _ _ _ _ _
/-- the frame, before or behind the first cell -/
noncomputable def locF (e1 : Ky) (hl : Nat) (rest : Option (Ky × Ky × PySem.Value × PySem.Value)) (n : Nat) : Obj := match rest with
  | none => localsObj [ky e1 sHeaps (.ref hl)] n
  | some (e2, e3, rv, lv) => localsObj [ky e1 sHeaps (.ref hl), ky e2 sReached rv, ky e3 sLeast lv] n
noncomputable def restOf (o : Obj) : Option (Ky × Ky × PySem.Value × PySem.Value) := some (kyAt o 1, kyAt o 2, valAt o 1, valAt o 2)
noncomputable def cellE (v : Option PySem.Value) : Obj := ⟨.type "cell", none, .cell v, #[]⟩
noncomputable def cLC (P : Params) (a : AdW) (it : Nat) : Code := .forLoop (forTarget (forWC P)) (.ref it) (forBody (forWC P)) (forElse (forWC P)) (envW P a)
noncomputable def linLC (a : AdW) (it : Nat) (e1 : Ky) (hl : Nat) (rest : Option (Ky × Ky × PySem.Value × PySem.Value)) (nf : Nat) (p q : Nat) (tp tq : Nat) (oc : Option PySem.Value) (ents : List (Nat × Nat)) (ts : List Nat) (n x left : Nat) : Led :=
  [(a.loc, locF e1 hl rest nf), (a.d, dictW ents ts n), (a.cw, cellO (.ref a.d)), (a.ca, cellO (.int (p : Int) tp)), (a.cb, cellO (.int (q : Int) tq)), (a.cc, cellE oc), (it, rangeIt x left)]
noncomputable def asLC (a : AdW) (it : Nat) : List Nat := [a.loc, a.d, a.cw, a.ca, a.cb, a.cc, it]
noncomputable def cellV (o : Obj) : Option PySem.Value := match o.data with
  | .cell v => v
  | _ => none
noncomputable def linLCT (a : AdW) (it hl p q : Nat) (ents : List (Nat × Nat)) (x left : Nat) : LinT := fun os gh =>
  linLC a it (kyAt (oAt os 0) 0) hl (restOf (oAt os 0)) (dictN (oAt os 0)) p q (cellTok (oAt os 3)) (cellTok (oAt os 4)) (some (.int (Nat.pred x : Nat) (cellTok (oAt os 5)))) ents (tsG gh) (dictN (oAt os 1)) x left
noncomputable def hkLC (f0 f1 f2 : Bool) (P : Params) (a : AdW) (hl p q r left : Nat) (ents : List (Nat × Nat)) (ts : List Nat) (ms0 ms1 ms2 : List Nat) (v : Nat) : HookT :=
  hook2 (hookRNext r left) (hook2 (hookRIter p) (hook2 (hookRIter q) (hook2 (hookRIter r) (hook2 (hookComp f0 P 0 a p q r p ents ts ms0) (hook2 (hookComp f1 P 1 a p q r q ents ts ms1) (hook2 (hookComp f2 P 2 a p q r r ents ts ms2)
    (hook2 (hookExtI ms0 ms1 (fun gh => tsG gh.tail) tsG) (hook2 (hookExtI (ms0 ++ ms1) ms2 (fun gh => tsG gh.tail) tsG) (hook2 (hookWh P a hl ((ms0 ++ ms1) ++ ms2) v) (hookSetD ents ts (p + 5 * q + 25 * r) v))))))))))
noncomputable def obLC (f0 f1 f2 : Bool) (w : World) (b1 b2 b3 : Bool) (a : AdW) (it : Nat) (e1 : Ky) (hl : Nat) (rest : Option (Ky × Ky × PySem.Value × PySem.Value)) (nf : Nat) (p q : Nat) (tp tq : Nat) (oc : Option PySem.Value) (ents : List (Nat × Nat)) (ts : List Nat) (n r left v : Nat) (ms0 ms1 ms2 : List Nat) (d : Drawn) (os : OsState) (h : Heap) (N T : Nat) (gl : List GenState) (R : Result → Shared → Prop) : Ob :=
  sim (V2 (WB w b1 b2 b3) h d os 345 50 ((linLC a it e1 hl rest nf p q tp tq oc ents ts n r (left + 1)).map (·.1)) R noFin (hkLC f0 f1 f2 (WB w b1 b2 b3).params a hl p q r left ents ts ms0 ms1 ms2 v) (tlT (cLC (WB w b1 b2 b3).params a it) (asLC a it) (linLCT a it hl p q (ents ++ [(p + 5 * q + 25 * r, v)]) (r + 1) left) gl)) 1000
    (cLC (WB w b1 b2 b3).params a it) none .base (goF (cLC (WB w b1 b2 b3).params a it) (Bn 345 50)) (linLC a it e1 hl rest nf p q tp tq oc ents ts n r (left + 1)) (N + 171) (T + 2349) 0 gl []
end Mine
end
-- part F12f
section
namespace Mine
noncomputable def hE3 (f : Bool) (l : List Nat) : List Nat := match f with
  | true => 1 :: 1 :: 1 :: l
  | false => 1 :: l
noncomputable def hLC (f0 f1 f2 : Bool) : List Nat := [7, 1, 7, 6, 6, 0, 0, 4, 0, 0, 0, 0, 1, 1, 0, 1, 0, 1, 1, 1, 2, 1, 1, 5, 1, 2, 6, 8, 9, 10, 1, 1, 1, 3, 3, 3, 3, 3, 9, 9] ++ hE3 f0 ([9, 2, 2, 2, 2, 0, 0, 6, 0, 0, 0, 0, 1, 1, 0, 1, 0, 1, 1, 1, 3, 1, 1, 6, 1, 2, 7, 9, 10, 11, 1, 1, 1, 4, 4, 4, 4, 4] ++ hE3 f1 ([8, 10, 2, 12, 10, 10, 10, 10, 0, 0, 7, 0, 0, 0, 0, 1, 1, 0, 1, 0, 1, 1, 1, 4, 1, 1, 7, 1, 2, 7, 9, 10, 11, 1, 1, 1, 4, 4, 4, 4, 4] ++ hE3 f2 [9, 13, 2, 15, 15, 10, 15, 13, 15, 13, 1, 6, 7, 8, 0, 0, 0, 0, 9, 0, 0, 0, 0, 5, 5, 11, 5, 1, 1, 5, 6, 7, 8, 9, 16, 1, 5, 6, 7, 8, 9, 16]))
section
variable (f0 f1 f2 : Bool) (w : World) (b1 b2 b3 : Bool) (loc cw ca cb cc dd it : Nat) (e1 e2 e3 : Ky) (rv lv : PySem.Value) (hl nf p q tp tq : Nat) (oc : Option PySem.Value) (ents : List (Nat × Nat)) (ts : List Nat) (n r left v : Nat) (ms0 ms1 ms2 : List Nat) (d : Drawn) (os : OsState) (h : Heap) (N T : Nat) (gl : List GenState) (R : Result → Shared → Prop)
theorem ckLC0 : lft (obLC f0 f1 f2 w b1 b2 b3 (AdW.up ⟨loc, cw, ca, cb, cc, dd⟩) (it + 171) e1 (hl + 171) none nf p q tp tq oc ents ts n r left v ms0 ms1 ms2 d os h N T gl R) (hLC f0 f1 f2) = rgt (obLC f0 f1 f2 w b1 b2 b3 (AdW.up ⟨loc, cw, ca, cb, cc, dd⟩) (it + 171) e1 (hl + 171) none nf p q tp tq oc ents ts n r left v ms0 ms1 ms2 d os h N T gl R) (hLC f0 f1 f2) := by cases f0 <;> cases f1 <;> cases f2 <;> cases b1 <;> kernel_rfl
theorem ckLC1 : lft (obLC f0 f1 f2 w b1 b2 b3 (AdW.up ⟨loc, cw, ca, cb, cc, dd⟩) (it + 171) e1 (hl + 171) (some (e2, e3, rv, lv)) nf p q tp tq oc ents ts n r left v ms0 ms1 ms2 d os h N T gl R) (hLC f0 f1 f2) = rgt (obLC f0 f1 f2 w b1 b2 b3 (AdW.up ⟨loc, cw, ca, cb, cc, dd⟩) (it + 171) e1 (hl + 171) (some (e2, e3, rv, lv)) nf p q tp tq oc ents ts n r left v ms0 ms1 ms2 d os h N T gl R) (hLC f0 f1 f2) := by cases f0 <;> cases f1 <;> cases f2 <;> cases b1 <;> kernel_rfl
end
end Mine
end
-- part F12g
section
namespace Mine
/-! what the table of worths holds -/
noncomputable def Lex (x y z a b c : Nat) : Prop := x < a ∨ (x = a ∧ (y < b ∨ (y = b ∧ z < c)))
structure Inv (n1 n2 a b c : Nat) (ents : List (Nat × Nat)) : Prop where
  look : ∀ x y z, y ≤ n1 → z ≤ n2 → Lex x y z a b c → ents.lookup (x + 5 * y + 25 * z) = some (x ^^^ y ^^^ z)
  keys : ∀ k ∈ ents.map (·.1), ∃ x y z, y ≤ n1 ∧ z ≤ n2 ∧ Lex x y z a b c ∧ k = x + 5 * y + 25 * z
  len : ents.length ≤ 36 * a + 6 * b + c
theorem Inv.zero (n1 n2 : Nat) : Inv n1 n2 0 0 0 [] where
  look := fun x y z _ _ h => by unfold Lex at h; omega
  keys := fun k h => nomatch h
  len := Nat.zero_le _
theorem lookup_snoc (k v j : Nat) : ∀ ents : List (Nat × Nat), (ents ++ [(k, v)]).lookup j = match ents.lookup j with
    | some x => some x
    | none => if j = k then some v else none
  | [] => by
    show (match j == k with | true => some v | false => none) = _
    by_cases h : j = k
    · subst h; simp
    · rw [beq_eq_false_iff_ne.mpr h]; simp [h]
  | (a, b) :: r => by
    rw [List.cons_append, List.lookup_cons, List.lookup_cons]
    cases j == a with
    | true => rfl
    | false => exact lookup_snoc k v j r
theorem lookup_none {j : Nat} : ∀ {ents : List (Nat × Nat)}, j ∉ ents.map (·.1) → ents.lookup j = none
  | [], _ => rfl
  | (a, b) :: r, h => by
    rw [List.lookup_cons]
    have h1 : j ≠ a := fun e => h (e ▸ List.mem_cons_self ..)
    rw [beq_eq_false_iff_ne.mpr h1]
    exact lookup_none fun m => h (List.mem_cons_of_mem _ m)
theorem Inv.fresh {n1 n2 a b c : Nat} {ents : List (Nat × Nat)} (I : Inv n1 n2 a b c ents) (h1 : n1 ≤ 4) (h2 : n2 ≤ 4) (ha : a ≤ 4) (hb : b ≤ n1) (hc : c ≤ n2) : a + 5 * b + 25 * c ∉ ents.map (·.1) := fun h => by
  obtain ⟨x, y, z, hy, hz, hl, e⟩ := I.keys _ h
  unfold Lex at hl
  omega
theorem Inv.step {n1 n2 a b c : Nat} {ents : List (Nat × Nat)} (I : Inv n1 n2 a b c ents) (h1 : n1 ≤ 4) (h2 : n2 ≤ 4) (ha : a ≤ 4) (hb : b ≤ n1) (hc : c ≤ n2) : Inv n1 n2 a b (c + 1) (ents ++ [(a + 5 * b + 25 * c, a ^^^ b ^^^ c)]) where
  look := fun x y z hy hz hl => by
    rw [lookup_snoc]
    by_cases h : Lex x y z a b c
    · rw [I.look x y z hy hz h]
    · have e : x = a ∧ y = b ∧ z = c := by unfold Lex at hl h; omega
      obtain ⟨rfl, rfl, rfl⟩ := e
      rw [lookup_none (I.fresh h1 h2 ha hb hc)]
      simp
  keys := fun k h => by
    rw [List.map_append] at h
    rcases List.mem_append.mp h with h | h
    · obtain ⟨x, y, z, hy, hz, hl, e⟩ := I.keys _ h
      exact ⟨x, y, z, hy, hz, by unfold Lex at hl ⊢; omega, e⟩
    · simp only [List.map_cons, List.map_nil, List.mem_singleton] at h
      exact ⟨a, b, c, hb, hc, by unfold Lex; omega, h⟩
  len := by
    rw [List.length_append]
    have := I.len
    simp only [List.length_cons, List.length_nil]
    omega
theorem Inv.nextB {n1 n2 a b : Nat} {ents : List (Nat × Nat)} (I : Inv n1 n2 a b (n2 + 1) ents) (h2 : n2 ≤ 4) : Inv n1 n2 a (b + 1) 0 ents where
  look := fun x y z hy hz hl => I.look x y z hy hz (by unfold Lex at hl ⊢; omega)
  keys := fun k h => by
    obtain ⟨x, y, z, hy, hz, hl, e⟩ := I.keys _ h
    exact ⟨x, y, z, hy, hz, by unfold Lex at hl ⊢; omega, e⟩
  len := by have := I.len; omega
theorem Inv.nextA {n1 n2 a : Nat} {ents : List (Nat × Nat)} (I : Inv n1 n2 a (n1 + 1) 0 ents) (h1 : n1 ≤ 4) : Inv n1 n2 (a + 1) 0 0 ents where
  look := fun x y z hy hz hl => I.look x y z hy hz (by unfold Lex at hl ⊢; omega)
  keys := fun k h => by
    obtain ⟨x, y, z, hy, hz, hl, e⟩ := I.keys _ h
    exact ⟨x, y, z, hy, hz, by unfold Lex at hl ⊢; omega, e⟩
  len := by have := I.len; omega
/-- the positions reached from a, b, c: their worths -/
noncomputable def reachL (a b c : Nat) : List Nat := ((List.range' 0 a).map (fun k => k ^^^ b ^^^ c) ++ (List.range' 0 b).map (fun k => a ^^^ k ^^^ c)) ++ (List.range' 0 c).map (fun k => a ^^^ b ^^^ k)
theorem mex_all : ∀ a, a ≤ 4 → ∀ b, b ≤ 4 → ∀ c, c ≤ 4 → (∀ j, j < a ^^^ b ^^^ c → (reachL a b c).contains j = true) ∧ (reachL a b c).contains (a ^^^ b ^^^ c) = false := by decide +kernel
end Mine
end
-- part F12h
section
namespace Mine
noncomputable def obLCE (w : World) (b1 b2 b3 : Bool) (a : AdW) (it : Nat) (e1 : Ky) (hl : Nat) (rest : Option (Ky × Ky × PySem.Value × PySem.Value)) (nf : Nat) (p q : Nat) (tp tq : Nat) (oc : Option PySem.Value) (ents : List (Nat × Nat)) (ts : List Nat) (n r : Nat) (d : Drawn) (os : OsState) (h : Heap) (N T : Nat) (gl : List GenState) (R : Result → Shared → Prop) : Ob :=
  sim (V2 (WB w b1 b2 b3) h d os 345 50 ((linLC a it e1 hl rest nf p q tp tq oc ents ts n r 0).map (·.1)) R (fnT [] (fun _ _ => linLC a it e1 hl rest nf p q tp tq oc ents ts n r 0) gl) noHook noTail) 1000
    (cLC (WB w b1 b2 b3).params a it) none .base (goF (cLC (WB w b1 b2 b3).params a it) (Bn 345 50)) (linLC a it e1 hl rest nf p q tp tq oc ents ts n r 0) (N + 171) (T + 2349) 0 gl []
end Mine
end
-- part F12i
section
namespace Mine
noncomputable def hLCE : List Nat := [7, 0, 7, 0, 7, 7, 7, 1, 0, 3, 4, 5, 6, 7, 8, 9]
section
variable (f0 f1 f2 : Bool) (w : World) (b1 b2 b3 : Bool) (loc cw ca cb cc dd it : Nat) (e1 : Ky) (rest : Option (Ky × Ky × PySem.Value × PySem.Value)) (hl nf p q tp tq : Nat) (oc : Option PySem.Value) (ents : List (Nat × Nat)) (ts : List Nat) (n r left v : Nat) (ms0 ms1 ms2 : List Nat) (d : Drawn) (os : OsState) (h : Heap) (N T : Nat) (gl : List GenState) (R : Result → Shared → Prop)
theorem ckLCE : lft (obLCE w b1 b2 b3 (AdW.up ⟨loc, cw, ca, cb, cc, dd⟩) (it + 171) e1 (hl + 171) rest nf p q tp tq oc ents ts n r d os h N T gl R) hLCE = rgt (obLCE w b1 b2 b3 (AdW.up ⟨loc, cw, ca, cb, cc, dd⟩) (it + 171) e1 (hl + 171) rest nf p q tp tq oc ents ts n r d os h N T gl R) hLCE := by cases b1 <;> kernel_rfl
theorem gLCE : good (obLCE w b1 b2 b3 (AdW.up ⟨loc, cw, ca, cb, cc, dd⟩) (it + 171) e1 (hl + 171) rest nf p q tp tq oc ents ts n r d os h N T gl R) := good_of _ _ (ckLCE w b1 b2 b3 loc cw ca cb cc dd it e1 rest hl nf p q tp tq oc ents ts n r d os h N T gl R)
theorem gLC : good (obLC f0 f1 f2 w b1 b2 b3 (AdW.up ⟨loc, cw, ca, cb, cc, dd⟩) (it + 171) e1 (hl + 171) rest nf p q tp tq oc ents ts n r left v ms0 ms1 ms2 d os h N T gl R) := by
  rcases rest with _ | ⟨e2, e3, rv, lv⟩
  · exact good_of _ _ (ckLC0 f0 f1 f2 w b1 b2 b3 loc cw ca cb cc dd it e1 hl nf p q tp tq oc ents ts n r left v ms0 ms1 ms2 d os h N T gl R)
  · exact good_of _ _ (ckLC1 f0 f1 f2 w b1 b2 b3 loc cw ca cb cc dd it e1 e2 e3 rv lv hl nf p q tp tq oc ents ts n r left v ms0 ms1 ms2 d os h N T gl R)
end
theorem linLC_keys (a : AdW) (it : Nat) (e1 : Ky) (hl : Nat) (rest : Option (Ky × Ky × PySem.Value × PySem.Value)) (nf : Nat) (p q : Nat) (tp tq : Nat) (oc : Option PySem.Value) (ents : List (Nat × Nat)) (ts : List Nat) (n x left : Nat) : (linLC a it e1 hl rest nf p q tp tq oc ents ts n x left).map (·.1) = asLC a it := rfl
noncomputable def PLC (a : AdW) (it hl n2 p q : Nat) (ents' : List (Nat × Nat)) (rr : Result) (Lo : Led) : Prop :=
  rr = .ok .next ∧ ∃ e1 r4 nf tp tq v ts n, Lo = linLC a it e1 hl (some r4) nf p q tp tq (some v) ents' ts n (n2 + 1) 0
noncomputable def cellP (p q c : Nat) : Nat × Nat := (p + 5 * q + 25 * c, p ^^^ q ^^^ c)
theorem Inv.row {n1 n2 p q : Nat} (h1 : n1 ≤ 4) (h2 : n2 ≤ 4) (hp : p ≤ 4) (hq : q ≤ n1) : ∀ (left c : Nat) (ents : List (Nat × Nat)), c + left = n2 + 1 → Inv n1 n2 p q c ents → Inv n1 n2 p q (n2 + 1) (ents ++ (List.range' c left).map (cellP p q))
  | 0, c, ents, e, I => by
    have : c = n2 + 1 := by omega
    subst this
    simpa using I
  | left + 1, c, ents, e, I => by
    have z := Inv.row h1 h2 hp hq left (c + 1) _ (by omega) (I.step h1 h2 hp hq (by omega))
    rw [List.append_assoc] at z
    exact z
theorem hkLC_ok {V : Ev} (S : V.Std) {w : World} {b1 b2 b3 : Bool} (hw : V.w = WB w b1 b2 b3) {loc cw ca cb cc dd hl : Nat} {n1 n2 p q r left : Nat} {ents : List (Nat × Nat)} {ts : List Nat} (I : Inv n1 n2 p q r ents) (h1 : n1 ≤ 4) (h2 : n2 ≤ 4) (hp : p ≤ 4) (hq : q ≤ n1) (hr : r ≤ n2) :
    HookOk V (hkLC (!Nat.beq p 0) (!Nat.beq q 0) (!Nat.beq r 0) (WB w b1 b2 b3).params (AdW.up ⟨loc, cw, ca, cb, cc, dd⟩) hl p q r left ents ts ((List.range' 0 p).map (fun k => k ^^^ q ^^^ r)) ((List.range' 0 q).map (fun k => p ^^^ k ^^^ r)) ((List.range' 0 r).map (fun k => p ^^^ q ^^^ k)) (p ^^^ q ^^^ r)) := by
  have sz : sizeLine = 16777216 := by decide
  have hm := mex_all p hp q (by omega) r (by omega)
  have hlen := I.len
  rw [← hw]
  refine hook2_ok hookRNext_ok (hook2_ok (hookRIter_ok S (by omega)) (hook2_ok (hookRIter_ok S (by omega)) (hook2_ok (hookRIter_ok S (by omega)) (hook2_ok ?_ (hook2_ok ?_ (hook2_ok ?_ (hook2_ok ?_ (hook2_ok ?_ (hook2_ok ?_ ?_)))))))))
  · exact hookComp_ok S hw (j := 0) (by omega) (fun k _ hk => I.look k q r hq hr (by unfold Lex; omega)) (by omega) rfl
  · exact hookComp_ok S hw (j := 1) (by omega) (fun k _ hk => I.look p k r (by omega) hr (by unfold Lex; omega)) (by omega) rfl
  · exact hookComp_ok S hw (j := 2) (by omega) (fun k _ hk => I.look p q k hq (by omega) (by unfold Lex; omega)) (by omega) rfl
  · exact hookExtI_ok (by simp only [List.length_map, List.length_range']; omega)
  · exact hookExtI_ok (by simp only [List.length_append, List.length_map, List.length_range']; omega)
  · exact hookWh_ok S hw (fun j _ hj => hm.1 j (by omega)) (by rw [Nat.zero_add]; exact hm.2)
  · exact hookSetD_ok (I.fresh h1 h2 hp hq hr) (by omega)
theorem loopLC (w : World) (b1 b2 b3 : Bool) (loc cw ca cb cc dd it hl n1 n2 p q : Nat) (h1 : n1 ≤ 4) (h2 : n2 ≤ 4) (hp : p ≤ 4) (hq : q ≤ n1) : ∀ (left r : Nat) (_ : r + left = n2 + 1) (ents : List (Nat × Nat)) (_ : Inv n1 n2 p q r ents) (e1 : Ky) (rest : Option (Ky × Ky × PySem.Value × PySem.Value)) (nf tp tq : Nat) (oc : Option PySem.Value) (ts : List Nat) (n : Nat) (_ : left = 0 → rest.isSome = true ∧ oc.isSome = true),
    Tri (WB w b1 b2 b3) 345 50 (cLC (WB w b1 b2 b3).params (AdW.up ⟨loc, cw, ca, cb, cc, dd⟩) (it + 171)) (linLC (AdW.up ⟨loc, cw, ca, cb, cc, dd⟩) (it + 171) e1 (hl + 171) rest nf p q tp tq oc ents ts n r left) (PLC (AdW.up ⟨loc, cw, ca, cb, cc, dd⟩) (it + 171) (hl + 171) n2 p q (ents ++ (List.range' r left).map (cellP p q)))
  | 0, r, hr, ents, I, e1, rest, nf, tp, tq, oc, ts, n, hz => by
    have z := tri_end (W := WB w b1 b2 b3) (n := 345) (u := 50) (m := 1000) (c := cLC (WB w b1 b2 b3).params (AdW.up ⟨loc, cw, ca, cb, cc, dd⟩) (it + 171)) (Lin := linLC (AdW.up ⟨loc, cw, ca, cb, cc, dd⟩) (it + 171) e1 (hl + 171) rest nf p q tp tq oc ents ts n r 0) (hook := noHook) (as := []) (lin := fun _ _ => linLC (AdW.up ⟨loc, cw, ca, cb, cc, dd⟩) (it + 171) e1 (hl + 171) rest nf p q tp tq oc ents ts n r 0) (fun V _ _ => noHook_ok V) (fun hn _ _ => hn)
      (fun d os h N T gl R => by have g := gLCE w b1 b2 b3 loc cw ca cb cc dd it e1 rest hl nf p q tp tq oc ents ts n r d os h N T gl R; unfold obLCE at g; exact g)
    have er : r = n2 + 1 := by omega
    subst er
    obtain ⟨h3, h4⟩ := hz rfl
    obtain ⟨r4, rfl⟩ := Option.isSome_iff_exists.mp h3
    obtain ⟨v, rfl⟩ := Option.isSome_iff_exists.mp h4
    exact z.mono fun rr Lo ⟨h1, _, _, h2⟩ => ⟨h1, e1, r4, nf, tp, tq, v, ts, n, by rw [h2]; simp⟩
  | left + 1, r, hr, ents, I, e1, rest, nf, tp, tq, oc, ts, n, _ => by
    refine tri_turn (W := WB w b1 b2 b3) (n := 345) (u := 50) (m := 1000) (c := cLC (WB w b1 b2 b3).params (AdW.up ⟨loc, cw, ca, cb, cc, dd⟩) (it + 171)) (c₁ := cLC (WB w b1 b2 b3).params (AdW.up ⟨loc, cw, ca, cb, cc, dd⟩) (it + 171)) (Lin := linLC (AdW.up ⟨loc, cw, ca, cb, cc, dd⟩) (it + 171) e1 (hl + 171) rest nf p q tp tq oc ents ts n r (left + 1)) (as := asLC (AdW.up ⟨loc, cw, ca, cb, cc, dd⟩) (it + 171)) (lin := linLCT (AdW.up ⟨loc, cw, ca, cb, cc, dd⟩) (it + 171) (hl + 171) p q (ents ++ [(p + 5 * q + 25 * r, p ^^^ q ^^^ r)]) (r + 1) left)
      (hook := hkLC (!Nat.beq p 0) (!Nat.beq q 0) (!Nat.beq r 0) (WB w b1 b2 b3).params (AdW.up ⟨loc, cw, ca, cb, cc, dd⟩) (hl + 171) p q r left ents ts ((List.range' 0 p).map (fun k => k ^^^ q ^^^ r)) ((List.range' 0 q).map (fun k => p ^^^ k ^^^ r)) ((List.range' 0 r).map (fun k => p ^^^ q ^^^ k)) (p ^^^ q ^^^ r))
      (fun V S hw => hkLC_ok S hw I h1 h2 hp hq (by omega)) (fun _ _ => by simp only [linLCT, linLC_keys])
      (fun d os h N T gl R => by have g := gLC (!Nat.beq p 0) (!Nat.beq q 0) (!Nat.beq r 0) w b1 b2 b3 loc cw ca cb cc dd it e1 rest hl nf p q tp tq oc ents ts n r left (p ^^^ q ^^^ r) ((List.range' 0 p).map (fun k => k ^^^ q ^^^ r)) ((List.range' 0 q).map (fun k => p ^^^ k ^^^ r)) ((List.range' 0 r).map (fun k => p ^^^ q ^^^ k)) d os h N T gl R; unfold obLC at g; exact g) fun os gh => ?_
    have ee : ents ++ (List.range' r (left + 1)).map (cellP p q) = (ents ++ [(p + 5 * q + 25 * r, p ^^^ q ^^^ r)]) ++ (List.range' (r + 1) left).map (cellP p q) := by rw [List.append_assoc]; rfl
    rw [ee]
    exact loopLC w b1 b2 b3 loc cw ca cb cc dd it hl n1 n2 p q h1 h2 hp hq left (r + 1) (by omega) _ (I.step h1 h2 hp hq (by omega)) _ _ _ _ _ _ _ _ (fun _ => ⟨rfl, rfl⟩)
end Mine
end
-- part F12j
section
namespace Mine
/-! the b-loop -/
noncomputable def heapsO (n0 n1 n2 t0 t1 t2 ln : Nat) : Obj := listObj ⟨[.int (n0 : Int) t0, .int (n1 : Int) t1, .int (n2 : Int) t2]⟩ ln
structure XLC where
  (it : Nat) (e1 : Ky) (rest : Option (Ky × Ky × PySem.Value × PySem.Value)) (nf tp tq : Nat) (oc : Option PySem.Value) (ts : List Nat) (n : Nat)
noncomputable def restO (o : Obj) : Option (Ky × Ky × PySem.Value × PySem.Value) := match entries o with
  | _ :: _ :: _ => restOf o
  | _ => none
noncomputable def hookLC (P : Params) (a : AdW) (hl n2 p q : Nat) (ents ents' : List (Nat × Nat)) (ts : List Nat) : HookT :=
  hookTri (X := XLC) 345 50 (fun c L _ k => match c with
    | .forLoop _ (.ref it) _ _ _ => gets L [a.loc, a.d, a.ca, a.cb, a.cc] fun os => k ⟨it, kyAt (oAt os 0) 0, restO (oAt os 0), dictN (oAt os 0), cellTok (oAt os 2), cellTok (oAt os 3), cellV (oAt os 4), ts, dictN (oAt os 1)⟩
    | _ => .bad 411 0)
    (fun x => cLC P a x.it) (fun x => linLC a x.it x.e1 hl x.rest x.nf p q x.tp x.tq x.oc ents x.ts x.n 0 (n2 + 1)) (fun x => Nat.ble 171 x.it)
    (fun x k => .allI fun h1 => .allN fun k1 => .allI fun h2 => .allN fun k2 => .allI fun h3 => .allN fun k3 => .allV fun rv => .allV fun lv => .allN fun nf => .allN fun tp => .allN fun tq => .allV fun v => .allL fun ts' => .allN fun n =>
      k (.ok .next) (linLC a x.it (h1, k1) hl (some ((h2, k2), (h3, k3), rv, lv)) nf p q tp tq (some v) ents' ts' n (n2 + 1) 0) [.str ⟨⟨ts'⟩⟩ 0])
noncomputable def cLB (P : Params) (a : AdW) (it : Nat) : Code := .forLoop (forTarget (forWB P)) (.ref it) (forBody (forWB P)) (forElse (forWB P)) (envW P a)
noncomputable def linLB (a : AdW) (it : Nat) (hp : Obj) (e1 : Ky) (hl : Nat) (rest : Option (Ky × Ky × PySem.Value × PySem.Value)) (nf : Nat) (p : Nat) (tp : Nat) (ob oc : Option PySem.Value) (ents : List (Nat × Nat)) (ts : List Nat) (n x left : Nat) : Led :=
  [(hl, hp), (a.loc, locF e1 hl rest nf), (a.d, dictW ents ts n), (a.cw, cellO (.ref a.d)), (a.ca, cellO (.int (p : Int) tp)), (a.cb, cellE ob), (a.cc, cellE oc), (it, rangeIt x left)]
noncomputable def seqAt (o : Obj) (k : Nat) : PySem.Value := match o.data with
  | .seq ⟨l⟩ _ => l.getD k .none
  | _ => .none
noncomputable def asLB (a : AdW) (it hl : Nat) : List Nat := [hl, a.loc, a.d, a.cw, a.ca, a.cb, a.cc, it]
theorem hookLC_ok {V : Ev} (S : V.Std) {w : World} {b1 b2 b3 : Bool} (hw : V.w = WB w b1 b2 b3) {loc cw ca cb cc dd hl : Nat} {n1 n2 p q : Nat} {ents : List (Nat × Nat)} {ts : List Nat} (I : Inv n1 n2 p q 0 ents) (h1 : n1 ≤ 4) (h2 : n2 ≤ 4) (hp : p ≤ 4) (hq : q ≤ n1) :
    HookOk V (hookLC (WB w b1 b2 b3).params (AdW.up ⟨loc, cw, ca, cb, cc, dd⟩) (hl + 171) n2 p q ents (ents ++ (List.range' 0 (n2 + 1)).map (cellP p q)) ts) := by
  refine hookTri_ok S (fun x r' Lo => PLC (AdW.up ⟨loc, cw, ca, cb, cc, dd⟩) x.it (hl + 171) n2 p q (ents ++ (List.range' 0 (n2 + 1)).map (cellP p q)) r' Lo) (fun c L gh k H => ?_) (fun x k r' Lo hP H => ?_) (fun x hx => ?_)
  · split at H
    · obtain ⟨os, H⟩ := gets_of H
      exact ⟨_, H⟩
    · cases H
  · obtain ⟨rfl, e1, ⟨e2, e3, rv, lv⟩, nf, tp, tq, v, ts', n, rfl⟩ := hP
    exact ⟨[.str ⟨⟨ts'⟩⟩ 0], H e1.1 e1.2 e2.1 e2.2 e3.1 e3.2 rv lv nf tp tq v ts' n⟩
  · rw [hw]
    obtain ⟨it, e1, rest, nf, tp, tq, oc, ts, n⟩ := x
    obtain ⟨it, rfl⟩ : ∃ k, it = k + 171 := ⟨it - 171, by have : 171 ≤ it := Nat.le_of_ble_eq_true hx; omega⟩
    exact loopLC w b1 b2 b3 loc cw ca cb cc dd it hl n1 n2 p q h1 h2 hp hq (n2 + 1) 0 (by omega) ents I e1 rest nf tp tq oc ts n (fun h => absurd h (Nat.succ_ne_zero _))
noncomputable def hkLB (P : Params) (a : AdW) (hl n2 p q left : Nat) (ents ents' : List (Nat × Nat)) (ts : List Nat) : HookT := hook2 (hookRNext q left) (hook2 (hookRIter (n2 + 1)) (hookLC P a hl n2 p q ents ents' ts))
noncomputable def cellX (o : Obj) : PySem.Value := match o.data with
  | .cell (some v) => v
  | _ => .none
noncomputable def linLBT (a : AdW) (it hl n0 n1 n2 p : Nat) (ents : List (Nat × Nat)) (x left : Nat) : LinT := fun os gh =>
  linLB a it (heapsO n0 n1 n2 (tokV (seqAt (oAt os 0) 0)) (tokV (seqAt (oAt os 0) 1)) (tokV (seqAt (oAt os 0) 2)) (seqN (oAt os 0))) (kyAt (oAt os 1) 0) hl (restOf (oAt os 1)) (dictN (oAt os 1)) p (cellTok (oAt os 4)) (some (.int (Nat.pred x : Nat) (cellTok (oAt os 5)))) (some (cellX (oAt os 6))) ents (tsG gh) (dictN (oAt os 2)) x left
noncomputable def obLB (w : World) (b1 b2 b3 : Bool) (a : AdW) (it : Nat) (n0 n1 n2 t0 t1 t2 ln : Nat) (e1 : Ky) (hl : Nat) (rest : Option (Ky × Ky × PySem.Value × PySem.Value)) (nf : Nat) (p : Nat) (tp : Nat) (ob oc : Option PySem.Value) (ents ents' : List (Nat × Nat)) (ts : List Nat) (n q left : Nat) (d : Drawn) (os : OsState) (h : Heap) (N T : Nat) (gl : List GenState) (R : Result → Shared → Prop) : Ob :=
  sim (V2 (WB w b1 b2 b3) h d os 340 45 ((linLB a it (heapsO n0 n1 n2 t0 t1 t2 ln) e1 hl rest nf p tp ob oc ents ts n q (left + 1)).map (·.1)) R noFin (hkLB (WB w b1 b2 b3).params a hl n2 p q left ents ents' ts) (tlT (cLB (WB w b1 b2 b3).params a it) (asLB a it hl) (linLBT a it hl n0 n1 n2 p ents' (q + 1) left) gl)) 1000
    (cLB (WB w b1 b2 b3).params a it) none .base (goF (cLB (WB w b1 b2 b3).params a it) (Bn 340 45)) (linLB a it (heapsO n0 n1 n2 t0 t1 t2 ln) e1 hl rest nf p tp ob oc ents ts n q (left + 1)) (N + 171) (T + 2349) 0 gl []
end Mine
end
-- part F12k
section
namespace Mine
noncomputable def obLBE (w : World) (b1 b2 b3 : Bool) (a : AdW) (it : Nat) (n0 n1 n2 t0 t1 t2 ln : Nat) (e1 : Ky) (hl : Nat) (rest : Option (Ky × Ky × PySem.Value × PySem.Value)) (nf : Nat) (p : Nat) (tp : Nat) (ob oc : Option PySem.Value) (ents : List (Nat × Nat)) (ts : List Nat) (n q : Nat) (d : Drawn) (os : OsState) (h : Heap) (N T : Nat) (gl : List GenState) (R : Result → Shared → Prop) : Ob :=
  sim (V2 (WB w b1 b2 b3) h d os 340 45 ((linLB a it (heapsO n0 n1 n2 t0 t1 t2 ln) e1 hl rest nf p tp ob oc ents ts n q 0).map (·.1)) R (fnT [] (fun _ _ => linLB a it (heapsO n0 n1 n2 t0 t1 t2 ln) e1 hl rest nf p tp ob oc ents ts n q 0) gl) noHook noTail) 1000
    (cLB (WB w b1 b2 b3).params a it) none .base (goF (cLB (WB w b1 b2 b3).params a it) (Bn 340 45)) (linLB a it (heapsO n0 n1 n2 t0 t1 t2 ln) e1 hl rest nf p tp ob oc ents ts n q 0) (N + 171) (T + 2349) 0 gl []
noncomputable def hLB : List Nat := [8, 1, 8, 6, 6, 0, 0, 2, 1, 1, 1, 0, 1, 0, 1, 0, 0, 0, 0, 0, 0, 1, 1, 0, 1, 0, 1, 1, 1, 2, 1, 1, 3, 4, 5, 7, 8, 9, 4, 4, 4, 4, 4, 4, 1, 1, 9, 1, 2, 3, 4, 5, 6, 10, 9, 1, 2, 3, 4, 5, 6, 10]
noncomputable def hLBE : List Nat := [8, 0, 8, 0, 8, 8, 8, 1, 0, 3, 4, 5, 6, 7, 8, 9, 10]
section
variable (w : World) (b1 b2 b3 : Bool) (loc cw ca cb cc dd it hl n0 n1 n2 t0 t1 t2 ln : Nat) (e1 e2 e3 : Ky) (rv lv : PySem.Value) (rest : Option (Ky × Ky × PySem.Value × PySem.Value)) (nf p tp : Nat) (ob oc : Option PySem.Value) (ents ents' : List (Nat × Nat)) (ts : List Nat) (n q left : Nat) (d : Drawn) (os : OsState) (h : Heap) (N T : Nat) (gl : List GenState) (R : Result → Shared → Prop)
theorem ckLB0 : lft (obLB w b1 b2 b3 (AdW.up ⟨loc, cw, ca, cb, cc, dd⟩) (it + 171) n0 n1 n2 t0 t1 t2 ln e1 (hl + 171) none nf p tp ob oc ents ents' ts n q left d os h N T gl R) hLB = rgt (obLB w b1 b2 b3 (AdW.up ⟨loc, cw, ca, cb, cc, dd⟩) (it + 171) n0 n1 n2 t0 t1 t2 ln e1 (hl + 171) none nf p tp ob oc ents ents' ts n q left d os h N T gl R) hLB := by cases b1 <;> kernel_rfl
theorem ckLB1 : lft (obLB w b1 b2 b3 (AdW.up ⟨loc, cw, ca, cb, cc, dd⟩) (it + 171) n0 n1 n2 t0 t1 t2 ln e1 (hl + 171) (some (e2, e3, rv, lv)) nf p tp ob oc ents ents' ts n q left d os h N T gl R) hLB = rgt (obLB w b1 b2 b3 (AdW.up ⟨loc, cw, ca, cb, cc, dd⟩) (it + 171) n0 n1 n2 t0 t1 t2 ln e1 (hl + 171) (some (e2, e3, rv, lv)) nf p tp ob oc ents ents' ts n q left d os h N T gl R) hLB := by cases b1 <;> kernel_rfl
theorem ckLBE : lft (obLBE w b1 b2 b3 (AdW.up ⟨loc, cw, ca, cb, cc, dd⟩) (it + 171) n0 n1 n2 t0 t1 t2 ln e1 (hl + 171) rest nf p tp ob oc ents ts n q d os h N T gl R) hLBE = rgt (obLBE w b1 b2 b3 (AdW.up ⟨loc, cw, ca, cb, cc, dd⟩) (it + 171) n0 n1 n2 t0 t1 t2 ln e1 (hl + 171) rest nf p tp ob oc ents ts n q d os h N T gl R) hLBE := by cases b1 <;> kernel_rfl
theorem gLBE : good (obLBE w b1 b2 b3 (AdW.up ⟨loc, cw, ca, cb, cc, dd⟩) (it + 171) n0 n1 n2 t0 t1 t2 ln e1 (hl + 171) rest nf p tp ob oc ents ts n q d os h N T gl R) := good_of _ _ (ckLBE w b1 b2 b3 loc cw ca cb cc dd it hl n0 n1 n2 t0 t1 t2 ln e1 rest nf p tp ob oc ents ts n q d os h N T gl R)
theorem gLB : good (obLB w b1 b2 b3 (AdW.up ⟨loc, cw, ca, cb, cc, dd⟩) (it + 171) n0 n1 n2 t0 t1 t2 ln e1 (hl + 171) rest nf p tp ob oc ents ents' ts n q left d os h N T gl R) := by
  rcases rest with _ | ⟨e2, e3, rv, lv⟩
  · exact good_of _ _ (ckLB0 w b1 b2 b3 loc cw ca cb cc dd it hl n0 n1 n2 t0 t1 t2 ln e1 nf p tp ob oc ents ents' ts n q left d os h N T gl R)
  · exact good_of _ _ (ckLB1 w b1 b2 b3 loc cw ca cb cc dd it hl n0 n1 n2 t0 t1 t2 ln e1 e2 e3 rv lv nf p tp ob oc ents ents' ts n q left d os h N T gl R)
end
theorem linLB_keys (a : AdW) (it : Nat) (hp : Obj) (e1 : Ky) (hl : Nat) (rest : Option (Ky × Ky × PySem.Value × PySem.Value)) (nf p tp : Nat) (ob oc : Option PySem.Value) (ents : List (Nat × Nat)) (ts : List Nat) (n x left : Nat) : (linLB a it hp e1 hl rest nf p tp ob oc ents ts n x left).map (·.1) = asLB a it hl := rfl
/-- the rows of a column -/
noncomputable def entB (p n2 : Nat) (ents : List (Nat × Nat)) (q : Nat) : Nat → List (Nat × Nat)
  | 0 => ents
  | left + 1 => entB p n2 (ents ++ (List.range' 0 (n2 + 1)).map (cellP p q)) (q + 1) left
theorem Inv.rows {n1 n2 p : Nat} (h1 : n1 ≤ 4) (h2 : n2 ≤ 4) (hp : p ≤ 4) : ∀ (left q : Nat) (ents : List (Nat × Nat)), q + left = n1 + 1 → Inv n1 n2 p q 0 ents → Inv n1 n2 p (n1 + 1) 0 (entB p n2 ents q left)
  | 0, q, ents, e, I => by
    have : q = n1 + 1 := by omega
    subst this
    exact I
  | left + 1, q, ents, e, I => Inv.rows h1 h2 hp left (q + 1) _ (by omega) ((Inv.row h1 h2 hp (by omega) (n2 + 1) 0 ents (by omega) I).nextB h2)
noncomputable def PLB (a : AdW) (it hl n0 n1 n2 p : Nat) (ents' : List (Nat × Nat)) (rr : Result) (Lo : Led) : Prop :=
  rr = .ok .next ∧ ∃ t0 t1 t2 ln e1 r4 nf tp v u ts n, Lo = linLB a it (heapsO n0 n1 n2 t0 t1 t2 ln) e1 hl (some r4) nf p tp (some v) (some u) ents' ts n (n1 + 1) 0
theorem small_line {n : Nat} (h : n ≤ 100) : n ≤ sizeLine := by
  have : sizeLine = 16777216 := by decide
  omega
theorem loopLB (w : World) (b1 b2 b3 : Bool) (loc cw ca cb cc dd it hl n0 n1 n2 p : Nat) (h1 : n1 ≤ 4) (h2 : n2 ≤ 4) (hp : p ≤ 4) : ∀ (left q : Nat) (_ : q + left = n1 + 1) (ents : List (Nat × Nat)) (_ : Inv n1 n2 p q 0 ents) (t0 t1 t2 ln : Nat) (e1 : Ky) (rest : Option (Ky × Ky × PySem.Value × PySem.Value)) (nf tp : Nat) (ob oc : Option PySem.Value) (ts : List Nat) (n : Nat) (_ : left = 0 → rest.isSome = true ∧ ob.isSome = true ∧ oc.isSome = true),
    Tri (WB w b1 b2 b3) 340 45 (cLB (WB w b1 b2 b3).params (AdW.up ⟨loc, cw, ca, cb, cc, dd⟩) (it + 171)) (linLB (AdW.up ⟨loc, cw, ca, cb, cc, dd⟩) (it + 171) (heapsO n0 n1 n2 t0 t1 t2 ln) e1 (hl + 171) rest nf p tp ob oc ents ts n q left) (PLB (AdW.up ⟨loc, cw, ca, cb, cc, dd⟩) (it + 171) (hl + 171) n0 n1 n2 p (entB p n2 ents q left))
  | 0, q, hq, ents, I, t0, t1, t2, ln, e1, rest, nf, tp, ob, oc, ts, n, hz => by
    have z := tri_end (W := WB w b1 b2 b3) (n := 340) (u := 45) (m := 1000) (c := cLB (WB w b1 b2 b3).params (AdW.up ⟨loc, cw, ca, cb, cc, dd⟩) (it + 171)) (Lin := linLB (AdW.up ⟨loc, cw, ca, cb, cc, dd⟩) (it + 171) (heapsO n0 n1 n2 t0 t1 t2 ln) e1 (hl + 171) rest nf p tp ob oc ents ts n q 0) (hook := noHook) (as := []) (lin := fun _ _ => linLB (AdW.up ⟨loc, cw, ca, cb, cc, dd⟩) (it + 171) (heapsO n0 n1 n2 t0 t1 t2 ln) e1 (hl + 171) rest nf p tp ob oc ents ts n q 0) (fun V _ _ => noHook_ok V) (fun hn _ _ => hn)
      (fun d os h N T gl R => by have g := gLBE w b1 b2 b3 loc cw ca cb cc dd it hl n0 n1 n2 t0 t1 t2 ln e1 rest nf p tp ob oc ents ts n q d os h N T gl R; unfold obLBE at g; exact g)
    have er : q = n1 + 1 := by omega
    subst er
    obtain ⟨h3, h4, h5⟩ := hz rfl
    obtain ⟨r4, rfl⟩ := Option.isSome_iff_exists.mp h3
    obtain ⟨v, rfl⟩ := Option.isSome_iff_exists.mp h4
    obtain ⟨u, rfl⟩ := Option.isSome_iff_exists.mp h5
    exact z.mono fun rr Lo ⟨h1, _, _, h2⟩ => ⟨h1, t0, t1, t2, ln, e1, r4, nf, tp, v, u, ts, n, h2⟩
  | left + 1, q, hq, ents, I, t0, t1, t2, ln, e1, rest, nf, tp, ob, oc, ts, n, _ => by
    refine tri_turn (W := WB w b1 b2 b3) (n := 340) (u := 45) (m := 1000) (c := cLB (WB w b1 b2 b3).params (AdW.up ⟨loc, cw, ca, cb, cc, dd⟩) (it + 171)) (c₁ := cLB (WB w b1 b2 b3).params (AdW.up ⟨loc, cw, ca, cb, cc, dd⟩) (it + 171)) (Lin := linLB (AdW.up ⟨loc, cw, ca, cb, cc, dd⟩) (it + 171) (heapsO n0 n1 n2 t0 t1 t2 ln) e1 (hl + 171) rest nf p tp ob oc ents ts n q (left + 1)) (as := asLB (AdW.up ⟨loc, cw, ca, cb, cc, dd⟩) (it + 171) (hl + 171)) (lin := linLBT (AdW.up ⟨loc, cw, ca, cb, cc, dd⟩) (it + 171) (hl + 171) n0 n1 n2 p (ents ++ (List.range' 0 (n2 + 1)).map (cellP p q)) (q + 1) left)
      (hook := hkLB (WB w b1 b2 b3).params (AdW.up ⟨loc, cw, ca, cb, cc, dd⟩) (hl + 171) n2 p q left ents (ents ++ (List.range' 0 (n2 + 1)).map (cellP p q)) ts)
      (fun V S hw => hook2_ok hookRNext_ok (hook2_ok (hookRIter_ok S (small_line (by omega))) (hookLC_ok S hw I h1 h2 hp (by omega)))) (fun _ _ => by simp only [linLBT, linLB_keys])
      (fun d os h N T gl R => by have g := gLB w b1 b2 b3 loc cw ca cb cc dd it hl n0 n1 n2 t0 t1 t2 ln e1 rest nf p tp ob oc ents (ents ++ (List.range' 0 (n2 + 1)).map (cellP p q)) ts n q left d os h N T gl R; unfold obLB at g; exact g) fun os gh => ?_
    exact loopLB w b1 b2 b3 loc cw ca cb cc dd it hl n0 n1 n2 p h1 h2 hp left (q + 1) (by omega) _ ((Inv.row h1 h2 hp (by omega) (n2 + 1) 0 ents (by omega) I).nextB h2) _ _ _ _ _ _ _ _ _ _ _ _ (fun _ => ⟨rfl, rfl, rfl⟩)
end Mine
end
-- part F12l
section
namespace Mine
/-! the a-loop -/
structure XLB where
  (it t0 t1 t2 ln : Nat) (e1 : Ky) (rest : Option (Ky × Ky × PySem.Value × PySem.Value)) (nf tp : Nat) (ob oc : Option PySem.Value) (ts : List Nat) (n : Nat)
noncomputable def hookLB (P : Params) (a : AdW) (hl n0 n1 n2 p : Nat) (ents ents' : List (Nat × Nat)) (ts : List Nat) : HookT :=
  hookTri (X := XLB) 340 45 (fun c L _ k => match c with
    | .forLoop _ (.ref it) _ _ _ => gets L [hl, a.loc, a.d, a.ca, a.cb, a.cc] fun os => k ⟨it, tokV (seqAt (oAt os 0) 0), tokV (seqAt (oAt os 0) 1), tokV (seqAt (oAt os 0) 2), seqN (oAt os 0), kyAt (oAt os 1) 0, restO (oAt os 1), dictN (oAt os 1), cellTok (oAt os 3), cellV (oAt os 4), cellV (oAt os 5), ts, dictN (oAt os 2)⟩
    | _ => .bad 411 0)
    (fun x => cLB P a x.it) (fun x => linLB a x.it (heapsO n0 n1 n2 x.t0 x.t1 x.t2 x.ln) x.e1 hl x.rest x.nf p x.tp x.ob x.oc ents x.ts x.n 0 (n1 + 1)) (fun x => Nat.ble 171 x.it)
    (fun x k => .allN fun t0 => .allN fun t1 => .allN fun t2 => .allN fun ln => .allI fun h1 => .allN fun k1 => .allI fun h2 => .allN fun k2 => .allI fun h3 => .allN fun k3 => .allV fun rv => .allV fun lv => .allN fun nf => .allN fun tp => .allV fun v => .allV fun u => .allL fun ts' => .allN fun n =>
      k (.ok .next) (linLB a x.it (heapsO n0 n1 n2 t0 t1 t2 ln) (h1, k1) hl (some ((h2, k2), (h3, k3), rv, lv)) nf p tp (some v) (some u) ents' ts' n (n1 + 1) 0) [.str ⟨⟨ts'⟩⟩ 0])
theorem hookLB_ok {V : Ev} (S : V.Std) {w : World} {b1 b2 b3 : Bool} (hw : V.w = WB w b1 b2 b3) {loc cw ca cb cc dd hl : Nat} {n0 n1 n2 p : Nat} {ents : List (Nat × Nat)} {ts : List Nat} (I : Inv n1 n2 p 0 0 ents) (h1 : n1 ≤ 4) (h2 : n2 ≤ 4) (hp : p ≤ 4) :
    HookOk V (hookLB (WB w b1 b2 b3).params (AdW.up ⟨loc, cw, ca, cb, cc, dd⟩) (hl + 171) n0 n1 n2 p ents (entB p n2 ents 0 (n1 + 1)) ts) := by
  refine hookTri_ok S (fun x r' Lo => PLB (AdW.up ⟨loc, cw, ca, cb, cc, dd⟩) x.it (hl + 171) n0 n1 n2 p (entB p n2 ents 0 (n1 + 1)) r' Lo) (fun c L gh k H => ?_) (fun x k r' Lo hP H => ?_) (fun x hx => ?_)
  · split at H
    · obtain ⟨os, H⟩ := gets_of H
      exact ⟨_, H⟩
    · cases H
  · obtain ⟨rfl, t0, t1, t2, ln, e1, ⟨e2, e3, rv, lv⟩, nf, tp, v, u, ts', n, rfl⟩ := hP
    exact ⟨[.str ⟨⟨ts'⟩⟩ 0], H t0 t1 t2 ln e1.1 e1.2 e2.1 e2.2 e3.1 e3.2 rv lv nf tp v u ts' n⟩
  · rw [hw]
    obtain ⟨it, t0, t1, t2, ln, e1, rest, nf, tp, ob, oc, ts, n⟩ := x
    obtain ⟨it, rfl⟩ : ∃ k, it = k + 171 := ⟨it - 171, by have : 171 ≤ it := Nat.le_of_ble_eq_true hx; omega⟩
    exact loopLB w b1 b2 b3 loc cw ca cb cc dd it hl n0 n1 n2 p h1 h2 hp (n1 + 1) 0 (by omega) ents I t0 t1 t2 ln e1 rest nf tp ob oc ts n (fun h => absurd h (Nat.succ_ne_zero _))
noncomputable def cLA (P : Params) (a : AdW) (it : Nat) : Code := .forLoop (forTarget (forWA P)) (.ref it) (forBody (forWA P)) (forElse (forWA P)) (envW P a)
noncomputable def linLA (a : AdW) (it : Nat) (hp : Obj) (e1 : Ky) (hl : Nat) (rest : Option (Ky × Ky × PySem.Value × PySem.Value)) (nf : Nat) (oa ob oc : Option PySem.Value) (ents : List (Nat × Nat)) (ts : List Nat) (n x left : Nat) : Led :=
  [(hl, hp), (a.loc, locF e1 hl rest nf), (a.d, dictW ents ts n), (a.cw, cellO (.ref a.d)), (a.ca, cellE oa), (a.cb, cellE ob), (a.cc, cellE oc), (it, rangeIt x left)]
noncomputable def hkLA (P : Params) (a : AdW) (hl n0 n1 n2 p left : Nat) (ents ents' : List (Nat × Nat)) (ts : List Nat) : HookT := hook2 (hookRNext p left) (hook2 (hookRIter (n1 + 1)) (hookLB P a hl n0 n1 n2 p ents ents' ts))
noncomputable def linLAT (a : AdW) (it hl n0 n1 n2 : Nat) (ents : List (Nat × Nat)) (x left : Nat) : LinT := fun os gh =>
  linLA a it (heapsO n0 n1 n2 (tokV (seqAt (oAt os 0) 0)) (tokV (seqAt (oAt os 0) 1)) (tokV (seqAt (oAt os 0) 2)) (seqN (oAt os 0))) (kyAt (oAt os 1) 0) hl (restOf (oAt os 1)) (dictN (oAt os 1)) (some (.int (Nat.pred x : Nat) (cellTok (oAt os 4)))) (some (cellX (oAt os 5))) (some (cellX (oAt os 6))) ents (tsG gh) (dictN (oAt os 2)) x left
noncomputable def obLA (w : World) (b1 b2 b3 : Bool) (a : AdW) (it : Nat) (n0 n1 n2 t0 t1 t2 ln : Nat) (e1 : Ky) (hl : Nat) (rest : Option (Ky × Ky × PySem.Value × PySem.Value)) (nf : Nat) (oa ob oc : Option PySem.Value) (ents ents' : List (Nat × Nat)) (ts : List Nat) (n p left : Nat) (d : Drawn) (os : OsState) (h : Heap) (N T : Nat) (gl : List GenState) (R : Result → Shared → Prop) : Ob :=
  sim (V2 (WB w b1 b2 b3) h d os 335 40 ((linLA a it (heapsO n0 n1 n2 t0 t1 t2 ln) e1 hl rest nf oa ob oc ents ts n p (left + 1)).map (·.1)) R noFin (hkLA (WB w b1 b2 b3).params a hl n0 n1 n2 p left ents ents' ts) (tlT (cLA (WB w b1 b2 b3).params a it) (asLB a it hl) (linLAT a it hl n0 n1 n2 ents' (p + 1) left) gl)) 1000
    (cLA (WB w b1 b2 b3).params a it) none .base (goF (cLA (WB w b1 b2 b3).params a it) (Bn 335 40)) (linLA a it (heapsO n0 n1 n2 t0 t1 t2 ln) e1 hl rest nf oa ob oc ents ts n p (left + 1)) (N + 171) (T + 2349) 0 gl []
noncomputable def obLAE (w : World) (b1 b2 b3 : Bool) (a : AdW) (it : Nat) (n0 n1 n2 t0 t1 t2 ln : Nat) (e1 : Ky) (hl : Nat) (rest : Option (Ky × Ky × PySem.Value × PySem.Value)) (nf : Nat) (oa ob oc : Option PySem.Value) (ents : List (Nat × Nat)) (ts : List Nat) (n p : Nat) (d : Drawn) (os : OsState) (h : Heap) (N T : Nat) (gl : List GenState) (R : Result → Shared → Prop) : Ob :=
  sim (V2 (WB w b1 b2 b3) h d os 335 40 ((linLA a it (heapsO n0 n1 n2 t0 t1 t2 ln) e1 hl rest nf oa ob oc ents ts n p 0).map (·.1)) R (fnT [] (fun _ _ => linLA a it (heapsO n0 n1 n2 t0 t1 t2 ln) e1 hl rest nf oa ob oc ents ts n p 0) gl) noHook noTail) 1000
    (cLA (WB w b1 b2 b3).params a it) none .base (goF (cLA (WB w b1 b2 b3).params a it) (Bn 335 40)) (linLA a it (heapsO n0 n1 n2 t0 t1 t2 ln) e1 hl rest nf oa ob oc ents ts n p 0) (N + 171) (T + 2349) 0 gl []
end Mine
end
-- part F12m
section
namespace Mine
noncomputable def hLA : List Nat := [8, 1, 8, 5, 5, 0, 0, 2, 1, 1, 1, 0, 1, 0, 1, 0, 0, 0, 0, 0, 0, 1, 1, 0, 1, 0, 1, 1, 1, 2, 1, 1, 3, 3, 4, 5, 7, 8, 9, 3, 3, 3, 3, 3, 3, 3, 1, 1, 1, 2, 3, 4, 5, 6, 7, 10, 1, 2, 3, 4, 5, 6, 7, 10]
section
variable (w : World) (b1 b2 b3 : Bool) (loc cw ca cb cc dd it hl n0 n1 n2 t0 t1 t2 ln : Nat) (e1 e2 e3 : Ky) (rv lv : PySem.Value) (rest : Option (Ky × Ky × PySem.Value × PySem.Value)) (nf : Nat) (oa ob oc : Option PySem.Value) (ents ents' : List (Nat × Nat)) (ts : List Nat) (n p left : Nat) (d : Drawn) (os : OsState) (h : Heap) (N T : Nat) (gl : List GenState) (R : Result → Shared → Prop)
theorem ckLA0 : lft (obLA w b1 b2 b3 (AdW.up ⟨loc, cw, ca, cb, cc, dd⟩) (it + 171) n0 n1 n2 t0 t1 t2 ln e1 (hl + 171) none nf oa ob oc ents ents' ts n p left d os h N T gl R) hLA = rgt (obLA w b1 b2 b3 (AdW.up ⟨loc, cw, ca, cb, cc, dd⟩) (it + 171) n0 n1 n2 t0 t1 t2 ln e1 (hl + 171) none nf oa ob oc ents ents' ts n p left d os h N T gl R) hLA := by cases b1 <;> kernel_rfl
theorem ckLA1 : lft (obLA w b1 b2 b3 (AdW.up ⟨loc, cw, ca, cb, cc, dd⟩) (it + 171) n0 n1 n2 t0 t1 t2 ln e1 (hl + 171) (some (e2, e3, rv, lv)) nf oa ob oc ents ents' ts n p left d os h N T gl R) hLA = rgt (obLA w b1 b2 b3 (AdW.up ⟨loc, cw, ca, cb, cc, dd⟩) (it + 171) n0 n1 n2 t0 t1 t2 ln e1 (hl + 171) (some (e2, e3, rv, lv)) nf oa ob oc ents ents' ts n p left d os h N T gl R) hLA := by cases b1 <;> kernel_rfl
theorem ckLAE : lft (obLAE w b1 b2 b3 (AdW.up ⟨loc, cw, ca, cb, cc, dd⟩) (it + 171) n0 n1 n2 t0 t1 t2 ln e1 (hl + 171) rest nf oa ob oc ents ts n p d os h N T gl R) hLBE = rgt (obLAE w b1 b2 b3 (AdW.up ⟨loc, cw, ca, cb, cc, dd⟩) (it + 171) n0 n1 n2 t0 t1 t2 ln e1 (hl + 171) rest nf oa ob oc ents ts n p d os h N T gl R) hLBE := by cases b1 <;> kernel_rfl
theorem gLAE : good (obLAE w b1 b2 b3 (AdW.up ⟨loc, cw, ca, cb, cc, dd⟩) (it + 171) n0 n1 n2 t0 t1 t2 ln e1 (hl + 171) rest nf oa ob oc ents ts n p d os h N T gl R) := good_of _ _ (ckLAE w b1 b2 b3 loc cw ca cb cc dd it hl n0 n1 n2 t0 t1 t2 ln e1 rest nf oa ob oc ents ts n p d os h N T gl R)
theorem gLA : good (obLA w b1 b2 b3 (AdW.up ⟨loc, cw, ca, cb, cc, dd⟩) (it + 171) n0 n1 n2 t0 t1 t2 ln e1 (hl + 171) rest nf oa ob oc ents ents' ts n p left d os h N T gl R) := by
  rcases rest with _ | ⟨e2, e3, rv, lv⟩
  · exact good_of _ _ (ckLA0 w b1 b2 b3 loc cw ca cb cc dd it hl n0 n1 n2 t0 t1 t2 ln e1 nf oa ob oc ents ents' ts n p left d os h N T gl R)
  · exact good_of _ _ (ckLA1 w b1 b2 b3 loc cw ca cb cc dd it hl n0 n1 n2 t0 t1 t2 ln e1 e2 e3 rv lv nf oa ob oc ents ents' ts n p left d os h N T gl R)
end
theorem linLA_keys (a : AdW) (it : Nat) (hp : Obj) (e1 : Ky) (hl : Nat) (rest : Option (Ky × Ky × PySem.Value × PySem.Value)) (nf : Nat) (oa ob oc : Option PySem.Value) (ents : List (Nat × Nat)) (ts : List Nat) (n x left : Nat) : (linLA a it hp e1 hl rest nf oa ob oc ents ts n x left).map (·.1) = asLB a it hl := rfl
/-- the columns of the table -/
noncomputable def entA (n1 n2 : Nat) (ents : List (Nat × Nat)) (p : Nat) : Nat → List (Nat × Nat)
  | 0 => ents
  | left + 1 => entA n1 n2 (entB p n2 ents 0 (n1 + 1)) (p + 1) left
theorem Inv.cols {n1 n2 : Nat} (h1 : n1 ≤ 4) (h2 : n2 ≤ 4) : ∀ (left p : Nat) (ents : List (Nat × Nat)), p + left ≤ 5 → Inv n1 n2 p 0 0 ents → Inv n1 n2 (p + left) 0 0 (entA n1 n2 ents p left)
  | 0, p, ents, e, I => I
  | left + 1, p, ents, e, I => by
    have z := Inv.cols h1 h2 left (p + 1) _ (by omega) ((Inv.rows h1 h2 (by omega) (n1 + 1) 0 ents (by omega) I).nextA h1)
    rw [show p + (left + 1) = p + 1 + left by omega]
    exact z
noncomputable def PLA (a : AdW) (it hl n0 n1 n2 p' : Nat) (ents' : List (Nat × Nat)) (rr : Result) (Lo : Led) : Prop :=
  rr = .ok .next ∧ ∃ t0 t1 t2 ln e1 r4 nf v v1 u ts n, Lo = linLA a it (heapsO n0 n1 n2 t0 t1 t2 ln) e1 hl (some r4) nf (some v) (some v1) (some u) ents' ts n p' 0
theorem loopLA (w : World) (b1 b2 b3 : Bool) (loc cw ca cb cc dd it hl n0 n1 n2 : Nat) (h1 : n1 ≤ 4) (h2 : n2 ≤ 4) : ∀ (left p : Nat) (_ : p + left ≤ 5) (ents : List (Nat × Nat)) (_ : Inv n1 n2 p 0 0 ents) (t0 t1 t2 ln : Nat) (e1 : Ky) (rest : Option (Ky × Ky × PySem.Value × PySem.Value)) (nf : Nat) (oa ob oc : Option PySem.Value) (ts : List Nat) (n : Nat) (_ : left = 0 → rest.isSome = true ∧ oa.isSome = true ∧ ob.isSome = true ∧ oc.isSome = true),
    Tri (WB w b1 b2 b3) 335 40 (cLA (WB w b1 b2 b3).params (AdW.up ⟨loc, cw, ca, cb, cc, dd⟩) (it + 171)) (linLA (AdW.up ⟨loc, cw, ca, cb, cc, dd⟩) (it + 171) (heapsO n0 n1 n2 t0 t1 t2 ln) e1 (hl + 171) rest nf oa ob oc ents ts n p left) (PLA (AdW.up ⟨loc, cw, ca, cb, cc, dd⟩) (it + 171) (hl + 171) n0 n1 n2 (p + left) (entA n1 n2 ents p left))
  | 0, p, hq, ents, I, t0, t1, t2, ln, e1, rest, nf, oa, ob, oc, ts, n, hz => by
    have z := tri_end (W := WB w b1 b2 b3) (n := 335) (u := 40) (m := 1000) (c := cLA (WB w b1 b2 b3).params (AdW.up ⟨loc, cw, ca, cb, cc, dd⟩) (it + 171)) (Lin := linLA (AdW.up ⟨loc, cw, ca, cb, cc, dd⟩) (it + 171) (heapsO n0 n1 n2 t0 t1 t2 ln) e1 (hl + 171) rest nf oa ob oc ents ts n p 0) (hook := noHook) (as := []) (lin := fun _ _ => linLA (AdW.up ⟨loc, cw, ca, cb, cc, dd⟩) (it + 171) (heapsO n0 n1 n2 t0 t1 t2 ln) e1 (hl + 171) rest nf oa ob oc ents ts n p 0) (fun V _ _ => noHook_ok V) (fun hn _ _ => hn)
      (fun d os h N T gl R => by have g := gLAE w b1 b2 b3 loc cw ca cb cc dd it hl n0 n1 n2 t0 t1 t2 ln e1 rest nf oa ob oc ents ts n p d os h N T gl R; unfold obLAE at g; exact g)
    obtain ⟨h3, h6, h4, h5⟩ := hz rfl
    obtain ⟨r4, rfl⟩ := Option.isSome_iff_exists.mp h3
    obtain ⟨v0, rfl⟩ := Option.isSome_iff_exists.mp h6
    obtain ⟨v, rfl⟩ := Option.isSome_iff_exists.mp h4
    obtain ⟨u, rfl⟩ := Option.isSome_iff_exists.mp h5
    exact z.mono fun rr Lo ⟨h1, _, _, h2⟩ => ⟨h1, t0, t1, t2, ln, e1, r4, nf, v0, v, u, ts, n, h2⟩
  | left + 1, p, hq, ents, I, t0, t1, t2, ln, e1, rest, nf, oa, ob, oc, ts, n, _ => by
    refine tri_turn (W := WB w b1 b2 b3) (n := 335) (u := 40) (m := 1000) (c := cLA (WB w b1 b2 b3).params (AdW.up ⟨loc, cw, ca, cb, cc, dd⟩) (it + 171)) (c₁ := cLA (WB w b1 b2 b3).params (AdW.up ⟨loc, cw, ca, cb, cc, dd⟩) (it + 171)) (Lin := linLA (AdW.up ⟨loc, cw, ca, cb, cc, dd⟩) (it + 171) (heapsO n0 n1 n2 t0 t1 t2 ln) e1 (hl + 171) rest nf oa ob oc ents ts n p (left + 1)) (as := asLB (AdW.up ⟨loc, cw, ca, cb, cc, dd⟩) (it + 171) (hl + 171)) (lin := linLAT (AdW.up ⟨loc, cw, ca, cb, cc, dd⟩) (it + 171) (hl + 171) n0 n1 n2 (entB p n2 ents 0 (n1 + 1)) (p + 1) left)
      (hook := hkLA (WB w b1 b2 b3).params (AdW.up ⟨loc, cw, ca, cb, cc, dd⟩) (hl + 171) n0 n1 n2 p left ents (entB p n2 ents 0 (n1 + 1)) ts)
      (fun V S hw => hook2_ok hookRNext_ok (hook2_ok (hookRIter_ok S (small_line (by omega))) (hookLB_ok S hw I h1 h2 (by omega)))) (fun _ _ => by simp only [linLAT, linLA_keys])
      (fun d os h N T gl R => by have g := gLA w b1 b2 b3 loc cw ca cb cc dd it hl n0 n1 n2 t0 t1 t2 ln e1 rest nf oa ob oc ents (entB p n2 ents 0 (n1 + 1)) ts n p left d os h N T gl R; unfold obLA at g; exact g) fun os gh => ?_
    rw [show p + (left + 1) = p + 1 + left by omega]
    exact loopLA w b1 b2 b3 loc cw ca cb cc dd it hl n0 n1 n2 h1 h2 left (p + 1) (by omega) _ ((Inv.rows h1 h2 (by omega) (n1 + 1) 0 ents (by omega) I).nextA h1) _ _ _ _ _ _ _ _ _ _ _ _ (fun _ => ⟨rfl, rfl, rfl, rfl⟩)
end Mine
end
-- part F12n
section
namespace Mine
/-! the function of the worths, whole -/
structure XLA where
  (loc cw ca cb cc dd it t0 t1 t2 ln : Nat) (e1 : Ky) (rest : Option (Ky × Ky × PySem.Value × PySem.Value)) (nf : Nat) (oa ob oc : Option PySem.Value) (ts : List Nat) (n : Nat)
noncomputable def cellAt (l : List (Str × Nat)) (k : Nat) : Nat := match l, k with
  | [], _ => 0
  | x :: _, 0 => x.2
  | _ :: r, k + 1 => cellAt r k
noncomputable def adOf (x : XLA) : AdW := ⟨x.loc, x.cw, x.ca, x.cb, x.cc, x.dd⟩
noncomputable def hookLA (P : Params) (hl n0 n1 n2 : Nat) (ents' : List (Nat × Nat)) : HookT :=
  hookTri (X := XLA) 335 40 (fun c L _ k => match c with
    | .forLoop _ (.ref it) _ _ env => gets L [hl, env.locals, cellAt env.cells 3, cellAt env.cells 2, cellAt env.cells 1, cellAt env.cells 0] fun os => gets L [nAt (cellX (oAt os 2))] fun os2 =>
      k ⟨env.locals, cellAt env.cells 3, cellAt env.cells 2, cellAt env.cells 1, cellAt env.cells 0, nAt (cellX (oAt os 2)), it, tokV (seqAt (oAt os 0) 0), tokV (seqAt (oAt os 0) 1), tokV (seqAt (oAt os 0) 2), seqN (oAt os 0), kyAt (oAt os 1) 0, restO (oAt os 1), dictN (oAt os 1), cellV (oAt os 3), cellV (oAt os 4), cellV (oAt os 5), [], dictN (oAt os2 0)⟩
    | _ => .bad 412 0)
    (fun x => cLA P (adOf x) x.it) (fun x => linLA (adOf x) x.it (heapsO n0 n1 n2 x.t0 x.t1 x.t2 x.ln) x.e1 hl x.rest x.nf x.oa x.ob x.oc [] x.ts x.n 0 (n0 + 1))
    (fun x => Nat.ble 171 x.it && (Nat.ble 171 x.loc && (Nat.ble 171 x.cw && (Nat.ble 171 x.ca && (Nat.ble 171 x.cb && (Nat.ble 171 x.cc && Nat.ble 171 x.dd))))))
    (fun x k => .allN fun t0 => .allN fun t1 => .allN fun t2 => .allN fun ln => .allI fun h1 => .allN fun k1 => .allI fun h2 => .allN fun k2 => .allI fun h3 => .allN fun k3 => .allV fun rv => .allV fun lv => .allN fun nf => .allV fun v => .allV fun v1 => .allV fun u => .allL fun ts' => .allN fun n =>
      k (.ok .next) (linLA (adOf x) x.it (heapsO n0 n1 n2 t0 t1 t2 ln) (h1, k1) hl (some ((h2, k2), (h3, k3), rv, lv)) nf (some v) (some v1) (some u) ents' ts' n (n0 + 1) 0) [.str ⟨⟨ts'⟩⟩ 0])
theorem hookLA_ok {V : Ev} (S : V.Std) {w : World} {b1 b2 b3 : Bool} (hw : V.w = WB w b1 b2 b3) {hl : Nat} {n0 n1 n2 : Nat} (h0 : n0 ≤ 4) (h1 : n1 ≤ 4) (h2 : n2 ≤ 4) :
    HookOk V (hookLA (WB w b1 b2 b3).params (hl + 171) n0 n1 n2 (entA n1 n2 [] 0 (n0 + 1))) := by
  refine hookTri_ok S (fun x r' Lo => PLA (adOf x) x.it (hl + 171) n0 n1 n2 (0 + (n0 + 1)) (entA n1 n2 [] 0 (n0 + 1)) r' Lo) (fun c L gh k H => ?_) (fun x k r' Lo hP H => ?_) (fun x hx => ?_)
  · split at H
    · obtain ⟨os, H⟩ := gets_of H
      obtain ⟨os2, H⟩ := gets_of H
      exact ⟨_, H⟩
    · cases H
  · obtain ⟨rfl, t0, t1, t2, ln, e1, ⟨e2, e3, rv, lv⟩, nf, v, v1, u, ts', n, rfl⟩ := hP
    refine ⟨[.str ⟨⟨ts'⟩⟩ 0], ?_⟩
    rw [Nat.zero_add]
    exact H t0 t1 t2 ln e1.1 e1.2 e2.1 e2.2 e3.1 e3.2 rv lv nf v v1 u ts' n
  · rw [hw]
    obtain ⟨loc, cw, ca, cb, cc, dd, it, t0, t1, t2, ln, e1, rest, nf, oa, ob, oc, ts, n⟩ := x
    obtain ⟨g1, hx⟩ := Bool.and_eq_true_iff.mp hx
    obtain ⟨g2, hx⟩ := Bool.and_eq_true_iff.mp hx
    obtain ⟨g3, hx⟩ := Bool.and_eq_true_iff.mp hx
    obtain ⟨g4, hx⟩ := Bool.and_eq_true_iff.mp hx
    obtain ⟨g5, hx⟩ := Bool.and_eq_true_iff.mp hx
    obtain ⟨g6, g7⟩ := Bool.and_eq_true_iff.mp hx
    have g1 : 171 ≤ it := Nat.le_of_ble_eq_true g1
    have g2 : 171 ≤ loc := Nat.le_of_ble_eq_true g2
    have g3 : 171 ≤ cw := Nat.le_of_ble_eq_true g3
    have g4 : 171 ≤ ca := Nat.le_of_ble_eq_true g4
    have g5 : 171 ≤ cb := Nat.le_of_ble_eq_true g5
    have g6 : 171 ≤ cc := Nat.le_of_ble_eq_true g6
    have g7 : 171 ≤ dd := Nat.le_of_ble_eq_true g7
    obtain ⟨it, rfl⟩ : ∃ k, it = k + 171 := ⟨it - 171, by omega⟩
    obtain ⟨loc, rfl⟩ : ∃ k, loc = k + 171 := ⟨loc - 171, by omega⟩
    obtain ⟨cw, rfl⟩ : ∃ k, cw = k + 171 := ⟨cw - 171, by omega⟩
    obtain ⟨ca, rfl⟩ : ∃ k, ca = k + 171 := ⟨ca - 171, by omega⟩
    obtain ⟨cb, rfl⟩ : ∃ k, cb = k + 171 := ⟨cb - 171, by omega⟩
    obtain ⟨cc, rfl⟩ : ∃ k, cc = k + 171 := ⟨cc - 171, by omega⟩
    obtain ⟨dd, rfl⟩ : ∃ k, dd = k + 171 := ⟨dd - 171, by omega⟩
    exact loopLA w b1 b2 b3 loc cw ca cb cc dd it hl n0 n1 n2 h1 h2 (n0 + 1) 0 (by omega) [] (Inv.zero n1 n2) t0 t1 t2 ln e1 rest nf oa ob oc ts n (fun h => absurd h (Nat.succ_ne_zero _))
noncomputable def c12 (hl : Nat) : Code := .call (.ref 158) ⟨[.ref hl], []⟩
noncomputable def rAt (v : PySem.Value) : Nat := nAt v
/-- the dict is given back -/
noncomputable def fn12 (hl n0 n1 n2 : Nat) (ents' : List (Nat × Nat)) (gl₀ : List GenState) : Result → Cont := fun r L _ _ _ gl gh => match r with
  | .ok fl => match fl with
    | .ret v => .eqV v (.ref (nAt v)) (.eqG gl gl₀ (gets L [hl, nAt v] fun os => pickL L [(hl, heapsO n0 n1 n2 (tokV (seqAt (oAt os 0) 0)) (tokV (seqAt (oAt os 0) 1)) (tokV (seqAt (oAt os 0) 2)) (seqN (oAt os 0))), (nAt v, dictW ents' (tsG gh) (dictN (oAt os 1)))] fun _ => .ok))
    | _ => .bad 413 0
  | .error _ => .bad 414 0
noncomputable def ob12 (w : World) (b1 b2 b3 : Bool) (hl n0 n1 n2 t0 t1 t2 ln : Nat) (ents' : List (Nat × Nat)) (d : Drawn) (os : OsState) (h : Heap) (N T : Nat) (gl : List GenState) (R : Result → Shared → Prop) : Ob :=
  sim (V2 (WB w b1 b2 b3) h d os 320 35 [hl] R (fn12 hl n0 n1 n2 ents' gl) (hook2 (hookRIter (n0 + 1)) (hookLA (WB w b1 b2 b3).params hl n0 n1 n2 ents')) noTail) 1000
    (c12 hl) none .base (goF (c12 hl) (Bn 320 35)) [(hl, heapsO n0 n1 n2 t0 t1 t2 ln)] (N + 171) (T + 2349) 0 gl []
end Mine
end
-- part F12o
section
namespace Mine
noncomputable def h12 : List Nat := [0, 0, 5, 5, 0, 0, 5, 5, 0, 0, 6, 7, 7, 7, 0, 7, 0, 7, 0, 0, 0, 0, 0, 0, 1, 1, 0, 1, 0, 1, 1, 1, 1, 1, 1, 2, 9, 8, 7, 6, 5, 4, 3, 9, 8, 3, 6, 5, 4, 3, 1, 4, 1, 3, 1, 2]
theorem ck12 (w : World) (b1 b2 b3 : Bool) (hl n0 n1 n2 t0 t1 t2 ln : Nat) (ents' : List (Nat × Nat)) (d : Drawn) (os : OsState) (h : Heap) (N T : Nat) (gl : List GenState) (R : Result → Shared → Prop) :
    lft (ob12 w b1 b2 b3 (hl + 171) n0 n1 n2 t0 t1 t2 ln ents' d os h N T gl R) h12 = rgt (ob12 w b1 b2 b3 (hl + 171) n0 n1 n2 t0 t1 t2 ln ents' d os h N T gl R) h12 := by cases b1 <;> kernel_rfl
noncomputable def P12 (hl n0 n1 n2 : Nat) (r : Result) (Lo : Led) : Prop := ∃ dd t0 t1 t2 ln ts n, r = .ok (.ret (.ref dd)) ∧ Lo = [(hl, heapsO n0 n1 n2 t0 t1 t2 ln), (dd, dictW (entA n1 n2 [] 0 (n0 + 1)) ts n)]
theorem worths (w : World) (b1 b2 b3 : Bool) (hl n0 n1 n2 t0 t1 t2 ln : Nat) (h0 : n0 ≤ 4) (h1 : n1 ≤ 4) (h2 : n2 ≤ 4) : Tri (WB w b1 b2 b3) 320 35 (c12 (hl + 171)) [(hl + 171, heapsO n0 n1 n2 t0 t1 t2 ln)] (P12 (hl + 171) n0 n1 n2) := fun d os h N T gl F I => by
  let V := V2 (WB w b1 b2 b3) h d os 320 35 [hl + 171] (After (WB w b1 b2 b3) gl d os h N [(hl + 171, heapsO n0 n1 n2 t0 t1 t2 ln)] (P12 (hl + 171) n0 n1 n2)) (fn12 (hl + 171) n0 n1 n2 (entA n1 n2 [] 0 (n0 + 1)) gl) (hook2 (hookRIter (n0 + 1)) (hookLA (WB w b1 b2 b3).params (hl + 171) n0 n1 n2 (entA n1 n2 [] 0 (n0 + 1)))) noTail
  have S : V.Std := V2_std
  have O : V.Ok := V2_ok (fun r L sz tb i gl' gh h' H D => by
    unfold fn12 at H
    split at H
    · split at H
      · rename_i v
        obtain ⟨ev, H⟩ := eqV_of H
        obtain ⟨eg, H2⟩ := eqG_of H
        subst eg
        obtain ⟨xs, H⟩ := gets_of H2
        obtain ⟨rest, hp, -⟩ := pickL_of H
        have hn := (hp.map (·.1)).nodup_iff.mp D.nodup
        rw [List.map_append] at hn
        exact after_of (V := V) S F rfl D (fun y hy => hp.mem_iff.mpr (List.mem_append.mpr (.inl hy))) (List.nodup_append.mp hn).1 ⟨nAt v, _, _, _, _, _, _, by rw [← ev], rfl⟩
      · cases H
    · cases H) (hook2_ok (hookRIter_ok S (small_line (by omega))) (hookLA_ok S rfl h0 h1 h2)) (fun _ _ _ _ _ _ _ _ _ H _ => by cases H)
  have g := good_of _ _ (ck12 w b1 b2 b3 hl n0 n1 n2 t0 t1 t2 ln (entA n1 n2 [] 0 (n0 + 1)) d os h N T gl (After (WB w b1 b2 b3) gl d os h N [(hl + 171, heapsO n0 n1 n2 t0 t1 t2 ln)] (P12 (hl + 171) n0 n1 n2)))
  unfold ob12 at g
  have z := sim_sound (V := V) O 1000 _ none .base _ _ _ _ _ _ _ h g (Rp.startL (V := V) S F I rfl)
  exact y_code _ _ _ _ _ _ (O.go _ _ _ _ _ z)
end Mine
end
-- part Hooks10
section
namespace Mine
theorem hookEq_ok {V : Ev} (a b : Int) {v : Bool} (hv : (a == b) = v) : HookOk V (hookV2 "int.__eq__" (fun t => .int a t) (fun t => .int b t) (.bool v)) :=
  hookV2_ok fun t u A s Q hq => call_meets PySem.F.slot_int_eq (typeIs_int _ _ _) PySem.F.entry_int_eq (PySem.F.args_int_eq_2 _ _) (gives_int_eq a b t u).meets (by rw [hv]; exact hq)
/-- a quotient of two numbers -/
noncomputable def hookDiv (a b r : Nat) : HookT := fun _ c _ cont L sz tb i gl gh => .eqC c (.call (.builtin "int.__floordiv__") ⟨[.int (a : Int) (argTok c), .int (b : Int) (argTok2 c)], []⟩)
  (cont (.ok (.ret (.int (r : Int) (tb + i)))) L sz tb (i + 1) gl gh)
theorem hookDiv_ok {V : Ev} {a b r : Nat} (h0 : ¬ ((b : Int) == 0) = true) (h1 : ¬ (Builtin.divisionGoesByPylong (a : Int) (b : Int)) = true) (hr : (a : Int).fdiv (b : Int) = r) : HookOk V (hookDiv a b r) := by
  intro j c A g l cont L sz tb i gl gh h H D
  obtain ⟨ec, H⟩ := eqC_of H
  rw [ec]
  refine hook_call (call_meets PySem.F.slot_int_floordiv (typeIs_int _ _ _) PySem.F.entry_int_floordiv (PySem.F.args_int_floordiv_2 _ _) (AutoIntG4.int___floordiv___int_int_1 (a : Int) (argTok c) (b : Int) (argTok2 c) h0 h1).meets ?_)
  rw [hr]
  exact ⟨L, sz, tb, i + 1, gl, gh, h, rfl, D, H⟩
/-- a difference of two numbers -/
noncomputable def hookSub (a b : Int) (r : Nat) : HookT := fun _ c _ cont L sz tb i gl gh => .eqC c (.call (.builtin "int.__sub__") ⟨[.int a (argTok c), .int b (argTok2 c)], []⟩)
  (cont (.ok (.ret (.int (r : Int) (tb + i)))) L sz tb (i + 1) gl gh)
theorem hookSub_ok {V : Ev} {a b : Int} {r : Nat} (hr : a - b = r) : HookOk V (hookSub a b r) := by
  intro j c A g l cont L sz tb i gl gh h H D
  obtain ⟨ec, H⟩ := eqC_of H
  rw [ec]
  refine hook_call (call_meets PySem.F.slot_int_sub (typeIs_int _ _ _) PySem.F.entry_int_sub (PySem.F.args_int_sub_2 _ _) (AutoIntG9.int___sub___int_int_0 a (argTok c) b (argTok2 c)).meets ?_)
  rw [hr]
  exact ⟨L, sz, tb, i + 1, gl, gh, h, rfl, D, H⟩
end Mine
end
-- part F13a
section
namespace Mine
/-! what is left of the text: the loop's code and objects -/
noncomputable def sWorth : Str := ⟨⟨[119, 111, 114, 116, 104]⟩⟩
noncomputable def sPower : Str := ⟨⟨[112, 111, 119, 101, 114]⟩⟩
noncomputable def sLeft : Str := ⟨⟨[108, 101, 102, 116]⟩⟩
noncomputable def sRun : Str := ⟨⟨[114, 117, 110]⟩⟩
noncomputable def forL (P : Params) : Stmt := stmtAt (bodyOf (fdAt P 165)) 1
noncomputable def envL (P : Params) (loc : Nat) : Env := { scope := (fdAt P 165).scope, locals := loc, globals := 3, cells := [], qual := Str.ofString "_law_left.<locals>.", func := some 165, code := .ref 164, frame := some loc, builtins := 0 }
noncomputable def cLL (P : Params) (loc it : Nat) : Code := .forLoop (forTarget (forL P)) (.ref it) (forBody (forL P)) (forElse (forL P)) (envL P loc)
noncomputable def locL (e1 e2 e3 e4 : Ky) (hl wl p tp : Nat) (x : List Nat) (tl : Nat) (r : Option (Ky × Ky × PySem.Value × PySem.Value)) (n : Nat) : Obj := match r with
  | none => localsObj [ky e1 sHeaps (.ref hl), ky e2 sWorth (.ref wl), ky e3 sPower (.int (p : Int) tp), ky e4 sLeft (.str ⟨⟨120 :: x⟩⟩ tl)] n
  | some (e5, e6, v5, v6) => localsObj [ky e1 sHeaps (.ref hl), ky e2 sWorth (.ref wl), ky e3 sPower (.int (p : Int) tp), ky e4 sLeft (.str ⟨⟨120 :: x⟩⟩ tl), ky e5 sK v5, ky e6 sRun v6] n
noncomputable def worthO (w0 w1 w2 w3 u0 u1 u2 u3 ln : Nat) : Obj := listObj ⟨[.int (w0 : Int) u0, .int (w1 : Int) u1, .int (w2 : Int) u2, .int (w3 : Int) u3]⟩ ln
noncomputable def linLL (loc it hl wl : Nat) (hp wo : Obj) (lo : Obj) (k left : Nat) : Led := [(loc, lo), (it, rangeIt k left), (hl, hp), (wl, wo)]
noncomputable def nAt3 (n0 n1 n2 : Nat) (k : Nat) : Nat := match k with
  | 0 => n0
  | 1 => n1
  | _ => n2
noncomputable def wAt (w0 w1 w2 w3 : Nat) (k : Nat) : Nat := match k with
  | 0 => w0
  | 1 => w1
  | 2 => w2
  | _ => w3
/-- what a turn writes -/
noncomputable def putQ (run : Nat) (c1 : Bool) : List Nat := match c1 with
  | true => List.replicate run 92 ++ List.replicate (run % 2) 34
  | false => []
noncomputable def putL (k : Nat) (c2 : Bool) : List Nat := match c2 with
  | true => [97 + k]
  | false => []
noncomputable def app (x y : List Nat) : List Nat := match y with
  | [] => x
  | b :: r => x ++ b :: r
theorem app_eq (x y : List Nat) : app x y = x ++ y := by cases y <;> simp [app]
noncomputable def hookAddE (x y : List Nat) : HookT := match y with
  | [] => noHook
  | b :: r => hookAdd x (b :: r)
theorem hookAddE_ok {V : Ev} {x y : List Nat} (hx : x ≠ []) (hl : (x ++ y).length ≤ sizeLine) : HookOk V (hookAddE x y) := by
  cases y with
  | nil => exact noHook_ok V
  | cons b r => exact hookAdd_ok hx (by simp) hl
noncomputable def hkLL (x y1 y2 : List Nat) (nk wk wk1 p run q1 q2 : Nat) (c1 c2 : Bool) : HookT :=
  hook2 (hookDiv nk p run) (hook2 (hookDiv wk p q1) (hook2 (hookV2 "int.__eq__" (fun t => .int (Int.fmod (q1 : Int) 2) t) (fun t => .int 1 t) (.bool c1)) (hook2 (hookDiv wk1 p q2) (hook2 (hookV2 "int.__eq__" (fun t => .int (Int.fmod (q2 : Int) 2) t) (fun t => .int 0 t) (.bool c2)) (hook2 (hookAddE (120 :: x) y1) (hookAddE (120 :: (app x y1)) y2))))))
noncomputable def linLLT (loc it hl wl n0 n1 n2 w0 w1 w2 w3 p : Nat) (x : List Nat) (k left : Nat) : LinT := fun os _ =>
  linLL loc it hl wl (heapsO n0 n1 n2 (tokV (seqAt (oAt os 2) 0)) (tokV (seqAt (oAt os 2) 1)) (tokV (seqAt (oAt os 2) 2)) (seqN (oAt os 2))) (worthO w0 w1 w2 w3 (tokV (seqAt (oAt os 3) 0)) (tokV (seqAt (oAt os 3) 1)) (tokV (seqAt (oAt os 3) 2)) (tokV (seqAt (oAt os 3) 3)) (seqN (oAt os 3)))
    (locL (kyAt (oAt os 0) 0) (kyAt (oAt os 0) 1) (kyAt (oAt os 0) 2) (kyAt (oAt os 0) 3) hl wl p (tokV (valAt (oAt os 0) 2)) x (tokV (valAt (oAt os 0) 3)) (some (kyAt (oAt os 0) 4, kyAt (oAt os 0) 5, valAt (oAt os 0) 4, valAt (oAt os 0) 5)) (dictN (oAt os 0))) k left
noncomputable def obLL (w : World) (b1 b2 b3 : Bool) (loc it hl wl n0 n1 n2 t0 t1 t2 ln w0 w1 w2 w3 u0 u1 u2 u3 lm : Nat) (e1 e2 e3 e4 : Ky) (p tp : Nat) (x : List Nat) (tl : Nat) (r : Option (Ky × Ky × PySem.Value × PySem.Value)) (nf k left run q1 q2 : Nat) (c1 c2 : Bool) (d : Drawn) (os : OsState) (h : Heap) (N T : Nat) (gl : List GenState) (R : Result → Shared → Prop) : Ob :=
  sim (V2 (WB w b1 b2 b3) h d os 330 45 ((linLL loc it hl wl (heapsO n0 n1 n2 t0 t1 t2 ln) (worthO w0 w1 w2 w3 u0 u1 u2 u3 lm) (locL e1 e2 e3 e4 hl wl p tp x tl r nf) k (left + 1)).map (·.1)) R noFin (hkLL x (putQ run c1) (putL k c2) (nAt3 n0 n1 n2 k) (wAt w0 w1 w2 w3 k) (wAt w0 w1 w2 w3 (k + 1)) p run q1 q2 c1 c2) (tlT (cLL (WB w b1 b2 b3).params loc it) [loc, it, hl, wl] (linLLT loc it hl wl n0 n1 n2 w0 w1 w2 w3 p (app (app x (putQ run c1)) (putL k c2)) (k + 1) left) gl)) 1000
    (cLL (WB w b1 b2 b3).params loc it) none .base (goF (cLL (WB w b1 b2 b3).params loc it) (Bn 330 45)) (linLL loc it hl wl (heapsO n0 n1 n2 t0 t1 t2 ln) (worthO w0 w1 w2 w3 u0 u1 u2 u3 lm) (locL e1 e2 e3 e4 hl wl p tp x tl r nf) k (left + 1)) (N + 171) (T + 2349) 0 gl []
end Mine
end
-- part F13b
section
namespace Mine
noncomputable def hLL0 : List Nat := [2, 0, 2, 0, 2, 2, 2, 2, 2, 2, 2, 1, 1, 1, 1, 3, 3, 3, 0, 3, 0, 3, 1, 1, 1, 1, 1, 1, 4, 4, 4, 0, 4, 0, 4, 1, 2, 0, 0, 3, 1, 1, 0, 0, 4, 4, 4, 0, 4, 0, 4, 1, 4, 0, 0, 5, 1, 1, 0, 0, 7, 1, 1, 1, 1, 2, 3, 4, 1, 2, 3, 4]
noncomputable def hLL1 : List Nat := [2, 0, 2, 0, 2, 2, 2, 2, 2, 2, 2, 1, 1, 1, 1, 3, 3, 3, 0, 3, 0, 3, 1, 1, 1, 1, 1, 1, 4, 4, 4, 0, 4, 0, 4, 1, 2, 0, 0, 3, 1, 1, 0, 0, 0, 0, 1, 0, 0, 0, 0, 0, 0, 0, 0, 0, 0, 1, 1, 1, 1, 0, 0, 4, 4, 4, 0, 4, 0, 4, 1, 4, 0, 0, 5, 1, 1, 0, 0, 7, 1, 1, 1, 1, 2, 3, 4, 1, 2, 3, 4]
noncomputable def hLL2 : List Nat := [2, 0, 2, 0, 2, 2, 2, 2, 2, 2, 2, 1, 1, 1, 1, 3, 3, 3, 0, 3, 0, 3, 1, 1, 1, 1, 1, 1, 4, 4, 4, 0, 4, 0, 4, 1, 2, 0, 0, 3, 1, 1, 0, 0, 0, 0, 1, 0, 0, 0, 0, 0, 0, 0, 0, 6, 1, 1, 1, 1, 0, 0, 4, 4, 4, 0, 4, 0, 4, 1, 4, 0, 0, 5, 1, 1, 0, 0, 7, 1, 1, 1, 1, 2, 3, 4, 1, 2, 3, 4]
noncomputable def hLL3 : List Nat := [2, 0, 2, 0, 2, 2, 2, 2, 2, 2, 2, 1, 1, 1, 1, 3, 3, 3, 0, 3, 0, 3, 1, 1, 1, 1, 1, 1, 4, 4, 4, 0, 4, 0, 4, 1, 2, 0, 0, 3, 1, 1, 0, 0, 4, 4, 4, 0, 4, 0, 4, 1, 4, 0, 0, 5, 1, 1, 2, 3, 4, 1, 2, 3, 4]
noncomputable def hLL4 : List Nat := [2, 0, 2, 0, 2, 2, 2, 2, 2, 2, 2, 1, 1, 1, 1, 3, 3, 3, 0, 3, 0, 3, 1, 1, 1, 1, 1, 1, 4, 4, 4, 0, 4, 0, 4, 1, 2, 0, 0, 3, 1, 1, 0, 0, 0, 0, 1, 0, 0, 0, 0, 0, 0, 0, 0, 0, 0, 1, 1, 1, 1, 0, 0, 4, 4, 4, 0, 4, 0, 4, 1, 4, 0, 0, 5, 1, 1, 2, 3, 4, 1, 2, 3, 4]
noncomputable def hLL5 : List Nat := [2, 0, 2, 0, 2, 2, 2, 2, 2, 2, 2, 1, 1, 1, 1, 3, 3, 3, 0, 3, 0, 3, 1, 1, 1, 1, 1, 1, 4, 4, 4, 0, 4, 0, 4, 1, 2, 0, 0, 3, 1, 1, 0, 0, 0, 0, 1, 0, 0, 0, 0, 0, 0, 0, 0, 6, 1, 1, 1, 1, 0, 0, 4, 4, 4, 0, 4, 0, 4, 1, 4, 0, 0, 5, 1, 1, 2, 3, 4, 1, 2, 3, 4]
section
variable (w : World) (b1 b2 b3 : Bool) (loc it hl wl n0 n1 n2 t0 t1 t2 ln w0 w1 w2 w3 u0 u1 u2 u3 lm : Nat) (e1 e2 e3 e4 e5 e6 : Ky) (p tp : Nat) (x : List Nat) (tl : Nat) (rv lv : PySem.Value) (nf run q1 q2 : Nat) (d : Drawn) (os : OsState) (h : Heap) (N T : Nat) (gl : List GenState) (R : Result → Shared → Prop)
theorem ckLL0_true_N : lft (obLL w b1 b2 b3 (loc+171) (it+171) (hl+171) (wl+171) n0 n1 n2 t0 t1 t2 ln w0 w1 w2 w3 u0 u1 u2 u3 lm e1 e2 e3 e4 p tp x tl (none) nf 0 2 run q1 q2 false true d os h N T gl R) hLL0 = rgt (obLL w b1 b2 b3 (loc+171) (it+171) (hl+171) (wl+171) n0 n1 n2 t0 t1 t2 ln w0 w1 w2 w3 u0 u1 u2 u3 lm e1 e2 e3 e4 p tp x tl (none) nf 0 2 run q1 q2 false true d os h N T gl R) hLL0 := by cases b1 <;> kernel_rfl
theorem ckLL0_true_0 : lft (obLL w b1 b2 b3 (loc+171) (it+171) (hl+171) (wl+171) n0 n1 n2 t0 t1 t2 ln w0 w1 w2 w3 u0 u1 u2 u3 lm e1 e2 e3 e4 p tp x tl (none) nf 0 2 0 q1 q2 true true d os h N T gl R) hLL1 = rgt (obLL w b1 b2 b3 (loc+171) (it+171) (hl+171) (wl+171) n0 n1 n2 t0 t1 t2 ln w0 w1 w2 w3 u0 u1 u2 u3 lm e1 e2 e3 e4 p tp x tl (none) nf 0 2 0 q1 q2 true true d os h N T gl R) hLL1 := by cases b1 <;> kernel_rfl
theorem ckLL0_true_1 : lft (obLL w b1 b2 b3 (loc+171) (it+171) (hl+171) (wl+171) n0 n1 n2 t0 t1 t2 ln w0 w1 w2 w3 u0 u1 u2 u3 lm e1 e2 e3 e4 p tp x tl (none) nf 0 2 1 q1 q2 true true d os h N T gl R) hLL2 = rgt (obLL w b1 b2 b3 (loc+171) (it+171) (hl+171) (wl+171) n0 n1 n2 t0 t1 t2 ln w0 w1 w2 w3 u0 u1 u2 u3 lm e1 e2 e3 e4 p tp x tl (none) nf 0 2 1 q1 q2 true true d os h N T gl R) hLL2 := by cases b1 <;> kernel_rfl
theorem ckLL0_true_2 : lft (obLL w b1 b2 b3 (loc+171) (it+171) (hl+171) (wl+171) n0 n1 n2 t0 t1 t2 ln w0 w1 w2 w3 u0 u1 u2 u3 lm e1 e2 e3 e4 p tp x tl (none) nf 0 2 2 q1 q2 true true d os h N T gl R) hLL2 = rgt (obLL w b1 b2 b3 (loc+171) (it+171) (hl+171) (wl+171) n0 n1 n2 t0 t1 t2 ln w0 w1 w2 w3 u0 u1 u2 u3 lm e1 e2 e3 e4 p tp x tl (none) nf 0 2 2 q1 q2 true true d os h N T gl R) hLL2 := by cases b1 <;> kernel_rfl
theorem ckLL0_true_3 : lft (obLL w b1 b2 b3 (loc+171) (it+171) (hl+171) (wl+171) n0 n1 n2 t0 t1 t2 ln w0 w1 w2 w3 u0 u1 u2 u3 lm e1 e2 e3 e4 p tp x tl (none) nf 0 2 3 q1 q2 true true d os h N T gl R) hLL2 = rgt (obLL w b1 b2 b3 (loc+171) (it+171) (hl+171) (wl+171) n0 n1 n2 t0 t1 t2 ln w0 w1 w2 w3 u0 u1 u2 u3 lm e1 e2 e3 e4 p tp x tl (none) nf 0 2 3 q1 q2 true true d os h N T gl R) hLL2 := by cases b1 <;> kernel_rfl
theorem ckLL0_true_4 : lft (obLL w b1 b2 b3 (loc+171) (it+171) (hl+171) (wl+171) n0 n1 n2 t0 t1 t2 ln w0 w1 w2 w3 u0 u1 u2 u3 lm e1 e2 e3 e4 p tp x tl (none) nf 0 2 4 q1 q2 true true d os h N T gl R) hLL2 = rgt (obLL w b1 b2 b3 (loc+171) (it+171) (hl+171) (wl+171) n0 n1 n2 t0 t1 t2 ln w0 w1 w2 w3 u0 u1 u2 u3 lm e1 e2 e3 e4 p tp x tl (none) nf 0 2 4 q1 q2 true true d os h N T gl R) hLL2 := by cases b1 <;> kernel_rfl
theorem ckLL0_false_N : lft (obLL w b1 b2 b3 (loc+171) (it+171) (hl+171) (wl+171) n0 n1 n2 t0 t1 t2 ln w0 w1 w2 w3 u0 u1 u2 u3 lm e1 e2 e3 e4 p tp x tl (none) nf 0 2 run q1 q2 false false d os h N T gl R) hLL3 = rgt (obLL w b1 b2 b3 (loc+171) (it+171) (hl+171) (wl+171) n0 n1 n2 t0 t1 t2 ln w0 w1 w2 w3 u0 u1 u2 u3 lm e1 e2 e3 e4 p tp x tl (none) nf 0 2 run q1 q2 false false d os h N T gl R) hLL3 := by cases b1 <;> kernel_rfl
theorem ckLL0_false_0 : lft (obLL w b1 b2 b3 (loc+171) (it+171) (hl+171) (wl+171) n0 n1 n2 t0 t1 t2 ln w0 w1 w2 w3 u0 u1 u2 u3 lm e1 e2 e3 e4 p tp x tl (none) nf 0 2 0 q1 q2 true false d os h N T gl R) hLL4 = rgt (obLL w b1 b2 b3 (loc+171) (it+171) (hl+171) (wl+171) n0 n1 n2 t0 t1 t2 ln w0 w1 w2 w3 u0 u1 u2 u3 lm e1 e2 e3 e4 p tp x tl (none) nf 0 2 0 q1 q2 true false d os h N T gl R) hLL4 := by cases b1 <;> kernel_rfl
theorem ckLL0_false_1 : lft (obLL w b1 b2 b3 (loc+171) (it+171) (hl+171) (wl+171) n0 n1 n2 t0 t1 t2 ln w0 w1 w2 w3 u0 u1 u2 u3 lm e1 e2 e3 e4 p tp x tl (none) nf 0 2 1 q1 q2 true false d os h N T gl R) hLL5 = rgt (obLL w b1 b2 b3 (loc+171) (it+171) (hl+171) (wl+171) n0 n1 n2 t0 t1 t2 ln w0 w1 w2 w3 u0 u1 u2 u3 lm e1 e2 e3 e4 p tp x tl (none) nf 0 2 1 q1 q2 true false d os h N T gl R) hLL5 := by cases b1 <;> kernel_rfl
theorem ckLL0_false_2 : lft (obLL w b1 b2 b3 (loc+171) (it+171) (hl+171) (wl+171) n0 n1 n2 t0 t1 t2 ln w0 w1 w2 w3 u0 u1 u2 u3 lm e1 e2 e3 e4 p tp x tl (none) nf 0 2 2 q1 q2 true false d os h N T gl R) hLL5 = rgt (obLL w b1 b2 b3 (loc+171) (it+171) (hl+171) (wl+171) n0 n1 n2 t0 t1 t2 ln w0 w1 w2 w3 u0 u1 u2 u3 lm e1 e2 e3 e4 p tp x tl (none) nf 0 2 2 q1 q2 true false d os h N T gl R) hLL5 := by cases b1 <;> kernel_rfl
theorem ckLL0_false_3 : lft (obLL w b1 b2 b3 (loc+171) (it+171) (hl+171) (wl+171) n0 n1 n2 t0 t1 t2 ln w0 w1 w2 w3 u0 u1 u2 u3 lm e1 e2 e3 e4 p tp x tl (none) nf 0 2 3 q1 q2 true false d os h N T gl R) hLL5 = rgt (obLL w b1 b2 b3 (loc+171) (it+171) (hl+171) (wl+171) n0 n1 n2 t0 t1 t2 ln w0 w1 w2 w3 u0 u1 u2 u3 lm e1 e2 e3 e4 p tp x tl (none) nf 0 2 3 q1 q2 true false d os h N T gl R) hLL5 := by cases b1 <;> kernel_rfl
theorem ckLL0_false_4 : lft (obLL w b1 b2 b3 (loc+171) (it+171) (hl+171) (wl+171) n0 n1 n2 t0 t1 t2 ln w0 w1 w2 w3 u0 u1 u2 u3 lm e1 e2 e3 e4 p tp x tl (none) nf 0 2 4 q1 q2 true false d os h N T gl R) hLL5 = rgt (obLL w b1 b2 b3 (loc+171) (it+171) (hl+171) (wl+171) n0 n1 n2 t0 t1 t2 ln w0 w1 w2 w3 u0 u1 u2 u3 lm e1 e2 e3 e4 p tp x tl (none) nf 0 2 4 q1 q2 true false d os h N T gl R) hLL5 := by cases b1 <;> kernel_rfl
theorem ckLL1_true_N : lft (obLL w b1 b2 b3 (loc+171) (it+171) (hl+171) (wl+171) n0 n1 n2 t0 t1 t2 ln w0 w1 w2 w3 u0 u1 u2 u3 lm e1 e2 e3 e4 p tp x tl (some (e5, e6, rv, lv)) nf 1 1 run q1 q2 false true d os h N T gl R) hLL0 = rgt (obLL w b1 b2 b3 (loc+171) (it+171) (hl+171) (wl+171) n0 n1 n2 t0 t1 t2 ln w0 w1 w2 w3 u0 u1 u2 u3 lm e1 e2 e3 e4 p tp x tl (some (e5, e6, rv, lv)) nf 1 1 run q1 q2 false true d os h N T gl R) hLL0 := by cases b1 <;> kernel_rfl
theorem ckLL1_true_0 : lft (obLL w b1 b2 b3 (loc+171) (it+171) (hl+171) (wl+171) n0 n1 n2 t0 t1 t2 ln w0 w1 w2 w3 u0 u1 u2 u3 lm e1 e2 e3 e4 p tp x tl (some (e5, e6, rv, lv)) nf 1 1 0 q1 q2 true true d os h N T gl R) hLL1 = rgt (obLL w b1 b2 b3 (loc+171) (it+171) (hl+171) (wl+171) n0 n1 n2 t0 t1 t2 ln w0 w1 w2 w3 u0 u1 u2 u3 lm e1 e2 e3 e4 p tp x tl (some (e5, e6, rv, lv)) nf 1 1 0 q1 q2 true true d os h N T gl R) hLL1 := by cases b1 <;> kernel_rfl
theorem ckLL1_true_1 : lft (obLL w b1 b2 b3 (loc+171) (it+171) (hl+171) (wl+171) n0 n1 n2 t0 t1 t2 ln w0 w1 w2 w3 u0 u1 u2 u3 lm e1 e2 e3 e4 p tp x tl (some (e5, e6, rv, lv)) nf 1 1 1 q1 q2 true true d os h N T gl R) hLL2 = rgt (obLL w b1 b2 b3 (loc+171) (it+171) (hl+171) (wl+171) n0 n1 n2 t0 t1 t2 ln w0 w1 w2 w3 u0 u1 u2 u3 lm e1 e2 e3 e4 p tp x tl (some (e5, e6, rv, lv)) nf 1 1 1 q1 q2 true true d os h N T gl R) hLL2 := by cases b1 <;> kernel_rfl
theorem ckLL1_true_2 : lft (obLL w b1 b2 b3 (loc+171) (it+171) (hl+171) (wl+171) n0 n1 n2 t0 t1 t2 ln w0 w1 w2 w3 u0 u1 u2 u3 lm e1 e2 e3 e4 p tp x tl (some (e5, e6, rv, lv)) nf 1 1 2 q1 q2 true true d os h N T gl R) hLL2 = rgt (obLL w b1 b2 b3 (loc+171) (it+171) (hl+171) (wl+171) n0 n1 n2 t0 t1 t2 ln w0 w1 w2 w3 u0 u1 u2 u3 lm e1 e2 e3 e4 p tp x tl (some (e5, e6, rv, lv)) nf 1 1 2 q1 q2 true true d os h N T gl R) hLL2 := by cases b1 <;> kernel_rfl
theorem ckLL1_true_3 : lft (obLL w b1 b2 b3 (loc+171) (it+171) (hl+171) (wl+171) n0 n1 n2 t0 t1 t2 ln w0 w1 w2 w3 u0 u1 u2 u3 lm e1 e2 e3 e4 p tp x tl (some (e5, e6, rv, lv)) nf 1 1 3 q1 q2 true true d os h N T gl R) hLL2 = rgt (obLL w b1 b2 b3 (loc+171) (it+171) (hl+171) (wl+171) n0 n1 n2 t0 t1 t2 ln w0 w1 w2 w3 u0 u1 u2 u3 lm e1 e2 e3 e4 p tp x tl (some (e5, e6, rv, lv)) nf 1 1 3 q1 q2 true true d os h N T gl R) hLL2 := by cases b1 <;> kernel_rfl
theorem ckLL1_true_4 : lft (obLL w b1 b2 b3 (loc+171) (it+171) (hl+171) (wl+171) n0 n1 n2 t0 t1 t2 ln w0 w1 w2 w3 u0 u1 u2 u3 lm e1 e2 e3 e4 p tp x tl (some (e5, e6, rv, lv)) nf 1 1 4 q1 q2 true true d os h N T gl R) hLL2 = rgt (obLL w b1 b2 b3 (loc+171) (it+171) (hl+171) (wl+171) n0 n1 n2 t0 t1 t2 ln w0 w1 w2 w3 u0 u1 u2 u3 lm e1 e2 e3 e4 p tp x tl (some (e5, e6, rv, lv)) nf 1 1 4 q1 q2 true true d os h N T gl R) hLL2 := by cases b1 <;> kernel_rfl
theorem ckLL1_false_N : lft (obLL w b1 b2 b3 (loc+171) (it+171) (hl+171) (wl+171) n0 n1 n2 t0 t1 t2 ln w0 w1 w2 w3 u0 u1 u2 u3 lm e1 e2 e3 e4 p tp x tl (some (e5, e6, rv, lv)) nf 1 1 run q1 q2 false false d os h N T gl R) hLL3 = rgt (obLL w b1 b2 b3 (loc+171) (it+171) (hl+171) (wl+171) n0 n1 n2 t0 t1 t2 ln w0 w1 w2 w3 u0 u1 u2 u3 lm e1 e2 e3 e4 p tp x tl (some (e5, e6, rv, lv)) nf 1 1 run q1 q2 false false d os h N T gl R) hLL3 := by cases b1 <;> kernel_rfl
theorem ckLL1_false_0 : lft (obLL w b1 b2 b3 (loc+171) (it+171) (hl+171) (wl+171) n0 n1 n2 t0 t1 t2 ln w0 w1 w2 w3 u0 u1 u2 u3 lm e1 e2 e3 e4 p tp x tl (some (e5, e6, rv, lv)) nf 1 1 0 q1 q2 true false d os h N T gl R) hLL4 = rgt (obLL w b1 b2 b3 (loc+171) (it+171) (hl+171) (wl+171) n0 n1 n2 t0 t1 t2 ln w0 w1 w2 w3 u0 u1 u2 u3 lm e1 e2 e3 e4 p tp x tl (some (e5, e6, rv, lv)) nf 1 1 0 q1 q2 true false d os h N T gl R) hLL4 := by cases b1 <;> kernel_rfl
theorem ckLL1_false_1 : lft (obLL w b1 b2 b3 (loc+171) (it+171) (hl+171) (wl+171) n0 n1 n2 t0 t1 t2 ln w0 w1 w2 w3 u0 u1 u2 u3 lm e1 e2 e3 e4 p tp x tl (some (e5, e6, rv, lv)) nf 1 1 1 q1 q2 true false d os h N T gl R) hLL5 = rgt (obLL w b1 b2 b3 (loc+171) (it+171) (hl+171) (wl+171) n0 n1 n2 t0 t1 t2 ln w0 w1 w2 w3 u0 u1 u2 u3 lm e1 e2 e3 e4 p tp x tl (some (e5, e6, rv, lv)) nf 1 1 1 q1 q2 true false d os h N T gl R) hLL5 := by cases b1 <;> kernel_rfl
theorem ckLL1_false_2 : lft (obLL w b1 b2 b3 (loc+171) (it+171) (hl+171) (wl+171) n0 n1 n2 t0 t1 t2 ln w0 w1 w2 w3 u0 u1 u2 u3 lm e1 e2 e3 e4 p tp x tl (some (e5, e6, rv, lv)) nf 1 1 2 q1 q2 true false d os h N T gl R) hLL5 = rgt (obLL w b1 b2 b3 (loc+171) (it+171) (hl+171) (wl+171) n0 n1 n2 t0 t1 t2 ln w0 w1 w2 w3 u0 u1 u2 u3 lm e1 e2 e3 e4 p tp x tl (some (e5, e6, rv, lv)) nf 1 1 2 q1 q2 true false d os h N T gl R) hLL5 := by cases b1 <;> kernel_rfl
theorem ckLL1_false_3 : lft (obLL w b1 b2 b3 (loc+171) (it+171) (hl+171) (wl+171) n0 n1 n2 t0 t1 t2 ln w0 w1 w2 w3 u0 u1 u2 u3 lm e1 e2 e3 e4 p tp x tl (some (e5, e6, rv, lv)) nf 1 1 3 q1 q2 true false d os h N T gl R) hLL5 = rgt (obLL w b1 b2 b3 (loc+171) (it+171) (hl+171) (wl+171) n0 n1 n2 t0 t1 t2 ln w0 w1 w2 w3 u0 u1 u2 u3 lm e1 e2 e3 e4 p tp x tl (some (e5, e6, rv, lv)) nf 1 1 3 q1 q2 true false d os h N T gl R) hLL5 := by cases b1 <;> kernel_rfl
theorem ckLL1_false_4 : lft (obLL w b1 b2 b3 (loc+171) (it+171) (hl+171) (wl+171) n0 n1 n2 t0 t1 t2 ln w0 w1 w2 w3 u0 u1 u2 u3 lm e1 e2 e3 e4 p tp x tl (some (e5, e6, rv, lv)) nf 1 1 4 q1 q2 true false d os h N T gl R) hLL5 = rgt (obLL w b1 b2 b3 (loc+171) (it+171) (hl+171) (wl+171) n0 n1 n2 t0 t1 t2 ln w0 w1 w2 w3 u0 u1 u2 u3 lm e1 e2 e3 e4 p tp x tl (some (e5, e6, rv, lv)) nf 1 1 4 q1 q2 true false d os h N T gl R) hLL5 := by cases b1 <;> kernel_rfl
theorem ckLL2_true_N : lft (obLL w b1 b2 b3 (loc+171) (it+171) (hl+171) (wl+171) n0 n1 n2 t0 t1 t2 ln w0 w1 w2 w3 u0 u1 u2 u3 lm e1 e2 e3 e4 p tp x tl (some (e5, e6, rv, lv)) nf 2 0 run q1 q2 false true d os h N T gl R) hLL0 = rgt (obLL w b1 b2 b3 (loc+171) (it+171) (hl+171) (wl+171) n0 n1 n2 t0 t1 t2 ln w0 w1 w2 w3 u0 u1 u2 u3 lm e1 e2 e3 e4 p tp x tl (some (e5, e6, rv, lv)) nf 2 0 run q1 q2 false true d os h N T gl R) hLL0 := by cases b1 <;> kernel_rfl
theorem ckLL2_true_0 : lft (obLL w b1 b2 b3 (loc+171) (it+171) (hl+171) (wl+171) n0 n1 n2 t0 t1 t2 ln w0 w1 w2 w3 u0 u1 u2 u3 lm e1 e2 e3 e4 p tp x tl (some (e5, e6, rv, lv)) nf 2 0 0 q1 q2 true true d os h N T gl R) hLL1 = rgt (obLL w b1 b2 b3 (loc+171) (it+171) (hl+171) (wl+171) n0 n1 n2 t0 t1 t2 ln w0 w1 w2 w3 u0 u1 u2 u3 lm e1 e2 e3 e4 p tp x tl (some (e5, e6, rv, lv)) nf 2 0 0 q1 q2 true true d os h N T gl R) hLL1 := by cases b1 <;> kernel_rfl
theorem ckLL2_true_1 : lft (obLL w b1 b2 b3 (loc+171) (it+171) (hl+171) (wl+171) n0 n1 n2 t0 t1 t2 ln w0 w1 w2 w3 u0 u1 u2 u3 lm e1 e2 e3 e4 p tp x tl (some (e5, e6, rv, lv)) nf 2 0 1 q1 q2 true true d os h N T gl R) hLL2 = rgt (obLL w b1 b2 b3 (loc+171) (it+171) (hl+171) (wl+171) n0 n1 n2 t0 t1 t2 ln w0 w1 w2 w3 u0 u1 u2 u3 lm e1 e2 e3 e4 p tp x tl (some (e5, e6, rv, lv)) nf 2 0 1 q1 q2 true true d os h N T gl R) hLL2 := by cases b1 <;> kernel_rfl
theorem ckLL2_true_2 : lft (obLL w b1 b2 b3 (loc+171) (it+171) (hl+171) (wl+171) n0 n1 n2 t0 t1 t2 ln w0 w1 w2 w3 u0 u1 u2 u3 lm e1 e2 e3 e4 p tp x tl (some (e5, e6, rv, lv)) nf 2 0 2 q1 q2 true true d os h N T gl R) hLL2 = rgt (obLL w b1 b2 b3 (loc+171) (it+171) (hl+171) (wl+171) n0 n1 n2 t0 t1 t2 ln w0 w1 w2 w3 u0 u1 u2 u3 lm e1 e2 e3 e4 p tp x tl (some (e5, e6, rv, lv)) nf 2 0 2 q1 q2 true true d os h N T gl R) hLL2 := by cases b1 <;> kernel_rfl
theorem ckLL2_true_3 : lft (obLL w b1 b2 b3 (loc+171) (it+171) (hl+171) (wl+171) n0 n1 n2 t0 t1 t2 ln w0 w1 w2 w3 u0 u1 u2 u3 lm e1 e2 e3 e4 p tp x tl (some (e5, e6, rv, lv)) nf 2 0 3 q1 q2 true true d os h N T gl R) hLL2 = rgt (obLL w b1 b2 b3 (loc+171) (it+171) (hl+171) (wl+171) n0 n1 n2 t0 t1 t2 ln w0 w1 w2 w3 u0 u1 u2 u3 lm e1 e2 e3 e4 p tp x tl (some (e5, e6, rv, lv)) nf 2 0 3 q1 q2 true true d os h N T gl R) hLL2 := by cases b1 <;> kernel_rfl
theorem ckLL2_true_4 : lft (obLL w b1 b2 b3 (loc+171) (it+171) (hl+171) (wl+171) n0 n1 n2 t0 t1 t2 ln w0 w1 w2 w3 u0 u1 u2 u3 lm e1 e2 e3 e4 p tp x tl (some (e5, e6, rv, lv)) nf 2 0 4 q1 q2 true true d os h N T gl R) hLL2 = rgt (obLL w b1 b2 b3 (loc+171) (it+171) (hl+171) (wl+171) n0 n1 n2 t0 t1 t2 ln w0 w1 w2 w3 u0 u1 u2 u3 lm e1 e2 e3 e4 p tp x tl (some (e5, e6, rv, lv)) nf 2 0 4 q1 q2 true true d os h N T gl R) hLL2 := by cases b1 <;> kernel_rfl
theorem ckLL2_false_N : lft (obLL w b1 b2 b3 (loc+171) (it+171) (hl+171) (wl+171) n0 n1 n2 t0 t1 t2 ln w0 w1 w2 w3 u0 u1 u2 u3 lm e1 e2 e3 e4 p tp x tl (some (e5, e6, rv, lv)) nf 2 0 run q1 q2 false false d os h N T gl R) hLL3 = rgt (obLL w b1 b2 b3 (loc+171) (it+171) (hl+171) (wl+171) n0 n1 n2 t0 t1 t2 ln w0 w1 w2 w3 u0 u1 u2 u3 lm e1 e2 e3 e4 p tp x tl (some (e5, e6, rv, lv)) nf 2 0 run q1 q2 false false d os h N T gl R) hLL3 := by cases b1 <;> kernel_rfl
theorem ckLL2_false_0 : lft (obLL w b1 b2 b3 (loc+171) (it+171) (hl+171) (wl+171) n0 n1 n2 t0 t1 t2 ln w0 w1 w2 w3 u0 u1 u2 u3 lm e1 e2 e3 e4 p tp x tl (some (e5, e6, rv, lv)) nf 2 0 0 q1 q2 true false d os h N T gl R) hLL4 = rgt (obLL w b1 b2 b3 (loc+171) (it+171) (hl+171) (wl+171) n0 n1 n2 t0 t1 t2 ln w0 w1 w2 w3 u0 u1 u2 u3 lm e1 e2 e3 e4 p tp x tl (some (e5, e6, rv, lv)) nf 2 0 0 q1 q2 true false d os h N T gl R) hLL4 := by cases b1 <;> kernel_rfl
theorem ckLL2_false_1 : lft (obLL w b1 b2 b3 (loc+171) (it+171) (hl+171) (wl+171) n0 n1 n2 t0 t1 t2 ln w0 w1 w2 w3 u0 u1 u2 u3 lm e1 e2 e3 e4 p tp x tl (some (e5, e6, rv, lv)) nf 2 0 1 q1 q2 true false d os h N T gl R) hLL5 = rgt (obLL w b1 b2 b3 (loc+171) (it+171) (hl+171) (wl+171) n0 n1 n2 t0 t1 t2 ln w0 w1 w2 w3 u0 u1 u2 u3 lm e1 e2 e3 e4 p tp x tl (some (e5, e6, rv, lv)) nf 2 0 1 q1 q2 true false d os h N T gl R) hLL5 := by cases b1 <;> kernel_rfl
theorem ckLL2_false_2 : lft (obLL w b1 b2 b3 (loc+171) (it+171) (hl+171) (wl+171) n0 n1 n2 t0 t1 t2 ln w0 w1 w2 w3 u0 u1 u2 u3 lm e1 e2 e3 e4 p tp x tl (some (e5, e6, rv, lv)) nf 2 0 2 q1 q2 true false d os h N T gl R) hLL5 = rgt (obLL w b1 b2 b3 (loc+171) (it+171) (hl+171) (wl+171) n0 n1 n2 t0 t1 t2 ln w0 w1 w2 w3 u0 u1 u2 u3 lm e1 e2 e3 e4 p tp x tl (some (e5, e6, rv, lv)) nf 2 0 2 q1 q2 true false d os h N T gl R) hLL5 := by cases b1 <;> kernel_rfl
theorem ckLL2_false_3 : lft (obLL w b1 b2 b3 (loc+171) (it+171) (hl+171) (wl+171) n0 n1 n2 t0 t1 t2 ln w0 w1 w2 w3 u0 u1 u2 u3 lm e1 e2 e3 e4 p tp x tl (some (e5, e6, rv, lv)) nf 2 0 3 q1 q2 true false d os h N T gl R) hLL5 = rgt (obLL w b1 b2 b3 (loc+171) (it+171) (hl+171) (wl+171) n0 n1 n2 t0 t1 t2 ln w0 w1 w2 w3 u0 u1 u2 u3 lm e1 e2 e3 e4 p tp x tl (some (e5, e6, rv, lv)) nf 2 0 3 q1 q2 true false d os h N T gl R) hLL5 := by cases b1 <;> kernel_rfl
theorem ckLL2_false_4 : lft (obLL w b1 b2 b3 (loc+171) (it+171) (hl+171) (wl+171) n0 n1 n2 t0 t1 t2 ln w0 w1 w2 w3 u0 u1 u2 u3 lm e1 e2 e3 e4 p tp x tl (some (e5, e6, rv, lv)) nf 2 0 4 q1 q2 true false d os h N T gl R) hLL5 = rgt (obLL w b1 b2 b3 (loc+171) (it+171) (hl+171) (wl+171) n0 n1 n2 t0 t1 t2 ln w0 w1 w2 w3 u0 u1 u2 u3 lm e1 e2 e3 e4 p tp x tl (some (e5, e6, rv, lv)) nf 2 0 4 q1 q2 true false d os h N T gl R) hLL5 := by cases b1 <;> kernel_rfl
theorem gLL0 (c1 c2 : Bool) (hr : c1 = true → run ≤ 4) : good (obLL w b1 b2 b3 (loc+171) (it+171) (hl+171) (wl+171) n0 n1 n2 t0 t1 t2 ln w0 w1 w2 w3 u0 u1 u2 u3 lm e1 e2 e3 e4 p tp x tl (none) nf 0 2 run q1 q2 c1 c2 d os h N T gl R) := by
  cases c1 <;> cases c2
  · exact good_of _ _ (ckLL0_false_N w b1 b2 b3 loc it hl wl n0 n1 n2 t0 t1 t2 ln w0 w1 w2 w3 u0 u1 u2 u3 lm e1 e2 e3 e4 p tp x tl nf run q1 q2 d os h N T gl R)
  · exact good_of _ _ (ckLL0_true_N w b1 b2 b3 loc it hl wl n0 n1 n2 t0 t1 t2 ln w0 w1 w2 w3 u0 u1 u2 u3 lm e1 e2 e3 e4 p tp x tl nf run q1 q2 d os h N T gl R)
  · obtain rfl | rfl | rfl | rfl | rfl : run = 0 ∨ run = 1 ∨ run = 2 ∨ run = 3 ∨ run = 4 := by have := hr rfl; omega
    · exact good_of _ _ (ckLL0_false_0 w b1 b2 b3 loc it hl wl n0 n1 n2 t0 t1 t2 ln w0 w1 w2 w3 u0 u1 u2 u3 lm e1 e2 e3 e4 p tp x tl nf q1 q2 d os h N T gl R)
    · exact good_of _ _ (ckLL0_false_1 w b1 b2 b3 loc it hl wl n0 n1 n2 t0 t1 t2 ln w0 w1 w2 w3 u0 u1 u2 u3 lm e1 e2 e3 e4 p tp x tl nf q1 q2 d os h N T gl R)
    · exact good_of _ _ (ckLL0_false_2 w b1 b2 b3 loc it hl wl n0 n1 n2 t0 t1 t2 ln w0 w1 w2 w3 u0 u1 u2 u3 lm e1 e2 e3 e4 p tp x tl nf q1 q2 d os h N T gl R)
    · exact good_of _ _ (ckLL0_false_3 w b1 b2 b3 loc it hl wl n0 n1 n2 t0 t1 t2 ln w0 w1 w2 w3 u0 u1 u2 u3 lm e1 e2 e3 e4 p tp x tl nf q1 q2 d os h N T gl R)
    · exact good_of _ _ (ckLL0_false_4 w b1 b2 b3 loc it hl wl n0 n1 n2 t0 t1 t2 ln w0 w1 w2 w3 u0 u1 u2 u3 lm e1 e2 e3 e4 p tp x tl nf q1 q2 d os h N T gl R)
  · obtain rfl | rfl | rfl | rfl | rfl : run = 0 ∨ run = 1 ∨ run = 2 ∨ run = 3 ∨ run = 4 := by have := hr rfl; omega
    · exact good_of _ _ (ckLL0_true_0 w b1 b2 b3 loc it hl wl n0 n1 n2 t0 t1 t2 ln w0 w1 w2 w3 u0 u1 u2 u3 lm e1 e2 e3 e4 p tp x tl nf q1 q2 d os h N T gl R)
    · exact good_of _ _ (ckLL0_true_1 w b1 b2 b3 loc it hl wl n0 n1 n2 t0 t1 t2 ln w0 w1 w2 w3 u0 u1 u2 u3 lm e1 e2 e3 e4 p tp x tl nf q1 q2 d os h N T gl R)
    · exact good_of _ _ (ckLL0_true_2 w b1 b2 b3 loc it hl wl n0 n1 n2 t0 t1 t2 ln w0 w1 w2 w3 u0 u1 u2 u3 lm e1 e2 e3 e4 p tp x tl nf q1 q2 d os h N T gl R)
    · exact good_of _ _ (ckLL0_true_3 w b1 b2 b3 loc it hl wl n0 n1 n2 t0 t1 t2 ln w0 w1 w2 w3 u0 u1 u2 u3 lm e1 e2 e3 e4 p tp x tl nf q1 q2 d os h N T gl R)
    · exact good_of _ _ (ckLL0_true_4 w b1 b2 b3 loc it hl wl n0 n1 n2 t0 t1 t2 ln w0 w1 w2 w3 u0 u1 u2 u3 lm e1 e2 e3 e4 p tp x tl nf q1 q2 d os h N T gl R)
theorem gLL1 (c1 c2 : Bool) (hr : c1 = true → run ≤ 4) : good (obLL w b1 b2 b3 (loc+171) (it+171) (hl+171) (wl+171) n0 n1 n2 t0 t1 t2 ln w0 w1 w2 w3 u0 u1 u2 u3 lm e1 e2 e3 e4 p tp x tl (some (e5, e6, rv, lv)) nf 1 1 run q1 q2 c1 c2 d os h N T gl R) := by
  cases c1 <;> cases c2
  · exact good_of _ _ (ckLL1_false_N w b1 b2 b3 loc it hl wl n0 n1 n2 t0 t1 t2 ln w0 w1 w2 w3 u0 u1 u2 u3 lm e1 e2 e3 e4 e5 e6 p tp x tl rv lv nf run q1 q2 d os h N T gl R)
  · exact good_of _ _ (ckLL1_true_N w b1 b2 b3 loc it hl wl n0 n1 n2 t0 t1 t2 ln w0 w1 w2 w3 u0 u1 u2 u3 lm e1 e2 e3 e4 e5 e6 p tp x tl rv lv nf run q1 q2 d os h N T gl R)
  · obtain rfl | rfl | rfl | rfl | rfl : run = 0 ∨ run = 1 ∨ run = 2 ∨ run = 3 ∨ run = 4 := by have := hr rfl; omega
    · exact good_of _ _ (ckLL1_false_0 w b1 b2 b3 loc it hl wl n0 n1 n2 t0 t1 t2 ln w0 w1 w2 w3 u0 u1 u2 u3 lm e1 e2 e3 e4 e5 e6 p tp x tl rv lv nf q1 q2 d os h N T gl R)
    · exact good_of _ _ (ckLL1_false_1 w b1 b2 b3 loc it hl wl n0 n1 n2 t0 t1 t2 ln w0 w1 w2 w3 u0 u1 u2 u3 lm e1 e2 e3 e4 e5 e6 p tp x tl rv lv nf q1 q2 d os h N T gl R)
    · exact good_of _ _ (ckLL1_false_2 w b1 b2 b3 loc it hl wl n0 n1 n2 t0 t1 t2 ln w0 w1 w2 w3 u0 u1 u2 u3 lm e1 e2 e3 e4 e5 e6 p tp x tl rv lv nf q1 q2 d os h N T gl R)
    · exact good_of _ _ (ckLL1_false_3 w b1 b2 b3 loc it hl wl n0 n1 n2 t0 t1 t2 ln w0 w1 w2 w3 u0 u1 u2 u3 lm e1 e2 e3 e4 e5 e6 p tp x tl rv lv nf q1 q2 d os h N T gl R)
    · exact good_of _ _ (ckLL1_false_4 w b1 b2 b3 loc it hl wl n0 n1 n2 t0 t1 t2 ln w0 w1 w2 w3 u0 u1 u2 u3 lm e1 e2 e3 e4 e5 e6 p tp x tl rv lv nf q1 q2 d os h N T gl R)
  · obtain rfl | rfl | rfl | rfl | rfl : run = 0 ∨ run = 1 ∨ run = 2 ∨ run = 3 ∨ run = 4 := by have := hr rfl; omega
    · exact good_of _ _ (ckLL1_true_0 w b1 b2 b3 loc it hl wl n0 n1 n2 t0 t1 t2 ln w0 w1 w2 w3 u0 u1 u2 u3 lm e1 e2 e3 e4 e5 e6 p tp x tl rv lv nf q1 q2 d os h N T gl R)
    · exact good_of _ _ (ckLL1_true_1 w b1 b2 b3 loc it hl wl n0 n1 n2 t0 t1 t2 ln w0 w1 w2 w3 u0 u1 u2 u3 lm e1 e2 e3 e4 e5 e6 p tp x tl rv lv nf q1 q2 d os h N T gl R)
    · exact good_of _ _ (ckLL1_true_2 w b1 b2 b3 loc it hl wl n0 n1 n2 t0 t1 t2 ln w0 w1 w2 w3 u0 u1 u2 u3 lm e1 e2 e3 e4 e5 e6 p tp x tl rv lv nf q1 q2 d os h N T gl R)
    · exact good_of _ _ (ckLL1_true_3 w b1 b2 b3 loc it hl wl n0 n1 n2 t0 t1 t2 ln w0 w1 w2 w3 u0 u1 u2 u3 lm e1 e2 e3 e4 e5 e6 p tp x tl rv lv nf q1 q2 d os h N T gl R)
    · exact good_of _ _ (ckLL1_true_4 w b1 b2 b3 loc it hl wl n0 n1 n2 t0 t1 t2 ln w0 w1 w2 w3 u0 u1 u2 u3 lm e1 e2 e3 e4 e5 e6 p tp x tl rv lv nf q1 q2 d os h N T gl R)
theorem gLL2 (c1 c2 : Bool) (hr : c1 = true → run ≤ 4) : good (obLL w b1 b2 b3 (loc+171) (it+171) (hl+171) (wl+171) n0 n1 n2 t0 t1 t2 ln w0 w1 w2 w3 u0 u1 u2 u3 lm e1 e2 e3 e4 p tp x tl (some (e5, e6, rv, lv)) nf 2 0 run q1 q2 c1 c2 d os h N T gl R) := by
  cases c1 <;> cases c2
  · exact good_of _ _ (ckLL2_false_N w b1 b2 b3 loc it hl wl n0 n1 n2 t0 t1 t2 ln w0 w1 w2 w3 u0 u1 u2 u3 lm e1 e2 e3 e4 e5 e6 p tp x tl rv lv nf run q1 q2 d os h N T gl R)
  · exact good_of _ _ (ckLL2_true_N w b1 b2 b3 loc it hl wl n0 n1 n2 t0 t1 t2 ln w0 w1 w2 w3 u0 u1 u2 u3 lm e1 e2 e3 e4 e5 e6 p tp x tl rv lv nf run q1 q2 d os h N T gl R)
  · obtain rfl | rfl | rfl | rfl | rfl : run = 0 ∨ run = 1 ∨ run = 2 ∨ run = 3 ∨ run = 4 := by have := hr rfl; omega
    · exact good_of _ _ (ckLL2_false_0 w b1 b2 b3 loc it hl wl n0 n1 n2 t0 t1 t2 ln w0 w1 w2 w3 u0 u1 u2 u3 lm e1 e2 e3 e4 e5 e6 p tp x tl rv lv nf q1 q2 d os h N T gl R)
    · exact good_of _ _ (ckLL2_false_1 w b1 b2 b3 loc it hl wl n0 n1 n2 t0 t1 t2 ln w0 w1 w2 w3 u0 u1 u2 u3 lm e1 e2 e3 e4 e5 e6 p tp x tl rv lv nf q1 q2 d os h N T gl R)
    · exact good_of _ _ (ckLL2_false_2 w b1 b2 b3 loc it hl wl n0 n1 n2 t0 t1 t2 ln w0 w1 w2 w3 u0 u1 u2 u3 lm e1 e2 e3 e4 e5 e6 p tp x tl rv lv nf q1 q2 d os h N T gl R)
    · exact good_of _ _ (ckLL2_false_3 w b1 b2 b3 loc it hl wl n0 n1 n2 t0 t1 t2 ln w0 w1 w2 w3 u0 u1 u2 u3 lm e1 e2 e3 e4 e5 e6 p tp x tl rv lv nf q1 q2 d os h N T gl R)
    · exact good_of _ _ (ckLL2_false_4 w b1 b2 b3 loc it hl wl n0 n1 n2 t0 t1 t2 ln w0 w1 w2 w3 u0 u1 u2 u3 lm e1 e2 e3 e4 e5 e6 p tp x tl rv lv nf q1 q2 d os h N T gl R)
  · obtain rfl | rfl | rfl | rfl | rfl : run = 0 ∨ run = 1 ∨ run = 2 ∨ run = 3 ∨ run = 4 := by have := hr rfl; omega
    · exact good_of _ _ (ckLL2_true_0 w b1 b2 b3 loc it hl wl n0 n1 n2 t0 t1 t2 ln w0 w1 w2 w3 u0 u1 u2 u3 lm e1 e2 e3 e4 e5 e6 p tp x tl rv lv nf q1 q2 d os h N T gl R)
    · exact good_of _ _ (ckLL2_true_1 w b1 b2 b3 loc it hl wl n0 n1 n2 t0 t1 t2 ln w0 w1 w2 w3 u0 u1 u2 u3 lm e1 e2 e3 e4 e5 e6 p tp x tl rv lv nf q1 q2 d os h N T gl R)
    · exact good_of _ _ (ckLL2_true_2 w b1 b2 b3 loc it hl wl n0 n1 n2 t0 t1 t2 ln w0 w1 w2 w3 u0 u1 u2 u3 lm e1 e2 e3 e4 e5 e6 p tp x tl rv lv nf q1 q2 d os h N T gl R)
    · exact good_of _ _ (ckLL2_true_3 w b1 b2 b3 loc it hl wl n0 n1 n2 t0 t1 t2 ln w0 w1 w2 w3 u0 u1 u2 u3 lm e1 e2 e3 e4 e5 e6 p tp x tl rv lv nf q1 q2 d os h N T gl R)
    · exact good_of _ _ (ckLL2_true_4 w b1 b2 b3 loc it hl wl n0 n1 n2 t0 t1 t2 ln w0 w1 w2 w3 u0 u1 u2 u3 lm e1 e2 e3 e4 e5 e6 p tp x tl rv lv nf q1 q2 d os h N T gl R)
end
end Mine
end
-- part F13c
section
namespace Mine
theorem div_small : ∀ a : Nat, a < 8 → ∀ b : Nat, (b = 1 ∨ b = 2 ∨ b = 4) → (¬ (((b : Nat) : Int) == 0) = true) ∧ (¬ (Builtin.divisionGoesByPylong (a : Int) (b : Int)) = true) ∧ ((a : Nat) : Int).fdiv (b : Int) = ((a / b : Nat) : Int) ∧ ((Int.fmod ((a / b : Nat) : Int) 2 == 1) = Nat.beq (a / b % 2) 1) ∧ ((Int.fmod ((a / b : Nat) : Int) 2 == 0) = Nat.beq (a / b % 2) 0) ∧ (1 - Int.fmod ((a / b : Nat) : Int) 2 = ((1 - a / b % 2 : Nat) : Int)) := by
  intro a ha b hb
  rcases hb with rfl | rfl | rfl <;> (revert a; decide)
theorem hookDiv3 {V : Ev} {a b : Nat} (ha : a < 8) (hb : b = 1 ∨ b = 2 ∨ b = 4) : HookOk V (hookDiv a b (a / b)) := by
  obtain ⟨h1, h2, h3, -⟩ := div_small a ha b hb
  exact hookDiv_ok h1 h2 h3
noncomputable def segL (n wk wk1 p k : Nat) (x : List Nat) : List Nat := app (app x (putQ (n / p) (Nat.beq (wk / p % 2) 1))) (putL k (Nat.beq (wk1 / p % 2) 0))
theorem putQ_len {n p : Nat} (hn : n ≤ 4) (c : Bool) : (putQ (n / p) c).length ≤ 5 := by
  have := Nat.div_le_self n p
  cases c
  · simp [putQ]
  · simp only [putQ, List.length_append, List.length_replicate]; omega
theorem putL_len (k : Nat) (c : Bool) : (putL k c).length ≤ 1 := by cases c <;> simp [putL]
theorem segL_len {n wk wk1 p k : Nat} (hn : n ≤ 4) (x : List Nat) : (segL n wk wk1 p k x).length ≤ x.length + 6 := by
  have h1 := putQ_len (p := p) hn (Nat.beq (wk / p % 2) 1)
  have h2 := putL_len k (Nat.beq (wk1 / p % 2) 0)
  simp only [segL, app_eq, List.length_append]; omega
theorem hkLL_ok {V : Ev} {x : List Nat} {nk wk wk1 p k : Nat} (hp : p = 1 ∨ p = 2 ∨ p = 4) (hn : nk ≤ 4) (hw : wk < 8) (hw1 : wk1 < 8) (hx : x.length ≤ 100) :
    HookOk V (hkLL x (putQ (nk / p) (Nat.beq (wk / p % 2) 1)) (putL k (Nat.beq (wk1 / p % 2) 0)) nk wk wk1 p (nk / p) (wk / p) (wk1 / p) (Nat.beq (wk / p % 2) 1) (Nat.beq (wk1 / p % 2) 0)) := by
  have sz : sizeLine = 16777216 := by decide
  have h1 := putQ_len (p := p) hn (Nat.beq (wk / p % 2) 1)
  have h2 := putL_len k (Nat.beq (wk1 / p % 2) 0)
  refine hook2_ok (hookDiv3 (by omega) hp) (hook2_ok (hookDiv3 hw hp) (hook2_ok (hookEq_ok _ _ (div_small wk hw p hp).2.2.2.1) (hook2_ok (hookDiv3 hw1 hp) (hook2_ok (hookEq_ok _ _ (div_small wk1 hw1 p hp).2.2.2.2.1) (hook2_ok (hookAddE_ok (by simp) ?_) (hookAddE_ok (by simp) ?_))))))
  · simp only [List.length_append, List.length_cons]; omega
  · simp only [app_eq, List.length_append, List.length_cons]; omega
theorem linLL_keys (loc it hl wl : Nat) (hp wo lo : Obj) (k left : Nat) : (linLL loc it hl wl hp wo lo k left).map (·.1) = [loc, it, hl, wl] := rfl
section
variable (w : World) (b1 b2 b3 : Bool) (loc it hl wl n0 n1 n2 w0 w1 w2 w3 p : Nat)
noncomputable abbrev TLL (k left : Nat) (x : List Nat) (P : Result → Led → Prop) : Prop := ∀ (t0 t1 t2 ln u0 u1 u2 u3 lm : Nat) (e1 e2 e3 e4 : Ky) (tp tl : Nat) (r : Option (Ky × Ky × PySem.Value × PySem.Value)) (nf : Nat), (k = 0 ↔ r = none) →
  Tri (WB w b1 b2 b3) 330 45 (cLL (WB w b1 b2 b3).params (loc + 171) (it + 171)) (linLL (loc + 171) (it + 171) (hl + 171) (wl + 171) (heapsO n0 n1 n2 t0 t1 t2 ln) (worthO w0 w1 w2 w3 u0 u1 u2 u3 lm) (locL e1 e2 e3 e4 (hl + 171) (wl + 171) p tp x tl r nf) k left) P
theorem turnLL (k left : Nat) (x : List Nat) (P : Result → Led → Prop) (hp : p = 1 ∨ p = 2 ∨ p = 4) (hn : nAt3 n0 n1 n2 k ≤ 4) (hw : wAt w0 w1 w2 w3 k < 8) (hw1 : wAt w0 w1 w2 w3 (k + 1) < 8) (hx : x.length ≤ 100)
    (hG : ∀ (t0 t1 t2 ln u0 u1 u2 u3 lm : Nat) (e1 e2 e3 e4 : Ky) (tp tl : Nat) (r : Option (Ky × Ky × PySem.Value × PySem.Value)) (nf : Nat) (_ : k = 0 ↔ r = none) (run q1 q2 : Nat) (c1 c2 : Bool) (_ : c1 = true → run ≤ 4) (d : Drawn) (os : OsState) (h : Heap) (N T : Nat) (gl : List GenState) (R : Result → Shared → Prop), good (obLL w b1 b2 b3 (loc + 171) (it + 171) (hl + 171) (wl + 171) n0 n1 n2 t0 t1 t2 ln w0 w1 w2 w3 u0 u1 u2 u3 lm e1 e2 e3 e4 p tp x tl r nf k left run q1 q2 c1 c2 d os h N T gl R))
    (IH : TLL w b1 b2 b3 loc it hl wl n0 n1 n2 w0 w1 w2 w3 p (k + 1) left (segL (nAt3 n0 n1 n2 k) (wAt w0 w1 w2 w3 k) (wAt w0 w1 w2 w3 (k + 1)) p k x) P) : TLL w b1 b2 b3 loc it hl wl n0 n1 n2 w0 w1 w2 w3 p k (left + 1) x P := by
  intro t0 t1 t2 ln u0 u1 u2 u3 lm e1 e2 e3 e4 tp tl r nf hr
  refine tri_turn (W := WB w b1 b2 b3) (n := 330) (u := 45) (m := 1000) (c := cLL (WB w b1 b2 b3).params (loc + 171) (it + 171)) (c₁ := cLL (WB w b1 b2 b3).params (loc + 171) (it + 171))
    (Lin := linLL (loc + 171) (it + 171) (hl + 171) (wl + 171) (heapsO n0 n1 n2 t0 t1 t2 ln) (worthO w0 w1 w2 w3 u0 u1 u2 u3 lm) (locL e1 e2 e3 e4 (hl + 171) (wl + 171) p tp x tl r nf) k (left + 1))
    (as := [loc + 171, it + 171, hl + 171, wl + 171]) (lin := linLLT (loc + 171) (it + 171) (hl + 171) (wl + 171) n0 n1 n2 w0 w1 w2 w3 p (segL (nAt3 n0 n1 n2 k) (wAt w0 w1 w2 w3 k) (wAt w0 w1 w2 w3 (k + 1)) p k x) (k + 1) left)
    (fun V S hV => hkLL_ok (k := k) hp hn hw hw1 hx) (fun os gh => by simp only [linLLT, linLL_keys])
    (fun d os h N T gl R => by
      have g := hG t0 t1 t2 ln u0 u1 u2 u3 lm e1 e2 e3 e4 tp tl r nf hr (nAt3 n0 n1 n2 k / p) (wAt w0 w1 w2 w3 k / p) (wAt w0 w1 w2 w3 (k + 1) / p) (Nat.beq (wAt w0 w1 w2 w3 k / p % 2) 1) (Nat.beq (wAt w0 w1 w2 w3 (k + 1) / p % 2) 0) (fun _ => Nat.le_trans (Nat.div_le_self _ _) hn) d os h N T gl R
      unfold obLL at g; exact g) fun os gh => ?_
  exact IH _ _ _ _ _ _ _ _ _ _ _ _ _ _ _ _ _ ⟨fun h => absurd h (Nat.succ_ne_zero _), fun h => by cases h⟩
noncomputable def obLLE (t0 t1 t2 ln u0 u1 u2 u3 lm : Nat) (e1 e2 e3 e4 e5 e6 : Ky) (tp tl : Nat) (x : List Nat) (rv lv : PySem.Value) (nf : Nat) (d : Drawn) (os : OsState) (h : Heap) (N T : Nat) (gl : List GenState) (R : Result → Shared → Prop) : Ob :=
  sim (V2 (WB w b1 b2 b3) h d os 330 45 ((linLL (loc + 171) (it + 171) (hl + 171) (wl + 171) (heapsO n0 n1 n2 t0 t1 t2 ln) (worthO w0 w1 w2 w3 u0 u1 u2 u3 lm) (locL e1 e2 e3 e4 (hl + 171) (wl + 171) p tp x tl (some (e5, e6, rv, lv)) nf) 3 0).map (·.1)) R (fnT [] (fun _ _ => linLL (loc + 171) (it + 171) (hl + 171) (wl + 171) (heapsO n0 n1 n2 t0 t1 t2 ln) (worthO w0 w1 w2 w3 u0 u1 u2 u3 lm) (locL e1 e2 e3 e4 (hl + 171) (wl + 171) p tp x tl (some (e5, e6, rv, lv)) nf) 3 0) gl) noHook noTail) 1000
    (cLL (WB w b1 b2 b3).params (loc + 171) (it + 171)) none .base (goF (cLL (WB w b1 b2 b3).params (loc + 171) (it + 171)) (Bn 330 45)) (linLL (loc + 171) (it + 171) (hl + 171) (wl + 171) (heapsO n0 n1 n2 t0 t1 t2 ln) (worthO w0 w1 w2 w3 u0 u1 u2 u3 lm) (locL e1 e2 e3 e4 (hl + 171) (wl + 171) p tp x tl (some (e5, e6, rv, lv)) nf) 3 0) (N + 171) (T + 2349) 0 gl []
noncomputable def x3 (n0 n1 n2 w0 w1 w2 w3 p : Nat) : List Nat := segL n2 w2 w3 p 2 (segL n1 w1 w2 p 1 (segL n0 w0 w1 p 0 []))
noncomputable def PLL (loc it hl wl n0 n1 n2 w0 w1 w2 w3 p : Nat) (rr : Result) (Lo : Led) : Prop :=
  rr = .ok .next ∧ ∃ t0 t1 t2 ln u0 u1 u2 u3 lm e1 e2 e3 e4 tp tl r nf, Lo = linLL loc it hl wl (heapsO n0 n1 n2 t0 t1 t2 ln) (worthO w0 w1 w2 w3 u0 u1 u2 u3 lm) (locL e1 e2 e3 e4 hl wl p tp (x3 n0 n1 n2 w0 w1 w2 w3 p) tl (some r) nf) 3 0
end
end Mine
end
-- part F13d
section
namespace Mine
noncomputable def hLLE : List Nat := [2, 0, 2, 0, 2, 2, 2, 1, 0, 3, 4, 5, 6]
section
variable (w : World) (b1 b2 b3 : Bool) (loc it hl wl n0 n1 n2 w0 w1 w2 w3 p : Nat)
theorem ckLLE (t0 t1 t2 ln u0 u1 u2 u3 lm : Nat) (e1 e2 e3 e4 e5 e6 : Ky) (tp tl : Nat) (x : List Nat) (rv lv : PySem.Value) (nf : Nat) (d : Drawn) (os : OsState) (h : Heap) (N T : Nat) (gl : List GenState) (R : Result → Shared → Prop) :
    lft (obLLE w b1 b2 b3 loc it hl wl n0 n1 n2 w0 w1 w2 w3 p t0 t1 t2 ln u0 u1 u2 u3 lm e1 e2 e3 e4 e5 e6 tp tl x rv lv nf d os h N T gl R) hLLE = rgt (obLLE w b1 b2 b3 loc it hl wl n0 n1 n2 w0 w1 w2 w3 p t0 t1 t2 ln u0 u1 u2 u3 lm e1 e2 e3 e4 e5 e6 tp tl x rv lv nf d os h N T gl R) hLLE := by cases b1 <;> kernel_rfl
theorem endLL (x : List Nat) : TLL w b1 b2 b3 loc it hl wl n0 n1 n2 w0 w1 w2 w3 p 3 0 x (fun rr Lo => rr = .ok .next ∧ ∃ t0 t1 t2 ln u0 u1 u2 u3 lm e1 e2 e3 e4 tp tl r nf, Lo = linLL (loc + 171) (it + 171) (hl + 171) (wl + 171) (heapsO n0 n1 n2 t0 t1 t2 ln) (worthO w0 w1 w2 w3 u0 u1 u2 u3 lm) (locL e1 e2 e3 e4 (hl + 171) (wl + 171) p tp x tl (some r) nf) 3 0) := by
  intro t0 t1 t2 ln u0 u1 u2 u3 lm e1 e2 e3 e4 tp tl r nf hr
  rcases r with _ | ⟨e5, e6, rv, lv⟩
  · exact absurd (hr.mpr rfl) (by decide)
  have z := tri_end (W := WB w b1 b2 b3) (n := 330) (u := 45) (m := 1000) (c := cLL (WB w b1 b2 b3).params (loc + 171) (it + 171)) (Lin := linLL (loc + 171) (it + 171) (hl + 171) (wl + 171) (heapsO n0 n1 n2 t0 t1 t2 ln) (worthO w0 w1 w2 w3 u0 u1 u2 u3 lm) (locL e1 e2 e3 e4 (hl + 171) (wl + 171) p tp x tl (some (e5, e6, rv, lv)) nf) 3 0) (hook := noHook) (as := [])
    (lin := fun _ _ => linLL (loc + 171) (it + 171) (hl + 171) (wl + 171) (heapsO n0 n1 n2 t0 t1 t2 ln) (worthO w0 w1 w2 w3 u0 u1 u2 u3 lm) (locL e1 e2 e3 e4 (hl + 171) (wl + 171) p tp x tl (some (e5, e6, rv, lv)) nf) 3 0) (fun V _ _ => noHook_ok V) (fun hn _ _ => hn)
    (fun d os h N T gl R => by
      have g := good_of _ _ (ckLLE w b1 b2 b3 loc it hl wl n0 n1 n2 w0 w1 w2 w3 p t0 t1 t2 ln u0 u1 u2 u3 lm e1 e2 e3 e4 e5 e6 tp tl x rv lv nf d os h N T gl R)
      unfold obLLE at g; exact g)
  exact z.mono fun rr Lo ⟨h1, _, _, h2⟩ => ⟨h1, t0, t1, t2, ln, u0, u1, u2, u3, lm, e1, e2, e3, e4, tp, tl, (e5, e6, rv, lv), nf, h2⟩
theorem loopLL (hp : p = 1 ∨ p = 2 ∨ p = 4) (h0 : n0 ≤ 4) (h1 : n1 ≤ 4) (h2 : n2 ≤ 4) (g0 : w0 < 8) (g1 : w1 < 8) (g2 : w2 < 8) (g3 : w3 < 8) : TLL w b1 b2 b3 loc it hl wl n0 n1 n2 w0 w1 w2 w3 p 0 3 [] (PLL (loc + 171) (it + 171) (hl + 171) (wl + 171) n0 n1 n2 w0 w1 w2 w3 p) := by
  have l0 := segL_len (wk := w0) (wk1 := w1) (p := p) (k := 0) h0 []
  have l1 := segL_len (wk := w1) (wk1 := w2) (p := p) (k := 1) h1 (segL n0 w0 w1 p 0 [])
  simp only [List.length_nil] at l0
  refine turnLL w b1 b2 b3 loc it hl wl n0 n1 n2 w0 w1 w2 w3 p 0 2 [] _ hp h0 g0 g1 (by simp) ?_ ?_
  · intro t0 t1 t2 ln u0 u1 u2 u3 lm e1 e2 e3 e4 tp tl r nf hr run q1 q2 c1 c2 hc d os h N T gl R
    obtain rfl := hr.mp rfl
    exact gLL0 w b1 b2 b3 loc it hl wl n0 n1 n2 t0 t1 t2 ln w0 w1 w2 w3 u0 u1 u2 u3 lm e1 e2 e3 e4 p tp [] tl nf run q1 q2 d os h N T gl R c1 c2 hc
  refine turnLL w b1 b2 b3 loc it hl wl n0 n1 n2 w0 w1 w2 w3 p 1 1 _ _ hp h1 g1 g2 (by show (segL n0 w0 w1 p 0 []).length ≤ 100; omega) ?_ ?_
  · intro t0 t1 t2 ln u0 u1 u2 u3 lm e1 e2 e3 e4 tp tl r nf hr run q1 q2 c1 c2 hc d os h N T gl R
    rcases r with _ | ⟨e5, e6, rv, lv⟩
    · exact absurd (hr.mpr rfl) (by decide)
    exact gLL1 w b1 b2 b3 loc it hl wl n0 n1 n2 t0 t1 t2 ln w0 w1 w2 w3 u0 u1 u2 u3 lm e1 e2 e3 e4 e5 e6 p tp _ tl rv lv nf run q1 q2 d os h N T gl R c1 c2 hc
  refine turnLL w b1 b2 b3 loc it hl wl n0 n1 n2 w0 w1 w2 w3 p 2 0 _ _ hp h2 g2 g3 (by show (segL n1 w1 w2 p 1 (segL n0 w0 w1 p 0 [])).length ≤ 100; omega) ?_ ?_
  · intro t0 t1 t2 ln u0 u1 u2 u3 lm e1 e2 e3 e4 tp tl r nf hr run q1 q2 c1 c2 hc d os h N T gl R
    rcases r with _ | ⟨e5, e6, rv, lv⟩
    · exact absurd (hr.mpr rfl) (by decide)
    exact gLL2 w b1 b2 b3 loc it hl wl n0 n1 n2 t0 t1 t2 ln w0 w1 w2 w3 u0 u1 u2 u3 lm e1 e2 e3 e4 e5 e6 p tp _ tl rv lv nf run q1 q2 d os h N T gl R c1 c2 hc
  exact endLL w b1 b2 b3 loc it hl wl n0 n1 n2 w0 w1 w2 w3 p _
end
/-! the function whole -/
structure XLL where
  (loc it t0 t1 t2 ln u0 u1 u2 u3 lm : Nat) (e1 e2 e3 e4 : Ky) (tp tl nf : Nat)
noncomputable def hookLL (P : Params) (hl wl n0 n1 n2 w0 w1 w2 w3 p : Nat) (x' : List Nat) : HookT :=
  hookTri (X := XLL) 330 45 (fun c L _ k => match c with
    | .forLoop _ (.ref it) _ _ env => gets L [env.locals, hl, wl] fun os =>
      k ⟨env.locals, it, tokV (seqAt (oAt os 1) 0), tokV (seqAt (oAt os 1) 1), tokV (seqAt (oAt os 1) 2), seqN (oAt os 1), tokV (seqAt (oAt os 2) 0), tokV (seqAt (oAt os 2) 1), tokV (seqAt (oAt os 2) 2), tokV (seqAt (oAt os 2) 3), seqN (oAt os 2), kyAt (oAt os 0) 0, kyAt (oAt os 0) 1, kyAt (oAt os 0) 2, kyAt (oAt os 0) 3, tokV (valAt (oAt os 0) 2), tokV (valAt (oAt os 0) 3), dictN (oAt os 0)⟩
    | _ => .bad 415 0)
    (fun x => cLL P x.loc x.it) (fun x => linLL x.loc x.it hl wl (heapsO n0 n1 n2 x.t0 x.t1 x.t2 x.ln) (worthO w0 w1 w2 w3 x.u0 x.u1 x.u2 x.u3 x.lm) (locL x.e1 x.e2 x.e3 x.e4 hl wl p x.tp [] x.tl none x.nf) 0 3)
    (fun x => Nat.ble 171 x.it && Nat.ble 171 x.loc)
    (fun x k => .allN fun t0 => .allN fun t1 => .allN fun t2 => .allN fun ln => .allN fun u0 => .allN fun u1 => .allN fun u2 => .allN fun u3 => .allN fun lm => .allI fun h1 => .allN fun k1 => .allI fun h2 => .allN fun k2 => .allI fun h3 => .allN fun k3 => .allI fun h4 => .allN fun k4 => .allI fun h5 => .allN fun k5 => .allI fun h6 => .allN fun k6 => .allV fun rv => .allV fun lv => .allN fun tp => .allN fun tl => .allN fun nf =>
      k (.ok .next) (linLL x.loc x.it hl wl (heapsO n0 n1 n2 t0 t1 t2 ln) (worthO w0 w1 w2 w3 u0 u1 u2 u3 lm) (locL (h1, k1) (h2, k2) (h3, k3) (h4, k4) hl wl p tp x' tl (some ((h5, k5), (h6, k6), rv, lv)) nf) 3 0) [])
theorem hookLL_ok {V : Ev} (S : V.Std) {w : World} {b1 b2 b3 : Bool} (hw : V.w = WB w b1 b2 b3) {hl wl n0 n1 n2 w0 w1 w2 w3 p : Nat} (hp : p = 1 ∨ p = 2 ∨ p = 4) (h0 : n0 ≤ 4) (h1 : n1 ≤ 4) (h2 : n2 ≤ 4) (g0 : w0 < 8) (g1 : w1 < 8) (g2 : w2 < 8) (g3 : w3 < 8) :
    HookOk V (hookLL (WB w b1 b2 b3).params (hl + 171) (wl + 171) n0 n1 n2 w0 w1 w2 w3 p (x3 n0 n1 n2 w0 w1 w2 w3 p)) := by
  refine hookTri_ok S (fun x r' Lo => PLL x.loc x.it (hl + 171) (wl + 171) n0 n1 n2 w0 w1 w2 w3 p r' Lo) (fun c L gh k H => ?_) (fun x k r' Lo hP H => ?_) (fun x hx => ?_)
  · split at H
    · obtain ⟨os, H⟩ := gets_of H
      exact ⟨_, H⟩
    · cases H
  · obtain ⟨rfl, t0, t1, t2, ln, u0, u1, u2, u3, lm, e1, e2, e3, e4, tp, tl, ⟨e5, e6, rv, lv⟩, nf, rfl⟩ := hP
    exact ⟨[], H t0 t1 t2 ln u0 u1 u2 u3 lm e1.1 e1.2 e2.1 e2.2 e3.1 e3.2 e4.1 e4.2 e5.1 e5.2 e6.1 e6.2 rv lv tp tl nf⟩
  · rw [hw]
    obtain ⟨loc, it, t0, t1, t2, ln, u0, u1, u2, u3, lm, e1, e2, e3, e4, tp, tl, nf⟩ := x
    obtain ⟨g5, g6⟩ := Bool.and_eq_true_iff.mp hx
    have g5 : 171 ≤ it := Nat.le_of_ble_eq_true g5
    have g6 : 171 ≤ loc := Nat.le_of_ble_eq_true g6
    obtain ⟨it, rfl⟩ : ∃ k, it = k + 171 := ⟨it - 171, by omega⟩
    obtain ⟨loc, rfl⟩ : ∃ k, loc = k + 171 := ⟨loc - 171, by omega⟩
    exact loopLL w b1 b2 b3 loc it hl wl n0 n1 n2 w0 w1 w2 w3 p hp h0 h1 h2 g0 g1 g2 g3 t0 t1 t2 ln u0 u1 u2 u3 lm e1 e2 e3 e4 tp tl none nf ⟨fun _ => rfl, fun _ => rfl⟩
noncomputable def c13 (hl wl p tp : Nat) : Code := .call (.ref 165) ⟨[.ref hl, .ref wl, .int (p : Int) tp], []⟩
noncomputable def fn13 (hl wl n0 n1 n2 w0 w1 w2 w3 : Nat) (x : List Nat) (gl₀ : List GenState) : Result → Cont := fun r L _ _ _ gl gh => match r with
  | .ok fl => match fl with
    | .ret v => .eqV v (.str ⟨⟨120 :: x⟩⟩ (tokV v)) (.eqG gl gl₀ (gets L [hl, wl] fun os => pickL L [(hl, heapsO n0 n1 n2 (tokV (seqAt (oAt os 0) 0)) (tokV (seqAt (oAt os 0) 1)) (tokV (seqAt (oAt os 0) 2)) (seqN (oAt os 0))), (wl, worthO w0 w1 w2 w3 (tokV (seqAt (oAt os 1) 0)) (tokV (seqAt (oAt os 1) 1)) (tokV (seqAt (oAt os 1) 2)) (tokV (seqAt (oAt os 1) 3)) (seqN (oAt os 1)))] fun _ => .ok))
    | _ => .bad 416 0
  | .error _ => .bad 417 0
noncomputable def hk13 (P : Params) (hl wl n0 n1 n2 w0 w1 w2 w3 p q r : Nat) (x : List Nat) : HookT := hook2 (hookLL P hl wl n0 n1 n2 w0 w1 w2 w3 p x) (hook2 (hookDiv w3 p q) (hook2 (hookSub 1 (Int.fmod (q : Int) 2) r) (hookAddE (120 :: x) (List.replicate r 34))))
noncomputable def ob13 (w : World) (b1 b2 b3 : Bool) (hl wl n0 n1 n2 t0 t1 t2 ln w0 w1 w2 w3 u0 u1 u2 u3 lm p tp q r : Nat) (x : List Nat) (d : Drawn) (os : OsState) (h : Heap) (N T : Nat) (gl : List GenState) (R : Result → Shared → Prop) : Ob :=
  sim (V2 (WB w b1 b2 b3) h d os 320 35 [hl, wl] R (fn13 hl wl n0 n1 n2 w0 w1 w2 w3 (app x (List.replicate r 34)) gl) (hk13 (WB w b1 b2 b3).params hl wl n0 n1 n2 w0 w1 w2 w3 p q r x) noTail) 1000
    (c13 hl wl p tp) none .base (goF (c13 hl wl p tp) (Bn 320 35)) [(hl, heapsO n0 n1 n2 t0 t1 t2 ln), (wl, worthO w0 w1 w2 w3 u0 u1 u2 u3 lm)] (N + 171) (T + 2349) 0 gl []
end Mine
end
-- part F13e
section
namespace Mine
noncomputable def h130 : List Nat := [0, 0, 1, 1, 1, 1, 1, 1, 0, 0, 1, 1, 0, 0, 0, 0, 0, 0, 1, 1, 0, 1, 0, 1, 1, 1, 0, 1, 0, 1, 1, 1, 1, 1, 3, 4, 5, 3, 1, 2, 2, 1, 1, 4, 4, 4, 0, 4, 0, 4, 1, 2, 0, 0, 3, 0, 0, 0, 0, 0, 0, 3, 4, 3, 3]
noncomputable def h131 : List Nat := [0, 0, 1, 1, 1, 1, 1, 1, 0, 0, 1, 1, 0, 0, 0, 0, 0, 0, 1, 1, 0, 1, 0, 1, 1, 1, 0, 1, 0, 1, 1, 1, 1, 1, 3, 4, 5, 3, 1, 2, 2, 1, 1, 4, 4, 4, 0, 4, 0, 4, 1, 2, 0, 0, 3, 0, 0, 0, 0, 4, 3, 4, 3, 3]
section
variable (w : World) (b1 b2 b3 : Bool) (hl wl n0 n1 n2 t0 t1 t2 ln w0 w1 w2 w3 u0 u1 u2 u3 lm p tp q : Nat) (x : List Nat) (d : Drawn) (os : OsState) (h : Heap) (N T : Nat) (gl : List GenState) (R : Result → Shared → Prop)
theorem ck130 : lft (ob13 w b1 b2 b3 (hl+171) (wl+171) n0 n1 n2 t0 t1 t2 ln w0 w1 w2 w3 u0 u1 u2 u3 lm p tp q 0 x d os h N T gl R) h130 = rgt (ob13 w b1 b2 b3 (hl+171) (wl+171) n0 n1 n2 t0 t1 t2 ln w0 w1 w2 w3 u0 u1 u2 u3 lm p tp q 0 x d os h N T gl R) h130 := by cases b1 <;> kernel_rfl
theorem ck131 : lft (ob13 w b1 b2 b3 (hl+171) (wl+171) n0 n1 n2 t0 t1 t2 ln w0 w1 w2 w3 u0 u1 u2 u3 lm p tp q 1 x d os h N T gl R) h131 = rgt (ob13 w b1 b2 b3 (hl+171) (wl+171) n0 n1 n2 t0 t1 t2 ln w0 w1 w2 w3 u0 u1 u2 u3 lm p tp q 1 x d os h N T gl R) h131 := by cases b1 <;> kernel_rfl
theorem g13 (r : Nat) (hr : r ≤ 1) : good (ob13 w b1 b2 b3 (hl+171) (wl+171) n0 n1 n2 t0 t1 t2 ln w0 w1 w2 w3 u0 u1 u2 u3 lm p tp q r x d os h N T gl R) := by
  obtain rfl | rfl : r = 0 ∨ r = 1 := by omega
  · exact good_of _ _ (ck130 w b1 b2 b3 hl wl n0 n1 n2 t0 t1 t2 ln w0 w1 w2 w3 u0 u1 u2 u3 lm p tp q x d os h N T gl R)
  · exact good_of _ _ (ck131 w b1 b2 b3 hl wl n0 n1 n2 t0 t1 t2 ln w0 w1 w2 w3 u0 u1 u2 u3 lm p tp q x d os h N T gl R)
end
/-- what is left of the text, by the worths' figures at one place -/
noncomputable def leftL (n0 n1 n2 w0 w1 w2 w3 p : Nat) : List Nat := app (x3 n0 n1 n2 w0 w1 w2 w3 p) (List.replicate (1 - w3 / p % 2) 34)
noncomputable def P13 (hl wl n0 n1 n2 w0 w1 w2 w3 p : Nat) (rr : Result) (Lo : Led) : Prop := ∃ t t0 t1 t2 ln u0 u1 u2 u3 lm, rr = .ok (.ret (.str ⟨⟨120 :: leftL n0 n1 n2 w0 w1 w2 w3 p⟩⟩ t)) ∧ Lo = [(hl, heapsO n0 n1 n2 t0 t1 t2 ln), (wl, worthO w0 w1 w2 w3 u0 u1 u2 u3 lm)]
theorem x3_len {n0 n1 n2 w0 w1 w2 w3 p : Nat} (h0 : n0 ≤ 4) (h1 : n1 ≤ 4) (h2 : n2 ≤ 4) : (x3 n0 n1 n2 w0 w1 w2 w3 p).length ≤ 18 := by
  have l0 := segL_len (wk := w0) (wk1 := w1) (p := p) (k := 0) h0 []
  have l1 := segL_len (wk := w1) (wk1 := w2) (p := p) (k := 1) h1 (segL n0 w0 w1 p 0 [])
  have l2 := segL_len (wk := w2) (wk1 := w3) (p := p) (k := 2) h2 (segL n1 w1 w2 p 1 (segL n0 w0 w1 p 0 []))
  simp only [List.length_nil] at l0
  unfold x3; omega
theorem leftF (w : World) (b1 b2 b3 : Bool) (hl wl n0 n1 n2 t0 t1 t2 ln w0 w1 w2 w3 u0 u1 u2 u3 lm p tp : Nat) (hp : p = 1 ∨ p = 2 ∨ p = 4) (h0 : n0 ≤ 4) (h1 : n1 ≤ 4) (h2 : n2 ≤ 4) (g0 : w0 < 8) (g1 : w1 < 8) (g2 : w2 < 8) (g3 : w3 < 8) :
    Tri (WB w b1 b2 b3) 320 35 (c13 (hl + 171) (wl + 171) p tp) [(hl + 171, heapsO n0 n1 n2 t0 t1 t2 ln), (wl + 171, worthO w0 w1 w2 w3 u0 u1 u2 u3 lm)] (P13 (hl + 171) (wl + 171) n0 n1 n2 w0 w1 w2 w3 p) := fun d os h N T gl F I => by
  have hr : 1 - w3 / p % 2 ≤ 1 := Nat.sub_le _ _
  have hx := x3_len (w0 := w0) (w1 := w1) (w2 := w2) (w3 := w3) (p := p) h0 h1 h2
  have sz : sizeLine = 16777216 := by decide
  obtain ⟨-, -, -, -, -, hs⟩ := div_small w3 g3 p hp
  let V := V2 (WB w b1 b2 b3) h d os 320 35 [hl + 171, wl + 171] (After (WB w b1 b2 b3) gl d os h N [(hl + 171, heapsO n0 n1 n2 t0 t1 t2 ln), (wl + 171, worthO w0 w1 w2 w3 u0 u1 u2 u3 lm)] (P13 (hl + 171) (wl + 171) n0 n1 n2 w0 w1 w2 w3 p)) (fn13 (hl + 171) (wl + 171) n0 n1 n2 w0 w1 w2 w3 (leftL n0 n1 n2 w0 w1 w2 w3 p) gl) (hk13 (WB w b1 b2 b3).params (hl + 171) (wl + 171) n0 n1 n2 w0 w1 w2 w3 p (w3 / p) (1 - w3 / p % 2) (x3 n0 n1 n2 w0 w1 w2 w3 p)) noTail
  have S : V.Std := V2_std
  have O : V.Ok := V2_ok (fun r L sz tb i gl' gh h' H D => by
    unfold fn13 at H
    split at H
    · split at H
      · rename_i v
        obtain ⟨ev, H⟩ := eqV_of H
        obtain ⟨eg, H2⟩ := eqG_of H
        subst eg
        obtain ⟨xs, H⟩ := gets_of H2
        obtain ⟨rest, hp, -⟩ := pickL_of H
        have hn := (hp.map (·.1)).nodup_iff.mp D.nodup
        rw [List.map_append] at hn
        exact after_of (V := V) S F rfl D (fun y hy => hp.mem_iff.mpr (List.mem_append.mpr (.inl hy))) (List.nodup_append.mp hn).1 ⟨tokV v, _, _, _, _, _, _, _, _, _, by rw [← ev], rfl⟩
      · cases H
    · cases H) (hook2_ok (hookLL_ok S rfl hp h0 h1 h2 g0 g1 g2 g3) (hook2_ok (hookDiv3 g3 hp) (hook2_ok (hookSub_ok hs) (hookAddE_ok (by simp) (by simp only [List.length_append, List.length_cons, List.length_replicate]; omega))))) (fun _ _ _ _ _ _ _ _ _ H _ => by cases H)
  have g := g13 w b1 b2 b3 hl wl n0 n1 n2 t0 t1 t2 ln w0 w1 w2 w3 u0 u1 u2 u3 lm p tp (w3 / p) (x3 n0 n1 n2 w0 w1 w2 w3 p) d os h N T gl (After (WB w b1 b2 b3) gl d os h N [(hl + 171, heapsO n0 n1 n2 t0 t1 t2 ln), (wl + 171, worthO w0 w1 w2 w3 u0 u1 u2 u3 lm)] (P13 (hl + 171) (wl + 171) n0 n1 n2 w0 w1 w2 w3 p)) (1 - w3 / p % 2) hr
  unfold ob13 at g
  have z := sim_sound (V := V) O 1000 _ none .base _ _ _ _ _ _ _ h g (Rp.startL (V := V) S F I rfl)
  exact y_code _ _ _ _ _ _ (O.go _ _ _ _ _ z)
end Mine
end
-- part F14a
section
namespace Mine
/-! the head of a comprehension's turn over enumerate(list) -/
theorem own_on {α : Type} {w : World} {A : Around} {c : Code} {m : Sem α} {k : α → Sem PySem.Fin} {hd : PySem.Value → Sem Unit} {Q : PySem.Fin → Shared → Prop} {E : PySem.Value → Shared → Prop} {s : Shared}
    (x : wpAny (model pw w) (A.under c) m (fun a s' => wpOwn (model pw w) A c ((k a).onRaise hd) Q E s') (fun _ _ => False) s) : wpOwn (model pw w) A c ((m.bind k).onRaise hd) Q E s := fun Γ p hc hΓ => by
  rw [Sem.wp_onRaise, Sem.wp_bind]
  refine Sem.wp_mono _ _ _ (fun a p' s' h' => ?_) (fun _ _ _ h' => h'.elim) _ _ (x Γ p (hc ▸ hΓ.in))
  have z := h' Γ p' hc hΓ
  rw [Sem.wp_onRaise] at z
  exact z
noncomputable def listIt (l k : Nat) : Obj := ⟨.type "list_iterator", none, .fields ⟨[.ref l, .int (k : Int) 0]⟩, #[]⟩
noncomputable def pairV (k t : Nat) (v : PySem.Value) : Obj := ⟨.type "tuple", none, .seq ⟨[.int (k : Int) t, v]⟩ 0, #[]⟩
theorem listIt_next (l k : Nat) : Obj.mapFields (·.setIfInBounds 1 (rawInt ((k : Int) + 1))) (listIt l k) = listIt l (k + 1) := by
  simp [Obj.mapFields, listIt, rawInt]
theorem enum_up2 (sit k : Nat) (old v : PySem.Value) (a : Nat) : Obj.mapFields (·.setIfInBounds 0 .none) (Obj.mapFields (·.setIfInBounds 1 (.bool false)) (Obj.mapFields (·.setIfInBounds 0 (rawInt a)) (Obj.mapFields (·.setIfInBounds 5 v) (Obj.mapFields (·.setIfInBounds 4 .none) (Obj.mapFields (·.setIfInBounds 3 (rawInt ((k : Int) + 1))) (enumObj sit k old)))))) = enumObj sit (k + 1) v := by
  simp [Obj.mapFields, enumObj, rawInt]
/-- a comprehension's turn behind its next item -/
noncomputable def turnC (tgt elt : PySem.Expr) (acc : PySem.Value) (env : Env) (c : Code) (v : PySem.Value) : Sem PySem.Fin :=
  ((asT tgt env v).bind fun _ => ((evT elt env).bind fun x => (call (.builtin "list.append") [acc, x]).bind fun _ => .pure ()).bind fun _ => again c).onRaise (loopHd env)
theorem compHead {V : Ev} (S : V.Std) {en it l k : Nat} {items : List PySem.Value} {n : Nat} {old x : PySem.Value} {L : Led} (hx : items[k]? = some x) {elts : List PySem.Expr} {x1 : Nat} {tp : Pos} {elt iter : PySem.Expr} {scope : Scope} {pos : Pos} {acc : PySem.Value} {env : Env}
    {Q : PySem.Fin → Shared → Prop} {E : PySem.Value → Shared → Prop} {h : Heap} {sz tb i : Nat} {gl : List GenState} (D : Rp V h ((en, enumObj it k old) :: (it, listIt l k) :: (l, listObj ⟨items⟩ n) :: L) sz tb)
    (H : ∀ h', Rp V h' ((sz, pairV k (tb + i) x) :: (en, enumObj it (k + 1) x) :: (it, listIt l (k + 1)) :: (l, listObj ⟨items⟩ n) :: L) (sz + 1) tb →
      wpOwn (md V) V.A₀ (.compLoop (.ListComp elt [⟨.Tuple elts x1 tp, iter, [], 0⟩] scope pos) 0 (.ref en) acc env) (turnC (.Tuple elts x1 tp) elt acc env (.compLoop (.ListComp elt [⟨.Tuple elts x1 tp, iter, [], 0⟩] scope pos) 0 (.ref en) acc env) (.ref sz)) Q E (sh V h' tb (i + 1) gl)) :
    wpOwn (md V) V.A₀ (.compLoop (.ListComp elt [⟨.Tuple elts x1 tp, iter, [], 0⟩] scope pos) 0 (.ref en) acc env) (denote table (.compLoop (.ListComp elt [⟨.Tuple elts x1 tp, iter, [], 0⟩] scope pos) 0 (.ref en) acc env)) Q E (sh V h tb i gl) := by
  show wpOwn (md V) V.A₀ _ ((compTurn (.ListComp elt [⟨.Tuple elts x1 tp, iter, [], 0⟩] scope pos) 0 (.ref en) acc env).onRaise (loopHd env)) Q E _
  rw [compTurn_list1]
  refine own_on (wpAny_standAt ?_)
  have hen := D.own (en, enumObj it k old) (.head _)
  have hit := D.own (it, listIt l k) (.tail _ (.head _))
  have hl := D.own (l, listObj ⟨items⟩ n) (.tail _ (.tail _ (.head _)))
  have hT : (sh V h tb i gl).TypeIs (.ref en) "enumerate" := ⟨_, hen, rfl⟩
  refine own_on ?_
  unfold pyNext
  refine wpAny_bind (wpAny_attempt (wpAny_callSpecial?_slot (name := Str.ofString "__next__") hT PySem.F.slot_enumerate_next
    (wpAny_call_entry PySem.F.slot_enumerate_next hT PySem.F.entry_enumerate_next ?_ (PySem.F.args_enumerate_next_1 _))))
  show wpAny _ _ (field (.ref en) 2 >>= _) _ _ _
  refine wpAny_bind (wpAny_field hen rfl (x := .ref it) rfl ?_)
  unfold Builtin.SmallTypes.nextOf
  have hT2 : (sh V h tb i gl).TypeIs (.ref it) "list_iterator" := ⟨_, hit, rfl⟩
  refine wpAny_bind (wpAny_bind (wpAny_callSpecial?_slot (name := Str.ofString "__next__") hT2 PySem.slot_listiter_next
    (wpAny_call_entry PySem.slot_listiter_next hT2 PySem.entry_listiter_next ?_ (PySem.args_listiter_next _))))
  show wpAny _ _ (field (.ref it) 0 >>= _) _ _ _
  refine wpAny_bind (wpAny_field hit rfl (x := .ref l) rfl ?_)
  show wpAny _ _ (if (Value.ref l == Value.none) = true then _ else _) _ _ _
  rw [if_neg (show ¬ ((Value.ref l == Value.none) = true) from Bool.false_ne_true)]
  show wpAny _ _ (field (.ref it) 1 >>= _) _ _ _
  refine wpAny_bind (wpAny_field hit rfl (x := .int k 0) rfl ?_)
  show wpAny _ _ (seqItems? (.ref l) >>= _) _ _ _
  refine wpAny_bind (wpAny_seqItems hl rfl ?_)
  have hx' : (⟨items⟩ : Array PySem.Value)[k]? = some x := by simpa using hx
  simp only [Int.toNat_natCast, hx']
  refine wpAny_bind (wpAny_setField hit rfl (by simp) (wpAny_pure ⟨x, rfl, wpAny_pure ?_⟩))
  have D1 := D.up (j := 1) rfl (Obj.mapFields (·.setIfInBounds 1 (rawInt ((k : Int) + 1)))) rfl
  have hen1 := D1.own (en, enumObj it k old) (ledAt_mem (i := 0) rfl)
  show wpAny _ _ (field (.ref en) 3 >>= _) _ _ _
  refine wpAny_bind (wpAny_field hen1 rfl (x := .int k 0) rfl ?_)
  show wpAny _ _ (field (.ref en) 4 >>= _) _ _ _
  refine wpAny_bind (wpAny_field hen1 rfl (x := .none) rfl ?_)
  show wpAny _ _ (mkInt k >>= _) _ _ _
  refine wpAny_bind (wpAny_mkInt ?_)
  have D2 := D1.up (j := 0) rfl (Obj.mapFields (·.setIfInBounds 3 (rawInt ((k : Int) + 1)))) rfl
  show wpAny _ _ (setField (.ref en) 3 (rawInt ((k : Int) + 1)) >>= _) _ _ _
  refine wpAny_bind (wpAny_setField hen1 rfl (by simp) ?_)
  have hen2 := D2.own (en, _) (ledAt_mem (i := 0) rfl)
  have D3 := D2.up (j := 0) rfl (Obj.mapFields (·.setIfInBounds 4 .none)) rfl
  show wpAny _ _ (setField (.ref en) 4 .none >>= _) _ _ _
  refine wpAny_bind (wpAny_setField hen2 rfl (by simp) ?_)
  have hen3 := D3.own (en, _) (ledAt_mem (i := 0) rfl)
  have es3 := D3.size
  have D4 := D3.new (Std.low S) (o := pairV k (tb + i) x) rfl
  refine wpAny_bind (newTuple_at (sz := sz) es3 ?_)
  have hen4 := D4.own (en, _) (ledAt_mem (i := 1) rfl)
  refine wpAny_bind ?_
  unfold Builtin.SmallTypes.ownedTupleIsFree
  refine wpAny_bind (wpAny_field hen4 rfl (x := .none) rfl (wpAny_pure ?_))
  simp only [if_true]
  refine wpAny_bind (wpAny_rule ?_)
  refine wpAny_bind (wpAny_field hen4 rfl (x := old) rfl ?_)
  have D5 := D4.up (j := 1) rfl (Obj.mapFields (·.setIfInBounds 5 x)) rfl
  refine wpAny_bind (wpAny_setField hen4 rfl (by simp) ?_)
  have hen5 := D5.own (en, _) (ledAt_mem (i := 1) rfl)
  show wpAny _ _ (Builtin.SmallTypes.ownedTupleHandOut (.ref en) (.ref sz) >>= _) _ _ _
  refine wpAny_bind ?_
  unfold Builtin.SmallTypes.ownedTupleHandOut
  have D6 := D5.up (j := 1) rfl (Obj.mapFields (·.setIfInBounds 0 (rawInt sz))) rfl
  refine wpAny_bind (wpAny_setField hen5 rfl (by simp) ?_)
  have hen6 := D6.own (en, _) (ledAt_mem (i := 1) rfl)
  have D7 := D6.up (j := 1) rfl (Obj.mapFields (·.setIfInBounds 1 (.bool false))) rfl
  refine wpAny_setField hen6 rfl (by simp) ?_
  have hen7 := D7.own (en, _) (ledAt_mem (i := 1) rfl)
  refine wpAny_bind (wpAny_letGo (wpAny_pure ⟨_, rfl, wpAny_pure ?_⟩))
  refine own_on ?_
  unfold letOwnedTupleGo
  refine wpAny_bind (wpAny_load hen7 ?_)
  show wpAny _ _ (if (["enumerate", "zip", "dict_itemiterator", "dict_reverseitemiterator", "odict_iterator", "itertools.zip_longest", "itertools.pairwise"].contains "enumerate" &&
      (#[rawInt sz, .bool false, .ref it, rawInt ((k : Int) + 1), .none, x] : Array PySem.Value)[0]? == some (rawInt sz)) = true then _ else _) _ _ _
  rw [if_pos (by simp)]
  refine wpAny_bind (wpAny_rule ?_)
  have D8 := D7.up (j := 1) rfl (Obj.mapFields (·.setIfInBounds 0 .none)) rfl
  show wpAny _ _ (setField (.ref en) 0 .none) _ _ _
  refine wpAny_setField hen7 rfl (by simp) ?_
  change Rp V _ ((sz, pairV k (tb + i) x) :: (en, Obj.mapFields (·.setIfInBounds 0 .none) (Obj.mapFields (·.setIfInBounds 1 (.bool false)) (Obj.mapFields (·.setIfInBounds 0 (rawInt sz)) (Obj.mapFields (·.setIfInBounds 5 x) (Obj.mapFields (·.setIfInBounds 4 .none) (Obj.mapFields (·.setIfInBounds 3 (rawInt ((k : Int) + 1))) (enumObj it k old))))))) ::
    (it, Obj.mapFields (·.setIfInBounds 1 (rawInt ((k : Int) + 1))) (listIt l k)) :: (l, listObj ⟨items⟩ n) :: L) _ _ at D8
  rw [enum_up, listIt_next] at D8
  have z := H _ D8
  unfold turnC at z
  rw [asT_eq, evT_eq] at z
  exact z
end Mine
end
-- part G2
section
namespace Mine
/-! a function whose last statement gives back whether two lists are alike: the room not asked -/
noncomputable abbrev exs1 := Fast.tw12563942051412417395
noncomputable def sEq : Str := ⟨#[95, 95, 101, 113, 95, 95]⟩
noncomputable def retN (l r : PySem.Expr) (p q : Pos) (env : Env) : Sem Flow := (standAt q).bind fun _ => ((evT l env).bind fun lv => (evT r env).bind fun rv => (standAt p).bind fun _ => listsN sEq lv rv).bind fun v => .pure (.ret v)
noncomputable def funcN (pre : List Stmt) (l r : PySem.Expr) (p q : Pos) (env : Env) : Sem PySem.Fin := point.bind fun _ => (((exT pre env).bind fun f => match f with
  | .next => retN l r p q env
  | f => .pure f).onRaise (lvT env)).bind fun f => match f with
    | .ret v => ret v
    | _ => ret .none
theorem execs_snoc (s : Stmt) (env : Env) : ∀ pre, execs (pre ++ [s]) env = (execs pre env >>= fun f => match f with
  | .next => (exec s env >>= fun f => match f with
    | .next => pure .next
    | f => pure f)
  | f => pure f)
  | [] => by
    show (exec s env >>= fun f => match f with
      | .next => pure .next
      | f => pure f) = _
    rfl
  | a :: pre => by
    show (exec a env >>= fun f => match f with
      | .next => execs (pre ++ [s]) env
      | f => pure f) = ((exec a env >>= fun f => match f with
      | .next => execs pre env
      | f => pure f) >>= _)
    rw [execs_snoc s env pre, bind_assoc]
    congr 1
    funext f
    cases f <;> first | rfl | simp
section
variable {M : Model} {Γ : Ctx}
open Sem (wp)
theorem funcN_wp {pre : List Stmt} {l r : PySem.Expr} {p q : Pos} {env : Env} (hm : behindInMarks .Eq r = false) (hu : Γ.units < cLine) {Q : PySem.Fin → Pos → Shared → Prop} {E : Value → Pos → Shared → Prop} {p' : Pos} {s : Shared}
    (x : wp M Γ (funcN pre l r p q env) Q E p' s) : wp M Γ (denote table (.func (pre ++ [.Return (some (.Compare l [.Eq] [r] p)) q]) env)) Q E p' s := by
  unfold funcN retN at x
  show wp M Γ (do
    point
    match ← (execs (pre ++ [.Return (some (.Compare l [.Eq] [r] p)) q]) env).onRaise (leaving env) with
    | .ret v => ret v
    | _ => ret .none) _ _ _ _
  rw [execs_snoc]
  have e0 : exec (.Return (some (.Compare l [.Eq] [r] p)) q) env = (do
    standAt q
    let v ← eval (.Compare l [.Eq] [r] p) env
    pure (.ret v)) := rfl
  rw [e0, arm_eval_Compare]
  rw [lvT_eq, exT_eq, evT_eq] at x
  have e : markedEach [CmpOp.Eq] [r] (evalEach [r] env) = [eval r env] := by
    show [markedBehindIn .Eq r (eval r env)] = _
    rw [markedBehindIn_of_false hm]
  have e2 : ∀ lv, compareChain p lv [.Eq] [eval r env] = (do
    let rv ← holding [lv] (eval r env)
    standAt p
    operate [lv, rv] (compareOp .Eq lv rv)) := fun _ => rfl
  simp only [e, e2]
  simp only [Sem.wp_bind', Sem.wp_bind, Sem.wp_onRaise, Sem.wp_cmd_point, Sem.wp_holding, Sem.wp_cmd_standAt, Sem.wp_operate] at x ⊢
  refine Sem.wp_mono M Γ _ (fun f p₁ s₁ x => ?_) (fun _ _ _ h' => h') _ _ x
  cases f with
  | next =>
    simp only [Sem.wp_bind', Sem.wp_bind, Sem.wp_onRaise, Sem.wp_cmd_point, Sem.wp_holding, Sem.wp_cmd_standAt, Sem.wp_operate] at x ⊢
    refine Sem.wp_mono M Γ _ (fun lv p₁ s₁ x => ?_) (fun _ _ _ h' => h') _ _ x
    refine Sem.wp_mono M Γ _ (fun rv p₂ s₂ x => ?_) (fun _ _ _ h' => h') _ _ x
    refine listsN_wp (f := sEq) rfl (fun _ _ => rfl) hu (Sem.wp_mono M Γ _ (fun c p₃ s₃ x => ?_) (fun _ _ _ h' => h') _ _ x)
    exact x
  | _ => exact x
end
noncomputable def splitRet : List Stmt → Option (List Stmt × PySem.Expr × PySem.Expr × Pos × Pos)
  | [] => none
  | [.Return (some (.Compare l [.Eq] [r] p)) q] => some ([], l, r, p, q)
  | s :: rest => (splitRet rest).map fun x => (s :: x.1, x.2)
theorem splitRet_eq : ∀ {b : List Stmt} {x}, splitRet b = some x → b = x.1 ++ [.Return (some (.Compare x.2.1 [.Eq] [x.2.2.1] x.2.2.2.1)) x.2.2.2.2]
  | [], _, e => by cases e
  | s :: rest, x, e => by
    unfold splitRet at e
    split at e
    · rename_i h; cases h
    · rename_i l r p q h
      cases h
      cases e; rfl
    · rename_i h
      cases h
      cases h2 : splitRet rest with
      | none => rw [h2] at e; cases e
      | some y =>
        rw [h2] at e
        cases e
        rw [List.cons_append, ← splitRet_eq h2]
noncomputable def goL (c : Code) (A : Around) : Sem PySem.Fin := match c with
  | .func body env => match splitRet body with
    | some (pre, l, r, p, q) => match Nat.ble (A.under (.func body env)).units 9000 && !behindInMarks .Eq r with
      | true => funcN pre l r p q env
      | false => Dz (.func body env)
    | none => goF (.func body env) A
  | c => goF c A
theorem goL_sound {M : Model} {c : Code} {A : Around} {Q : PySem.Fin → Shared → Prop} {E : Value → Shared → Prop} {s : Shared} (x : wpOwn M A c (goL c A) Q E s) : wpOwn M A c (denote table c) Q E s := by
  unfold goL at x
  split at x
  · rename_i body env
    split at x
    · rename_i pre l r p q e
      split at x
      · rename_i hb
        obtain ⟨hb, hm⟩ := Bool.and_eq_true_iff.mp hb
        have hu := Nat.le_of_ble_eq_true hb
        have eb := splitRet_eq e
        intro Γ p' hc hΓ
        have hi := (hc ▸ hΓ.in : Γ.In (A.under _))
        have z := funcN_wp (by simpa using hm) (Nat.lt_of_le_of_lt hi.2.2.2.2 (Nat.lt_of_le_of_lt hu (by decide))) (x Γ p' hc hΓ)
        rw [← eb] at z
        exact z
      · rw [← Dz_eq]; exact x
    · exact goF_sound x
  · exact goF_sound x
end Mine
end
-- part Hooks11
section
namespace Mine
/-! hooks of law's own body: what a call gives, its token not told -/
noncomputable def hookU2 (id : String) (a b : Nat → PySem.Value) (v : Nat → PySem.Value) : HookT := fun _ c _ cont L sz tb _ gl gh => .eqC c (.call (.builtin id) ⟨[a (argTok c), b (argTok2 c)], []⟩) (.allN fun t => .allN fun i' => cont (.ok (.ret (v t))) L sz tb i' gl gh)
theorem hookU2_ok {V : Ev} {id : String} {a b : Nat → PySem.Value} {v : Nat → PySem.Value}
    (hc : ∀ t u (A : Around) (s : Shared) (Q : PySem.Value → Shared → Prop), (∀ t' k, Q (v t') { s with toks := s.toks + k }) → wpAny (md V) A (call (.builtin id) [a t, b u]) Q (fun _ _ => False) s) : HookOk V (hookU2 id a b v) := by
  intro j c A g l cont L sz tb i gl gh h H D
  obtain ⟨ec, H⟩ := eqC_of H
  rw [ec]
  exact hook_call (hc _ _ _ _ _ fun t' k => ⟨L, sz, tb, i + k, gl, gh, h, by unfold sh; rw [Nat.add_assoc], D, H t' (i + k)⟩)
noncomputable def hookAddU (x y : List Nat) : HookT := hookU2 "str.__add__" (fun t => .str ⟨⟨x⟩⟩ t) (fun t => .str ⟨⟨y⟩⟩ t) (fun t => .str ⟨⟨x ++ y⟩⟩ t)
theorem hookAddU_ok {V : Ev} {x y : List Nat} (hl : (x ++ y).length ≤ sizeLine) : HookOk V (hookAddU x y) := by
  refine hookU2_ok fun t u A s Q hq => call_meets PySem.F.slot_str_add (typeIs_str _ _ _) PySem.F.entry_str_add (PySem.F.args_str_add_2 _ _) (gives_str_add ⟨⟨x⟩⟩ ⟨⟨y⟩⟩ t u).meets ?_
  cases x with
  | nil => exact hq u 0
  | cons a x => cases y with
    | nil =>
      have z := hq t 0
      rw [List.append_nil] at z
      exact z
    | cons b y =>
      have h1 : ((⟨⟨a :: x⟩⟩ : Str).length == 0) = false := rfl
      have h2 : ((⟨⟨b :: y⟩⟩ : Str).length == 0) = false := rfl
      rw [h1, h2, append_cps]
      exact ⟨hl, hq _ 1⟩
noncomputable def hookMulU (ch : Nat) (z : Int) (m : Nat) : HookT := hookU2 "str.__mul__" (fun t => .str ⟨⟨[ch]⟩⟩ t) (fun t => .int z t) (fun t => .str ⟨⟨List.replicate m ch⟩⟩ t)
theorem hookMulU_ok {V : Ev} {ch : Nat} {z : Int} {m : Nat} (hz : z = m) (hm : m ≤ 2) : HookOk V (hookMulU ch z m) := by
  subst hz
  have hs : sizeLine = 16777216 := by decide
  refine hookU2_ok fun t u A s Q hq => call_meets PySem.F.slot_str_mul (typeIs_str _ _ _) PySem.F.entry_str_mul (PySem.F.args_str_mul_2 _ _) (gives_str_mul ⟨⟨[ch]⟩⟩ (m : Int) t u ?_ ?_ ?_).meets ?_
  · obtain rfl | rfl | rfl : m = 0 ∨ m = 1 ∨ m = 2 := by omega
    · rfl
    · rfl
    · rfl
  · intro h1 h2
    obtain rfl | rfl | rfl : m = 0 ∨ m = 1 ∨ m = 2 := by omega
    · exact absurd (by decide) h1
    · cases h2
    · show ¬ ((1 : Int) > _); decide
  · intro h1 h2
    obtain rfl | rfl | rfl : m = 0 ∨ m = 1 ∨ m = 2 := by omega
    · exact absurd (by decide) h1
    · cases h2
    · show decide (1 * 2 > sizeLine) = false
      rw [hs]; decide
  · obtain rfl | rfl | rfl : m = 0 ∨ m = 1 ∨ m = 2 := by omega
    · exact ⟨by show 0 ≤ sizeLine; omega, hq _ 1⟩
    · exact hq t 0
    · exact ⟨by show 2 ≤ sizeLine; omega, hq _ 1⟩
/-- chr -/
noncomputable def hookChr (z : Int) (u : Nat) : HookT := fun _ c _ cont L sz tb i gl gh => .eqC c (.call (.builtin "chr") ⟨[.int z (argTok c)], []⟩) (cont (.ok (.ret (.str ⟨⟨[u]⟩⟩ (tb + i)))) L sz tb (i + 1) gl gh)
theorem hookChr_ok {V : Ev} {z : Int} {u : Nat} (hz : z = u) (hu : u ≤ 1114111) : HookOk V (hookChr z u) := by
  intro j c A g l cont L sz tb i gl gh h H D
  subst hz
  obtain ⟨ec, H⟩ := eqC_of H
  rw [ec]
  exact hook_call (P.chr_of_int (by simp only [Bool.or_eq_false_iff, decide_eq_false_iff_not]; omega) ⟨L, sz, tb, i + 1, gl, gh, h, rfl, D, H⟩)
/-- sums and remainders of numbers -/
noncomputable def hookI2 (id : String) (a b : Int) (r : Nat) : HookT := fun _ c _ cont L sz tb i gl gh => .eqC c (.call (.builtin id) ⟨[.int a (argTok c), .int b (argTok2 c)], []⟩)
  (cont (.ok (.ret (.int (r : Int) (tb + i)))) L sz tb (i + 1) gl gh)
theorem hookAddI_ok {V : Ev} {a b : Int} {r : Nat} (hr : a + b = r) : HookOk V (hookI2 "int.__add__" a b r) := by
  intro j c A g l cont L sz tb i gl gh h H D
  obtain ⟨ec, H⟩ := eqC_of H
  rw [ec]
  refine hook_call (call_meets PySem.F.slot_int_add (typeIs_int _ _ _) PySem.F.entry_int_add (PySem.F.args_int_add_2 _ _) (AutoIntG4.int___add___int_int_0 a (argTok c) b (argTok2 c)).meets ?_)
  rw [hr]
  exact ⟨L, sz, tb, i + 1, gl, gh, h, rfl, D, H⟩
theorem hookModI_ok {V : Ev} {a b : Int} {r : Nat} (h0 : ¬ (b == 0) = true) (hr : a.fmod b = r) : HookOk V (hookI2 "int.__mod__" a b r) := by
  intro j c A g l cont L sz tb i gl gh h H D
  obtain ⟨ec, H⟩ := eqC_of H
  rw [ec]
  refine hook_call (call_meets PySem.F.slot_int_mod (typeIs_int _ _ _) PySem.F.entry_int_mod (PySem.F.args_int_mod_2 _ _) (AutoIntG6.int___mod___int_int_1 a (argTok c) b (argTok2 c) h0).meets ?_)
  rw [hr]
  exact ⟨L, sz, tb, i + 1, gl, gh, h, rfl, D, H⟩
noncomputable def toksOf (o : Obj) : List Nat := match o.data with
  | .seq ⟨l⟩ _ => l.map tokV
  | _ => []
/-- a list's item by a number -/
noncomputable def hookGetI (ms : List Nat) (z : Int) (v : Nat) : HookT := fun _ c _ cont L sz tb i gl gh => inLed (argRV c).1 L fun _ p => .eqC c (.call (.builtin "list.__getitem__") ⟨[.ref (argRV c).1, .int z (argTok2 c)], []⟩)
  (.eqO p.2 (listObj ⟨valI ms (toksOf p.2)⟩ (seqN p.2)) (.allN fun t => cont (.ok (.ret (.int (v : Int) t))) L sz tb i gl gh))
theorem valI_get : ∀ (ms ts : List Nat) (k v : Nat), ms[k]? = some v → ∃ t, (valI ms ts)[k]? = some (.int (v : Int) t)
  | [], _, _, _, h => by cases h
  | m :: ms, ts, 0, v, h => by
    have h : some m = some v := h
    cases h
    exact ⟨_, rfl⟩
  | m :: ms, ts, k + 1, v, h => valI_get ms ts.tail k v h
theorem hookGetI_ok {V : Ev} {ms : List Nat} {z : Int} {k v : Nat} (hz : z = k) (hk : ms[k]? = some v) (hs : k < 100) : HookOk V (hookGetI ms z v) := by
  intro j c A g l cont L sz tb i gl gh h H D
  obtain ⟨j, p, e, ea, H⟩ := inLed_of H
  obtain ⟨ec, H⟩ := eqC_of H
  obtain ⟨ho, H9⟩ := eqO_of H
  rw [ea] at ec
  rw [ec]
  have hp' : h.get? p.1 = some (listObj ⟨valI ms (toksOf p.2)⟩ (seqN p.2)) := (D.own p (ledAt_mem e)).trans (congrArg some ho)
  obtain ⟨t, ht⟩ := valI_get ms (toksOf p.2) k v hk
  have hl : (sh V h tb i gl).heap.IsList p.1 ⟨valI ms (toksOf p.2)⟩ := ⟨_, hp', rfl, _, rfl⟩
  refine hook_call (wpAny_call_entry slot_list_getitem hl.typeIs PySem.entry_list_getitem ?_ (args_list_getitem _ _))
  show wpAny _ _ (Builtin.List.listSubscript? (.int z (argTok2 c)) >>= _) _ _ _
  refine wpAny_bind (wpAny_listSubscript_int (fitsIndex_of (by omega) (by omega)) ?_)
  subst hz
  show wpAny _ _ ((seqItemAt p.1 k >>= fun r => pure (r.map (k, ·))) >>= _) _ _ _
  refine wpAny_bind (wpAny_bind (wpAny_seqItemAt hp' rfl (wpAny_pure ?_)))
  have hx : (⟨valI ms (toksOf p.2)⟩ : Array PySem.Value)[k]? = some (.int (v : Int) t) := by simpa using ht
  rw [hx]
  exact wpAny_bind (wpAny_pure (wpAny_pure ⟨_, rfl, ⟨L, sz, tb, i, gl, gh, h, rfl, D, H9 t⟩⟩))
noncomputable def seqV (o : Obj) : Array PySem.Value := match o.data with
  | .seq v _ => v
  | _ => #[]
/-- enumerate(list) -/
noncomputable def hookEnumL : HookT := fun _ c _ cont L sz tb i gl gh => inLed (argRV c).1 L fun _ p => .eqC c (.call (.type "enumerate") ⟨[.ref (argRV c).1], []⟩) (.eqO p.2 (listObj (seqV p.2) (seqN p.2))
  (cont (.ok (.ret (.ref (sz + 1)))) ((sz + 1, enumObj sz 0 .none) :: (sz, listIt (argRV c).1 0) :: L) (sz + 1 + 1) tb i gl gh))
theorem hookEnumL_ok {V : Ev} (S : V.Std) : HookOk V hookEnumL := by
  intro j c A g l cont L sz tb i gl gh h H D
  obtain ⟨j, p, e, ea, H⟩ := inLed_of H
  obtain ⟨ec, H⟩ := eqC_of H
  obtain ⟨ho, H⟩ := eqO_of H
  rw [ea] at ec H
  rw [ec]
  have hp' : h.get? p.1 = some (listObj (seqV p.2) (seqN p.2)) := (D.own p (ledAt_mem e)).trans (congrArg some ho)
  refine hook_call (callType_new PySem.F.called_enumerate (by decide) (PySem.F.typeCall_enumerate_1 _) (PySem.F.newCall_enumerate_1 _) (fun obj => PySem.F.args_object_init_2 obj _) PySem.F.entry_enumerate_new
    (meets_enumerate_newL p.1 (seqV p.2) (seqN p.2) none #[]) ⟨hp', ?_⟩)
  have D1 := D.new (Std.low S) (o := listIt p.1 0) rfl
  have D2 := D1.new (Std.low S) (o := enumObj sz 0 .none) rfl
  have es : h.objs.size = sz := D.size
  have es1 : (h.push (listIt p.1 0)).objs.size = sz + 1 := D1.size
  show Shared.TypeIs { sh V h tb i gl with heap := (h.push (listIt p.1 0)).push (enumObj h.objs.size 0 .none) } (.ref (h.push (listIt p.1 0)).objs.size) _ ∧ Behind V cont (.ok (.ret (.ref (h.push (listIt p.1 0)).objs.size))) { sh V h tb i gl with heap := (h.push (listIt p.1 0)).push (enumObj h.objs.size 0 .none) }
  rw [es, es1]
  exact ⟨⟨_, D2.own _ (.head _), rfl⟩, _, _, tb, i, gl, gh, _, rfl, D2, H⟩
end Mine
end
-- part Hooks12
section
namespace Mine
/-! the heap never shrinks -/
theorem runs_size {M : Model} {Γ : Ctx} {p : Pos} {t : Sem PySem.Fin} {fs : List Frame} {s s' : Shared} {e : End} (h : Runs M Γ p t fs s e s') : s.heap.objs.size ≤ s'.heap.objs.size := by
  induction h with
  | update _ _ ih => exact Nat.le_trans (Nat.le_of_eq (Heap.SameBut.update ..).1.symm) ih
  | alloc _ ih => rw [Heap.size_push] at ih; omega
  | _ => (try simp only [Shared.setGen] at *) <;> omega
theorem call_grows {M : Model} {A : Around} {c : Code} {g : Bool} {l : List PySem.Value} {R : Result → Shared → Prop} {s : Shared}
    (x : wpAny M A (.call c none g l .pure : Sem Result) (fun r s' => s.toks ≤ s'.toks → s.heap.objs.size ≤ s'.heap.objs.size → R r s') (fun _ _ => False) s) : wpAny M A (.call c none g l .pure : Sem Result) R (fun _ _ => False) s := fun Γ p hΓ => by
  obtain ⟨r, s', hr, h⟩ := x Γ p hΓ
  exact ⟨r, s', hr, h (Runs.toks_le hr) (runs_size hr)⟩
theorem call_node {V : Ev} {A : Around} {f : PySem.Value} {pos : List PySem.Value} {g : Bool} {l : List PySem.Value} {R : Result → Shared → Prop} {s : Shared}
    (x : wpAny (md V) A (call f pos) (fun v s' => s.toks ≤ s'.toks → s.heap.objs.size ≤ s'.heap.objs.size → R (.ok (.ret v)) s') (fun _ _ => False) s) : wpAny (md V) A (.call (.call f ⟨pos, []⟩) none g l .pure : Sem Result) R (fun _ _ => False) s :=
  call_grows (wpAny_mono (call_plain x) (fun r s' h => by obtain ⟨v, rfl, h⟩ := h; exact h) fun _ _ h => h)
theorem behind_keep {V : Ev} (S : V.Std) {cont : Result → Cont} {r : Result} {L : Led} {sz tb i : Nat} {gl : List GenState} {gh : List PySem.Value} {h h' : Heap} {tk : Nat} (D : Rp V h L sz tb)
    (hk : ∀ b o, h.get? b = some o → h'.get? b = some o) (hs : h.objs.size ≤ h'.objs.size) (ht : tb + i ≤ tk) (H : ∀ N' T', good (cont r L (N' + 171) (T' + 2349) 0 gl gh)) : Behind V cont r ⟨h', ⟨gl⟩, V.d, tk, V.os⟩ := by
  have hz := D.size
  have hlow := S.n₁ ▸ D.low
  have htl := D.tlow
  have H := H (h'.objs.size - 171) (tk - 2349)
  rw [Nat.sub_add_cancel (show 171 ≤ h'.objs.size from by omega), Nat.sub_add_cancel (show 2349 ≤ tk from by omega)] at H
  refine ⟨L, h'.objs.size, tk, 0, gl, gh, h', rfl, ⟨by omega, rfl, S.n₁ ▸ (by omega), Nat.le_trans D.mono (by omega), fun p hp => hk _ _ (D.own p hp), D.nodup, D.sep, D.mine, fun a o e => hk _ _ (D.top a o e), fun b o e q => hk _ _ (D.old b o e q)⟩, H⟩
theorem behind_keep1 {V : Ev} (S : V.Std) {cont : Result → Cont} {r : Result} {L : Led} {sz tb i : Nat} {gl : List GenState} {gh : List PySem.Value} {h h' : Heap} {tk : Nat} {o₁ : Obj} (D : Rp V h L sz tb)
    (hk : ∀ b o, h.get? b = some o → h'.get? b = some o) (h1 : h'.get? sz = some o₁) (ht : tb + i ≤ tk) (H : ∀ N' T', good (cont r ((sz, o₁) :: L) (N' + 171) (T' + 2349) 0 gl gh)) : Behind V cont r ⟨h', ⟨gl⟩, V.d, tk, V.os⟩ := by
  have hz := D.size
  have hlow := S.n₁ ▸ D.low
  have htl := D.tlow
  have hlt : sz < h'.objs.size := Heap.lt_size h1
  have H := H (h'.objs.size - 171) (tk - 2349)
  rw [Nat.sub_add_cancel (show 171 ≤ h'.objs.size from by omega), Nat.sub_add_cancel (show 2349 ≤ tk from by omega)] at H
  refine ⟨(sz, o₁) :: L, h'.objs.size, tk, 0, gl, gh, h', rfl, ⟨by omega, rfl, S.n₁ ▸ (by omega), Nat.le_trans D.mono (by omega), fun p hp => ?_, ?_, fun p hp => ?_, fun p hp => ?_, fun a o e => hk _ _ (D.top a o e), fun b o e q => hk _ _ (D.old b o e q)⟩, H⟩
  · rcases List.mem_cons.mp hp with rfl | hp
    · exact h1
    · exact hk _ _ (D.own p hp)
  · refine List.nodup_cons.mpr ⟨fun hm => ?_, D.nodup⟩
    obtain ⟨p, hp, e⟩ := List.mem_map.mp hm
    exact Nat.ne_of_lt (D.lt hp) e
  · rcases List.mem_cons.mp hp with rfl | hp
    · exact Std.low S _ D.low
    · exact D.sep p hp
  · rcases List.mem_cons.mp hp with rfl | hp
    · exact .inl D.mono
    · exact D.mine p hp
/-! numbers in lists, of either sign -/
noncomputable def valZ : List Int → List Nat → List PySem.Value
  | [], _ => []
  | z :: r, ts => .int z (ts.headD 0) :: valZ r ts.tail
theorem valZ_length : ∀ zs ts, (valZ zs ts).length = zs.length
  | [], _ => rfl
  | z :: r, ts => congrArg (· + 1) (valZ_length r ts.tail)
theorem valZ_get : ∀ (zs : List Int) (ts : List Nat) (k : Nat), (valZ zs ts)[k]? = (zs[k]?).map fun z => .int z (ts.getD k 0)
  | [], _, _ => by simp [valZ]
  | z :: r, ts, 0 => by cases ts <;> rfl
  | z :: r, ts, k + 1 => by
    show (valZ r ts.tail)[k]? = _
    rw [valZ_get r ts.tail k]
    cases ts with
    | nil => simp
    | cons t ts => simp
theorem valI_ints : ∀ ms ts, AllInts ⟨valI ms ts⟩ := fun ms ts v hv => by
  have : v ∈ valI ms ts := by simpa using hv
  exact valI_int ms ts v this
theorem valI_nums : ∀ ms ts, numsOf (valI ms ts) = ms.map fun (m : Nat) => (m : Int)
  | [], _ => rfl
  | m :: ms, ts => by
    show (m : Int) :: numsOf (valI ms ts.tail) = _
    rw [valI_nums ms ts.tail]; rfl
theorem sum_cast : ∀ ms : List Nat, (ms.map fun (m : Nat) => (m : Int)).sum = ((ms.sum : Nat) : Int)
  | [] => rfl
  | m :: ms => by rw [List.map_cons, List.sum_cons, List.sum_cons, sum_cast ms]; push_cast; rfl
/-- sum(list) -/
noncomputable def hookSum (ms : List Nat) : HookT := fun _ c A cont L _ _ _ gl gh => match A.handled with
  | none => inLed (argRV c).1 L fun _ p => .eqC c (.call (.builtin "sum") ⟨[.ref (argRV c).1], []⟩) (.eqO p.2 (listObj ⟨valI ms (tsG gh)⟩ (seqN p.2))
    (.allN fun t => .allN fun N' => .allN fun T' => cont (.ok (.ret (.int ((ms.sum : Nat) : Int) t))) L (N' + 171) (T' + 2349) 0 gl gh))
  | some _ => .bad 88 0
theorem hookSum_ok {V : Ev} (S : V.Std) {ms : List Nat} : HookOk V (hookSum ms) := by
  intro j c A g l cont L sz tb i gl gh h H D
  unfold hookSum at H
  split at H
  · rename_i hA
    obtain ⟨j, p, e, ea, H⟩ := inLed_of H
    obtain ⟨ec, H⟩ := eqC_of H
    obtain ⟨ho, H⟩ := eqO_of H
    rw [ea] at ec
    rw [ec]
    have hp' : (sh V h tb i gl).heap.get? p.1 = some (listObj ⟨valI ms (tsG gh)⟩ (seqN p.2)) := (D.own p (ledAt_mem e)).trans (congrArg some ho)
    refine call_node ?_
    obtain ⟨xs, hxs⟩ := (valI_ints ms (tsG gh)).items
    have hl : (sh V h tb i gl).heap.IsList p.1 (intItems xs) := ⟨_, hp', rfl, _, by rw [← hxs]; rfl⟩
    have hn : preSum (numAt xs) xs.size = ((ms.sum : Nat) : Int) := by
      have e1 := nums_intItems (xs := xs)
      rw [← hxs] at e1
      have e2 : numsOf (valI ms (tsG gh)) = _ := e1
      rw [valI_nums] at e2
      rw [preSum_eq, List.take_of_length_le (by simp), ← e2, sum_cast]
    refine sum_intListG hA hl fun h' tk t' hk => fun ht hs => ?_
    rw [hn]
    exact behind_keep S D hk hs ht fun N' T' => H t' N' T'
  · cases H
end Mine
end
-- part Hooks13
section
namespace Mine
theorem items_valI (a : Nat) : ∀ (n : Nat) (l : List PySem.Value) (k : Nat), l.length = n → (∀ (j : Nat) (v : PySem.Value), l[j]? = some v → ∃ t, v = PySem.Value.int (((a + k + j : Nat)) : Int) t) → ∃ ts, l = valI (List.range' (a + k) n) ts
  | 0, l, k, hl, _ => ⟨[], by rw [List.length_eq_zero_iff.mp hl]; rfl⟩
  | n + 1, [], k, hl, _ => by cases hl
  | n + 1, v :: l, k, hl, hi => by
    obtain ⟨t, ht⟩ := hi 0 v rfl
    obtain ⟨ts, hts⟩ := items_valI a n l (k + 1) (by simpa using hl) (fun j v hv => by
      obtain ⟨t, ht⟩ := hi (j + 1) v hv
      exact ⟨t, by rw [ht]; congr 2; omega⟩)
    refine ⟨t :: ts, ?_⟩
    rw [hts, ht]
    rfl
noncomputable def rangeAB (a b t1 t t2 : Nat) : Obj := ⟨.type "range", none, .fields ⟨[.int (a : Int) t1, .int (b : Int) t, .int 1 t2]⟩, #[]⟩
/-- list(range(a, b)) -/
noncomputable def hookListR (a b n : Nat) : HookT := fun _ c A cont L sz _ _ gl gh => match A.handled with
  | none => inLed (argRV c).1 L fun _ p => .eqC c (.call (.type "list") ⟨[.ref (argRV c).1], []⟩) (.eqO p.2 (rangeAB a b (tokV (fieldAt p.2 0)) (tokV (fieldAt p.2 1)) (tokV (fieldAt p.2 2)))
    (.allL fun ts => .allN fun c' => .allN fun n' => .allN fun m => cont (.ok (.ret (.ref sz))) ((sz, listObj ⟨valI (List.range' a n) ts⟩ c') :: L) (n' + 171) (m + 2349) 0 gl gh))
  | some _ => .bad 88 0
theorem hookListR_ok {V : Ev} (S : V.Std) {a b n : Nat} (hs : Builtin.Range.small (a : Int) (b : Int) 1 = true) (hz : Builtin.Range.rangeSize (a : Int) (b : Int) 1 = n) (hn : n ≤ 2 ^ 24) : HookOk V (hookListR a b n) := by
  intro j c A g l cont L sz tb i gl gh h H D
  unfold hookListR at H
  split at H
  · rename_i hA
    obtain ⟨j, p, e, ea, H⟩ := inLed_of H
    obtain ⟨ec, H⟩ := eqC_of H
    obtain ⟨ho, H⟩ := eqO_of H
    rw [ea] at ec
    rw [ec]
    have hp' : (sh V h tb i gl).heap.get? p.1 = some (rangeAB a b (tokV (fieldAt p.2 0)) (tokV (fieldAt p.2 1)) (tokV (fieldAt p.2 2))) := (D.own p (ledAt_mem e)).trans (congrArg some ho)
    have es : h.objs.size = sz := D.size
    refine call_node (call_list_range hA (s := sh V h tb i gl) hp' hs hz hn fun h' tk acc' c' hk hS hacc => fun ht _ => ?_)
    obtain ⟨ts, hts⟩ := items_valI a n acc'.toList 0 (by rw [Array.length_toList]; exact hacc.1) (fun j v hv => by
      obtain ⟨t, e⟩ := hacc.2 j v (by rw [← Array.getElem?_toList]; exact hv)
      exact ⟨t, e.trans (congrArg (fun z => PySem.Value.int z t) (by rw [Int.mul_one, Nat.add_zero]; exact (Int.natCast_add a j).symm))⟩)
    rw [Nat.add_zero] at hts
    have ea : acc' = ⟨valI (List.range' a n) ts⟩ := by apply Array.ext'; rw [hts]
    subst ea
    have hS : h'.get? h.objs.size = some (listObj ⟨valI (List.range' a n) ts⟩ c') := hS
    show Behind V cont (.ok (.ret (.ref h.objs.size))) _
    rw [es] at hS ⊢
    exact behind_keep1 S D hk hS ht fun N' T' => H ts c' N' T'
  · cases H
noncomputable def sliceK (k t1 t2 t3 : Nat) : Obj := ⟨.type "slice", none, .fields ⟨[.int (k : Int) t1, .int 63 t2, .int 3 t3]⟩, #[]⟩
/-- every third of the first 63, from k on -/
noncomputable def picksL (zs : List Int) (k : Nat) : List Int :=
  (sliceRange (sliceBounds (some (k : Int)) (some 63) (some 3) zs.length).1 (sliceBounds (some (k : Int)) (some 63) (some 3) zs.length).2.1 (sliceBounds (some (k : Int)) (some 63) (some 3) zs.length).2.2).filterMap (zs[·]?)
theorem pick_valZ (zs : List Int) (ts : List Nat) : ∀ l : List Nat, ∃ us, l.filterMap ((⟨valZ zs ts⟩ : Array PySem.Value)[·]?) = valZ (l.filterMap (zs[·]?)) us
  | [] => ⟨[], rfl⟩
  | k :: l => by
    obtain ⟨us, hus⟩ := pick_valZ zs ts l
    have e : (⟨valZ zs ts⟩ : Array PySem.Value)[k]? = (zs[k]?).map fun z => .int z (ts.getD k 0) := by
      rw [← valZ_get]; simp
    rw [List.filterMap_cons, List.filterMap_cons, e]
    cases zs[k]? with
    | none => exact ⟨us, hus⟩
    | some z => exact ⟨ts.getD k 0 :: us, by show _ :: _ = _; rw [hus]; rfl⟩
theorem picks_length (zs : List Int) (k : Nat) : (picksL zs k).length ≤ zs.length := by
  obtain ⟨us, hus⟩ := pick_valZ zs [] (sliceRange (sliceBounds (some (k : Int)) (some 63) (some 3) zs.length).1 (sliceBounds (some (k : Int)) (some 63) (some 3) zs.length).2.1 (sliceBounds (some (k : Int)) (some 63) (some 3) zs.length).2.2)
  have z := slicePick_size_le (⟨valZ zs []⟩ : Array PySem.Value) (some (k : Int)) (some 63) (some 3)
  unfold slicePick at z
  have e : (⟨valZ zs []⟩ : Array PySem.Value).size = zs.length := valZ_length zs []
  rw [e, hus, List.size_toArray, valZ_length] at z
  exact z
noncomputable def hookSliceL (zs : List Int) (tsf : Obj → List Nat) (k : Nat) : HookT := fun _ c _ cont L sz tb i gl gh => inLed (argRV c).1 L fun _ p => inLed (argSR c) L fun _ q =>
  .eqC c (.call (.builtin "list.__getitem__") ⟨[.ref (argRV c).1, .ref (argSR c)], []⟩) (.eqO p.2 (listObj ⟨valZ zs (tsf p.2)⟩ (seqN p.2)) (.eqO q.2 (sliceK k (tokV (fieldAt q.2 0)) (tokV (fieldAt q.2 1)) (tokV (fieldAt q.2 2)))
    (.allL fun us => cont (.ok (.ret (.ref sz))) ((sz, listObj ⟨valZ (picksL zs k) us⟩ 0) :: L) (sz + 1) tb i gl (.str ⟨⟨us⟩⟩ 0 :: gh))))
theorem call_slice {prog : Program} {w : World} {A : Around} {E : PySem.Value → Shared → Prop} {s : Shared} {l sl : Addr} {items : Array PySem.Value} {vl vu vs : PySem.Value} {lo hi st : Option Int} {Q : PySem.Value → Shared → Prop} (hl : s.heap.IsList l items)
    (hs : s.heap.IsSliceOf sl vl vu vs) (pl : IsPart vl lo) (pu : IsPart vu hi) (ps : IsPart vs st) (h0 : st ≠ some 0)
    (h : Q (.ref s.heap.objs.size) { s with heap := s.heap.push { cls := .type "list", data := .seq (slicePick items lo hi st) } })
    (hsz : items.size ≤ sizeLine) : wpAny (model prog w) A (call (.builtin "list.__getitem__") [.ref l, .ref sl]) Q E s := by
  obtain ⟨o, ho, hc, ne, hd⟩ := id hl
  obtain ⟨os, hos, hcs, hds⟩ := id hs
  have hTs : s.TypeIs (.ref sl) "slice" := ⟨os, hos, hcs⟩
  refine wpAny_call_entry slot_list_getitem hl.typeIs PySem.entry_list_getitem ?_ (args_list_getitem _ _)
  show wpAny _ _ (Builtin.List.listSubscript? (.ref sl) >>= _) _ _ s
  refine wpAny_bind ?_
  unfold Builtin.List.listSubscript?
  refine wpAny_bind (wpAny_specialOf hTs slice_no_index ?_)
  simp only [Option.isNone_none, if_true]
  refine wpAny_pure ?_
  show wpAny _ _ (typeOf (.ref sl) >>= _) _ _ s
  refine wpAny_bind (wpAny_typeOf hTs ?_)
  rw [if_neg (by decide)]
  rw [listSliceParts_eq]
  have hstep : ¬ ((rawPart st == rawInt 0) = true) := by
    cases st with
    | none => exact Bool.false_ne_true
    | some c =>
      intro hh
      have : c = 0 := by simpa [rawPart, rawInt] using hh
      exact h0 (by rw [this])
  refine wpAny_bind (wpAny_bind (wpAny_field hos hds (x := vs) rfl (wpAny_bind (wpAny_listPart ps ?_))))
  rw [if_neg hstep]
  refine wpAny_bind (wpAny_field hos hds (x := vl) rfl (wpAny_bind (wpAny_listPart pl ?_)))
  refine wpAny_bind (wpAny_field hos hds (x := vu) rfl (wpAny_bind (wpAny_listPart pu (wpAny_pure ?_))))
  refine wpAny_bind (m := Builtin.List.listItems (.ref l)) ?_
  unfold Builtin.List.listItems
  refine wpAny_bind (wpAny_seqItems ho hd (wpAny_pure ?_))
  refine wpAny_bind (wpAny_of_eq (sliceIndices_raw lo hi st items.size h0) ?_)
  exact wpAny_bind (wpAny_newObj_type (wpAny_pure ⟨_, rfl, h⟩) (Nat.le_trans (slicePick_size_le items lo hi st) hsz))
theorem hookSliceL_ok {V : Ev} (S : V.Std) {zs : List Int} {tsf : Obj → List Nat} {k : Nat} (hz : zs.length ≤ sizeLine) : HookOk V (hookSliceL zs tsf k) := by
  intro j c A g l cont L sz tb i gl gh h H D
  obtain ⟨j1, p, e1, ea1, H⟩ := inLed_of H
  obtain ⟨j2, q, e2, ea2, H⟩ := inLed_of H
  obtain ⟨ec, H⟩ := eqC_of H
  obtain ⟨hp, H⟩ := eqO_of H
  obtain ⟨hq, H⟩ := eqO_of H
  rw [ea1, ea2] at ec
  rw [ec]
  have hp' : h.get? p.1 = some (listObj ⟨valZ zs (tsf p.2)⟩ (seqN p.2)) := (D.own p (ledAt_mem e1)).trans (congrArg some hp)
  have hq' : h.get? q.1 = some (sliceK k (tokV (fieldAt q.2 0)) (tokV (fieldAt q.2 1)) (tokV (fieldAt q.2 2))) := (D.own q (ledAt_mem e2)).trans (congrArg some hq)
  have es : h.objs.size = sz := D.size
  obtain ⟨us, hus⟩ := pick_valZ zs (tsf p.2) (sliceRange (sliceBounds (some (k : Int)) (some 63) (some 3) zs.length).1 (sliceBounds (some (k : Int)) (some 63) (some 3) zs.length).2.1 (sliceBounds (some (k : Int)) (some 63) (some 3) zs.length).2.2)
  have ep : slicePick (⟨valZ zs (tsf p.2)⟩ : Array PySem.Value) (some (k : Int)) (some 63) (some 3) = ⟨valZ (picksL zs k) us⟩ := by
    unfold slicePick
    have e : (⟨valZ zs (tsf p.2)⟩ : Array PySem.Value).size = zs.length := valZ_length zs _
    rw [e, hus]; rfl
  have D1 := D.new (Std.low S) (o := listObj ⟨valZ (picksL zs k) us⟩ 0) rfl
  refine hook_call (call_slice (s := sh V h tb i gl) (l := p.1) (sl := q.1) ⟨_, hp', rfl, _, rfl⟩ ⟨_, hq', rfl, rfl⟩ (.int _ _) (.int _ _) (.int _ _) (by simp) ?_ (by show (valZ zs (tsf p.2)).length ≤ _; rw [valZ_length]; exact hz))
  rw [ep]
  refine ⟨_, sz + 1, tb, i, gl, .str ⟨⟨us⟩⟩ 0 :: gh, _, rfl, D1, ?_⟩
  show good (cont (.ok (.ret (.ref h.objs.size))) _ _ _ _ _ _)
  rw [es]; exact H us
end Mine
end
-- part F14b
section
namespace Mine
/-- as V2, law's last statement gone into without the room asked -/
noncomputable def V3 (w : World) (h : Heap) (d : Drawn) (os : OsState) (n u : Nat) (keys : List Nat) (R : Result → Shared → Prop) (fin : Result → Cont) (hook : HookT) (tail : TailT) : Ev := { V2 w h d os n u keys R fin hook tail with go := goL }
theorem V3_std {w h d os n u keys R₀ fin hook tail} : (V3 w h d os n u keys R₀ fin hook tail).Std := ⟨rfl, rfl⟩
theorem V3_ok {w : World} {h : Heap} {d : Drawn} {os : OsState} {n u : Nat} {keys : List Nat} {R₀ : Result → Shared → Prop} {fin : Result → Cont} {hook : HookT} {tail : TailT}
    (hf : ∀ r L sz tb i gl gh h', good (fin r L sz tb i gl gh) → Rp (V3 w h d os n u keys R₀ fin hook tail) h' L sz tb → R₀ r ⟨h', ⟨gl⟩, d, tb + i, os⟩)
    (hh : HookOk (V3 w h d os n u keys R₀ fin hook tail) hook)
    (ht : ∀ j c L sz tb i gl gh h', good (tail j c L sz tb i gl gh) → Rp (V3 w h d os n u keys R₀ fin hook tail) h' L sz tb → codeAny (model pw w) (Bn n u) c R₀ ⟨h', ⟨gl⟩, d, tb + i, os⟩) : (V3 w h d os n u keys R₀ fin hook tail).Ok where
  den := Dz_eq
  go := fun _ _ _ _ _ x => goL_sound x
  ktlow := fun a h => ktop_low _ a h
  fin := hf
  gret := fun _ _ _ _ _ _ _ _ H _ => by cases H
  susp := fun _ _ _ _ _ _ _ _ _ _ _ _ H _ _ _ _ => by cases H
  hook := hh
  tail := ht
  gtail := fun _ _ _ _ _ _ _ _ _ _ H _ => by cases H
  gstop := fun _ _ _ _ _ _ _ _ _ _ H _ => by cases H
  cut := fun _ _ _ _ _ _ _ _ _ _ _ _ H _ => by cases H
noncomputable def scriptO (zs : List Int) (ts : List Nat) (n : Nat) : Obj := listObj ⟨valZ zs ts⟩ n
noncomputable def c14 (sl : Nat) : Code := .call (.ref 170) ⟨[.ref sl], []⟩
end Mine
end
-- part F14c
section
namespace Mine
/-! the three numbers drawn: codes and objects -/
noncomputable def eltOf (e : PySem.Expr) : PySem.Expr := match e with
  | .ListComp elt _ _ _ => elt
  | _ => noExpr
noncomputable def tgtOf (e : PySem.Expr) : PySem.Expr := match e with
  | .ListComp _ (g :: _) _ _ => g.target
  | _ => noExpr
noncomputable def binL (e : PySem.Expr) : PySem.Expr := match e with
  | .BinOp l _ _ _ => l
  | _ => noExpr
noncomputable def binR (e : PySem.Expr) : PySem.Expr := match e with
  | .BinOp _ _ r _ => r
  | _ => noExpr
noncomputable def compD (P : Params) : PySem.Expr := assigned (stmtAt (bodyOf (fdAt P 170)) 2)
noncomputable def compI (P : Params) : PySem.Expr := callArg (binR (binL (eltOf (compD P))))
noncomputable def envD (P : Params) (cl cs fr : Nat) : Env := { scope := { scopeE (compD P) with names := toCell (scopeE (compD P)).names }, locals := cl, globals := 3, cells := [(Str.ofString "script", cs)], qual := Str.ofString "law.<locals>.", func := none, code := .ref 169, frame := some fr, builtins := 0 }
noncomputable def envI (P : Params) (cl fr : Nat) : Env := { scope := scopeE (compI P), locals := cl, globals := 3, cells := [], qual := Str.ofString "law.<locals>.", func := none, code := .ref 169, frame := some fr, builtins := 0 }
noncomputable def cSD (P : Params) (en acc cl cs fr : Nat) : Code := .compStart (compD P) 0 (.ref en) (.ref acc) (envD P cl cs fr)
noncomputable def cLD (P : Params) (en acc cl cs fr : Nat) : Code := .compLoop (compD P) 0 (.ref en) (.ref acc) (envD P cl cs fr)
noncomputable def cSI (P : Params) (it acc cl fr : Nat) : Code := .compStart (compI P) 0 (.ref it) (.ref acc) (envI P cl fr)
noncomputable def cLI (P : Params) (it acc cl fr : Nat) : Code := .compLoop (compI P) 0 (.ref it) (.ref acc) (envI P cl fr)
noncomputable def sStartN : Str := ⟨⟨[115, 116, 97, 114, 116]⟩⟩
noncomputable def locDes (e : Option (Ky × Ky × PySem.Value × PySem.Value)) : List DictEntry := match e with
  | none => []
  | some (e1, e2, v1, v2) => [ky e1 sK v1, ky e2 sStartN v2]
noncomputable def locD (e : Option (Ky × Ky × PySem.Value × PySem.Value)) (n : Nat) : Obj := ⟨.type "dict", none, .dict ⟨locDes e⟩ n, #[]⟩
noncomputable def startsO (t0 t1 t2 n : Nat) : Obj := listObj ⟨[.int 491 t0, .int 327 t1, .int 1210 t2]⟩ n
/-- the ledger of the outer comprehension -/
noncomputable def linD (cl acc en it l cs sl : Nat) (e : Option (Ky × Ky × PySem.Value × PySem.Value)) (nf : Nat) (ms tm : List Nat) (ln k : Nat) (old : PySem.Value) (t0 t1 t2 n : Nat) (zs : List Int) (ts : List Nat) (sn : Nat) : Led :=
  [(en, enumObj it k old), (it, listIt l k), (l, startsO t0 t1 t2 n), (cl, locD e nf), (acc, listObj ⟨valI ms tm⟩ ln), (cs, cellO (.ref sl)), (sl, scriptO zs ts sn)]
end Mine
end
-- part F14d
section
namespace Mine
noncomputable def listEnd (k : Nat) : Obj := ⟨.type "list_iterator", none, .fields ⟨[.none, .int (k : Int) 0]⟩, #[]⟩
theorem listIt_end (l k : Nat) : Obj.mapFields (·.setIfInBounds 0 .none) (listIt l k) = listEnd k := by
  simp [Obj.mapFields, listIt, listEnd]
/-- a list's next number -/
noncomputable def hookLNext (zs : List Int) (tsf : Obj → List Nat) (k : Nat) (z : Int) : HookT := fun _ c _ cont L sz tb i gl gh => inLed (argRV c).1 L fun j p => inLed (nAt (fieldAt p.2 0)) L fun _ q =>
  .eqC c (.call (.builtin "list_iterator.__next__") ⟨[.ref (argRV c).1], []⟩) (.eqO p.2 (listIt (nAt (fieldAt p.2 0)) k) (.eqO q.2 (listObj ⟨valZ zs (tsf q.2)⟩ (seqN q.2))
    (.allN fun t => cont (.ok (.ret (.int z t))) (ledSet L j (listIt (nAt (fieldAt p.2 0)) (k + 1))) sz tb i gl gh)))
theorem hookLNext_ok {V : Ev} {zs : List Int} {tsf : Obj → List Nat} {k : Nat} {z : Int} (hz : zs[k]? = some z) : HookOk V (hookLNext zs tsf k z) := by
  intro j c A g l cont L sz tb i gl gh h H D
  obtain ⟨j, p, e, ea, H⟩ := inLed_of H
  obtain ⟨j2, q, e2, ea2, H⟩ := inLed_of H
  obtain ⟨ec, H⟩ := eqC_of H
  obtain ⟨hp, H⟩ := eqO_of H
  obtain ⟨hq, H⟩ := eqO_of H
  rw [ea] at ec
  rw [ec]
  rw [ea2] at hp H
  have hp' : h.get? p.1 = some (listIt q.1 k) := (D.own p (ledAt_mem e)).trans (congrArg some hp)
  have hq' : h.get? q.1 = some (listObj ⟨valZ zs (tsf q.2)⟩ (seqN q.2)) := (D.own q (ledAt_mem e2)).trans (congrArg some hq)
  have hT2 : (sh V h tb i gl).TypeIs (.ref p.1) "list_iterator" := ⟨_, hp', rfl⟩
  refine hook_call (wpAny_call_entry PySem.slot_listiter_next hT2 PySem.entry_listiter_next ?_ (PySem.args_listiter_next _))
  show wpAny _ _ (field (.ref p.1) 0 >>= _) _ _ _
  refine wpAny_bind (wpAny_field hp' rfl (x := .ref q.1) rfl ?_)
  show wpAny _ _ (if (Value.ref q.1 == Value.none) = true then _ else _) _ _ _
  rw [if_neg (show ¬ ((Value.ref q.1 == Value.none) = true) from Bool.false_ne_true)]
  show wpAny _ _ (field (.ref p.1) 1 >>= _) _ _ _
  refine wpAny_bind (wpAny_field hp' rfl (x := .int k 0) rfl ?_)
  show wpAny _ _ (seqItems? (.ref q.1) >>= _) _ _ _
  refine wpAny_bind (wpAny_seqItems hq' rfl ?_)
  have hx : (⟨valZ zs (tsf q.2)⟩ : Array PySem.Value)[k]? = some (.int z ((tsf q.2).getD k 0)) := by
    have : (valZ zs (tsf q.2))[k]? = _ := valZ_get zs (tsf q.2) k
    rw [hz] at this
    simpa using this
  simp only [Int.toNat_natCast, hx]
  refine wpAny_bind (wpAny_setField hp' rfl (by simp) (wpAny_pure ⟨_, rfl, ?_⟩))
  refine ⟨_, sz, tb, i, gl, gh, _, rfl, D.up e (Obj.mapFields (·.setIfInBounds 1 (rawInt ((k : Int) + 1)))) ?_, ?_⟩
  · rw [hp, listIt_next]; rfl
  · have e2 : Obj.mapFields (·.setIfInBounds 1 (rawInt ((k : Int) + 1))) p.2 = listIt q.1 (k + 1) := (congrArg _ hp).trans (listIt_next _ _)
    rw [e2]; exact H _
/-- no number is left -/
noncomputable def hookLEnd (zs : List Int) (tsf : Obj → List Nat) (k : Nat) : HookT := fun _ c A cont L sz tb i gl gh => match A.handled with
  | none => inLed (argRV c).1 L fun j p => inLed (nAt (fieldAt p.2 0)) L fun _ q =>
    .eqC c (.call (.builtin "list_iterator.__next__") ⟨[.ref (argRV c).1], []⟩) (.eqO p.2 (listIt (nAt (fieldAt p.2 0)) k) (.eqO q.2 (listObj ⟨valZ zs (tsf q.2)⟩ (seqN q.2))
      (cont (.error (.ref (sz + 1))) ((sz + 1, stopObj sz) :: (sz, noTuple) :: ledSet L j (listEnd k)) (sz + 2) tb i gl gh)))
  | some _ => .bad 88 0
theorem hookLEnd_ok {V : Ev} (S : V.Std) {zs : List Int} {tsf : Obj → List Nat} {k : Nat} (hz : zs[k]? = none) : HookOk V (hookLEnd zs tsf k) := by
  intro j c A g l cont L sz tb i gl gh h H D
  unfold hookLEnd at H
  split at H
  · rename_i hA
    obtain ⟨j, p, e, ea, H⟩ := inLed_of H
    obtain ⟨j2, q, e2, ea2, H⟩ := inLed_of H
    obtain ⟨ec, H⟩ := eqC_of H
    obtain ⟨hp, H⟩ := eqO_of H
    obtain ⟨hq, H⟩ := eqO_of H
    rw [ea] at ec
    rw [ec]
    rw [ea2] at hp
    have hp' : (sh V h tb i gl).heap.get? p.1 = some (listIt q.1 k) := (D.own p (ledAt_mem e)).trans (congrArg some hp)
    have hq' : (sh V h tb i gl).heap.get? q.1 = some (listObj ⟨valZ zs (tsf q.2)⟩ (seqN q.2)) := (D.own q (ledAt_mem e2)).trans (congrArg some hq)
    have hT2 : (sh V h tb i gl).TypeIs (.ref p.1) "list_iterator" := ⟨_, hp', rfl⟩
    refine call_any (wpAny_call_entry PySem.slot_listiter_next hT2 PySem.entry_listiter_next ?_ (PySem.args_listiter_next _))
    show wpAny _ _ (field (.ref p.1) 0 >>= _) _ _ _
    refine wpAny_bind (wpAny_field hp' rfl (x := .ref q.1) rfl ?_)
    show wpAny _ _ (if (Value.ref q.1 == Value.none) = true then _ else _) _ _ _
    rw [if_neg (show ¬ ((Value.ref q.1 == Value.none) = true) from Bool.false_ne_true)]
    show wpAny _ _ (field (.ref p.1) 1 >>= _) _ _ _
    refine wpAny_bind (wpAny_field hp' rfl (x := .int k 0) rfl ?_)
    show wpAny _ _ (seqItems? (.ref q.1) >>= _) _ _ _
    refine wpAny_bind (wpAny_seqItems hq' rfl ?_)
    have hx : (⟨valZ zs (tsf q.2)⟩ : Array PySem.Value)[k]? = none := by
      have : (valZ zs (tsf q.2))[k]? = _ := valZ_get zs (tsf q.2) k
      rw [hz] at this
      simpa using this
    simp only [Int.toNat_natCast, hx]
    refine wpAny_bind (wpAny_rule (wpAny_bind (wpAny_setField hp' rfl (by simp) ?_)))
    show wpAny _ _ (newExc (.type "StopIteration") [] >>= _) _ _ _
    refine wpAny_bind ?_
    simp only [newExc, newTuple]
    refine wpAny_bind (wpAny_newObj_type ?_ (by size_fits))
    refine wpAny_bind (m := firstArgMember _ _) (wpAny_of_eq (a := Value.none) (by first | rfl | (simp only [firstArgMember]; rfl)) ?_)
    refine wpAny_newObj_type ?_ (by size_fits)
    simp only [raiseNew]
    refine wpAny_bind (wpAny_handled ?_)
    rw [show A.in1.handled = none from hA]
    refine wpAny_bind (wpAny_pure (wpAny_throw ?_))
    have D1 := D.up e (Obj.mapFields (·.setIfInBounds 0 .none)) (by rw [hp, listIt_end]; rfl)
    have e2 : Obj.mapFields (·.setIfInBounds 0 .none) p.2 = listEnd k := (congrArg _ hp).trans (listIt_end _ _)
    rw [e2] at D1
    have D2 := D1.new (Std.low S) (o := noTuple) rfl
    have D3 := D2.new (Std.low S) (o := stopObj sz) rfl
    have es : (h.update p.1 (Obj.mapFields (·.setIfInBounds 0 .none))).objs.size = sz := D1.size
    have es2 : ((h.update p.1 (Obj.mapFields (·.setIfInBounds 0 .none))).push { cls := .type "tuple", data := .seq #[] }).objs.size = sz + 1 := D2.size
    refine ⟨(sz + 1, stopObj sz) :: (sz, noTuple) :: ledSet L j (listEnd k), sz + 2, tb, i, gl, gh, _, rfl, ?_, ?_⟩
    · show Rp V ((((h.update p.1 (Obj.mapFields (·.setIfInBounds 0 .none))).push { cls := .type "tuple", data := .seq #[] })).push (stopObj (h.update p.1 (Obj.mapFields (·.setIfInBounds 0 .none))).objs.size)) _ _ _
      rw [es]; exact D3
    · show good (cont (.error (.ref ((h.update p.1 (Obj.mapFields (·.setIfInBounds 0 .none))).push { cls := .type "tuple", data := .seq #[] }).objs.size)) _ _ _ _ _ _)
      rw [es2]; exact H
  · cases H
/-! the inner comprehension -/
noncomputable def sX : Str := ⟨⟨[120]⟩⟩
noncomputable def locIes (e : Option (Ky × PySem.Value)) : List DictEntry := match e with
  | none => []
  | some (e1, v1) => [ky e1 sX v1]
noncomputable def locI (e : Option (Ky × PySem.Value)) (n : Nat) : Obj := ⟨.type "dict", none, .dict ⟨locIes e⟩ n, #[]⟩
noncomputable def linI (cl acc it l : Nat) (e : Option (Ky × PySem.Value)) (nf : Nat) (xs : Array PySem.Value) (ln k : Nat) (zs : List Int) (ts : List Nat) (sn : Nat) : Led :=
  [(it, listIt l k), (l, listObj ⟨valZ zs ts⟩ sn), (cl, locI e nf), (acc, listObj xs ln)]
noncomputable def linIT (cl acc it l : Nat) (xs : Array PySem.Value) (r k : Nat) (zs : List Int) (ts : List Nat) (sn : Nat) : LinT := fun os gh =>
  linI cl acc it l (some (kyAt (oAt os 0) 0, valAt (oAt os 0) 0)) (dictN (oAt os 0)) (xs.push (.int (r : Int) (tokI gh))) (seqN (oAt os 1)) k zs ts sn
noncomputable def obI (w : World) (b1 b2 b3 : Bool) (cl acc it l fr : Nat) (e : Option (Ky × PySem.Value)) (nf : Nat) (xs : Array PySem.Value) (ln k r : Nat) (z : Int) (zs : List Int) (ts : List Nat) (sn : Nat) (d : Drawn) (os : OsState) (h : Heap) (N T : Nat) (gl : List GenState) (R : Result → Shared → Prop) : Ob :=
  let W := WB w b1 b2 b3
  sim (V2 W h d os 330 45 ((linI cl acc it l e nf xs ln k zs ts sn).map (·.1)) R noFin (hook2 (hookLNext zs (fun _ => ts) k z) (hook2 (hookI2 "int.__mod__" z 1458 r) (hookAppend xs))) (tlT (cLI W.params it acc cl fr) [cl, acc] (linIT cl acc it l xs r (k + 1) zs ts sn) gl)) 1000
    (cLI W.params it acc cl fr) none .base (goF (cLI W.params it acc cl fr) (Bn 330 45)) (linI cl acc it l e nf xs ln k zs ts sn) (N + 171) (T + 2349) 0 gl []
noncomputable def linIE (cl acc : Nat) (e : Option (Ky × PySem.Value)) (nf : Nat) (xs : Array PySem.Value) (ln : Nat) : Led := [(cl, locI e nf), (acc, listObj xs ln)]
noncomputable def obIE (w : World) (b1 b2 b3 : Bool) (cl acc it l fr : Nat) (e : Option (Ky × PySem.Value)) (nf : Nat) (xs : Array PySem.Value) (ln k : Nat) (zs : List Int) (ts : List Nat) (sn : Nat) (d : Drawn) (os : OsState) (h : Heap) (N T : Nat) (gl : List GenState) (R : Result → Shared → Prop) : Ob :=
  let W := WB w b1 b2 b3
  sim (V2 W h d os 330 45 ((linI cl acc it l e nf xs ln k zs ts sn).map (·.1)) R (fnT [] (fun _ _ => linIE cl acc e nf xs ln) gl) (hookLEnd zs (fun _ => ts) k) noTail) 1000
    (cLI W.params it acc cl fr) none .base (goF (cLI W.params it acc cl fr) (Bn 330 45)) (linI cl acc it l e nf xs ln k zs ts sn) (N + 171) (T + 2349) 0 gl []
noncomputable def obIS (w : World) (b1 b2 b3 : Bool) (cl acc it l fr : Nat) (e : Option (Ky × PySem.Value)) (nf : Nat) (xs : Array PySem.Value) (ln k : Nat) (zs : List Int) (ts : List Nat) (sn : Nat) (d : Drawn) (os : OsState) (h : Heap) (N T : Nat) (gl : List GenState) (R : Result → Shared → Prop) : Ob :=
  let W := WB w b1 b2 b3
  sim (V2 W h d os 330 45 ((linI cl acc it l e nf xs ln k zs ts sn).map (·.1)) R noFin noHook (tlT (cLI W.params it acc cl fr) [] (fun _ _ => linI cl acc it l e nf xs ln k zs ts sn) gl)) 1000
    (cSI W.params it acc cl fr) none .base (goF (cSI W.params it acc cl fr) (Bn 330 45)) (linI cl acc it l e nf xs ln k zs ts sn) (N + 171) (T + 2349) 0 gl []
end Mine
end
-- part F14e
section
namespace Mine
noncomputable def hI1 : List Nat := [1, 1, 1, 2, 3, 3, 3, 2, 3, 4, 1, 3, 4, 1, 2, 3, 4]
noncomputable def hIE : List Nat := [1, 1, 1, 2, 1, 5, 6]
noncomputable def hIS : List Nat := [1, 1, 2, 3, 4]
noncomputable def hIS2 : List Nat := [1, 1, 0, 1, 0, 1, 1, 1, 2, 3, 4]
section
variable (w : World) (b1 b2 b3 : Bool) (cl acc it l fr : Nat) (e : Option (Ky × PySem.Value)) (e1 : Ky) (v1 : PySem.Value) (nf : Nat) (xs : Array PySem.Value) (ln k r : Nat) (z : Int) (zs : List Int) (ts : List Nat) (sn : Nat) (d : Drawn) (os : OsState) (h : Heap) (N T : Nat) (gl : List GenState) (R : Result → Shared → Prop)
theorem ckI0 : lft (obI w b1 b2 b3 (cl+171) (acc+171) (it+171) (l+171) (fr+171) none nf xs ln k r z zs ts sn d os h N T gl R) hI1 = rgt (obI w b1 b2 b3 (cl+171) (acc+171) (it+171) (l+171) (fr+171) none nf xs ln k r z zs ts sn d os h N T gl R) hI1 := by cases b1 <;> kernel_rfl
theorem ckI1 : lft (obI w b1 b2 b3 (cl+171) (acc+171) (it+171) (l+171) (fr+171) (some (e1, v1)) nf xs ln k r z zs ts sn d os h N T gl R) hI1 = rgt (obI w b1 b2 b3 (cl+171) (acc+171) (it+171) (l+171) (fr+171) (some (e1, v1)) nf xs ln k r z zs ts sn d os h N T gl R) hI1 := by cases b1 <;> kernel_rfl
theorem ckIE : lft (obIE w b1 b2 b3 (cl+171) (acc+171) (it+171) (l+171) (fr+171) e nf xs ln k zs ts sn d os h N T gl R) hIE = rgt (obIE w b1 b2 b3 (cl+171) (acc+171) (it+171) (l+171) (fr+171) e nf xs ln k zs ts sn d os h N T gl R) hIE := by cases b1 <;> kernel_rfl
theorem ckIS1 : lft (obIS w b1 true b3 (cl+171) (acc+171) (it+171) (l+171) (fr+171) e nf xs ln 0 zs ts sn d os h N T gl R) hIS = rgt (obIS w b1 true b3 (cl+171) (acc+171) (it+171) (l+171) (fr+171) e nf xs ln 0 zs ts sn d os h N T gl R) hIS := by cases b1 <;> kernel_rfl
theorem ckIS2 : lft (obIS w b1 false b3 (cl+171) (acc+171) (it+171) (l+171) (fr+171) e nf xs ln 0 zs ts sn d os h N T gl R) hIS2 = rgt (obIS w b1 false b3 (cl+171) (acc+171) (it+171) (l+171) (fr+171) e nf xs ln 0 zs ts sn d os h N T gl R) hIS2 := by cases b1 <;> kernel_rfl
theorem gI : good (obI w b1 b2 b3 (cl+171) (acc+171) (it+171) (l+171) (fr+171) e nf xs ln k r z zs ts sn d os h N T gl R) := by
  rcases e with _ | ⟨e1, v1⟩
  · exact good_of _ _ (ckI0 w b1 b2 b3 cl acc it l fr nf xs ln k r z zs ts sn d os h N T gl R)
  · exact good_of _ _ (ckI1 w b1 b2 b3 cl acc it l fr e1 v1 nf xs ln k r z zs ts sn d os h N T gl R)
theorem gIS : good (obIS w b1 b2 b3 (cl+171) (acc+171) (it+171) (l+171) (fr+171) e nf xs ln 0 zs ts sn d os h N T gl R) := by
  cases b2
  · exact good_of _ _ (ckIS2 w b1 b3 cl acc it l fr e nf xs ln zs ts sn d os h N T gl R)
  · exact good_of _ _ (ckIS1 w b1 b3 cl acc it l fr e nf xs ln zs ts sn d os h N T gl R)
end
theorem linI_keys (cl acc it l : Nat) (e : Option (Ky × PySem.Value)) (nf : Nat) (xs : Array PySem.Value) (ln k : Nat) (zs : List Int) (ts : List Nat) (sn : Nat) : (linI cl acc it l e nf xs ln k zs ts sn).map (·.1) = [it, l, cl, acc] := rfl
noncomputable def modN (z : Int) (m : Nat) : Nat := (z.fmod m).toNat
theorem modN_eq (z : Int) {m : Nat} (hm : 0 < m) : z.fmod m = (modN z m : Int) := (Int.toNat_of_nonneg (Int.fmod_nonneg_of_pos z (by omega))).symm
theorem modN_lt (z : Int) {m : Nat} (hm : 0 < m) : modN z m < m := by
  have := Int.fmod_lt_of_pos z (show (0 : Int) < m by omega)
  have h2 := modN_eq z hm
  omega
noncomputable def StI (e₀ : Option (Ky × PySem.Value)) (nf₀ : Nat) (ms : List Nat) (e : Option (Ky × PySem.Value)) (nf : Nat) : Prop := (ms = [] → e = e₀ ∧ nf = nf₀) ∧ (ms ≠ [] → ∃ x, e = some x)
noncomputable def PI (cl acc : Nat) (e₀ : Option (Ky × PySem.Value)) (nf₀ : Nat) (xs : Array PySem.Value) (ms : List Nat) (rr : Result) (Lo : Led) : Prop := rr = .ok .next ∧ ∃ e nf tks ln, Lo = [(cl, locI e nf), (acc, listObj (xs ++ ⟨valI ms tks⟩) ln)] ∧ StI e₀ nf₀ ms e nf
theorem loopI (w : World) (b1 b2 b3 : Bool) (cl acc it l fr : Nat) (zs : List Int) (ts : List Nat) (sn : Nat) (hzs : zs.length ≤ 63) : ∀ (rest : List Int) (k : Nat) (_ : zs.drop k = rest) (_ : k ≤ zs.length) (xs : Array PySem.Value) (_ : xs.size = k) (e : Option (Ky × PySem.Value)) (nf ln : Nat),
    Tri (WB w b1 b2 b3) 330 45 (cLI (WB w b1 b2 b3).params (it+171) (acc+171) (cl+171) (fr+171)) (linI (cl+171) (acc+171) (it+171) (l+171) e nf xs ln k zs ts sn) (PI (cl+171) (acc+171) e nf xs (rest.map fun z => modN z 1458))
  | [], k, hd, hk, xs, hx, e, nf, ln => by
    have hn : zs[k]? = none := by
      have : zs.length ≤ k := by simpa using List.drop_eq_nil_iff.mp hd
      simp [this]
    have z := tri_end (W := WB w b1 b2 b3) (n := 330) (u := 45) (m := 1000) (c := cLI (WB w b1 b2 b3).params (it+171) (acc+171) (cl+171) (fr+171)) (Lin := linI (cl+171) (acc+171) (it+171) (l+171) e nf xs ln k zs ts sn) (hook := hookLEnd zs (fun _ => ts) k) (as := []) (lin := fun _ _ => linIE (cl+171) (acc+171) e nf xs ln) (fun V S _ => hookLEnd_ok S hn) (fun hn _ _ => by
        have hn : [it+171, l+171, cl+171, acc+171].Nodup := hn
        exact (List.nodup_cons.mp (List.nodup_cons.mp hn).2).2)
      (fun d os h N T gl R => by
        have g := good_of _ _ (ckIE w b1 b2 b3 cl acc it l fr e nf xs ln k zs ts sn d os h N T gl R)
        unfold obIE at g; exact g)
    exact z.mono fun rr Lo ⟨h1, _, _, h2⟩ => ⟨h1, e, nf, [], ln, by rw [h2]; simp [linIE, valI], fun _ => ⟨rfl, rfl⟩, fun h => absurd rfl h⟩
  | z :: rest, k, hd, hk, xs, hx, e, nf, ln => by
    have hz : zs[k]? = some z := by
      have : (zs.drop k)[0]? = some z := by rw [hd]; rfl
      simpa using this
    have hlt : k < zs.length := by
      have := List.getElem?_eq_some_iff.mp hz
      exact this.1
    have hd' : zs.drop (k + 1) = rest := by rw [← List.drop_drop, hd]; rfl
    have sz : sizeLine = 16777216 := by decide
    refine tri_turn (W := WB w b1 b2 b3) (n := 330) (u := 45) (m := 1000) (c := cLI (WB w b1 b2 b3).params (it+171) (acc+171) (cl+171) (fr+171)) (c₁ := cLI (WB w b1 b2 b3).params (it+171) (acc+171) (cl+171) (fr+171)) (Lin := linI (cl+171) (acc+171) (it+171) (l+171) e nf xs ln k zs ts sn) (as := [cl+171, acc+171]) (lin := linIT (cl+171) (acc+171) (it+171) (l+171) xs (modN z 1458) (k + 1) zs ts sn)
      (hook := hook2 (hookLNext zs (fun _ => ts) k z) (hook2 (hookI2 "int.__mod__" z 1458 (modN z 1458)) (hookAppend xs)))
      (fun V S _ => hook2_ok (hookLNext_ok hz) (hook2_ok (hookModI_ok (by decide) (modN_eq z (m := 1458) (by decide))) (hookAppend_ok (by omega)))) (fun _ _ => by simp only [linIT, linI_keys])
      (fun d os h N T gl R => by
        have g := gI w b1 b2 b3 cl acc it l fr e nf xs ln k (modN z 1458) z zs ts sn d os h N T gl R
        unfold obI at g; exact g) fun os gh => ?_
    refine (loopI w b1 b2 b3 cl acc it l fr zs ts sn hzs rest (k + 1) hd' (by omega) (xs.push (.int (modN z 1458 : Int) (tokI gh))) (by rw [Array.size_push, hx]) _ _ _).mono fun rr Lo ⟨h1, e', nf', tks, ln', h2, h3, h4⟩ => ⟨h1, e', nf', tokI gh :: tks, ln', ?_, fun h => by simp at h, fun _ => ?_⟩
    rotate_left
    · by_cases hr : rest.map (fun z => modN z 1458) = []
      · exact ⟨_, (h3 hr).1⟩
      · exact h4 hr
    rw [h2]
    have : xs.push (.int (modN z 1458 : Int) (tokI gh)) ++ (⟨valI (rest.map fun z => modN z 1458) tks⟩ : Array PySem.Value) = xs ++ ⟨valI ((z :: rest).map fun z => modN z 1458) (tokI gh :: tks)⟩ := by
      apply Array.ext'
      rw [Array.toList_append, Array.toList_append, Array.toList_push, List.append_assoc]; rfl
    rw [this]
theorem compI_tri (w : World) (b1 b2 b3 : Bool) (cl acc it l fr : Nat) (zs : List Int) (ts : List Nat) (sn : Nat) (hzs : zs.length ≤ 63) (e : Option (Ky × PySem.Value)) (nf ln : Nat) :
    Tri (WB w b1 b2 b3) 330 45 (cSI (WB w b1 b2 b3).params (it+171) (acc+171) (cl+171) (fr+171)) (linI (cl+171) (acc+171) (it+171) (l+171) e nf #[] ln 0 zs ts sn) (fun rr Lo => rr = .ok .next ∧ ∃ e' nf' tks ln, Lo = [(cl+171, locI e' nf'), (acc+171, listObj ⟨valI (zs.map fun z => modN z 1458) tks⟩ ln)] ∧ StI e nf (zs.map fun z => modN z 1458) e' nf') := by
  refine Tri.mono (P := PI (cl+171) (acc+171) e nf #[] (zs.map fun z => modN z 1458)) ?_ (fun rr Lo ⟨h1, e', nf', tks, ln, h2, h3⟩ => ⟨h1, e', nf', tks, ln, by rw [h2]; congr; simp, h3⟩)
  refine tri_turn (W := WB w b1 b2 b3) (n := 330) (u := 45) (m := 1000) (c := cSI (WB w b1 b2 b3).params (it+171) (acc+171) (cl+171) (fr+171)) (c₁ := cLI (WB w b1 b2 b3).params (it+171) (acc+171) (cl+171) (fr+171)) (Lin := linI (cl+171) (acc+171) (it+171) (l+171) e nf #[] ln 0 zs ts sn) (as := []) (lin := fun _ _ => linI (cl+171) (acc+171) (it+171) (l+171) e nf #[] ln 0 zs ts sn)
    (hook := noHook) (fun V _ _ => noHook_ok V) (fun _ _ => rfl)
    (fun d os h N T gl R => by
      have g := gIS w b1 b2 b3 cl acc it l fr e nf #[] ln zs ts sn d os h N T gl R
      unfold obIS at g; exact g) fun os gh => ?_
  exact loopI w b1 b2 b3 cl acc it l fr zs ts sn hzs zs 0 rfl (Nat.zero_le _) #[] rfl e nf ln
end Mine
end
-- part F14f
section
namespace Mine
/-! a turn of the outer comprehension -/
structure XCI where
  (cl acc it l fr : Nat) (nf ln : Nat) (ts : List Nat) (sn : Nat)
noncomputable def hookCI (fl : Bool) (P : Params) (ws : List Int) : HookT :=
  hookTri (X := XCI) 330 45 (fun c L gh k => match c with
    | .compStart _ _ (.ref it) (.ref acc) env => gets L [it, env.locals, acc] fun os => gets L [nAt (fieldAt (oAt os 0) 0)] fun os2 =>
      k ⟨env.locals, acc, it, nAt (fieldAt (oAt os 0) 0), env.frame.getD 0, dictN (oAt os 1), seqN (oAt os 2), tsG gh, seqN (oAt os2 0)⟩
    | _ => .bad 418 0)
    (fun x => cSI P x.it x.acc x.cl x.fr) (fun x => linI x.cl x.acc x.it x.l none x.nf #[] x.ln 0 ws x.ts x.sn)
    (fun x => Nat.ble 171 x.cl && (Nat.ble 171 x.acc && (Nat.ble 171 x.it && (Nat.ble 171 x.l && Nat.ble 171 x.fr))))
    (fun x k => .allL fun tks => .allN fun ln => match fl with
      | true => k (.ok .next) [(x.cl, locI none x.nf), (x.acc, listObj ⟨valI (ws.map fun z => modN z 1458) tks⟩ ln)] [.str ⟨⟨tks⟩⟩ 0]
      | false => .allI fun h1 => .allN fun k1 => .allV fun v1 => .allN fun nf => k (.ok .next) [(x.cl, locI (some ((h1, k1), v1)) nf), (x.acc, listObj ⟨valI (ws.map fun z => modN z 1458) tks⟩ ln)] [.str ⟨⟨tks⟩⟩ 0])
theorem hookCI_ok {V : Ev} (S : V.Std) {w : World} {b1 b2 b3 : Bool} (hw : V.w = WB w b1 b2 b3) {ws : List Int} (hl : ws.length ≤ 63) : HookOk V (hookCI ws.isEmpty (WB w b1 b2 b3).params ws) := by
  refine hookTri_ok S (fun x rr Lo => rr = .ok .next ∧ ∃ e' nf' tks ln, Lo = [(x.cl, locI e' nf'), (x.acc, listObj ⟨valI (ws.map fun z => modN z 1458) tks⟩ ln)] ∧ StI none x.nf (ws.map fun z => modN z 1458) e' nf') (fun c L gh k H => ?_) (fun x k r' Lo hP H => ?_) (fun x hx => ?_)
  · split at H
    · obtain ⟨os, H⟩ := gets_of H
      obtain ⟨os2, H⟩ := gets_of H
      exact ⟨_, H⟩
    · cases H
  · obtain ⟨rfl, e', nf', tks, ln, rfl, h1, h2⟩ := hP
    have H := H tks ln
    refine ⟨[.str ⟨⟨tks⟩⟩ 0], ?_⟩
    cases ws with
    | nil =>
      obtain ⟨rfl, rfl⟩ := h1 rfl
      exact H
    | cons z ws =>
      obtain ⟨⟨⟨a, b⟩, v⟩, rfl⟩ := h2 (by simp)
      exact H a b v nf'
  · rw [hw]
    obtain ⟨cl, acc, it, l, fr, nf, ln, ts, sn⟩ := x
    obtain ⟨g1, hx⟩ := Bool.and_eq_true_iff.mp hx
    obtain ⟨g2, hx⟩ := Bool.and_eq_true_iff.mp hx
    obtain ⟨g3, hx⟩ := Bool.and_eq_true_iff.mp hx
    obtain ⟨g4, g5⟩ := Bool.and_eq_true_iff.mp hx
    have g1 : 171 ≤ cl := Nat.le_of_ble_eq_true g1
    have g2 : 171 ≤ acc := Nat.le_of_ble_eq_true g2
    have g3 : 171 ≤ it := Nat.le_of_ble_eq_true g3
    have g4 : 171 ≤ l := Nat.le_of_ble_eq_true g4
    have g5 : 171 ≤ fr := Nat.le_of_ble_eq_true g5
    obtain ⟨cl, rfl⟩ : ∃ k, cl = k + 171 := ⟨cl - 171, by omega⟩
    obtain ⟨acc, rfl⟩ : ∃ k, acc = k + 171 := ⟨acc - 171, by omega⟩
    obtain ⟨it, rfl⟩ : ∃ k, it = k + 171 := ⟨it - 171, by omega⟩
    obtain ⟨l, rfl⟩ : ∃ k, l = k + 171 := ⟨l - 171, by omega⟩
    obtain ⟨fr, rfl⟩ : ∃ k, fr = k + 171 := ⟨fr - 171, by omega⟩
    exact compI_tri w b1 b2 b3 cl acc it l fr ws ts sn hl none nf ln
noncomputable def startN (k : Nat) : Nat := match k with
  | 0 => 491
  | 1 => 327
  | _ => 1210
noncomputable def startT (t0 t1 t2 k : Nat) : Nat := match k with
  | 0 => t0
  | 1 => t1
  | _ => t2
noncomputable def sumN (ws : List Int) : Nat := (ws.map fun z => modN z 1458).sum
noncomputable def hkD (fl : Bool) (P : Params) (zs : List Int) (ts : List Nat) (ws : List Int) (k x : Nat) : HookT := hook2 (hookSliceL zs (fun _ => ts) k) (hook2 (hookCI fl P ws) (hook2 (hookSum (ws.map fun z => modN z 1458)) (hookI2 "int.__mod__" ((startN k : Int) + ((sumN ws : Nat) : Int)) 1458 x)))
noncomputable def linDt (cl acc en it l cs sl : Nat) (ms : List Nat) (k : Nat) (zs : List Int) (ts : List Nat) (sn : Nat) : LinT := fun os _ =>
  linD cl acc en it l cs sl (some (kyAt (oAt os 0) 0, kyAt (oAt os 0) 1, valAt (oAt os 0) 0, valAt (oAt os 0) 1)) (dictN (oAt os 0)) ms (toksOf (oAt os 1)) (seqN (oAt os 1)) k (.int ((startN (k - 1) : Nat) : Int) (startT (tokV (seqAt (oAt os 2) 0)) (tokV (seqAt (oAt os 2) 1)) (tokV (seqAt (oAt os 2) 2)) (k - 1))) (tokV (seqAt (oAt os 2) 0)) (tokV (seqAt (oAt os 2) 1)) (tokV (seqAt (oAt os 2) 2)) (seqN (oAt os 2)) zs ts sn
/-- a turn behind its head -/
noncomputable def obD (fl : Bool) (w : World) (b1 b2 b3 : Bool) (cl acc en it l cs sl fr : Nat) (e : Option (Ky × Ky × PySem.Value × PySem.Value)) (nf : Nat) (ms tm : List Nat) (ln k : Nat) (t0 t1 t2 n : Nat) (zs : List Int) (ts : List Nat) (sn : Nat) (ws : List Int) (x : Nat) (keys : List Nat) (d : Drawn) (os : OsState) (h : Heap) (N T : Nat) (gl : List GenState) (R : Result → Shared → Prop) : Ob :=
  let W := WB w b1 b2 b3
  let c := cLD W.params en acc cl cs fr
  sim (V2 W h d os 325 40 keys R noFin (hkD fl W.params zs ts ws k x) (tlT c [cl, acc, l, sl] (linDt cl acc en it l cs sl (ms ++ [x]) (k + 1) zs ts sn) gl)) 1000
    c none .base (turnC (tgtOf (compD W.params)) (eltOf (compD W.params)) (.ref acc) (envD W.params cl cs fr) c (.ref (N + 171)))
    ((N + 171, pairV k (T + 2349) (.int (startN k : Int) (startT t0 t1 t2 k))) :: linD cl acc en it l cs sl e nf ms tm ln (k + 1) (.int (startN k : Int) (startT t0 t1 t2 k)) t0 t1 t2 n zs ts sn) (N + 172) (T + 2349) 1 gl []
end Mine
end
-- part F14g
section
namespace Mine
noncomputable def hD : List Nat := [1, 1, 1, 0, 1, 0, 1, 1, 0, 1, 0, 1, 1, 2, 1, 1, 1, 0, 1, 0, 1, 1, 2, 1, 1, 1, 0, 1, 0, 1, 1, 2, 1, 1, 1, 8, 8, 8, 8, 8, 0, 0, 10, 8, 12, 12, 12, 1, 12, 1, 1, 1, 0, 1, 0, 1, 2, 3, 1, 2, 4, 3, 3, 1, 1, 1, 1, 1, 3, 2, 0, 0, 4, 0, 12, 0, 12, 12, 12, 1, 11, 12, 10, 14, 8, 9, 10, 11, 12, 13, 14]
noncomputable def hDT : List Nat := [1, 1, 1, 0, 1, 0, 1, 1, 0, 1, 0, 1, 1, 2, 1, 1, 1, 0, 1, 0, 1, 1, 2, 1, 1, 1, 0, 1, 0, 1, 1, 2, 1, 1, 1, 8, 8, 8, 8, 8, 0, 0, 10, 8, 12, 12, 12, 1, 12, 1, 1, 1, 0, 1, 0, 1, 2, 3, 1, 2, 4, 3, 3, 1, 1, 1, 3, 2, 0, 0, 4, 0, 12, 0, 12, 12, 12, 1, 11, 12, 10, 14, 8, 9, 10, 11, 12, 13, 14]
section
variable (fl : Bool) (w : World) (b1 b2 b3 : Bool) (cl acc en it l cs sl fr : Nat) (e1 e2 : Ky) (v1 v2 : PySem.Value) (nf : Nat) (tm : List Nat) (ln : Nat) (x0 x1 : Nat) (t0 t1 t2 n : Nat) (zs : List Int) (ts : List Nat) (sn : Nat) (ws : List Int) (x : Nat) (keys : List Nat) (d : Drawn) (os : OsState) (h : Heap) (N T : Nat) (gl : List GenState) (R : Result → Shared → Prop)
theorem ckD0F : lft (obD false w b1 b2 b3 (cl+171) (acc+171) (en+171) (it+171) (l+171) (cs+171) (sl+171) (fr+171) none nf [] tm ln 0 t0 t1 t2 n zs ts sn (picksL zs 0) x keys d os h N T gl R) hD = rgt (obD false w b1 b2 b3 (cl+171) (acc+171) (en+171) (it+171) (l+171) (cs+171) (sl+171) (fr+171) none nf [] tm ln 0 t0 t1 t2 n zs ts sn (picksL zs 0) x keys d os h N T gl R) hD := by cases b1 <;> kernel_rfl
theorem ckD0T : lft (obD true w b1 b2 b3 (cl+171) (acc+171) (en+171) (it+171) (l+171) (cs+171) (sl+171) (fr+171) none nf [] tm ln 0 t0 t1 t2 n zs ts sn (picksL zs 0) x keys d os h N T gl R) hDT = rgt (obD true w b1 b2 b3 (cl+171) (acc+171) (en+171) (it+171) (l+171) (cs+171) (sl+171) (fr+171) none nf [] tm ln 0 t0 t1 t2 n zs ts sn (picksL zs 0) x keys d os h N T gl R) hDT := by cases b1 <;> kernel_rfl
theorem ckD1F : lft (obD false w b1 b2 b3 (cl+171) (acc+171) (en+171) (it+171) (l+171) (cs+171) (sl+171) (fr+171) (some (e1, e2, v1, v2)) nf [x0] tm ln 1 t0 t1 t2 n zs ts sn (picksL zs 1) x keys d os h N T gl R) hD = rgt (obD false w b1 b2 b3 (cl+171) (acc+171) (en+171) (it+171) (l+171) (cs+171) (sl+171) (fr+171) (some (e1, e2, v1, v2)) nf [x0] tm ln 1 t0 t1 t2 n zs ts sn (picksL zs 1) x keys d os h N T gl R) hD := by cases b1 <;> kernel_rfl
theorem ckD1T : lft (obD true w b1 b2 b3 (cl+171) (acc+171) (en+171) (it+171) (l+171) (cs+171) (sl+171) (fr+171) (some (e1, e2, v1, v2)) nf [x0] tm ln 1 t0 t1 t2 n zs ts sn (picksL zs 1) x keys d os h N T gl R) hDT = rgt (obD true w b1 b2 b3 (cl+171) (acc+171) (en+171) (it+171) (l+171) (cs+171) (sl+171) (fr+171) (some (e1, e2, v1, v2)) nf [x0] tm ln 1 t0 t1 t2 n zs ts sn (picksL zs 1) x keys d os h N T gl R) hDT := by cases b1 <;> kernel_rfl
theorem ckD2F : lft (obD false w b1 b2 b3 (cl+171) (acc+171) (en+171) (it+171) (l+171) (cs+171) (sl+171) (fr+171) (some (e1, e2, v1, v2)) nf [x0, x1] tm ln 2 t0 t1 t2 n zs ts sn (picksL zs 2) x keys d os h N T gl R) hD = rgt (obD false w b1 b2 b3 (cl+171) (acc+171) (en+171) (it+171) (l+171) (cs+171) (sl+171) (fr+171) (some (e1, e2, v1, v2)) nf [x0, x1] tm ln 2 t0 t1 t2 n zs ts sn (picksL zs 2) x keys d os h N T gl R) hD := by cases b1 <;> kernel_rfl
theorem ckD2T : lft (obD true w b1 b2 b3 (cl+171) (acc+171) (en+171) (it+171) (l+171) (cs+171) (sl+171) (fr+171) (some (e1, e2, v1, v2)) nf [x0, x1] tm ln 2 t0 t1 t2 n zs ts sn (picksL zs 2) x keys d os h N T gl R) hDT = rgt (obD true w b1 b2 b3 (cl+171) (acc+171) (en+171) (it+171) (l+171) (cs+171) (sl+171) (fr+171) (some (e1, e2, v1, v2)) nf [x0, x1] tm ln 2 t0 t1 t2 n zs ts sn (picksL zs 2) x keys d os h N T gl R) hDT := by cases b1 <;> kernel_rfl
theorem gD0 : good (obD fl w b1 b2 b3 (cl+171) (acc+171) (en+171) (it+171) (l+171) (cs+171) (sl+171) (fr+171) none nf [] tm ln 0 t0 t1 t2 n zs ts sn (picksL zs 0) x keys d os h N T gl R) := by
  cases fl
  · exact good_of _ _ (ckD0F ..)
  · exact good_of _ _ (ckD0T ..)
theorem gD1 : good (obD fl w b1 b2 b3 (cl+171) (acc+171) (en+171) (it+171) (l+171) (cs+171) (sl+171) (fr+171) (some (e1, e2, v1, v2)) nf [x0] tm ln 1 t0 t1 t2 n zs ts sn (picksL zs 1) x keys d os h N T gl R) := by
  cases fl
  · exact good_of _ _ (ckD1F ..)
  · exact good_of _ _ (ckD1T ..)
theorem gD2 : good (obD fl w b1 b2 b3 (cl+171) (acc+171) (en+171) (it+171) (l+171) (cs+171) (sl+171) (fr+171) (some (e1, e2, v1, v2)) nf [x0, x1] tm ln 2 t0 t1 t2 n zs ts sn (picksL zs 2) x keys d os h N T gl R) := by
  cases fl
  · exact good_of _ _ (ckD2F ..)
  · exact good_of _ _ (ckD2T ..)
end
noncomputable def eltsOf (e : PySem.Expr) : List PySem.Expr := match e with
  | .Tuple l _ _ => l
  | _ => []
noncomputable def ctxOf (e : PySem.Expr) : Nat := match e with
  | .Tuple _ c _ => c
  | _ => 0
noncomputable def iterOf (e : PySem.Expr) : PySem.Expr := match e with
  | .ListComp _ (g :: _) _ _ => g.iter
  | _ => noExpr
theorem compD_eq (P : Params) : compD P = .ListComp (eltOf (compD P)) [⟨.Tuple (eltsOf (tgtOf (compD P))) (ctxOf (tgtOf (compD P))) (tgtOf (compD P)).pos, iterOf (compD P), [], 0⟩] (scopeE (compD P)) (compD P).pos := by kernel_rfl
theorem tgtD_eq (P : Params) : tgtOf (compD P) = .Tuple (eltsOf (tgtOf (compD P))) (ctxOf (tgtOf (compD P))) (tgtOf (compD P)).pos := by kernel_rfl
theorem compHead2 {V : Ev} (S : V.Std) {en it l k : Nat} {items : List PySem.Value} {n : Nat} {old x : PySem.Value} {L : Led} (hx : items[k]? = some x) {e tgt elt : PySem.Expr} {elts : List PySem.Expr} {x1 : Nat} {tp : Pos} {iter : PySem.Expr} {scope : Scope} {pos : Pos}
    (ht : tgt = .Tuple elts x1 tp) (he : e = .ListComp elt [⟨.Tuple elts x1 tp, iter, [], 0⟩] scope pos) {acc : PySem.Value} {env : Env}
    {Q : PySem.Fin → Shared → Prop} {E : PySem.Value → Shared → Prop} {h : Heap} {sz tb i : Nat} {gl : List GenState} (D : Rp V h ((en, enumObj it k old) :: (it, listIt l k) :: (l, listObj ⟨items⟩ n) :: L) sz tb)
    (H : ∀ h', Rp V h' ((sz, pairV k (tb + i) x) :: (en, enumObj it (k + 1) x) :: (it, listIt l (k + 1)) :: (l, listObj ⟨items⟩ n) :: L) (sz + 1) tb →
      wpOwn (md V) V.A₀ (.compLoop e 0 (.ref en) acc env) (turnC tgt elt acc env (.compLoop e 0 (.ref en) acc env) (.ref sz)) Q E (sh V h' tb (i + 1) gl)) :
    wpOwn (md V) V.A₀ (.compLoop e 0 (.ref en) acc env) (denote table (.compLoop e 0 (.ref en) acc env)) Q E (sh V h tb i gl) := by
  subst ht
  subst he
  exact compHead S hx D H
theorem linD_keys (cl acc en it l cs sl : Nat) (e : Option (Ky × Ky × PySem.Value × PySem.Value)) (nf : Nat) (ms tm : List Nat) (ln k : Nat) (old : PySem.Value) (t0 t1 t2 n : Nat) (zs : List Int) (ts : List Nat) (sn : Nat) : (linD cl acc en it l cs sl e nf ms tm ln k old t0 t1 t2 n zs ts sn).map (·.1) = [en, it, l, cl, acc, cs, sl] := rfl
section
variable (w : World) (b1 b2 b3 : Bool) (cl acc en it l cs sl fr : Nat) (zs : List Int) (ts : List Nat) (sn : Nat)
noncomputable abbrev TD (k : Nat) (ms : List Nat) (P : Result → Led → Prop) : Prop := ∀ (e : Option (Ky × Ky × PySem.Value × PySem.Value)) (nf : Nat) (tm : List Nat) (ln : Nat) (old : PySem.Value) (t0 t1 t2 n : Nat), (k = 0 ↔ e = none) →
  Tri (WB w b1 b2 b3) 325 40 (cLD (WB w b1 b2 b3).params (en+171) (acc+171) (cl+171) (cs+171) (fr+171)) (linD (cl+171) (acc+171) (en+171) (it+171) (l+171) (cs+171) (sl+171) e nf ms tm ln k old t0 t1 t2 n zs ts sn) P
theorem hkD_ok {V : Ev} (S : V.Std) (hw : V.w = WB w b1 b2 b3) {k : Nat} (hz : zs.length ≤ 63) : HookOk V (hkD (picksL zs k).isEmpty (WB w b1 b2 b3).params zs ts (picksL zs k) k (modN ((startN k : Int) + ((sumN (picksL zs k) : Nat) : Int)) 1458)) := by
  have sz : sizeLine = 16777216 := by decide
  have hp := picks_length zs k
  exact hook2_ok (hookSliceL_ok S (by omega)) (hook2_ok (hookCI_ok S hw (by omega)) (hook2_ok (hookSum_ok S) (hookModI_ok (by decide) (modN_eq _ (m := 1458) (by decide)))))
theorem turnD (k : Nat) (hk : k < 3) (ms : List Nat) (P : Result → Led → Prop) (hz : zs.length ≤ 63)
    (hG : ∀ (fl : Bool) (e : Option (Ky × Ky × PySem.Value × PySem.Value)) (nf : Nat) (tm : List Nat) (ln : Nat) (t0 t1 t2 n x : Nat) (_ : k = 0 ↔ e = none) (keys : List Nat) (d : Drawn) (os : OsState) (h : Heap) (N T : Nat) (gl : List GenState) (R : Result → Shared → Prop),
      good (obD fl w b1 b2 b3 (cl+171) (acc+171) (en+171) (it+171) (l+171) (cs+171) (sl+171) (fr+171) e nf ms tm ln k t0 t1 t2 n zs ts sn (picksL zs k) x keys d os h N T gl R))
    (IH : TD w b1 b2 b3 cl acc en it l cs sl fr zs ts sn (k + 1) (ms ++ [modN ((startN k : Int) + ((sumN (picksL zs k) : Nat) : Int)) 1458]) P) : TD w b1 b2 b3 cl acc en it l cs sl fr zs ts sn k ms P := by
  intro e nf tm ln old t0 t1 t2 n he d os h N T gl F I
  let Lin := linD (cl+171) (acc+171) (en+171) (it+171) (l+171) (cs+171) (sl+171) e nf ms tm ln k old t0 t1 t2 n zs ts sn
  let c := cLD (WB w b1 b2 b3).params (en+171) (acc+171) (cl+171) (cs+171) (fr+171)
  let lin := linDt (cl+171) (acc+171) (en+171) (it+171) (l+171) (cs+171) (sl+171) (ms ++ [modN ((startN k : Int) + ((sumN (picksL zs k) : Nat) : Int)) 1458]) (k + 1) zs ts sn
  let V := V2 (WB w b1 b2 b3) h d os 325 40 (Lin.map (·.1)) (After (WB w b1 b2 b3) gl d os h N Lin P) noFin (hkD (picksL zs k).isEmpty (WB w b1 b2 b3).params zs ts (picksL zs k) k (modN ((startN k : Int) + ((sumN (picksL zs k) : Nat) : Int)) 1458)) (tlT c [cl+171, acc+171, l+171, sl+171] lin gl)
  have S : V.Std := V2_std
  have O : V.Ok := V2_ok (fun _ _ _ _ _ _ _ _ H _ => by cases H) (hkD_ok w b1 b2 b3 zs ts V2_std rfl hz) (fun j c' L sz tb i gl' gh h' H D => by
    unfold tlT at H
    obtain ⟨ec, H⟩ := eqC_of H
    obtain ⟨eg, H2⟩ := eqG_of H
    subst ec eg
    obtain ⟨xs, H⟩ := gets_of H2
    obtain ⟨ho, -⟩ := outs_of H
    exact after_trans (V := V) S F rfl D ho (by show (linDt _ _ _ _ _ _ _ _ _ _ _ _ _ _).map _ = _; simp only [linDt, linD_keys, Lin]) (fun _ _ h => h) (IH _ _ _ _ _ _ _ _ _ ⟨fun h => absurd h (Nat.succ_ne_zero _), fun h => by cases h⟩) i I.nodup)
  have D : Rp V h Lin (N + 171) (T + 2349) := Rp.startL (V := V) S F I rfl
  have hx : ([.int 491 t0, .int 327 t1, .int 1210 t2] : List PySem.Value)[k]? = some (.int (startN k : Int) (startT t0 t1 t2 k)) := by
    obtain rfl | rfl | rfl : k = 0 ∨ k = 1 ∨ k = 2 := by omega
    · rfl
    · rfl
    · rfl
  refine y_code _ _ _ _ _ _ (compHead2 (V := V) S (tb := T + 2349) (i := 0) hx (tgtD_eq _) (compD_eq _) D fun h' D' => ?_)
  have g := hG (picksL zs k).isEmpty e nf tm ln t0 t1 t2 n (modN ((startN k : Int) + ((sumN (picksL zs k) : Nat) : Int)) 1458) he (Lin.map (·.1)) d os h N T gl (After (WB w b1 b2 b3) gl d os h N Lin P)
  unfold obD at g
  exact sim_sound (V := V) O 1000 _ none .base _ _ _ _ _ _ _ h' g D'
end
end Mine
end
-- part F14h
section
namespace Mine
/-- what is kept of the outer comprehension -/
noncomputable def linDE (cl acc cs sl : Nat) (e : Option (Ky × Ky × PySem.Value × PySem.Value)) (nf : Nat) (ms tm : List Nat) (ln : Nat) (zs : List Int) (ts : List Nat) (sn : Nat) : Led :=
  [(cl, locD e nf), (acc, listObj ⟨valI ms tm⟩ ln), (cs, cellO (.ref sl)), (sl, scriptO zs ts sn)]
noncomputable def obDE (w : World) (b1 b2 b3 : Bool) (cl acc en it l cs sl fr : Nat) (e : Option (Ky × Ky × PySem.Value × PySem.Value)) (nf : Nat) (ms tm : List Nat) (ln : Nat) (old : PySem.Value) (t0 t1 t2 n : Nat) (zs : List Int) (ts : List Nat) (sn : Nat) (d : Drawn) (os : OsState) (h : Heap) (N T : Nat) (gl : List GenState) (R : Result → Shared → Prop) : Ob :=
  let W := WB w b1 b2 b3
  sim (V2 W h d os 325 40 ((linD cl acc en it l cs sl e nf ms tm ln 3 old t0 t1 t2 n zs ts sn).map (·.1)) R (fnT [] (fun _ _ => linDE cl acc cs sl e nf ms tm ln zs ts sn) gl) noHook noTail) 1000
    (cLD W.params en acc cl cs fr) none .base (goF (cLD W.params en acc cl cs fr) (Bn 325 40)) (linD cl acc en it l cs sl e nf ms tm ln 3 old t0 t1 t2 n zs ts sn) (N + 171) (T + 2349) 0 gl []
noncomputable def obDS (w : World) (b1 b2 b3 : Bool) (cl acc en it l cs sl fr : Nat) (nf : Nat) (tm : List Nat) (ln : Nat) (old : PySem.Value) (t0 t1 t2 n : Nat) (zs : List Int) (ts : List Nat) (sn : Nat) (d : Drawn) (os : OsState) (h : Heap) (N T : Nat) (gl : List GenState) (R : Result → Shared → Prop) : Ob :=
  let W := WB w b1 b2 b3
  sim (V2 W h d os 325 40 ((linD cl acc en it l cs sl none nf [] tm ln 0 old t0 t1 t2 n zs ts sn).map (·.1)) R noFin noHook (tlT (cLD W.params en acc cl cs fr) [] (fun _ _ => linD cl acc en it l cs sl none nf [] tm ln 0 old t0 t1 t2 n zs ts sn) gl)) 1000
    (cSD W.params en acc cl cs fr) none .base (goF (cSD W.params en acc cl cs fr) (Bn 325 40)) (linD cl acc en it l cs sl none nf [] tm ln 0 old t0 t1 t2 n zs ts sn) (N + 171) (T + 2349) 0 gl []
end Mine
end
-- part F14i
section
namespace Mine
noncomputable def hDE : List Nat := [1, 0, 1, 0, 1, 2, 0, 2, 0, 2, 2, 3, 2, 2, 1, 6, 7, 8, 9]
noncomputable def hDS : List Nat := [1, 1, 2, 3, 4, 5, 6, 7]
noncomputable def hDS2 : List Nat := [1, 1, 0, 1, 0, 1, 1, 1, 2, 3, 4, 5, 6, 7]
section
variable (w : World) (b1 b2 b3 : Bool) (cl acc en it l cs sl fr : Nat) (e : Option (Ky × Ky × PySem.Value × PySem.Value)) (nf : Nat) (x0 x1 x2 : Nat) (tm : List Nat) (ln : Nat) (old : PySem.Value) (t0 t1 t2 n : Nat) (zs : List Int) (ts : List Nat) (sn : Nat) (d : Drawn) (os : OsState) (h : Heap) (N T : Nat) (gl : List GenState) (R : Result → Shared → Prop)
theorem ckDE : lft (obDE w b1 b2 b3 (cl+171) (acc+171) (en+171) (it+171) (l+171) (cs+171) (sl+171) (fr+171) e nf [x0, x1, x2] tm ln old t0 t1 t2 n zs ts sn d os h N T gl R) hDE = rgt (obDE w b1 b2 b3 (cl+171) (acc+171) (en+171) (it+171) (l+171) (cs+171) (sl+171) (fr+171) e nf [x0, x1, x2] tm ln old t0 t1 t2 n zs ts sn d os h N T gl R) hDE := by cases b1 <;> kernel_rfl
theorem ckDS1 : lft (obDS w b1 true b3 (cl+171) (acc+171) (en+171) (it+171) (l+171) (cs+171) (sl+171) (fr+171) nf tm ln old t0 t1 t2 n zs ts sn d os h N T gl R) hDS = rgt (obDS w b1 true b3 (cl+171) (acc+171) (en+171) (it+171) (l+171) (cs+171) (sl+171) (fr+171) nf tm ln old t0 t1 t2 n zs ts sn d os h N T gl R) hDS := by cases b1 <;> kernel_rfl
theorem ckDS2 : lft (obDS w b1 false b3 (cl+171) (acc+171) (en+171) (it+171) (l+171) (cs+171) (sl+171) (fr+171) nf tm ln old t0 t1 t2 n zs ts sn d os h N T gl R) hDS2 = rgt (obDS w b1 false b3 (cl+171) (acc+171) (en+171) (it+171) (l+171) (cs+171) (sl+171) (fr+171) nf tm ln old t0 t1 t2 n zs ts sn d os h N T gl R) hDS2 := by cases b1 <;> kernel_rfl
theorem gDS : good (obDS w b1 b2 b3 (cl+171) (acc+171) (en+171) (it+171) (l+171) (cs+171) (sl+171) (fr+171) nf tm ln old t0 t1 t2 n zs ts sn d os h N T gl R) := by
  cases b2
  · exact good_of _ _ (ckDS2 ..)
  · exact good_of _ _ (ckDS1 ..)
end
/-- the k-th number drawn -/
noncomputable def xD (zs : List Int) (k : Nat) : Nat := modN ((startN k : Int) + ((sumN (picksL zs k) : Nat) : Int)) 1458
noncomputable def PD (cl acc cs sl : Nat) (zs : List Int) (ts : List Nat) (sn : Nat) (rr : Result) (Lo : Led) : Prop := rr = .ok .next ∧ ∃ e nf tm ln, Lo = linDE cl acc cs sl (some e) nf [xD zs 0, xD zs 1, xD zs 2] tm ln zs ts sn
section
variable (w : World) (b1 b2 b3 : Bool) (cl acc en it l cs sl fr : Nat) (zs : List Int) (ts : List Nat) (sn : Nat)
theorem endD : TD w b1 b2 b3 cl acc en it l cs sl fr zs ts sn 3 [xD zs 0, xD zs 1, xD zs 2] (PD (cl+171) (acc+171) (cs+171) (sl+171) zs ts sn) := by
  intro e nf tm ln old t0 t1 t2 n he
  have z := tri_end (W := WB w b1 b2 b3) (n := 325) (u := 40) (m := 1000) (c := cLD (WB w b1 b2 b3).params (en+171) (acc+171) (cl+171) (cs+171) (fr+171)) (Lin := linD (cl+171) (acc+171) (en+171) (it+171) (l+171) (cs+171) (sl+171) e nf [xD zs 0, xD zs 1, xD zs 2] tm ln 3 old t0 t1 t2 n zs ts sn) (hook := noHook) (as := [])
    (lin := fun _ _ => linDE (cl+171) (acc+171) (cs+171) (sl+171) e nf [xD zs 0, xD zs 1, xD zs 2] tm ln zs ts sn) (fun V _ _ => noHook_ok V) (fun hn _ _ => by
      have hn : [en+171, it+171, l+171, cl+171, acc+171, cs+171, sl+171].Nodup := hn
      exact (List.nodup_cons.mp (List.nodup_cons.mp (List.nodup_cons.mp hn).2).2).2)
    (fun d os h N T gl R => by
      have g := good_of _ _ (ckDE w b1 b2 b3 cl acc en it l cs sl fr e nf (xD zs 0) (xD zs 1) (xD zs 2) tm ln old t0 t1 t2 n zs ts sn d os h N T gl R)
      unfold obDE at g; exact g)
  cases e with
  | none => exact absurd (he.mpr rfl) (by decide)
  | some e => exact z.mono fun rr Lo ⟨h1, _, _, h2⟩ => ⟨h1, e, nf, tm, ln, h2⟩
theorem drawnL (hz : zs.length ≤ 63) : TD w b1 b2 b3 cl acc en it l cs sl fr zs ts sn 0 [] (PD (cl+171) (acc+171) (cs+171) (sl+171) zs ts sn) := by
  refine turnD w b1 b2 b3 cl acc en it l cs sl fr zs ts sn 0 (by decide) [] _ hz ?_ ?_
  · intro fl e nf tm ln t0 t1 t2 n x he keys d os h N T gl R
    obtain rfl := he.mp rfl
    exact gD0 ..
  refine turnD w b1 b2 b3 cl acc en it l cs sl fr zs ts sn 1 (by decide) _ _ hz ?_ ?_
  · intro fl e nf tm ln t0 t1 t2 n x he keys d os h N T gl R
    rcases e with _ | ⟨e1, e2, v1, v2⟩
    · exact absurd (he.mpr rfl) (by decide)
    exact gD1 ..
  refine turnD w b1 b2 b3 cl acc en it l cs sl fr zs ts sn 2 (by decide) _ _ hz ?_ ?_
  · intro fl e nf tm ln t0 t1 t2 n x he keys d os h N T gl R
    rcases e with _ | ⟨e1, e2, v1, v2⟩
    · exact absurd (he.mpr rfl) (by decide)
    exact gD2 ..
  exact endD w b1 b2 b3 cl acc en it l cs sl fr zs ts sn
theorem drawn_tri (hz : zs.length ≤ 63) (nf : Nat) (tm : List Nat) (ln : Nat) (old : PySem.Value) (t0 t1 t2 n : Nat) :
    Tri (WB w b1 b2 b3) 325 40 (cSD (WB w b1 b2 b3).params (en+171) (acc+171) (cl+171) (cs+171) (fr+171)) (linD (cl+171) (acc+171) (en+171) (it+171) (l+171) (cs+171) (sl+171) none nf [] tm ln 0 old t0 t1 t2 n zs ts sn) (PD (cl+171) (acc+171) (cs+171) (sl+171) zs ts sn) := by
  refine tri_turn (W := WB w b1 b2 b3) (n := 325) (u := 40) (m := 1000) (c := cSD (WB w b1 b2 b3).params (en+171) (acc+171) (cl+171) (cs+171) (fr+171)) (c₁ := cLD (WB w b1 b2 b3).params (en+171) (acc+171) (cl+171) (cs+171) (fr+171)) (Lin := linD (cl+171) (acc+171) (en+171) (it+171) (l+171) (cs+171) (sl+171) none nf [] tm ln 0 old t0 t1 t2 n zs ts sn) (as := [])
    (lin := fun _ _ => linD (cl+171) (acc+171) (en+171) (it+171) (l+171) (cs+171) (sl+171) none nf [] tm ln 0 old t0 t1 t2 n zs ts sn) (hook := noHook) (fun V _ _ => noHook_ok V) (fun _ _ => rfl)
    (fun d os h N T gl R => by
      have g := gDS w b1 b2 b3 cl acc en it l cs sl fr nf tm ln old t0 t1 t2 n zs ts sn d os h N T gl R
      unfold obDS at g; exact g) fun os gh => ?_
  exact drawnL w b1 b2 b3 cl acc en it l cs sl fr zs ts sn hz none nf tm ln old t0 t1 t2 n ⟨fun _ => rfl, fun _ => rfl⟩
end
structure XD where
  (cl acc en it l cs fr : Nat) (nf ln : Nat) (old : PySem.Value) (t0 t1 t2 n : Nat)
noncomputable def hookDr (P : Params) (sl : Nat) (zs : List Int) (ts : List Nat) (sn x0 x1 x2 : Nat) : HookT :=
  hookTri (X := XD) 325 40 (fun c L _ k => match c with
    | .compStart _ _ (.ref en) (.ref acc) env => gets L [en, env.locals, acc, sl] fun os => gets L [nAt (fieldAt (oAt os 0) 2)] fun os2 => gets L [nAt (fieldAt (oAt os2 0) 0)] fun os3 =>
      k ⟨env.locals, acc, en, nAt (fieldAt (oAt os 0) 2), nAt (fieldAt (oAt os2 0) 0), cellAt env.cells 0, env.frame.getD 0, dictN (oAt os 1), seqN (oAt os 2), fieldAt (oAt os 0) 5, tokV (seqAt (oAt os3 0) 0), tokV (seqAt (oAt os3 0) 1), tokV (seqAt (oAt os3 0) 2), seqN (oAt os3 0)⟩
    | _ => .bad 419 0)
    (fun x => cSD P x.en x.acc x.cl x.cs x.fr) (fun x => linD x.cl x.acc x.en x.it x.l x.cs sl none x.nf [] [] x.ln 0 x.old x.t0 x.t1 x.t2 x.n zs ts sn)
    (fun x => Nat.ble 171 x.cl && (Nat.ble 171 x.acc && (Nat.ble 171 x.en && (Nat.ble 171 x.it && (Nat.ble 171 x.l && (Nat.ble 171 x.cs && Nat.ble 171 x.fr))))))
    (fun x k => .allI fun h1 => .allN fun k1 => .allI fun h2 => .allN fun k2 => .allV fun v1 => .allV fun v2 => .allN fun nf => .allL fun tm => .allN fun ln =>
      k (.ok .next) (linDE x.cl x.acc x.cs sl (some ((h1, k1), (h2, k2), v1, v2)) nf [x0, x1, x2] tm ln zs ts sn) [])
theorem hookDr_ok {V : Ev} (S : V.Std) {w : World} {b1 b2 b3 : Bool} (hw : V.w = WB w b1 b2 b3) {sl : Nat} {zs : List Int} {ts : List Nat} {sn x0 x1 x2 : Nat} (hz : zs.length ≤ 63) (e0 : x0 = xD zs 0) (e1 : x1 = xD zs 1) (e2 : x2 = xD zs 2) : HookOk V (hookDr (WB w b1 b2 b3).params (sl + 171) zs ts sn x0 x1 x2) := by
  subst e0 e1 e2
  refine hookTri_ok S (fun x rr Lo => PD x.cl x.acc x.cs (sl + 171) zs ts sn rr Lo) (fun c L gh k H => ?_) (fun x k r' Lo hP H => ?_) (fun x hx => ?_)
  · split at H
    · obtain ⟨os, H⟩ := gets_of H
      obtain ⟨os2, H⟩ := gets_of H
      obtain ⟨os3, H⟩ := gets_of H
      exact ⟨_, H⟩
    · cases H
  · obtain ⟨rfl, ⟨e1, e2, v1, v2⟩, nf, tm, ln, rfl⟩ := hP
    exact ⟨[], H e1.1 e1.2 e2.1 e2.2 v1 v2 nf tm ln⟩
  · rw [hw]
    obtain ⟨cl, acc, en, it, l, cs, fr, nf, ln, old, t0, t1, t2, n⟩ := x
    obtain ⟨g1, hx⟩ := Bool.and_eq_true_iff.mp hx
    obtain ⟨g2, hx⟩ := Bool.and_eq_true_iff.mp hx
    obtain ⟨g3, hx⟩ := Bool.and_eq_true_iff.mp hx
    obtain ⟨g4, hx⟩ := Bool.and_eq_true_iff.mp hx
    obtain ⟨g5, hx⟩ := Bool.and_eq_true_iff.mp hx
    obtain ⟨g6, g7⟩ := Bool.and_eq_true_iff.mp hx
    have g1 : 171 ≤ cl := Nat.le_of_ble_eq_true g1
    have g2 : 171 ≤ acc := Nat.le_of_ble_eq_true g2
    have g3 : 171 ≤ en := Nat.le_of_ble_eq_true g3
    have g4 : 171 ≤ it := Nat.le_of_ble_eq_true g4
    have g5 : 171 ≤ l := Nat.le_of_ble_eq_true g5
    have g6 : 171 ≤ cs := Nat.le_of_ble_eq_true g6
    have g7 : 171 ≤ fr := Nat.le_of_ble_eq_true g7
    obtain ⟨cl, rfl⟩ : ∃ k, cl = k + 171 := ⟨cl - 171, by omega⟩
    obtain ⟨acc, rfl⟩ : ∃ k, acc = k + 171 := ⟨acc - 171, by omega⟩
    obtain ⟨en, rfl⟩ : ∃ k, en = k + 171 := ⟨en - 171, by omega⟩
    obtain ⟨it, rfl⟩ : ∃ k, it = k + 171 := ⟨it - 171, by omega⟩
    obtain ⟨l, rfl⟩ : ∃ k, l = k + 171 := ⟨l - 171, by omega⟩
    obtain ⟨cs, rfl⟩ : ∃ k, cs = k + 171 := ⟨cs - 171, by omega⟩
    obtain ⟨fr, rfl⟩ : ∃ k, fr = k + 171 := ⟨fr - 171, by omega⟩
    exact drawn_tri w b1 b2 b3 cl acc en it l cs sl fr zs ts sn hz nf [] ln old t0 t1 t2 n
end Mine
end
-- part F14j
section
namespace Mine
/-! the text: the loop's code and objects -/
noncomputable def unsL : List Nat := [173, 847, 6150, 6155, 6156, 6157, 8203, 8204, 8205, 8288, 65279] ++ List.range' 65024 16
noncomputable def formL : List Nat := [97, 65, 119808, 119860, 120224, 120432]
noncomputable def sUnseen : Str := ⟨⟨[117, 110, 115, 101, 101, 110]⟩⟩
noncomputable def sForms : Str := ⟨⟨[102, 111, 114, 109, 115]⟩⟩
noncomputable def sDrawn : Str := ⟨⟨[100, 114, 97, 119, 110]⟩⟩
noncomputable def sText : Str := ⟨⟨[116, 101, 120, 116]⟩⟩
noncomputable def forT (P : Params) : Stmt := stmtAt (bodyOf (fdAt P 170)) 5
noncomputable def envT (P : Params) (loc cw ch cs : Nat) : Env := { scope := (fdAt P 170).scope, locals := loc, globals := 3, cells := [(Str.ofString "worth", cw), (Str.ofString "heaps", ch), (Str.ofString "script", cs)], qual := Str.ofString "law.<locals>.", func := some 170, code := .ref 169, frame := some loc, builtins := 0 }
noncomputable def cLT (P : Params) (loc cw ch cs it : Nat) : Code := .forLoop (forTarget (forT P)) (.ref it) (forBody (forT P)) (forElse (forT P)) (envT P loc cw ch cs)
structure KT4 where
  (e1 e2 e3 e4 : Ky)
noncomputable def locT (q : KT4) (ul fl dl : Nat) (y : List Nat) (tl : Nat) (r : Option (Ky × Ky × PySem.Value × PySem.Value)) (n : Nat) : Obj := match r with
  | none => localsObj [ky q.e1 sUnseen (.ref ul), ky q.e2 sForms (.ref fl), ky q.e3 sDrawn (.ref dl), ky q.e4 sText (.str ⟨⟨120 :: y⟩⟩ tl)] n
  | some (e5, e6, v5, v6) => localsObj [ky q.e1 sUnseen (.ref ul), ky q.e2 sForms (.ref fl), ky q.e3 sDrawn (.ref dl), ky q.e4 sText (.str ⟨⟨120 :: y⟩⟩ tl), ky e5 sK v5, ky e6 sX v6] n
noncomputable def numsO (ms ts : List Nat) (n : Nat) : Obj := listObj ⟨valI ms ts⟩ n
noncomputable def linX (loc it ul fl dl : Nat) (lo : Obj) (tu tf : List Nat × Nat) (x0 x1 x2 : Nat) (td : List Nat × Nat) (k left : Nat) : Led :=
  [(loc, lo), (it, rangeIt k left), (ul, numsO unsL tu.1 tu.2), (fl, numsO formL tf.1 tf.2), (dl, numsO [x0, x1, x2] td.1 td.2)]
/-- a heap's part of the text -/
noncomputable def blk (p u q g : Nat) : List Nat := (((([34] ++ List.replicate p 92) ++ [u]) ++ List.replicate q 92) ++ [34]) ++ [g]
noncomputable def hkT (y : List Nat) (x k p q u f : Nat) : HookT :=
  hook2 (hookMulU 92 (Int.fmod (x : Int) 3) p) (hook2 (hookGetI unsL (Int.fmod (Int.fdiv (x : Int) 9) 27) u) (hook2 (hookChr (u : Int) u) (hook2 (hookMulU 92 (Int.fmod (Int.fdiv (x : Int) 3) 3) q) (hook2 (hookGetI formL (Int.fdiv (x : Int) 243) f) (hook2 (hookChr ((f : Int) + (k : Int)) (f + k))
    (hook2 (hookAddU [34] (List.replicate p 92)) (hook2 (hookAddU ([34] ++ List.replicate p 92) [u]) (hook2 (hookAddU (([34] ++ List.replicate p 92) ++ [u]) (List.replicate q 92)) (hook2 (hookAddU ((([34] ++ List.replicate p 92) ++ [u]) ++ List.replicate q 92) [34]) (hook2 (hookAddU (((([34] ++ List.replicate p 92) ++ [u]) ++ List.replicate q 92) ++ [34]) [f + k]) (hookAddU (120 :: y) (blk p u q (f + k)))))))))))))
noncomputable def xAt (x0 x1 x2 k : Nat) : Nat := match k with
  | 0 => x0
  | 1 => x1
  | _ => x2
noncomputable def linXT (loc it ul fl dl : Nat) (y : List Nat) (x0 x1 x2 k left : Nat) : LinT := fun os _ =>
  linX loc it ul fl dl (locT ⟨kyAt (oAt os 0) 0, kyAt (oAt os 0) 1, kyAt (oAt os 0) 2, kyAt (oAt os 0) 3⟩ ul fl dl y (tokV (valAt (oAt os 0) 3)) (some (kyAt (oAt os 0) 4, kyAt (oAt os 0) 5, valAt (oAt os 0) 4, valAt (oAt os 0) 5)) (dictN (oAt os 0))) (toksOf (oAt os 1), seqN (oAt os 1)) (toksOf (oAt os 2), seqN (oAt os 2)) x0 x1 x2 (toksOf (oAt os 3), seqN (oAt os 3)) k left
noncomputable def obX (w : World) (b1 b2 b3 : Bool) (loc cw ch cs it ul fl dl : Nat) (q4 : KT4) (y : List Nat) (tl : Nat) (r : Option (Ky × Ky × PySem.Value × PySem.Value)) (n : Nat) (tu tf td : List Nat) (nu nf nd x0 x1 x2 k left p q u f : Nat) (d : Drawn) (os : OsState) (h : Heap) (N T : Nat) (gl : List GenState) (R : Result → Shared → Prop) : Ob :=
  let W := WB w b1 b2 b3
  let Lin := linX loc it ul fl dl (locT q4 ul fl dl y tl r n) (tu, nu) (tf, nf) x0 x1 x2 (td, nd) k (left + 1)
  sim (V2 W h d os 325 40 (Lin.map (·.1)) R noFin (hkT y (xAt x0 x1 x2 k) k p q u f) (tlT (cLT W.params loc cw ch cs it) [loc, ul, fl, dl] (linXT loc it ul fl dl (y ++ blk p u q (f + k)) x0 x1 x2 (k + 1) left) gl)) 1000
    (cLT W.params loc cw ch cs it) none .base (goF (cLT W.params loc cw ch cs it) (Bn 325 40)) Lin (N + 171) (T + 2349) 0 gl []
noncomputable def obXE (w : World) (b1 b2 b3 : Bool) (loc cw ch cs it ul fl dl : Nat) (q4 : KT4) (y : List Nat) (tl : Nat) (r : Option (Ky × Ky × PySem.Value × PySem.Value)) (n : Nat) (tu tf td : List Nat) (nu nf nd x0 x1 x2 : Nat) (d : Drawn) (os : OsState) (h : Heap) (N T : Nat) (gl : List GenState) (R : Result → Shared → Prop) : Ob :=
  let W := WB w b1 b2 b3
  let Lin := linX loc it ul fl dl (locT q4 ul fl dl y tl r n) (tu, nu) (tf, nf) x0 x1 x2 (td, nd) 3 0
  sim (V2 W h d os 325 40 (Lin.map (·.1)) R (fnT [] (fun _ _ => Lin) gl) noHook noTail) 1000
    (cLT W.params loc cw ch cs it) none .base (goF (cLT W.params loc cw ch cs it) (Bn 325 40)) Lin (N + 171) (T + 2349) 0 gl []
end Mine
end
-- part F14k
section
namespace Mine
noncomputable def hX : List Nat := [2, 0, 2, 0, 2, 2, 2, 2, 2, 2, 2, 1, 1, 1, 1, 5, 5, 5, 0, 5, 0, 5, 1, 1, 1, 1, 0, 0, 0, 0, 1, 7, 0, 0, 1, 1, 0, 0, 0, 0, 3, 3, 3, 2, 3, 3, 8, 1, 0, 0, 0, 0, 0, 0, 4, 9, 10, 0, 0, 1, 1, 0, 0, 4, 4, 4, 5, 4, 1, 0, 0, 6, 11, 12, 1, 1, 1, 1, 3, 4, 5, 1, 2, 3, 4, 5]
noncomputable def hXE : List Nat := [2, 0, 2, 0, 2, 2, 2, 1, 0, 3, 4, 5, 6, 7]
section
variable (w : World) (b1 b2 b3 : Bool) (loc cw ch cs it ul fl dl : Nat) (q4 : KT4) (y : List Nat) (tl : Nat) (e5 e6 : Ky) (v5 v6 : PySem.Value) (n : Nat) (tu tf td : List Nat) (nu nf nd x0 x1 x2 p q u f : Nat) (d : Drawn) (os : OsState) (h : Heap) (N T : Nat) (gl : List GenState) (R : Result → Shared → Prop)
theorem ckX0 : lft (obX w b1 b2 b3 (loc+171) (cw+171) (ch+171) (cs+171) (it+171) (ul+171) (fl+171) (dl+171) q4 y tl none n tu tf td nu nf nd x0 x1 x2 0 2 p q u f d os h N T gl R) hX = rgt (obX w b1 b2 b3 (loc+171) (cw+171) (ch+171) (cs+171) (it+171) (ul+171) (fl+171) (dl+171) q4 y tl none n tu tf td nu nf nd x0 x1 x2 0 2 p q u f d os h N T gl R) hX := by cases b1 <;> kernel_rfl
theorem ckX1 : lft (obX w b1 b2 b3 (loc+171) (cw+171) (ch+171) (cs+171) (it+171) (ul+171) (fl+171) (dl+171) q4 y tl (some (e5, e6, v5, v6)) n tu tf td nu nf nd x0 x1 x2 1 1 p q u f d os h N T gl R) hX = rgt (obX w b1 b2 b3 (loc+171) (cw+171) (ch+171) (cs+171) (it+171) (ul+171) (fl+171) (dl+171) q4 y tl (some (e5, e6, v5, v6)) n tu tf td nu nf nd x0 x1 x2 1 1 p q u f d os h N T gl R) hX := by cases b1 <;> kernel_rfl
theorem ckX2 : lft (obX w b1 b2 b3 (loc+171) (cw+171) (ch+171) (cs+171) (it+171) (ul+171) (fl+171) (dl+171) q4 y tl (some (e5, e6, v5, v6)) n tu tf td nu nf nd x0 x1 x2 2 0 p q u f d os h N T gl R) hX = rgt (obX w b1 b2 b3 (loc+171) (cw+171) (ch+171) (cs+171) (it+171) (ul+171) (fl+171) (dl+171) q4 y tl (some (e5, e6, v5, v6)) n tu tf td nu nf nd x0 x1 x2 2 0 p q u f d os h N T gl R) hX := by cases b1 <;> kernel_rfl
theorem ckXE : lft (obXE w b1 b2 b3 (loc+171) (cw+171) (ch+171) (cs+171) (it+171) (ul+171) (fl+171) (dl+171) q4 y tl (some (e5, e6, v5, v6)) n tu tf td nu nf nd x0 x1 x2 d os h N T gl R) hXE = rgt (obXE w b1 b2 b3 (loc+171) (cw+171) (ch+171) (cs+171) (it+171) (ul+171) (fl+171) (dl+171) q4 y tl (some (e5, e6, v5, v6)) n tu tf td nu nf nd x0 x1 x2 d os h N T gl R) hXE := by cases b1 <;> kernel_rfl
end
noncomputable def pX (x : Nat) : Nat := x % 3
noncomputable def qX (x : Nat) : Nat := x / 3 % 3
noncomputable def uX (x : Nat) : Nat := unsL.getD (x / 9 % 27) 0
noncomputable def fX (x : Nat) : Nat := formL.getD (x / 243) 0
noncomputable def blkX (x k : Nat) : List Nat := blk (pX x) (uX x) (qX x) (fX x + k)
theorem blkX_len (x k : Nat) : (blkX x k).length ≤ 8 := by
  have h1 : pX x < 3 := Nat.mod_lt _ (by decide)
  have h2 : qX x < 3 := Nat.mod_lt _ (by decide)
  simp only [blkX, blk, List.length_append, List.length_replicate, List.length_cons, List.length_nil]
  omega
theorem unsL_get (k : Nat) (h : k < 27) : unsL[k]? = some (unsL.getD k 0) ∧ unsL.getD k 0 ≤ 65279 := by
  revert k; decide
theorem formL_get (k : Nat) (h : k < 6) : formL[k]? = some (formL.getD k 0) ∧ formL.getD k 0 ≤ 120432 := by
  revert k; decide
theorem fdivN (a b : Nat) : Int.fdiv (a : Int) (b : Int) = ((a / b : Nat) : Int) := (Int.ofNat_fdiv a b).symm
theorem fmodN (a b : Nat) : Int.fmod (a : Int) (b : Int) = ((a % b : Nat) : Int) := (Int.ofNat_fmod a b).symm
theorem hkT_ok {V : Ev} {y : List Nat} {x k : Nat} (hx : x < 1458) (hk : k < 3) (hy : y.length ≤ 100) : HookOk V (hkT y x k (pX x) (qX x) (uX x) (fX x)) := by
  have sz : sizeLine = 16777216 := by decide
  have h1 : pX x < 3 := Nat.mod_lt _ (by decide)
  have h2 : qX x < 3 := Nat.mod_lt _ (by decide)
  obtain ⟨h3, h4⟩ := unsL_get (x / 9 % 27) (Nat.mod_lt _ (by decide))
  obtain ⟨h5, h6⟩ := formL_get (x / 243) (by omega)
  have hb := blkX_len x k
  refine hook2_ok (hookMulU_ok (fmodN x 3) (by omega)) (hook2_ok (hookGetI_ok (k := x / 9 % 27) (by rw [show (9 : Int) = ((9 : Nat) : Int) from rfl, fdivN]; exact fmodN _ 27) h3 (by omega)) (hook2_ok (hookChr_ok rfl (by show unsL.getD (x / 9 % 27) 0 ≤ _; omega)) (hook2_ok (hookMulU_ok (by rw [show (3 : Int) = ((3 : Nat) : Int) from rfl, fdivN]; exact fmodN _ 3) (by omega)) (hook2_ok (hookGetI_ok (k := x / 243) (fdivN x 243) h5 (by omega))
    (hook2_ok (hookChr_ok (Int.natCast_add _ _).symm (by show formL.getD (x / 243) 0 + k ≤ _; omega)) (hook2_ok (hookAddU_ok ?_) (hook2_ok (hookAddU_ok ?_) (hook2_ok (hookAddU_ok ?_) (hook2_ok (hookAddU_ok ?_) (hook2_ok (hookAddU_ok ?_) (hookAddU_ok ?_)))))))))))
  · simp only [List.length_append, List.length_replicate, List.length_cons, List.length_nil]; omega
  · simp only [List.length_append, List.length_replicate, List.length_cons, List.length_nil]; omega
  · simp only [List.length_append, List.length_replicate, List.length_cons, List.length_nil]; omega
  · simp only [List.length_append, List.length_replicate, List.length_cons, List.length_nil]; omega
  · simp only [List.length_append, List.length_replicate, List.length_cons, List.length_nil]; omega
  · have : (blk (pX x) (uX x) (qX x) (fX x + k)).length ≤ 8 := hb
    simp only [List.length_append, List.length_cons]; omega
theorem linX_keys (loc it ul fl dl : Nat) (lo : Obj) (tu tf : List Nat × Nat) (x0 x1 x2 : Nat) (td : List Nat × Nat) (k left : Nat) : (linX loc it ul fl dl lo tu tf x0 x1 x2 td k left).map (·.1) = [loc, it, ul, fl, dl] := rfl
section
variable (w : World) (b1 b2 b3 : Bool) (loc cw ch cs it ul fl dl x0 x1 x2 : Nat)
noncomputable abbrev TX (k left : Nat) (y : List Nat) (P : Result → Led → Prop) : Prop := ∀ (q4 : KT4) (tl : Nat) (r : Option (Ky × Ky × PySem.Value × PySem.Value)) (n : Nat) (tu tf td : List Nat) (nu nf nd : Nat), (k = 0 ↔ r = none) →
  Tri (WB w b1 b2 b3) 325 40 (cLT (WB w b1 b2 b3).params (loc+171) (cw+171) (ch+171) (cs+171) (it+171)) (linX (loc+171) (it+171) (ul+171) (fl+171) (dl+171) (locT q4 (ul+171) (fl+171) (dl+171) y tl r n) (tu, nu) (tf, nf) x0 x1 x2 (td, nd) k left) P
theorem turnX (k left : Nat) (y : List Nat) (P : Result → Led → Prop) (hk : k < 3) (hx : xAt x0 x1 x2 k < 1458) (hy : y.length ≤ 100)
    (hG : ∀ (q4 : KT4) (tl : Nat) (r : Option (Ky × Ky × PySem.Value × PySem.Value)) (n : Nat) (tu tf td : List Nat) (nu nf nd p q u f : Nat) (_ : k = 0 ↔ r = none) (d : Drawn) (os : OsState) (h : Heap) (N T : Nat) (gl : List GenState) (R : Result → Shared → Prop),
      good (obX w b1 b2 b3 (loc+171) (cw+171) (ch+171) (cs+171) (it+171) (ul+171) (fl+171) (dl+171) q4 y tl r n tu tf td nu nf nd x0 x1 x2 k left p q u f d os h N T gl R))
    (IH : TX w b1 b2 b3 loc cw ch cs it ul fl dl x0 x1 x2 (k + 1) left (y ++ blkX (xAt x0 x1 x2 k) k) P) : TX w b1 b2 b3 loc cw ch cs it ul fl dl x0 x1 x2 k (left + 1) y P := by
  intro q4 tl r n tu tf td nu nf nd hr
  refine tri_turn (W := WB w b1 b2 b3) (n := 325) (u := 40) (m := 1000) (c := cLT (WB w b1 b2 b3).params (loc+171) (cw+171) (ch+171) (cs+171) (it+171)) (c₁ := cLT (WB w b1 b2 b3).params (loc+171) (cw+171) (ch+171) (cs+171) (it+171))
    (Lin := linX (loc+171) (it+171) (ul+171) (fl+171) (dl+171) (locT q4 (ul+171) (fl+171) (dl+171) y tl r n) (tu, nu) (tf, nf) x0 x1 x2 (td, nd) k (left + 1))
    (as := [loc+171, ul+171, fl+171, dl+171]) (lin := linXT (loc+171) (it+171) (ul+171) (fl+171) (dl+171) (y ++ blkX (xAt x0 x1 x2 k) k) x0 x1 x2 (k + 1) left) (hook := hkT y (xAt x0 x1 x2 k) k (pX (xAt x0 x1 x2 k)) (qX (xAt x0 x1 x2 k)) (uX (xAt x0 x1 x2 k)) (fX (xAt x0 x1 x2 k)))
    (fun V S _ => hkT_ok hx hk hy) (fun os gh => by simp only [linXT, linX_keys])
    (fun d os h N T gl R => by
      have g := hG q4 tl r n tu tf td nu nf nd (pX (xAt x0 x1 x2 k)) (qX (xAt x0 x1 x2 k)) (uX (xAt x0 x1 x2 k)) (fX (xAt x0 x1 x2 k)) hr d os h N T gl R
      unfold obX at g; exact g) fun os gh => ?_
  exact IH _ _ _ _ _ _ _ _ _ _ ⟨fun h => absurd h (Nat.succ_ne_zero _), fun h => by cases h⟩
/-- the text behind its x -/
noncomputable def rest3 (x0 x1 x2 : Nat) : List Nat := (([] ++ blkX x0 0) ++ blkX x1 1) ++ blkX x2 2
noncomputable def PX (loc it ul fl dl x0 x1 x2 : Nat) (rr : Result) (Lo : Led) : Prop := rr = .ok .next ∧ ∃ q4 tl r n tu tf td nu nf nd, Lo = linX loc it ul fl dl (locT q4 ul fl dl (rest3 x0 x1 x2) tl (some r) n) (tu, nu) (tf, nf) x0 x1 x2 (td, nd) 3 0
theorem endX : TX w b1 b2 b3 loc cw ch cs it ul fl dl x0 x1 x2 3 0 (rest3 x0 x1 x2) (PX (loc+171) (it+171) (ul+171) (fl+171) (dl+171) x0 x1 x2) := by
  intro q4 tl r n tu tf td nu nf nd hr
  rcases r with _ | ⟨e5, e6, v5, v6⟩
  · exact absurd (hr.mpr rfl) (by decide)
  have z := tri_end (W := WB w b1 b2 b3) (n := 325) (u := 40) (m := 1000) (c := cLT (WB w b1 b2 b3).params (loc+171) (cw+171) (ch+171) (cs+171) (it+171))
    (Lin := linX (loc+171) (it+171) (ul+171) (fl+171) (dl+171) (locT q4 (ul+171) (fl+171) (dl+171) (rest3 x0 x1 x2) tl (some (e5, e6, v5, v6)) n) (tu, nu) (tf, nf) x0 x1 x2 (td, nd) 3 0) (hook := noHook) (as := [])
    (lin := fun _ _ => linX (loc+171) (it+171) (ul+171) (fl+171) (dl+171) (locT q4 (ul+171) (fl+171) (dl+171) (rest3 x0 x1 x2) tl (some (e5, e6, v5, v6)) n) (tu, nu) (tf, nf) x0 x1 x2 (td, nd) 3 0) (fun V _ _ => noHook_ok V) (fun hn _ _ => hn)
    (fun d os h N T gl R => by
      have g := good_of _ _ (ckXE w b1 b2 b3 loc cw ch cs it ul fl dl q4 (rest3 x0 x1 x2) tl e5 e6 v5 v6 n tu tf td nu nf nd x0 x1 x2 d os h N T gl R)
      unfold obXE at g; exact g)
  exact z.mono fun rr Lo ⟨h1, _, _, h2⟩ => ⟨h1, q4, tl, (e5, e6, v5, v6), n, tu, tf, td, nu, nf, nd, h2⟩
theorem loopX (h0 : x0 < 1458) (h1 : x1 < 1458) (h2 : x2 < 1458) : TX w b1 b2 b3 loc cw ch cs it ul fl dl x0 x1 x2 0 3 [] (PX (loc+171) (it+171) (ul+171) (fl+171) (dl+171) x0 x1 x2) := by
  have l0 := blkX_len x0 0
  have l1 := blkX_len x1 1
  refine turnX w b1 b2 b3 loc cw ch cs it ul fl dl x0 x1 x2 0 2 [] _ (by decide) h0 (by simp) ?_ ?_
  · intro q4 tl r n tu tf td nu nf nd p q u f hr d os h N T gl R
    obtain rfl := hr.mp rfl
    exact good_of _ _ (ckX0 ..)
  refine turnX w b1 b2 b3 loc cw ch cs it ul fl dl x0 x1 x2 1 1 _ _ (by decide) h1 (by show ([] ++ blkX x0 0).length ≤ 100; simp only [List.length_append, List.length_nil]; omega) ?_ ?_
  · intro q4 tl r n tu tf td nu nf nd p q u f hr d os h N T gl R
    rcases r with _ | ⟨e5, e6, v5, v6⟩
    · exact absurd (hr.mpr rfl) (by decide)
    exact good_of _ _ (ckX1 ..)
  refine turnX w b1 b2 b3 loc cw ch cs it ul fl dl x0 x1 x2 2 0 _ _ (by decide) h2 (by show (([] ++ blkX x0 0) ++ blkX x1 1).length ≤ 100; simp only [List.length_append, List.length_nil]; omega) ?_ ?_
  · intro q4 tl r n tu tf td nu nf nd p q u f hr d os h N T gl R
    rcases r with _ | ⟨e5, e6, v5, v6⟩
    · exact absurd (hr.mpr rfl) (by decide)
    exact good_of _ _ (ckX2 ..)
  exact endX w b1 b2 b3 loc cw ch cs it ul fl dl x0 x1 x2
end
structure XX where
  (loc cw ch cs it ul fl dl : Nat) (q4 : KT4) (tl n : Nat) (tu tf td : List Nat) (nu nf nd : Nat)
noncomputable def hookX (P : Params) (x0 x1 x2 : Nat) (y : List Nat) : HookT :=
  hookTri (X := XX) 325 40 (fun c L _ k => match c with
    | .forLoop _ (.ref it) _ _ env => gets L [env.locals] fun os => gets L [nAt (valAt (oAt os 0) 0), nAt (valAt (oAt os 0) 1), nAt (valAt (oAt os 0) 2)] fun os2 =>
      k ⟨env.locals, cellAt env.cells 0, cellAt env.cells 1, cellAt env.cells 2, it, nAt (valAt (oAt os 0) 0), nAt (valAt (oAt os 0) 1), nAt (valAt (oAt os 0) 2), ⟨kyAt (oAt os 0) 0, kyAt (oAt os 0) 1, kyAt (oAt os 0) 2, kyAt (oAt os 0) 3⟩, tokV (valAt (oAt os 0) 3), dictN (oAt os 0), toksOf (oAt os2 0), toksOf (oAt os2 1), toksOf (oAt os2 2), seqN (oAt os2 0), seqN (oAt os2 1), seqN (oAt os2 2)⟩
    | _ => .bad 420 0)
    (fun x => cLT P x.loc x.cw x.ch x.cs x.it) (fun x => linX x.loc x.it x.ul x.fl x.dl (locT x.q4 x.ul x.fl x.dl [] x.tl none x.n) (x.tu, x.nu) (x.tf, x.nf) x0 x1 x2 (x.td, x.nd) 0 3)
    (fun x => Nat.ble 171 x.loc && (Nat.ble 171 x.cw && (Nat.ble 171 x.ch && (Nat.ble 171 x.cs && (Nat.ble 171 x.it && (Nat.ble 171 x.ul && (Nat.ble 171 x.fl && Nat.ble 171 x.dl)))))))
    (fun x k => .allI fun h1 => .allN fun k1 => .allI fun h2 => .allN fun k2 => .allI fun h3 => .allN fun k3 => .allI fun h4 => .allN fun k4 => .allI fun h5 => .allN fun k5 => .allI fun h6 => .allN fun k6 => .allV fun v5 => .allV fun v6 => .allN fun tl => .allN fun n => .allL fun tu => .allL fun tf => .allL fun td => .allN fun nu => .allN fun nf => .allN fun nd =>
      k (.ok .next) (linX x.loc x.it x.ul x.fl x.dl (locT ⟨(h1, k1), (h2, k2), (h3, k3), (h4, k4)⟩ x.ul x.fl x.dl y tl (some ((h5, k5), (h6, k6), v5, v6)) n) (tu, nu) (tf, nf) x0 x1 x2 (td, nd) 3 0) [])
theorem hookX_ok {V : Ev} (S : V.Std) {w : World} {b1 b2 b3 : Bool} (hw : V.w = WB w b1 b2 b3) {x0 x1 x2 : Nat} (h0 : x0 < 1458) (h1 : x1 < 1458) (h2 : x2 < 1458) {y : List Nat} (hy : y = rest3 x0 x1 x2) : HookOk V (hookX (WB w b1 b2 b3).params x0 x1 x2 y) := by
  subst hy
  refine hookTri_ok S (fun x rr Lo => PX x.loc x.it x.ul x.fl x.dl x0 x1 x2 rr Lo) (fun c L gh k H => ?_) (fun x k r' Lo hP H => ?_) (fun x hx => ?_)
  · split at H
    · obtain ⟨os, H⟩ := gets_of H
      obtain ⟨os2, H⟩ := gets_of H
      exact ⟨_, H⟩
    · cases H
  · obtain ⟨rfl, ⟨e1, e2, e3, e4⟩, tl, ⟨e5, e6, v5, v6⟩, n, tu, tf, td, nu, nf, nd, rfl⟩ := hP
    exact ⟨[], H e1.1 e1.2 e2.1 e2.2 e3.1 e3.2 e4.1 e4.2 e5.1 e5.2 e6.1 e6.2 v5 v6 tl n tu tf td nu nf nd⟩
  · rw [hw]
    obtain ⟨loc, cw, ch, cs, it, ul, fl, dl, q4, tl, n, tu, tf, td, nu, nf, nd⟩ := x
    obtain ⟨g1, hx⟩ := Bool.and_eq_true_iff.mp hx
    obtain ⟨g2, hx⟩ := Bool.and_eq_true_iff.mp hx
    obtain ⟨g3, hx⟩ := Bool.and_eq_true_iff.mp hx
    obtain ⟨g4, hx⟩ := Bool.and_eq_true_iff.mp hx
    obtain ⟨g5, hx⟩ := Bool.and_eq_true_iff.mp hx
    obtain ⟨g6, hx⟩ := Bool.and_eq_true_iff.mp hx
    obtain ⟨g7, g8⟩ := Bool.and_eq_true_iff.mp hx
    have g1 : 171 ≤ loc := Nat.le_of_ble_eq_true g1
    have g2 : 171 ≤ cw := Nat.le_of_ble_eq_true g2
    have g3 : 171 ≤ ch := Nat.le_of_ble_eq_true g3
    have g4 : 171 ≤ cs := Nat.le_of_ble_eq_true g4
    have g5 : 171 ≤ it := Nat.le_of_ble_eq_true g5
    have g6 : 171 ≤ ul := Nat.le_of_ble_eq_true g6
    have g7 : 171 ≤ fl := Nat.le_of_ble_eq_true g7
    have g8 : 171 ≤ dl := Nat.le_of_ble_eq_true g8
    obtain ⟨loc, rfl⟩ : ∃ k, loc = k + 171 := ⟨loc - 171, by omega⟩
    obtain ⟨cw, rfl⟩ : ∃ k, cw = k + 171 := ⟨cw - 171, by omega⟩
    obtain ⟨ch, rfl⟩ : ∃ k, ch = k + 171 := ⟨ch - 171, by omega⟩
    obtain ⟨cs, rfl⟩ : ∃ k, cs = k + 171 := ⟨cs - 171, by omega⟩
    obtain ⟨it, rfl⟩ : ∃ k, it = k + 171 := ⟨it - 171, by omega⟩
    obtain ⟨ul, rfl⟩ : ∃ k, ul = k + 171 := ⟨ul - 171, by omega⟩
    obtain ⟨fl, rfl⟩ : ∃ k, fl = k + 171 := ⟨fl - 171, by omega⟩
    obtain ⟨dl, rfl⟩ : ∃ k, dl = k + 171 := ⟨dl - 171, by omega⟩
    exact loopX w b1 b2 b3 loc cw ch cs it ul fl dl x0 x1 x2 h0 h1 h2 q4 tl none n tu tf td nu nf nd ⟨fun _ => rfl, fun _ => rfl⟩
end Mine
end
-- part F14l
section
namespace Mine
/-! law's calls as hooks -/
theorem Tri.more {w : World} {n u : Nat} {c : Code} {Lin : Led} {P : Result → Led → Prop} (t : Tri w n u c Lin P) : Tri w n u c Lin (fun r Lo => P r Lo ∧ (∀ p ∈ Lo, p.1 ∈ Lin.map (·.1) ∨ 171 ≤ p.1) ∧ (Lo.map (·.1)).Nodup) :=
  fun d os h N T gl F I => codeAny_mono (t d os h N T gl F I) fun _ _ ⟨h', N', T', Lo, a, b, c, d, e, f, g⟩ => ⟨h', N', T', Lo, a, b, c, d, e, f, g, fun p hp => (f p hp).imp id fun q => Nat.le_trans (Nat.le_add_left _ _) q, e.nodup⟩
noncomputable def cdG (g : List GenState) : Cd := match g with
  | [.fresh (.call v ⟨.str q t :: vs, _⟩)] => ⟨v, q, t, vs⟩
  | _ => ⟨.none, ⟨⟨[]⟩⟩, 0, []⟩
noncomputable def gOf (x : Cd) : List GenState := [.fresh (.call x.v0 ⟨.str x.q x.tq :: x.vs, []⟩)]
theorem cdG_of (x : Cd) : cdG (gOf x) = x := rfl
theorem lin6_low {Lo : Led} {c1 c2 : Nat} {x1 x2 : Cd} {ks : List Nat} (e : Lo = lin6 c1 c2 x1 x2) (hk : ∀ k ∈ ks, k = 143 ∨ 171 ≤ k) (h : ∀ p ∈ Lo, p.1 ∈ ks ∨ 171 ≤ p.1) (hn : (Lo.map (·.1)).Nodup) : 171 ≤ c1 ∧ 171 ≤ c2 := by
  subst e
  have hn : [143, c1, c2].Nodup := hn
  obtain ⟨m, -⟩ := List.nodup_cons.mp hn
  constructor
  · rcases h (c1, cdObj x1) (.tail _ (.head _)) with a | a
    · rcases hk _ a with b | b
      · exact absurd (show (143 : Nat) ∈ [c1, c2] from by rw [← show c1 = 143 from b]; exact .head _) m
      · exact b
    · exact a
  · rcases h (c2, cdObj x2) (.tail _ (.tail _ (.head _))) with a | a
    · rcases hk _ a with b | b
      · exact absurd (show (143 : Nat) ∈ [c1, c2] from by rw [← show c2 = 143 from b]; exact .tail _ (.head _)) m
      · exact b
    · exact a
structure XR where
  (t c1 c2 : Nat) (x1 x2 : Cd)
noncomputable def hookR1 (f g : List Nat) : HookT :=
  hookTri (X := XR) 330 40 (fun c _ _ k => match c with
    | .call _ ⟨[.str _ t], _⟩ => k ⟨t, 0, 0, cdG [], cdG []⟩
    | _ => .bad 421 0)
    (fun x => .call (.ref 148) ⟨[.str ⟨⟨120 :: f⟩⟩ x.t], []⟩) (fun _ => [(143, tab0)]) (fun _ => true)
    (fun _ k => .allN fun t => .allN fun c1 => .allN fun c2 => .allG fun g1 => .allG fun g2 => k (.ok (.ret (.str ⟨⟨120 :: g⟩⟩ t))) (lin6 (c1 + 171) (c2 + 171) (cdG g1) (cdG g2)) [])
theorem hookR1_ok {V : Ev} (S : V.Std) {w : World} {b b2 b3 : Bool} (hw : V.w = WB w b b2 b3) {bs : List (Bool × Nat)} (hb : ∀ p ∈ bs, OkB p) (hl : 2 * bs.length + 10 ≤ sizeLine) {f g : List Nat} (hf : f = txtB bs) (hg : g = readB bs) : HookOk V (hookR1 f g) := by
  subst hf hg
  refine hookTri_ok S (fun _ r Lo => ∃ t c1 c2 x1 x2, r = .ok (.ret (.str ⟨⟨120 :: readB bs⟩⟩ t)) ∧ Lo = lin6 (c1 + 171) (c2 + 171) x1 x2) (fun c L gh k H => ?_) (fun x k r' Lo hP H => ?_) (fun x _ => ?_)
  · split at H
    · exact ⟨_, H⟩
    · cases H
  · obtain ⟨t, c1, c2, x1, x2, rfl, rfl⟩ := hP
    exact ⟨[], H t c1 c2 (gOf x1) (gOf x2)⟩
  · rw [hw]
    refine (read1 w b b2 b3 bs hb hl x.t).more.mono fun r Lo ⟨⟨t, c1, c2, x1, x2, h1, h2⟩, h3, h4⟩ => ?_
    obtain ⟨g1, g2⟩ := lin6_low h2 (ks := [143]) (fun k hk => .inl (by simpa using hk)) h3 h4
    exact ⟨t, c1 - 171, c2 - 171, x1, x2, h1, by rw [h2, Nat.sub_add_cancel g1, Nat.sub_add_cancel g2]⟩
noncomputable def hookR2 (f g : List Nat) : HookT :=
  hookTri (X := XR) 330 40 (fun c L _ k => match c with
    | .call _ ⟨[.str _ t], _⟩ => gets L [143] fun os => gets L [nAt (fieldAt (oAt os 0) 2), nAt (fieldAt (oAt os 0) 5)] fun os2 => k ⟨t, nAt (fieldAt (oAt os 0) 2), nAt (fieldAt (oAt os 0) 5), cdOf (oAt os2 0), cdOf (oAt os2 1)⟩
    | _ => .bad 422 0)
    (fun x => .call (.ref 148) ⟨[.str ⟨⟨120 :: f⟩⟩ x.t], []⟩) (fun x => lin6 x.c1 x.c2 x.x1 x.x2) (fun x => Nat.ble 171 x.c1 && Nat.ble 171 x.c2)
    (fun _ k => .allN fun t => .allN fun c1 => .allN fun c2 => .allG fun g1 => .allG fun g2 => k (.ok (.ret (.str ⟨⟨120 :: g⟩⟩ t))) (lin6 (c1 + 171) (c2 + 171) (cdG g1) (cdG g2)) [])
theorem hookR2_ok {V : Ev} (S : V.Std) {w : World} {b b2 b3 : Bool} (hw : V.w = WB w b b2 b3) {bs : List (Bool × Nat)} (hb : ∀ p ∈ bs, OkB p) (hl : 2 * bs.length + 10 ≤ sizeLine) {f g : List Nat} (hf : f = txtB bs) (hg : g = readB bs) : HookOk V (hookR2 f g) := by
  subst hf hg
  refine hookTri_ok S (fun _ r Lo => ∃ t c1 c2 x1 x2, r = .ok (.ret (.str ⟨⟨120 :: readB bs⟩⟩ t)) ∧ Lo = lin6 (c1 + 171) (c2 + 171) x1 x2) (fun c L gh k H => ?_) (fun x k r' Lo hP H => ?_) (fun x hx => ?_)
  · split at H
    · obtain ⟨os, H⟩ := gets_of H
      obtain ⟨os2, H⟩ := gets_of H
      exact ⟨_, H⟩
    · cases H
  · obtain ⟨t, c1, c2, x1, x2, rfl, rfl⟩ := hP
    exact ⟨[], H t c1 c2 (gOf x1) (gOf x2)⟩
  · rw [hw]
    obtain ⟨t, c1, c2, x1, x2⟩ := x
    obtain ⟨g1, g2⟩ := Bool.and_eq_true_iff.mp hx
    have g1 : 171 ≤ c1 := Nat.le_of_ble_eq_true g1
    have g2 : 171 ≤ c2 := Nat.le_of_ble_eq_true g2
    obtain ⟨c1, rfl⟩ : ∃ k, c1 = k + 171 := ⟨c1 - 171, by omega⟩
    obtain ⟨c2, rfl⟩ : ∃ k, c2 = k + 171 := ⟨c2 - 171, by omega⟩
    refine (read2 w b b2 b3 bs hb hl t c1 c2 x1 x2).more.mono fun r Lo ⟨⟨t, d1, d2, y1, y2, h1, h2⟩, h3, h4⟩ => ?_
    obtain ⟨g1, g2⟩ := lin6_low h2 (ks := [143, c1 + 171, c2 + 171]) (fun k hk => by
      rcases List.mem_cons.mp hk with rfl | hk
      · exact .inl rfl
      · rcases List.mem_cons.mp hk with rfl | hk
        · exact .inr (Nat.le_add_left _ _)
        · rcases List.mem_cons.mp hk with rfl | hk
          · exact .inr (Nat.le_add_left _ _)
          · cases hk) h3 h4
    exact ⟨t, d1 - 171, d2 - 171, y1, y2, h1, by rw [h2, Nat.sub_add_cancel g1, Nat.sub_add_cancel g2]⟩
/-- the stripping: a finished generator stays behind -/
noncomputable def hookSt (f s : List Nat) : HookT := fun _ c A cont L _ _ _ gl gh => match inB A 320 35 with
  | true => .eqC c (.call (.ref 35) ⟨[.str ⟨⟨120 :: f⟩⟩ (argTok c)], []⟩) (.allN fun t => .allN fun N' => .allN fun T' => cont (.ok (.ret (.str ⟨⟨s⟩⟩ t))) L (N' + 171) (T' + 2349) 0 (gl ++ [.finished]) gh)
  | false => .bad 80 0
theorem hookSt_ok {V : Ev} (S : V.Std) {w : World} {b1 b2 b3 : Bool} (hw : V.w = WB w b1 b2 b3) {f s : List Nat} {bs : List (Bool × Nat)} (ex : f = txtB bs) (es : s = stripL (120 :: f) bs) (hb : ∀ p ∈ bs, OkB p) (ha : (⟨⟨120 :: f⟩⟩ : Str).cps.all (· < 128) = true)
    (hx : (120 :: f).length ≤ sizeLine) (hs : bs.length ≤ sizeLine) (hm : (!(Builtin.Str.occurrences ⟨⟨120 :: f⟩⟩ ⟨⟨[34]⟩⟩ 0 (⟨⟨120 :: f⟩⟩ : Str).length 1).isEmpty) = true) (hj : s.length ≤ sizeLine) : HookOk V (hookSt f s) := by
  intro j c A g l cont L sz tb i gl gh h H D
  unfold hookSt at H
  split at H
  · rename_i hA
    obtain ⟨ec, H⟩ := eqC_of H
    rw [ec]
    refine call_B hA ?_
    obtain ⟨N, T, rfl, rfl, F⟩ := St0.of S D
    have z := strip w b1 b2 b3 (120 :: f) bs (by rw [ex]) hb ha hx hs hm (es ▸ hj) (argTok c) V.d V.os h N (T + i) gl (hw ▸ F) ⟨fun _ h => (nomatch h), List.nodup_nil, fun _ h => (nomatch h)⟩
    rw [← hw] at z
    have e : st h gl V.d (T + i) V.os = sh V h (T + 2349) i gl := by unfold st sh; rw [Nat.add_right_comm]
    rw [e] at z
    refine codeAny_mono z fun r s' x => ?_
    obtain ⟨h', N', T', Lo, rfl, F', le, k, I', hm', ⟨t, rfl⟩, rfl⟩ := x
    subst es
    refine ⟨L, N' + 171, T' + 2349, 0, gl ++ [GenState.finished], gh, h', rfl, ?_, H t N' T'⟩
    exact D.kept S F' k (Nat.add_le_add_right le _)
  · cases H
structure XW where
  (t0 t1 t2 ln : Nat)
noncomputable def hookWo (n0 n1 n2 : Nat) (ents : List (Nat × Nat)) : HookT :=
  fun j c A cont L sz tb i gl gh => (hookTri (X := Nat × XW) 320 35 (fun c L _ k => match c with
    | .call _ ⟨[.ref hl], _⟩ => gets L [hl] fun os => k (hl, ⟨tokV (seqAt (oAt os 0) 0), tokV (seqAt (oAt os 0) 1), tokV (seqAt (oAt os 0) 2), seqN (oAt os 0)⟩)
    | _ => .bad 423 0)
    (fun x => c12 x.1) (fun x => [(x.1, heapsO n0 n1 n2 x.2.t0 x.2.t1 x.2.t2 x.2.ln)]) (fun x => Nat.ble 171 x.1)
    (fun x k => .allN fun dd => .allN fun t0 => .allN fun t1 => .allN fun t2 => .allN fun ln => .allL fun ts => .allN fun n => k (.ok (.ret (.ref (dd + 171)))) [(x.1, heapsO n0 n1 n2 t0 t1 t2 ln), (dd + 171, dictW ents ts n)] [.str ⟨⟨ts⟩⟩ 0])) j c A cont L sz tb i gl gh
theorem hookWo_ok {V : Ev} (S : V.Std) {w : World} {b1 b2 b3 : Bool} (hw : V.w = WB w b1 b2 b3) {n0 n1 n2 : Nat} (h0 : n0 ≤ 4) (h1 : n1 ≤ 4) (h2 : n2 ≤ 4) {ents : List (Nat × Nat)} (he : ents = entA n1 n2 [] 0 (n0 + 1)) : HookOk V (hookWo n0 n1 n2 ents) := by
  subst he
  refine hookTri_ok S (fun x r Lo => ∃ dd t0 t1 t2 ln ts n, r = .ok (.ret (.ref (dd + 171))) ∧ Lo = [(x.1, heapsO n0 n1 n2 t0 t1 t2 ln), (dd + 171, dictW (entA n1 n2 [] 0 (n0 + 1)) ts n)]) (fun c L gh k H => ?_) (fun x k r' Lo hP H => ?_) (fun x hx => ?_)
  · split at H
    · obtain ⟨os, H⟩ := gets_of H
      exact ⟨_, H⟩
    · cases H
  · obtain ⟨dd, t0, t1, t2, ln, ts, n, rfl, rfl⟩ := hP
    exact ⟨[.str ⟨⟨ts⟩⟩ 0], H dd t0 t1 t2 ln ts n⟩
  · rw [hw]
    obtain ⟨hl, t0, t1, t2, ln⟩ := x
    have g1 : 171 ≤ hl := Nat.le_of_ble_eq_true hx
    obtain ⟨hl, rfl⟩ : ∃ k, hl = k + 171 := ⟨hl - 171, by omega⟩
    refine (worths w b1 b2 b3 hl n0 n1 n2 t0 t1 t2 ln h0 h1 h2).more.mono fun r Lo ⟨⟨dd, t0, t1, t2, ln, ts, n, h1, h2⟩, h3, h4⟩ => ?_
    have g2 : 171 ≤ dd := by
      have hd : (dd, dictW (entA n1 n2 [] 0 (n0 + 1)) ts n) ∈ Lo := by rw [h2]; exact .tail _ (.head _)
      rcases h3 _ hd with a | a
      · have a : dd ∈ [hl + 171] := a
        exact (List.mem_singleton.mp a) ▸ Nat.le_add_left _ _
      · exact a
    exact ⟨dd - 171, t0, t1, t2, ln, ts, n, by rw [h1, Nat.sub_add_cancel g2], by rw [h2, Nat.sub_add_cancel g2]⟩
structure X13 where
  (hl wl tp t0 t1 t2 ln u0 u1 u2 u3 lm : Nat)
noncomputable def hook13 (n0 n1 n2 w0 w1 w2 w3 p : Nat) (v : List Nat) : HookT :=
  hookTri (X := X13) 320 35 (fun c L _ k => match c with
    | .call _ ⟨[.ref hl, .ref wl, .int _ tp], _⟩ => gets L [hl, wl] fun os => k ⟨hl, wl, tp, tokV (seqAt (oAt os 0) 0), tokV (seqAt (oAt os 0) 1), tokV (seqAt (oAt os 0) 2), seqN (oAt os 0), tokV (seqAt (oAt os 1) 0), tokV (seqAt (oAt os 1) 1), tokV (seqAt (oAt os 1) 2), tokV (seqAt (oAt os 1) 3), seqN (oAt os 1)⟩
    | _ => .bad 424 0)
    (fun x => c13 x.hl x.wl p x.tp) (fun x => [(x.hl, heapsO n0 n1 n2 x.t0 x.t1 x.t2 x.ln), (x.wl, worthO w0 w1 w2 w3 x.u0 x.u1 x.u2 x.u3 x.lm)]) (fun x => Nat.ble 171 x.hl && Nat.ble 171 x.wl)
    (fun x k => .allN fun t => .allN fun t0 => .allN fun t1 => .allN fun t2 => .allN fun ln => .allN fun u0 => .allN fun u1 => .allN fun u2 => .allN fun u3 => .allN fun lm => k (.ok (.ret (.str ⟨⟨v⟩⟩ t))) [(x.hl, heapsO n0 n1 n2 t0 t1 t2 ln), (x.wl, worthO w0 w1 w2 w3 u0 u1 u2 u3 lm)] [])
theorem hook13_ok {V : Ev} (S : V.Std) {w : World} {b1 b2 b3 : Bool} (hw : V.w = WB w b1 b2 b3) {n0 n1 n2 w0 w1 w2 w3 p : Nat} (hp : p = 1 ∨ p = 2 ∨ p = 4) (h0 : n0 ≤ 4) (h1 : n1 ≤ 4) (h2 : n2 ≤ 4) (g0 : w0 < 8) (g1 : w1 < 8) (g2 : w2 < 8) (g3 : w3 < 8) {v : List Nat} (hv : v = 120 :: leftL n0 n1 n2 w0 w1 w2 w3 p) : HookOk V (hook13 n0 n1 n2 w0 w1 w2 w3 p v) := by
  subst hv
  refine hookTri_ok S (fun x r Lo => P13 x.hl x.wl n0 n1 n2 w0 w1 w2 w3 p r Lo) (fun c L gh k H => ?_) (fun x k r' Lo hP H => ?_) (fun x hx => ?_)
  · split at H
    · obtain ⟨os, H⟩ := gets_of H
      exact ⟨_, H⟩
    · cases H
  · obtain ⟨t, t0, t1, t2, ln, u0, u1, u2, u3, lm, rfl, rfl⟩ := hP
    exact ⟨[], H t t0 t1 t2 ln u0 u1 u2 u3 lm⟩
  · rw [hw]
    obtain ⟨hl, wl, tp, t0, t1, t2, ln, u0, u1, u2, u3, lm⟩ := x
    obtain ⟨q1, q2⟩ := Bool.and_eq_true_iff.mp hx
    have q1 : 171 ≤ hl := Nat.le_of_ble_eq_true q1
    have q2 : 171 ≤ wl := Nat.le_of_ble_eq_true q2
    obtain ⟨hl, rfl⟩ : ∃ k, hl = k + 171 := ⟨hl - 171, by omega⟩
    obtain ⟨wl, rfl⟩ : ∃ k, wl = k + 171 := ⟨wl - 171, by omega⟩
    exact leftF w b1 b2 b3 hl wl n0 n1 n2 t0 t1 t2 ln w0 w1 w2 w3 u0 u1 u2 u3 lm p tp hp h0 h1 h2 g0 g1 g2 g3
/-- two lists of three like texts -/
noncomputable def hookEqL (s0 s1 s2 : List Nat) : HookT := fun _ c _ cont L sz tb i gl gh => inLed (argRV c).1 L fun _ p => inLed (argSR c) L fun _ q =>
  .eqC c (.call (.builtin "list.__eq__") ⟨[.ref (argRV c).1, .ref (argSR c)], []⟩) (.eqO p.2 (listObj ⟨[.str ⟨⟨s0⟩⟩ (tokV (seqAt p.2 0)), .str ⟨⟨s1⟩⟩ (tokV (seqAt p.2 1)), .str ⟨⟨s2⟩⟩ (tokV (seqAt p.2 2))]⟩ (seqN p.2))
    (.eqO q.2 (listObj ⟨[.str ⟨⟨s0⟩⟩ (tokV (seqAt q.2 0)), .str ⟨⟨s1⟩⟩ (tokV (seqAt q.2 1)), .str ⟨⟨s2⟩⟩ (tokV (seqAt q.2 2))]⟩ (seqN q.2)) (cont (.ok (.ret (.bool true))) L sz tb i gl gh)))
theorem hookEqL_ok {V : Ev} {s0 s1 s2 : List Nat} : HookOk V (hookEqL s0 s1 s2) := by
  intro j c A g l cont L sz tb i gl gh h H D
  obtain ⟨j1, p, e1, ea1, H⟩ := inLed_of H
  obtain ⟨j2, q, e2, ea2, H⟩ := inLed_of H
  obtain ⟨ec, H⟩ := eqC_of H
  obtain ⟨hp, H⟩ := eqO_of H
  obtain ⟨hq, H⟩ := eqO_of H
  rw [ea1, ea2] at ec
  rw [ec]
  have hp' := (D.own p (ledAt_mem e1)).trans (congrArg some hp)
  have hq' := (D.own q (ledAt_mem e2)).trans (congrArg some hq)
  have hT : (sh V h tb i gl).TypeIs (.ref p.1) "list" := ⟨_, hp', rfl⟩
  refine hook_call (call_meets PySem.F.slot_list_eq hT PySem.F.entry_list_eq (PySem.F.args_list_eq_2 _ _) (MeetsSeq3.list_eq p.1 q.1 ⟨[.str ⟨⟨s0⟩⟩ (tokV (seqAt p.2 0)), .str ⟨⟨s1⟩⟩ (tokV (seqAt p.2 1)), .str ⟨⟨s2⟩⟩ (tokV (seqAt p.2 2))]⟩ ⟨[.str ⟨⟨s0⟩⟩ (tokV (seqAt q.2 0)), .str ⟨⟨s1⟩⟩ (tokV (seqAt q.2 1)), .str ⟨⟨s2⟩⟩ (tokV (seqAt q.2 2))]⟩ (seqN p.2) (seqN q.2) rfl (fun _ => true) fun j h1 h2 => ?_) ⟨hp', hq', ?_⟩)
  · have h1 : j < 3 := h1
    have key : ∀ (s : List Nat) (t u : Nat), MeetsSeq.EqGives (.str ⟨⟨s⟩⟩ t) (.str ⟨⟨s⟩⟩ u) true := fun s t u => by
      have z := SeqRoads2.EqGives.str ⟨⟨s⟩⟩ ⟨⟨s⟩⟩ t u
      rw [beq_self_eq_true] at z
      exact z
    obtain rfl | rfl | rfl : j = 0 ∨ j = 1 ∨ j = 2 := by omega
    · exact key _ _ _
    · exact key _ _ _
    · exact key _ _ _
  · exact ⟨L, sz, tb, i, gl, gh, h, rfl, D, H⟩
/-- worths[k] -/
noncomputable def hookGetW (ents : List (Nat × Nat)) (k v : Nat) : HookT := fun j c A cont L sz tb i gl gh => hookGetD ents (tsG gh) k v j c A cont L sz tb i gl gh
theorem hookGetW_ok {V : Ev} {ents : List (Nat × Nat)} {k v : Nat} (hk : ents.lookup k = some v) : HookOk V (hookGetW ents k v) := fun j c A g l cont L sz tb i gl gh h H D => hookGetD_ok hk j c A g l cont L sz tb i gl gh h H D
end Mine
end
-- part F14m
section
namespace Mine
/-! law whole: the obligation -/
structure LawP where
  (x0 x1 x2 n0 n1 n2 w2 w3 : Nat) (y f1 f2 f3 s0 s1 s2 : List Nat) (ents : List (Nat × Nat))
noncomputable def hkLaw (P : Params) (sl : Nat) (zs : List Int) (ts : List Nat) (sn : Nat) (q : LawP) : HookT :=
  hook2 (hookListR 65024 65040 16) (hook2 hookEnumL (hook2 (hookDr P sl zs ts sn q.x0 q.x1 q.x2)
  (hook2 (hookI2 "int.__add__" (Int.fmod (q.x0 : Int) 3) (Int.fmod (Int.fdiv (q.x0 : Int) 3) 3) q.n0) (hook2 (hookI2 "int.__add__" (Int.fmod (q.x1 : Int) 3) (Int.fmod (Int.fdiv (q.x1 : Int) 3) 3) q.n1) (hook2 (hookI2 "int.__add__" (Int.fmod (q.x2 : Int) 3) (Int.fmod (Int.fdiv (q.x2 : Int) 3) 3) q.n2)
  (hook2 (hookX P q.x0 q.x1 q.x2 q.y) (hook2 (hookAddU (120 :: q.y) [34]) (hook2 (hookP 320 35 (fun t => .call (.ref 153) ⟨[.str ⟨⟨120 :: (q.y ++ [34])⟩⟩ t], []⟩) (fun t => .str ⟨⟨120 :: q.f1⟩⟩ t))
  (hook2 (hookR1 q.f1 q.f2) (hook2 (hookR2 q.f2 q.f3) (hook2 (hookSt q.f1 q.s0) (hook2 (hookSt q.f2 q.s1) (hook2 (hookSt q.f3 q.s2)
  (hook2 (hookWo q.n0 q.n1 q.n2 q.ents) (hook2 (hookGetW q.ents q.n0 q.n0) (hook2 (hookGetW q.ents (q.n0 + 5 * q.n1) q.w2) (hook2 (hookGetW q.ents (q.n0 + 5 * q.n1 + 25 * q.n2) q.w3)
  (hook2 (hook13 q.n0 q.n1 q.n2 0 q.n0 q.w2 q.w3 1 q.s0) (hook2 (hook13 q.n0 q.n1 q.n2 0 q.n0 q.w2 q.w3 2 q.s1) (hook2 (hook13 q.n0 q.n1 q.n2 0 q.n0 q.w2 q.w3 4 q.s2) (hookEqL q.s0 q.s1 q.s2)))))))))))))))))))))
/-- law's end: True, the script as it was, three finished generators -/
noncomputable def fnLaw (sl : Nat) (zs : List Int) (ts : List Nat) (sn : Nat) (gl₀ : List GenState) : Result → Cont := fun r L _ _ _ gl _ => match r with
  | .ok fl => match fl with
    | .ret v => .eqV v (.bool true) (.eqG gl (gl₀ ++ [.finished] ++ [.finished] ++ [.finished]) (gets L [143] fun os => outs L [(sl, scriptO zs ts sn), (143, tab6 (nAt (fieldAt (oAt os 0) 2)) (nAt (fieldAt (oAt os 0) 5)))] .ok))
    | _ => .bad 425 0
  | .error _ => .bad 426 0
noncomputable def obLaw (w : World) (b1 b2 b3 : Bool) (sl : Nat) (zs : List Int) (ts : List Nat) (sn : Nat) (q : LawP) (d : Drawn) (os : OsState) (h : Heap) (N T : Nat) (gl : List GenState) (R : Result → Shared → Prop) : Ob :=
  let W := WB w b1 b2 b3
  sim (V3 W h d os 305 10 [sl, 143] R (fnLaw sl zs ts sn gl) (hkLaw W.params sl zs ts sn q) noTail) 3000
    (c14 sl) none .base (goL (c14 sl) (Bn 305 10)) [(sl, scriptO zs ts sn), (143, tab0)] (N + 171) (T + 2349) 0 gl []
end Mine
end
-- part F14n
section
namespace Mine
noncomputable def hLawRW : List Nat := [0, 0, 3, 3, 0, 0, 0, 0, 0, 0, 0, 0, 0, 0, 1, 1, 0, 1, 0, 1, 1, 1, 3, 1, 3, 0, 3, 0, 1, 3, 1, 8, 8, 9, 9, 0, 0, 2, 1, 1, 1, 0, 1, 0, 1, 3, 3, 1, 2, 15, 4, 5, 3, 3, 3, 1, 1, 8, 9, 12, 12, 1, 1, 1, 1, 1, 1, 12, 2, 2, 0, 2, 0, 1, 0, 0, 3, 0, 3, 0, 3, 3, 5, 3, 3, 1, 1, 1, 0, 0, 1, 0, 0, 0, 0, 4, 0, 2, 0, 2, 2, 2, 0, 3, 0, 3, 0, 3, 3, 5, 3, 3, 1, 1, 1, 0, 0, 1, 0, 0, 0, 0, 5, 0, 2, 0, 2, 2, 2, 0, 3, 0, 3, 0, 3, 3, 5, 3, 3, 1, 1, 1, 0, 0, 1, 0, 0, 0, 0, 6, 0, 2, 0, 2, 2, 2, 0, 3, 0, 3, 0, 3, 3, 5, 3, 3, 1, 3, 3, 3, 16, 16, 17, 17, 0, 0, 0, 0, 0, 0, 1, 1, 0, 1, 0, 1, 1, 1, 0, 1, 0, 1, 1, 1, 1, 7, 19, 13, 12, 9, 19, 1, 12, 11, 8, 0, 1, 8, 0, 9, 1, 1, 0, 1, 0, 10, 20, 4, 4, 0, 4, 0, 11, 1, 2, 3, 1, 1, 1, 4, 4, 4, 4, 4, 1, 1, 0, 1, 0, 1, 0, 0, 3, 0, 3, 0, 3, 3, 4, 3, 3, 1, 1, 0, 1, 0, 12, 0, 2, 0, 2, 2, 2, 0, 3, 0, 3, 0, 3, 3, 4, 3, 3, 1, 1, 0, 1, 0, 13, 0, 2, 0, 2, 2, 2, 0, 3, 0, 3, 0, 3, 3, 4, 3, 3, 1, 1, 0, 1, 0, 14, 0, 2, 0, 2, 2, 2, 0, 3, 0, 3, 0, 3, 3, 4, 3, 3, 1, 10, 10, 3, 3, 3, 0, 28, 0, 15, 19, 19, 12, 12, 12, 29, 1, 1, 1, 0, 1, 0, 1, 2, 2, 2, 16, 2, 12, 29, 1, 1, 1, 0, 1, 0, 1, 29, 1, 1, 1, 0, 1, 0, 1, 0, 0, 0, 0, 2, 2, 2, 17, 2, 12, 29, 1, 1, 1, 0, 1, 0, 1, 29, 1, 1, 1, 0, 1, 0, 1, 0, 0, 0, 0, 29, 1, 1, 1, 0, 1, 0, 1, 0, 0, 0, 0, 2, 2, 2, 18, 2, 29, 29, 13, 0, 0, 0, 0, 0, 0, 1, 1, 0, 1, 0, 1, 1, 1, 0, 1, 0, 1, 1, 1, 1, 0, 0, 3, 0, 3, 0, 3, 3, 3, 3, 3, 3, 3, 1, 1, 0, 34, 33, 1, 0, 0, 0, 19, 6, 5, 6, 5, 0, 4, 0, 4, 4, 4, 0, 5, 0, 5, 0, 5, 5, 5, 5, 5, 5, 5, 3, 3, 0, 34, 33, 3, 0, 0, 0, 20, 1, 2, 1, 1, 0, 4, 0, 4, 4, 4, 0, 5, 0, 5, 0, 5, 5, 5, 5, 5, 5, 5, 3, 3, 0, 34, 33, 3, 0, 0, 0, 21, 1, 2, 1, 1, 0, 4, 0, 4, 4, 4, 0, 5, 0, 5, 0, 5, 5, 5, 1, 5, 5, 5, 13, 6, 13, 22, 13, 6, 16, 31, 16]
noncomputable def hLawRTF : List Nat := [0, 0, 3, 3, 0, 0, 0, 0, 0, 0, 0, 0, 0, 0, 1, 1, 0, 1, 0, 1, 1, 1, 3, 1, 3, 0, 3, 0, 1, 3, 1, 8, 8, 9, 9, 0, 0, 2, 1, 1, 1, 0, 1, 0, 1, 3, 3, 1, 2, 15, 4, 5, 3, 3, 3, 1, 1, 8, 9, 12, 12, 1, 1, 1, 1, 1, 1, 12, 2, 2, 0, 2, 0, 1, 0, 0, 3, 0, 3, 0, 3, 3, 5, 3, 3, 1, 1, 1, 0, 0, 1, 0, 0, 0, 0, 4, 0, 2, 0, 2, 2, 2, 0, 3, 0, 3, 0, 3, 3, 5, 3, 3, 1, 1, 1, 0, 0, 1, 0, 0, 0, 0, 5, 0, 2, 0, 2, 2, 2, 0, 3, 0, 3, 0, 3, 3, 5, 3, 3, 1, 1, 1, 0, 0, 1, 0, 0, 0, 0, 6, 0, 2, 0, 2, 2, 2, 0, 3, 0, 3, 0, 3, 3, 5, 3, 3, 1, 3, 3, 3, 16, 16, 17, 17, 0, 0, 0, 0, 0, 0, 1, 1, 0, 1, 0, 1, 1, 1, 0, 1, 0, 1, 1, 1, 1, 7, 19, 13, 12, 9, 19, 1, 12, 11, 8, 0, 1, 8, 0, 9, 1, 1, 0, 1, 0, 10, 20, 4, 4, 0, 4, 0, 11, 1, 2, 3, 1, 1, 1, 4, 4, 4, 4, 4, 1, 1, 0, 1, 0, 1, 0, 0, 3, 0, 3, 0, 3, 3, 4, 3, 3, 1, 1, 0, 1, 0, 12, 0, 2, 0, 2, 2, 2, 0, 3, 0, 3, 0, 3, 3, 4, 3, 3, 1, 1, 0, 1, 0, 13, 0, 2, 0, 2, 2, 2, 0, 3, 0, 3, 0, 3, 3, 4, 3, 3, 1, 1, 0, 1, 0, 14, 0, 2, 0, 2, 2, 2, 0, 3, 0, 3, 0, 3, 3, 4, 3, 3, 1, 10, 10, 3, 3, 3, 0, 28, 0, 15, 19, 19, 12, 12, 12, 29, 1, 1, 1, 0, 1, 0, 1, 2, 2, 2, 16, 2, 12, 29, 1, 1, 1, 0, 1, 0, 1, 29, 1, 1, 1, 0, 1, 0, 1, 0, 0, 0, 0, 2, 2, 2, 17, 2, 12, 29, 1, 1, 1, 0, 1, 0, 1, 29, 1, 1, 1, 0, 1, 0, 1, 0, 0, 0, 0, 29, 1, 1, 1, 0, 1, 0, 1, 0, 0, 0, 0, 2, 2, 2, 18, 2, 29, 29, 13, 0, 0, 0, 0, 0, 0, 1, 1, 0, 1, 0, 1, 1, 1, 0, 1, 0, 1, 1, 1, 1, 0, 0, 3, 0, 3, 0, 3, 3, 3, 3, 3, 3, 3, 1, 1, 0, 34, 33, 1, 0, 0, 0, 19, 6, 5, 6, 5, 0, 4, 0, 4, 4, 4, 0, 5, 0, 5, 0, 5, 5, 5, 5, 5, 5, 5, 3, 3, 0, 34, 33, 3, 0, 0, 0, 20, 1, 2, 1, 1, 0, 4, 0, 4, 4, 4, 0, 5, 0, 5, 0, 5, 5, 5, 5, 5, 5, 5, 3, 3, 0, 34, 33, 3, 0, 0, 0, 21, 1, 2, 1, 1, 0, 4, 0, 4, 4, 4, 0, 5, 0, 5, 0, 5, 5, 5, 1, 5, 5, 5, 13, 6, 13, 22, 13, 6, 16, 31, 16]
noncomputable def hLawRFT : List Nat := [0, 0, 3, 3, 0, 0, 0, 0, 0, 0, 0, 0, 0, 0, 1, 1, 0, 1, 0, 1, 1, 1, 3, 1, 3, 0, 3, 0, 1, 3, 1, 8, 8, 9, 9, 0, 0, 2, 1, 1, 1, 0, 1, 0, 1, 3, 3, 1, 2, 15, 4, 5, 3, 3, 3, 1, 1, 8, 9, 12, 12, 1, 1, 1, 1, 1, 1, 12, 2, 2, 0, 2, 0, 1, 0, 3, 3, 0, 3, 0, 3, 0, 3, 0, 3, 0, 3, 3, 5, 3, 3, 1, 1, 1, 0, 0, 1, 0, 0, 0, 0, 4, 0, 2, 0, 2, 2, 2, 0, 3, 0, 3, 0, 3, 3, 5, 3, 3, 1, 1, 1, 0, 0, 1, 0, 0, 0, 0, 5, 0, 2, 0, 2, 2, 2, 0, 3, 0, 3, 0, 3, 3, 5, 3, 3, 1, 1, 1, 0, 0, 1, 0, 0, 0, 0, 6, 0, 2, 0, 2, 2, 2, 0, 3, 0, 3, 0, 3, 3, 5, 3, 3, 1, 3, 3, 3, 16, 16, 17, 17, 0, 0, 0, 0, 0, 0, 1, 1, 0, 1, 0, 1, 1, 1, 0, 1, 0, 1, 1, 1, 1, 7, 19, 13, 12, 9, 19, 1, 12, 11, 8, 0, 1, 8, 0, 9, 1, 1, 0, 1, 0, 10, 20, 4, 4, 0, 4, 0, 11, 1, 2, 3, 1, 1, 1, 4, 4, 4, 4, 4, 1, 1, 0, 1, 0, 1, 0, 3, 3, 0, 3, 0, 3, 0, 3, 0, 3, 0, 3, 3, 4, 3, 3, 1, 1, 0, 1, 0, 12, 0, 2, 0, 2, 2, 2, 0, 3, 0, 3, 0, 3, 3, 4, 3, 3, 1, 1, 0, 1, 0, 13, 0, 2, 0, 2, 2, 2, 0, 3, 0, 3, 0, 3, 3, 4, 3, 3, 1, 1, 0, 1, 0, 14, 0, 2, 0, 2, 2, 2, 0, 3, 0, 3, 0, 3, 3, 4, 3, 3, 1, 10, 10, 3, 3, 3, 0, 28, 0, 15, 19, 19, 12, 12, 12, 29, 1, 1, 1, 0, 1, 0, 1, 2, 2, 2, 16, 2, 12, 29, 1, 1, 1, 0, 1, 0, 1, 29, 1, 1, 1, 0, 1, 0, 1, 0, 0, 0, 0, 2, 2, 2, 17, 2, 12, 29, 1, 1, 1, 0, 1, 0, 1, 29, 1, 1, 1, 0, 1, 0, 1, 0, 0, 0, 0, 29, 1, 1, 1, 0, 1, 0, 1, 0, 0, 0, 0, 2, 2, 2, 18, 2, 29, 29, 13, 0, 0, 0, 0, 0, 0, 1, 1, 0, 1, 0, 1, 1, 1, 0, 1, 0, 1, 1, 1, 1, 0, 3, 3, 0, 3, 0, 3, 0, 3, 0, 3, 0, 3, 3, 3, 3, 3, 3, 3, 1, 1, 0, 34, 33, 1, 0, 0, 0, 19, 6, 5, 6, 5, 0, 4, 0, 4, 4, 4, 0, 5, 0, 5, 0, 5, 5, 5, 5, 5, 5, 5, 3, 3, 0, 34, 33, 3, 0, 0, 0, 20, 1, 2, 1, 1, 0, 4, 0, 4, 4, 4, 0, 5, 0, 5, 0, 5, 5, 5, 5, 5, 5, 5, 3, 3, 0, 34, 33, 3, 0, 0, 0, 21, 1, 2, 1, 1, 0, 4, 0, 4, 4, 4, 0, 5, 0, 5, 0, 5, 5, 5, 1, 5, 5, 5, 13, 6, 13, 22, 13, 6, 16, 31, 16]
noncomputable def hLawRFF : List Nat := [0, 0, 3, 3, 0, 0, 0, 0, 0, 0, 0, 0, 0, 0, 1, 1, 0, 1, 0, 1, 1, 1, 3, 1, 3, 0, 3, 0, 1, 3, 1, 8, 8, 9, 9, 0, 0, 2, 1, 1, 1, 0, 1, 0, 1, 3, 3, 1, 2, 15, 4, 5, 3, 3, 3, 1, 1, 8, 9, 12, 12, 1, 1, 1, 1, 1, 1, 12, 2, 2, 0, 2, 0, 1, 0, 3, 3, 0, 3, 0, 3, 0, 3, 0, 3, 0, 3, 3, 5, 3, 3, 1, 1, 1, 0, 0, 1, 0, 0, 0, 0, 4, 0, 2, 0, 2, 2, 2, 0, 3, 0, 3, 0, 3, 3, 5, 3, 3, 1, 1, 1, 0, 0, 1, 0, 0, 0, 0, 5, 0, 2, 0, 2, 2, 2, 0, 3, 0, 3, 0, 3, 3, 5, 3, 3, 1, 1, 1, 0, 0, 1, 0, 0, 0, 0, 6, 0, 2, 0, 2, 2, 2, 0, 3, 0, 3, 0, 3, 3, 5, 3, 3, 1, 3, 3, 3, 16, 16, 17, 17, 0, 0, 0, 0, 0, 0, 1, 1, 0, 1, 0, 1, 1, 1, 0, 1, 0, 1, 1, 1, 1, 7, 19, 13, 12, 9, 19, 1, 12, 11, 8, 0, 1, 8, 0, 9, 1, 1, 0, 1, 0, 10, 20, 4, 4, 0, 4, 0, 11, 1, 2, 3, 1, 1, 1, 4, 4, 4, 4, 4, 1, 1, 0, 1, 0, 1, 0, 3, 3, 0, 3, 0, 3, 0, 3, 0, 3, 0, 3, 3, 4, 3, 3, 1, 1, 0, 1, 0, 12, 0, 2, 0, 2, 2, 2, 0, 3, 0, 3, 0, 3, 3, 4, 3, 3, 1, 1, 0, 1, 0, 13, 0, 2, 0, 2, 2, 2, 0, 3, 0, 3, 0, 3, 3, 4, 3, 3, 1, 1, 0, 1, 0, 14, 0, 2, 0, 2, 2, 2, 0, 3, 0, 3, 0, 3, 3, 4, 3, 3, 1, 10, 10, 3, 3, 3, 0, 28, 0, 15, 19, 19, 12, 12, 12, 29, 1, 1, 1, 0, 1, 0, 1, 2, 2, 2, 16, 2, 12, 29, 1, 1, 1, 0, 1, 0, 1, 29, 1, 1, 1, 0, 1, 0, 1, 0, 0, 0, 0, 2, 2, 2, 17, 2, 12, 29, 1, 1, 1, 0, 1, 0, 1, 29, 1, 1, 1, 0, 1, 0, 1, 0, 0, 0, 0, 29, 1, 1, 1, 0, 1, 0, 1, 0, 0, 0, 0, 2, 2, 2, 18, 2, 29, 29, 13, 0, 0, 0, 0, 0, 0, 1, 1, 0, 1, 0, 1, 1, 1, 0, 1, 0, 1, 1, 1, 1, 0, 3, 3, 0, 3, 0, 3, 0, 3, 0, 3, 0, 3, 3, 3, 3, 3, 3, 3, 1, 1, 0, 34, 33, 1, 0, 0, 0, 19, 6, 5, 6, 5, 0, 4, 0, 4, 4, 4, 0, 5, 0, 5, 0, 5, 5, 5, 5, 5, 5, 5, 3, 3, 0, 34, 33, 3, 0, 0, 0, 20, 1, 2, 1, 1, 0, 4, 0, 4, 4, 4, 0, 5, 0, 5, 0, 5, 5, 5, 5, 5, 5, 5, 3, 3, 0, 34, 33, 3, 0, 0, 0, 21, 1, 2, 1, 1, 0, 4, 0, 4, 4, 4, 0, 5, 0, 5, 0, 5, 5, 5, 1, 5, 5, 5, 13, 6, 13, 22, 13, 6, 16, 31, 16]
section
variable (w : World) (b1 : Bool) (sl : Nat) (zs : List Int) (ts : List Nat) (sn x0 x1 x2 n0 n1 n2 w2 w3 : Nat) (y f1 f2 f3 s0 s1 s2 : List Nat) (ents : List (Nat × Nat)) (d : Drawn) (os : OsState) (h : Heap) (N T : Nat) (gl : List GenState) (R : Result → Shared → Prop)
theorem ckLawRW : lft (obLaw w b1 true true (sl + 171) zs ts sn ⟨x0, x1, x2, n0, n1, n2, w2, w3, y, f1, f2, f3, s0, s1, s2, ents⟩ d os h N T gl R) hLawRW = rgt (obLaw w b1 true true (sl + 171) zs ts sn ⟨x0, x1, x2, n0, n1, n2, w2, w3, y, f1, f2, f3, s0, s1, s2, ents⟩ d os h N T gl R) hLawRW := by cases b1 <;> kernel_rfl
theorem ckLawRTF : lft (obLaw w b1 true false (sl + 171) zs ts sn ⟨x0, x1, x2, n0, n1, n2, w2, w3, y, f1, f2, f3, s0, s1, s2, ents⟩ d os h N T gl R) hLawRTF = rgt (obLaw w b1 true false (sl + 171) zs ts sn ⟨x0, x1, x2, n0, n1, n2, w2, w3, y, f1, f2, f3, s0, s1, s2, ents⟩ d os h N T gl R) hLawRTF := by cases b1 <;> kernel_rfl
theorem ckLawRFT : lft (obLaw w b1 false true (sl + 171) zs ts sn ⟨x0, x1, x2, n0, n1, n2, w2, w3, y, f1, f2, f3, s0, s1, s2, ents⟩ d os h N T gl R) hLawRFT = rgt (obLaw w b1 false true (sl + 171) zs ts sn ⟨x0, x1, x2, n0, n1, n2, w2, w3, y, f1, f2, f3, s0, s1, s2, ents⟩ d os h N T gl R) hLawRFT := by cases b1 <;> kernel_rfl
theorem ckLawRFF : lft (obLaw w b1 false false (sl + 171) zs ts sn ⟨x0, x1, x2, n0, n1, n2, w2, w3, y, f1, f2, f3, s0, s1, s2, ents⟩ d os h N T gl R) hLawRFF = rgt (obLaw w b1 false false (sl + 171) zs ts sn ⟨x0, x1, x2, n0, n1, n2, w2, w3, y, f1, f2, f3, s0, s1, s2, ents⟩ d os h N T gl R) hLawRFF := by cases b1 <;> kernel_rfl
theorem gLaw (b2 b3 : Bool) : good (obLaw w b1 b2 b3 (sl + 171) zs ts sn ⟨x0, x1, x2, n0, n1, n2, w2, w3, y, f1, f2, f3, s0, s1, s2, ents⟩ d os h N T gl R) := by
  cases b2 <;> cases b3
  · exact good_of _ _ (ckLawRFF ..)
  · exact good_of _ _ (ckLawRFT ..)
  · exact good_of _ _ (ckLawRTF ..)
  · exact good_of _ _ (ckLawRW ..)
end
end Mine
end
-- part F14o
section
namespace Mine
/-! the plain law -/
noncomputable def blkP (n k : Nat) : List Nat := [34] ++ List.replicate n 92 ++ [34] ++ [97 + k]
noncomputable def body3 (n0 n1 n2 : Nat) : List Nat := blkP n0 0 ++ blkP n1 1 ++ blkP n2 2 ++ [34]
noncomputable def bsP (n k : Nat) : List (Bool × Nat) := [(false, 34)] ++ List.replicate (n / 2) (true, 92) ++ [(Nat.beq (n % 2) 1, 34)] ++ [(false, 97 + k)]
noncomputable def bs3 (n0 n1 n2 : Nat) : List (Bool × Nat) := bsP n0 0 ++ bsP n1 1 ++ bsP n2 2 ++ [(false, 34)]
theorem prep_append : ∀ a b, prep (a ++ b) = prep a ++ prep b
  | [], _ => rfl
  | c :: a, b => by
    show (if unseenL.contains c then prep (a ++ b) else foldC c :: prep (a ++ b)) = (if unseenL.contains c then prep a else foldC c :: prep a) ++ prep b
    rw [prep_append a b]
    split <;> rfl
theorem prep_rep : ∀ p, p < 3 → prep (List.replicate p 92) = List.replicate p 92 := by decide +kernel
theorem prep_sign : ∀ k, k < 27 → prep [unsL.getD k 0] = [] := by decide +kernel
theorem prep_form : ∀ f, f < 6 → ∀ k, k < 3 → prep [formL.getD f 0 + k] = [97 + k] := by decide +kernel
theorem prep_34 : prep [34] = [34] := by decide +kernel
theorem prep_blk {x k : Nat} (hx : x < 1458) (hk : k < 3) : prep (blkX x k) = blkP (pX x + qX x) k := by
  have h1 : pX x < 3 := Nat.mod_lt _ (by decide)
  have h2 : qX x < 3 := Nat.mod_lt _ (by decide)
  have e1 : prep [uX x] = [] := prep_sign _ (Nat.mod_lt _ (by decide))
  have e2 : prep [fX x + k] = [97 + k] := prep_form _ (by omega) _ hk
  unfold blkX blk
  simp only [prep_append, prep_34, prep_rep _ h1, prep_rep _ h2, e1, e2, List.append_nil]
  unfold blkP
  rw [show List.replicate (pX x + qX x) 92 = List.replicate (pX x) 92 ++ List.replicate (qX x) 92 from List.replicate_append_replicate.symm]
  simp only [List.append_assoc]
theorem prep_rest {x0 x1 x2 : Nat} (h0 : x0 < 1458) (h1 : x1 < 1458) (h2 : x2 < 1458) : prep (rest3 x0 x1 x2 ++ [34]) = body3 (pX x0 + qX x0) (pX x1 + qX x1) (pX x2 + qX x2) := by
  unfold rest3 body3
  rw [prep_append, prep_append, prep_append, prep_34, List.nil_append, prep_blk h0 (by decide), prep_blk h1 (by decide), prep_blk h2 (by decide)]
theorem blk_mem {x k : Nat} (hx : x < 1458) (hk : k < 3) : ∀ c ∈ blkX x k, c ∈ unseenL ∨ c ∈ seenL := by
  have e1 : ∀ k, k < 27 → unsL.getD k 0 ∈ unseenL := by decide +kernel
  have e2 : ∀ f, f < 6 → ∀ k, k < 3 → formL.getD f 0 + k ∈ seenL := by decide +kernel
  intro c hc
  unfold blkX blk at hc
  simp only [List.mem_append, List.mem_cons, List.not_mem_nil, or_false] at hc
  have m34 : 34 ∈ seenL := by decide
  have m92 : 92 ∈ seenL := by decide
  rcases hc with ((((rfl | hc) | rfl) | hc) | rfl) | rfl
  · exact .inr m34
  · rw [(List.mem_replicate.mp hc).2]; exact .inr m92
  · exact .inl (e1 _ (Nat.mod_lt _ (by decide)))
  · rw [(List.mem_replicate.mp hc).2]; exact .inr m92
  · exact .inr m34
  · exact .inr (e2 _ (by omega) _ hk)
theorem rest_mem {x0 x1 x2 : Nat} (h0 : x0 < 1458) (h1 : x1 < 1458) (h2 : x2 < 1458) : ∀ c ∈ rest3 x0 x1 x2 ++ [34], c ∈ unseenL ∨ c ∈ seenL := by
  intro c hc
  unfold rest3 at hc
  simp only [List.mem_append, List.mem_cons, List.not_mem_nil, or_false, false_or] at hc
  rcases hc with ((hc | hc) | hc) | rfl
  · exact blk_mem h0 (by decide) c hc
  · exact blk_mem h1 (by decide) c hc
  · exact blk_mem h2 (by decide) c hc
  · exact .inr (by decide)
theorem rest_wide (x0 x1 x2 : Nat) : (⟨⟨120 :: (rest3 x0 x1 x2 ++ [34])⟩⟩ : Str).cps.all (· < 128) = false := by
  have e1 : ∀ k, k < 27 → ¬ unsL.getD k 0 < 128 := by decide +kernel
  have hm : uX x0 ∈ (120 :: (rest3 x0 x1 x2 ++ [34])) := by
    refine List.mem_cons_of_mem _ ?_
    unfold rest3 blkX blk
    simp
  cases hb : (⟨⟨120 :: (rest3 x0 x1 x2 ++ [34])⟩⟩ : Str).cps.all (· < 128) with
  | false => rfl
  | true =>
    have hb : (120 :: (rest3 x0 x1 x2 ++ [34])).all (· < 128) = true := by simpa using hb
    have := List.all_eq_true.mp hb _ hm
    exact absurd (of_decide_eq_true this) (e1 _ (Nat.mod_lt _ (by decide)))
theorem rest_length (x0 x1 x2 : Nat) : (rest3 x0 x1 x2).length ≤ 24 := by
  have l0 := blkX_len x0 0
  have l1 := blkX_len x1 1
  have l2 := blkX_len x2 2
  unfold rest3
  simp only [List.length_append, List.length_nil]
  omega
theorem txt3 : ∀ a, a < 5 → ∀ b, b < 5 → ∀ c, c < 5 → txtB (bs3 a b c) = body3 a b c := by decide +kernel
theorem read3 : ∀ a, a < 5 → ∀ b, b < 5 → ∀ c, c < 5 → readB (bs3 a b c) = body3 (a / 2) (b / 2) (c / 2) := by decide +kernel
noncomputable def okB (p : Bool × Nat) : Bool := match p.1 with
  | true => [92, 34].contains p.2
  | false => [34, 97, 98, 99].contains p.2
theorem okB_of {p : Bool × Nat} (h : okB p = true) : OkB p := by
  obtain ⟨b, c⟩ := p
  cases b
  · exact List.contains_iff_mem.mp h
  · exact List.contains_iff_mem.mp h
theorem okb3 : ∀ a, a < 5 → ∀ b, b < 5 → ∀ c, c < 5 → (bs3 a b c).all okB = true := by decide +kernel
theorem ok3 (a : Nat) (ha : a < 5) (b : Nat) (hb : b < 5) (c : Nat) (hc : c < 5) : ∀ p ∈ bs3 a b c, OkB p := fun p hp => okB_of (List.all_eq_true.mp (okb3 a ha b hb c hc) p hp)
theorem len3 : ∀ a, a < 5 → ∀ b, b < 5 → ∀ c, c < 5 → (bs3 a b c).length ≤ 30 ∧ (body3 a b c).length ≤ 30 ∧ (stripL (120 :: body3 a b c) (bs3 a b c)).length ≤ 100 := by decide +kernel
theorem asc3 : ∀ a, a < 5 → ∀ b, b < 5 → ∀ c, c < 5 → (⟨⟨120 :: body3 a b c⟩⟩ : Str).cps.all (· < 128) = true := by decide +kernel
theorem occ3 : ∀ a, a < 5 → ∀ b, b < 5 → ∀ c, c < 5 → (!(Builtin.Str.occurrences ⟨⟨120 :: body3 a b c⟩⟩ ⟨⟨[34]⟩⟩ 0 (⟨⟨120 :: body3 a b c⟩⟩ : Str).length 1).isEmpty) = true := by decide +kernel
theorem left30 : ∀ a, a < 5 → ∀ b, b < 5 → ∀ c, c < 5 → stripL (120 :: body3 a b c) (bs3 a b c) = 120 :: leftL a b c 0 a (a ^^^ b) (a ^^^ b ^^^ c) 1 := by decide +kernel
theorem left31 : ∀ a, a < 5 → ∀ b, b < 5 → ∀ c, c < 5 → stripL (120 :: body3 (a / 2) (b / 2) (c / 2)) (bs3 (a / 2) (b / 2) (c / 2)) = 120 :: leftL a b c 0 a (a ^^^ b) (a ^^^ b ^^^ c) 2 := by decide +kernel
theorem left32 : ∀ a, a < 5 → ∀ b, b < 5 → ∀ c, c < 5 → stripL (120 :: body3 (a / 2 / 2) (b / 2 / 2) (c / 2 / 2)) (bs3 (a / 2 / 2) (b / 2 / 2) (c / 2 / 2)) = 120 :: leftL a b c 0 a (a ^^^ b) (a ^^^ b ^^^ c) 4 := by decide +kernel
theorem xor3 : ∀ a, a < 5 → ∀ b, b < 5 → ∀ c, c < 5 → a ^^^ b < 8 ∧ a ^^^ b ^^^ c < 8 := by decide +kernel
end Mine
end
-- part F14p
section
namespace Mine
/-- law's numbers and texts, told by the script -/
noncomputable def qLaw (zs : List Int) : LawP :=
  let x0 := xD zs 0
  let x1 := xD zs 1
  let x2 := xD zs 2
  let a := pX x0 + qX x0
  let b := pX x1 + qX x1
  let c := pX x2 + qX x2
  ⟨x0, x1, x2, a, b, c, a ^^^ b, a ^^^ b ^^^ c, rest3 x0 x1 x2, body3 a b c, body3 (a / 2) (b / 2) (c / 2), body3 (a / 2 / 2) (b / 2 / 2) (c / 2 / 2),
    stripL (120 :: body3 a b c) (bs3 a b c), stripL (120 :: body3 (a / 2) (b / 2) (c / 2)) (bs3 (a / 2) (b / 2) (c / 2)), stripL (120 :: body3 (a / 2 / 2) (b / 2 / 2) (c / 2 / 2)) (bs3 (a / 2 / 2) (b / 2 / 2) (c / 2 / 2)), entA b c [] 0 (a + 1)⟩
theorem xD_lt (zs : List Int) (k : Nat) : xD zs k < 1458 := modN_lt _ (by decide)
theorem heap_le {x : Nat} : pX x + qX x < 5 := by
  have h1 : pX x < 3 := Nat.mod_lt _ (by decide)
  have h2 : qX x < 3 := Nat.mod_lt _ (by decide)
  omega
theorem heap_add (x : Nat) : Int.fmod (x : Int) 3 + Int.fmod (Int.fdiv (x : Int) 3) 3 = ((pX x + qX x : Nat) : Int) := by
  rw [show (3 : Int) = ((3 : Nat) : Int) from rfl, fdivN, fmodN, fmodN]
  exact (Int.natCast_add _ _).symm
theorem hkLaw_ok {V : Ev} (S : V.Std) {w : World} {b1 b2 b3 : Bool} (hw : V.w = WB w b1 b2 b3) {sl : Nat} {zs : List Int} {ts : List Nat} {sn : Nat} (hz : zs.length ≤ 63) : HookOk V (hkLaw (WB w b1 b2 b3).params (sl + 171) zs ts sn (qLaw zs)) := by
  have sz : sizeLine = 16777216 := by decide
  have h0 := xD_lt zs 0
  have h1 := xD_lt zs 1
  have h2 := xD_lt zs 2
  have ha : pX (xD zs 0) + qX (xD zs 0) < 5 := heap_le
  have hb : pX (xD zs 1) + qX (xD zs 1) < 5 := heap_le
  have hc : pX (xD zs 2) + qX (xD zs 2) < 5 := heap_le
  have hr := rest_length (xD zs 0) (xD zs 1) (xD zs 2)
  have hm := rest_mem h0 h1 h2
  have hp := prep_rest h0 h1 h2
  have hwi := rest_wide (xD zs 0) (xD zs 1) (xD zs 2)
  have hbs := hb
  generalize hA : pX (xD zs 0) + qX (xD zs 0) = a at ha hp
  generalize hB : pX (xD zs 1) + qX (xD zs 1) = b at hb hp
  generalize hC : pX (xD zs 2) + qX (xD zs 2) = c at hc hp
  have ha2 : a / 2 < 5 := by omega
  have hb2 : b / 2 < 5 := by omega
  have hc2 : c / 2 < 5 := by omega
  have ha4 : a / 2 / 2 < 5 := by omega
  have hb4 : b / 2 / 2 < 5 := by omega
  have hc4 : c / 2 / 2 < 5 := by omega
  obtain ⟨l1, l2, l3⟩ := len3 a ha b hb c hc
  obtain ⟨m1, m2, m3⟩ := len3 _ ha2 _ hb2 _ hc2
  obtain ⟨k1, k2, k3⟩ := len3 _ ha4 _ hb4 _ hc4
  obtain ⟨w2, w3⟩ := xor3 a ha b hb c hc
  have I := Inv.cols (n1 := b) (n2 := c) (by omega) (by omega) (a + 1) 0 [] (by omega) (Inv.zero b c)
  have e1 : (entA b c [] 0 (a + 1)).lookup a = some a := by
    have := I.look a 0 0 (Nat.zero_le _) (Nat.zero_le _) (.inl (by omega))
    simpa using this
  have e2 : (entA b c [] 0 (a + 1)).lookup (a + 5 * b) = some (a ^^^ b) := by
    have := I.look a b 0 (Nat.le_refl _) (Nat.zero_le _) (.inl (by omega))
    simpa using this
  have e3 : (entA b c [] 0 (a + 1)).lookup (a + 5 * b + 25 * c) = some (a ^^^ b ^^^ c) := I.look a b c (Nat.le_refl _) (Nat.le_refl _) (.inl (by omega))
  have hq : qLaw zs = ⟨xD zs 0, xD zs 1, xD zs 2, a, b, c, a ^^^ b, a ^^^ b ^^^ c, rest3 (xD zs 0) (xD zs 1) (xD zs 2), body3 a b c, body3 (a / 2) (b / 2) (c / 2), body3 (a / 2 / 2) (b / 2 / 2) (c / 2 / 2),
    stripL (120 :: body3 a b c) (bs3 a b c), stripL (120 :: body3 (a / 2) (b / 2) (c / 2)) (bs3 (a / 2) (b / 2) (c / 2)), stripL (120 :: body3 (a / 2 / 2) (b / 2 / 2) (c / 2 / 2)) (bs3 (a / 2 / 2) (b / 2 / 2) (c / 2 / 2)), entA b c [] 0 (a + 1)⟩ := by
    subst hA hB hC; rfl
  rw [hq]
  refine hook2_ok (hookListR_ok S (by decide) (by decide) (by decide)) (hook2_ok (hookEnumL_ok S) (hook2_ok (hookDr_ok S hw hz rfl rfl rfl)
    (hook2_ok (hookAddI_ok (by rw [heap_add, hA])) (hook2_ok (hookAddI_ok (by rw [heap_add, hB])) (hook2_ok (hookAddI_ok (by rw [heap_add, hC]))
    (hook2_ok (hookX_ok S hw h0 h1 h2 rfl) (hook2_ok (hookAddU_ok ?_) (hook2_ok (hookP_ok S fun t => ?_)
    (hook2_ok (hookR1_ok S hw (ok3 a ha b hb c hc) ?_ (txt3 a ha b hb c hc).symm (read3 a ha b hb c hc).symm) (hook2_ok (hookR2_ok S hw (ok3 _ ha2 _ hb2 _ hc2) ?_ (txt3 _ ha2 _ hb2 _ hc2).symm (read3 _ ha2 _ hb2 _ hc2).symm)
    (hook2_ok (hookSt_ok S hw (txt3 a ha b hb c hc).symm rfl (ok3 a ha b hb c hc) (asc3 a ha b hb c hc) ?_ ?_ (occ3 a ha b hb c hc) ?_) (hook2_ok (hookSt_ok S hw (txt3 _ ha2 _ hb2 _ hc2).symm rfl (ok3 _ ha2 _ hb2 _ hc2) (asc3 _ ha2 _ hb2 _ hc2) ?_ ?_ (occ3 _ ha2 _ hb2 _ hc2) ?_) (hook2_ok (hookSt_ok S hw (txt3 _ ha4 _ hb4 _ hc4).symm rfl (ok3 _ ha4 _ hb4 _ hc4) (asc3 _ ha4 _ hb4 _ hc4) ?_ ?_ (occ3 _ ha4 _ hb4 _ hc4) ?_)
    (hook2_ok (hookWo_ok S hw (by show a ≤ 4; omega) (by show b ≤ 4; omega) (by show c ≤ 4; omega) rfl) (hook2_ok (hookGetW_ok e1) (hook2_ok (hookGetW_ok e2) (hook2_ok (hookGetW_ok e3)
    (hook2_ok (hook13_ok S hw (.inl rfl) (by show a ≤ 4; omega) (by show b ≤ 4; omega) (by show c ≤ 4; omega) (by decide) (by show a < 8; omega) w2 w3 (left30 a ha b hb c hc)) (hook2_ok (hook13_ok S hw (.inr (.inl rfl)) (by show a ≤ 4; omega) (by show b ≤ 4; omega) (by show c ≤ 4; omega) (by decide) (by show a < 8; omega) w2 w3 (left31 a ha b hb c hc)) (hook2_ok (hook13_ok S hw (.inr (.inr rfl)) (by show a ≤ 4; omega) (by show b ≤ 4; omega) (by show c ≤ 4; omega) (by decide) (by show a < 8; omega) w2 w3 (left32 a ha b hb c hc)) hookEqL_ok))))))))))))))))))))
  · show ((120 :: rest3 _ _ _) ++ [34]).length ≤ _
    simp only [List.length_append, List.length_cons, List.length_nil]; omega
  · rw [hw]
    have z := f3 w b1 b2 b3 (rest3 (xD zs 0) (xD zs 1) (xD zs 2) ++ [34]) t hm (by simp only [List.length_append, List.length_cons, List.length_nil]; omega) hwi
    rw [hp] at z
    exact z
  · omega
  · omega
  · show (120 :: body3 a b c).length ≤ _
    simp only [List.length_cons]; omega
  · omega
  · show (stripL _ _).length ≤ _
    omega
  · show (120 :: body3 _ _ _).length ≤ _
    simp only [List.length_cons]; omega
  · omega
  · show (stripL _ _).length ≤ _
    omega
  · show (120 :: body3 _ _ _).length ≤ _
    simp only [List.length_cons]; omega
  · omega
  · show (stripL _ _).length ≤ _
    omega
noncomputable def PLaw (sl : Nat) (zs : List Int) (ts : List Nat) (sn : Nat) (r : Result) (Lo : Led) : Prop := r = .ok (.ret (.bool true)) ∧ ∃ c1 c2, Lo = [(sl, scriptO zs ts sn), (143, tab6 c1 c2)]
theorem lawF (w : World) (b1 b2 b3 : Bool) (sl : Nat) (zs : List Int) (ts : List Nat) (sn : Nat) (hz : zs.length ≤ 63) (d : Drawn) (os : OsState) (h : Heap) (N T : Nat) (gl : List GenState) (F : St0 (WB w b1 b2 b3) h N) (I : InL (WB w b1 b2 b3) h [(sl + 171, scriptO zs ts sn), (143, tab0)]) :
    codeAny (model pw (WB w b1 b2 b3)) (Bn 305 10) (c14 (sl + 171)) (After (WB w b1 b2 b3) (gl ++ [.finished] ++ [.finished] ++ [.finished]) d os h N [(sl + 171, scriptO zs ts sn), (143, tab0)] (PLaw (sl + 171) zs ts sn)) (st h gl d T os) := by
  let V := V3 (WB w b1 b2 b3) h d os 305 10 [sl + 171, 143] (After (WB w b1 b2 b3) (gl ++ [.finished] ++ [.finished] ++ [.finished]) d os h N [(sl + 171, scriptO zs ts sn), (143, tab0)] (PLaw (sl + 171) zs ts sn)) (fnLaw (sl + 171) zs ts sn gl) (hkLaw (WB w b1 b2 b3).params (sl + 171) zs ts sn (qLaw zs)) noTail
  have S : V.Std := V3_std
  have O : V.Ok := V3_ok (fun r L sz tb i gl' gh h' H D => by
    unfold fnLaw at H
    split at H
    · split at H
      · rename_i v
        obtain ⟨ev, H⟩ := eqV_of H
        obtain ⟨eg, H2⟩ := eqG_of H
        subst eg
        obtain ⟨xs, H⟩ := gets_of H2
        obtain ⟨ho, -⟩ := outs_of H
        exact after_of (V := V) S F rfl D ho I.nodup ⟨by rw [ev], _, _, rfl⟩
      · cases H
    · cases H) (hkLaw_ok S rfl hz) (fun _ _ _ _ _ _ _ _ _ H _ => by cases H)
  have g := gLaw w b1 sl zs ts sn (qLaw zs).x0 (qLaw zs).x1 (qLaw zs).x2 (qLaw zs).n0 (qLaw zs).n1 (qLaw zs).n2 (qLaw zs).w2 (qLaw zs).w3 (qLaw zs).y (qLaw zs).f1 (qLaw zs).f2 (qLaw zs).f3 (qLaw zs).s0 (qLaw zs).s1 (qLaw zs).s2 (qLaw zs).ents d os h N T gl (After (WB w b1 b2 b3) (gl ++ [.finished] ++ [.finished] ++ [.finished]) d os h N [(sl + 171, scriptO zs ts sn), (143, tab0)] (PLaw (sl + 171) zs ts sn)) b2 b3
  unfold obLaw at g
  have z := sim_sound (V := V) O 3000 _ none .base _ _ _ _ _ _ _ h g (Rp.startL (V := V) S F I rfl)
  exact y_code _ _ _ _ _ _ (O.go _ _ _ _ _ z)
end Mine
end
-- part F15
section
namespace Mine
/-! from the state behind the top to law's call -/
noncomputable def KK (P : Params) : Frag := [(0, kb0 P), (1, kb1 P), (2, kb2 P), (3, kb3 P), (4, kb4 P), (5, kb5 P), (6, kb6 P), (7, kb7 P), (8, kb8 P), (9, kb9 P), (10, kb10 P), (11, kb11 P), (12, kb12 P), (13, kb13 P), (14, kb14 P), (15, kb15 P), (16, kb16 P), (17, kb17 P), (18, kb18 P), (19, kb19 P), (20, kb20 P), (21, kb21 P), (22, kb22 P), (23, kb23 P), (24, kb24 P), (25, kb25 P), (26, kb26 P), (27, kb27 P), (28, kb28 P), (29, kb29 P), (30, kb30 P), (31, kb31 P), (32, kb32 P), (33, kb33 P), (34, kb34 P), (35, kb35 P), (36, kb36 P), (37, kb37 P), (38, kb38 P), (39, kb39 P), (40, kb40 P), (41, kb41 P), (42, kb42 P), (43, kb43 P), (44, kb44 P), (45, kb45 P), (46, kb46 P), (47, kb47 P), (48, kb48 P), (49, kb49 P), (50, kb50 P), (51, kb51 P), (52, kb52 P), (53, kb53 P), (54, kb54 P), (55, kb55 P), (56, kb56 P), (57, kb57 P), (58, kb58 P), (59, kb59 P), (60, kb60 P), (61, kb61 P), (62, kb62 P), (63, kb63 P), (64, kb64 P), (65, kb65 P), (66, kb66 P), (67, kb67 P), (68, kb68 P), (69, kb69 P), (70, kb70 P), (71, kb71 P), (72, kb72 P), (73, kb73 P), (74, kb74 P), (75, kb75 P), (76, kb76 P), (77, kb77 P), (78, kb78 P), (79, kb79 P), (80, kb80 P), (81, kb81 P), (82, kb82 P), (83, kb83 P), (84, kb84 P), (85, kb85 P), (86, kb86 P), (87, kb87 P), (88, kb88 P), (89, kb89 P), (90, kb90 P), (91, kb91 P), (92, kb92 P), (93, kb93 P), (94, kb94 P), (95, kb95 P), (96, kb96 P), (135, kb135 P), (136, kb136 P), (137, kb137 P), (138, kb138 P), (139, kb139 P), (140, kb140 P), (141, kb141 P), (142, kb142 P), (144, kb144 P), (145, kb145 P), (146, kb146 P), (147, kb147 P), (148, kb148 P), (149, kb149 P), (150, kb150 P), (151, kb151 P), (152, kb152 P), (153, kb153 P), (154, kb154 P), (155, kb155 P), (156, kb156 P), (157, kb157 P), (158, kb158 P), (159, kb159 P), (160, kb160 P), (161, kb161 P), (162, kb162 P), (163, kb163 P), (164, kb164 P), (165, kb165 P), (166, kb166 P), (167, kb167 P), (168, kb168 P), (169, kb169 P), (170, kb170 P)]
theorem kt_lookup (P : Params) : (List.range 171).map (fun a => (ktop P).get a) = (List.range 171).map (fun a => (KK P).lookup a) := by kernel_rfl
theorem kt_in {w : World} {h : Heap} (X : (KK w.params).In h) (a : Addr) (o : Obj) (e : (ktop w.params).get a = some o) : h.get? a = some o := by
  by_cases ha : a < 171
  · have z := congrArg (fun l => l[a]?) (kt_lookup w.params)
    simp only [List.getElem?_map, List.getElem?_range ha, Option.map_some, Option.some.injEq] at z
    exact X a o (z ▸ e)
  · rw [ktop_low _ a (Nat.le_of_not_lt ha)] at e; cases e
theorem ints_valZ : ∀ {vs : List PySem.Value} {ns : List Int}, IntsAre vs ns → ∃ ts, vs = valZ ns ts := by
  intro vs ns h
  induction h with
  | nil => exact ⟨[], rfl⟩
  | cons k t _ ih =>
    obtain ⟨ts, rfl⟩ := ih
    exact ⟨t :: ts, rfl⟩
theorem WB_self (w : World) : WB w (w.params.followText "special-get-raises") (w.params.followText "comprehension-iter-twice") (w.params.followText "for-iterable-display-folded") = w := by
  show World.withFollow (World.withFollow (World.withFollow w _ _) _ _) _ _ = w
  rw [World.withFollow_self, World.withFollow_self, World.withFollow_self]
theorem wpAny_of_code {M : Model} {A : Around} {n u : Nat} (e : inB A n u = true) {f : PySem.Value} {pos : List PySem.Value} {Q : PySem.Value → Shared → Prop} {E : PySem.Value → Shared → Prop} {s : Shared}
    (x : codeAny M (Bn n u) (.call f ⟨pos, []⟩) (fun r s' => ∃ v, r = .ok (.ret v) ∧ Q v s') s) : wpAny M A (call f pos) Q E s := fun Γ p hΓ => by
  have z := call_B e (g := false) (l := []) x Γ p hΓ
  unfold call
  rw [Sem.wp_runValue]
  rw [Sem.wp_call] at z
  refine wpCode_mono (fun r s' q => ?_) z
  obtain ⟨v, rfl, q⟩ := q
  exact q
noncomputable def tab6Fields (c1 c2 : Nat) : Array PySem.Value := ⟨[.int 93 0, .int 13 0, .ref c1, .int 94 0, .int 18 0, .ref c2]⟩
theorem tab6_more (c1 c2 : Nat) : tab6 c1 c2 = { tab0 with data := .fields (⟨[]⟩ ++ tab6Fields c1 c2) } := by simp [tab6, tab0, tab6Fields]
theorem law_goal (w : World) (s : Shared) (ns : List Int) (vs : List PySem.Value) (X : (KK w.params).In s.heap) (h143 : s.heap.get? 143 = some tab0) (hsz : s.heap.objs.size = 172) (htk : 2349 ≤ s.toks) (ho : s.heap.get? 171 = some (listObj vs.toArray 0)) (hI : IntsAre vs ns) (hl : ns.length ≤ 63) (hg : s.gens = #[]) :
    wpAny (model pw w) callerA (call (.ref 170) [.ref 171]) (fun v s' => v = .bool true ∧ OldK s.heap s'.heap ∧ s'.os = s.os ∧ AllBare s'.gens) (fun _ _ => False) s := by
  obtain ⟨ts, rfl⟩ := ints_valZ hI
  obtain ⟨h, gens, d, tk, os⟩ := s
  obtain rfl : gens = #[] := hg
  have hsz : h.objs.size = 1 + 171 := hsz
  have htk : 2349 ≤ tk := htk
  have F : St0 w h 1 := ⟨hsz, kt_in X⟩
  have I : InL w h [(0 + 171, scriptO ns ts 0), (143, tab0)] := ⟨fun p hp => by
    rcases List.mem_cons.mp hp with rfl | hp
    · exact ho
    · rw [List.mem_singleton.mp hp]; exact h143, by simp, fun p hp => by
    rcases List.mem_cons.mp hp with rfl | hp
    · exact ktop_low _ _ (Nat.le_refl _)
    · rw [List.mem_singleton.mp hp]; rfl⟩
  have hW := WB_self w
  have z := lawF w (w.params.followText "special-get-raises") (w.params.followText "comprehension-iter-twice") (w.params.followText "for-iterable-display-folded") 0 ns ts 0 hl d os h 1 (tk - 2349) [] (hW.symm ▸ F) (hW.symm ▸ I)
  rw [hW] at z
  have e : st h [] d (tk - 2349) os = ⟨h, #[], d, tk, os⟩ := by unfold st; rw [Nat.sub_add_cancel htk]
  rw [e] at z
  refine wpAny_of_code (by decide) (codeAny_mono z fun r s' x => ?_)
  obtain ⟨h', N', T', Lo, rfl, F', le, k, I', hm, rfl, c1, c2, rfl⟩ := x
  refine ⟨_, rfl, rfl, ⟨fun b o e => ?_, fun b o e => ?_⟩, rfl, ?_⟩
  · by_cases h1 : b = 171
    · subst h1
      have e : h.get? 171 = some o := e
      refine .inl ?_
      have z1 := I'.own (0 + 171, scriptO ns ts 0) (.head _)
      have z2 : h.get? 171 = some (scriptO ns ts 0) := ho
      rw [z2] at e; cases e
      exact z1
    · by_cases h2 : b = 143
      · subst h2
        have e : h.get? 143 = some o := e
        have z1 := I'.own (143, tab6 c1 c2) (.tail _ (.head _))
        rw [show h.get? 143 = some tab0 from h143] at e
        cases e
        refine .inr (.inl ⟨⟨147, kb147 w.params, _, kt_in X 147 _ (by kernel_rfl), rfl, rfl, rfl⟩, rfl, _, (tab6Fields c1 c2), rfl, z1.trans (congrArg some (tab6_more c1 c2))⟩)
      · exact .inl (k b o e (by
          intro hb
          have hb : b ∈ [0 + 171, 143] := hb
          rcases List.mem_cons.mp hb with q | hb
          · exact h1 q
          · exact h2 (List.mem_singleton.mp hb)))
  · by_cases h1 : b = 171
    · subst h1; exact ⟨_, I'.own (0 + 171, scriptO ns ts 0) (.head _)⟩
    · by_cases h2 : b = 143
      · subst h2; exact ⟨_, I'.own (143, tab6 c1 c2) (.tail _ (.head _))⟩
      · exact ⟨o, k b o e (by
          intro hb
          have hb : b ∈ [0 + 171, 143] := hb
          rcases List.mem_cons.mp hb with q | hb
          · exact h1 q
          · exact h2 (List.mem_singleton.mp hb))⟩
  · intro y hy
    have hy : y ∈ (#[.finished, .finished, .finished] : Array GenState) := hy
    simp at hy
    subst hy; rfl
end Mine
end
-- part Said
section
namespace Mine
/-! the looks at the statement's own text, one conjunct a lemma -/
noncomputable abbrev lawW : OpenLaw := PySem.Challenge.rw_re0128_01
theorem sdA0 : (sreFenced lawW.prog.main) = true := by kernel_rfl
theorem sdA1 : (((moduleNames lawW.prog.main.body).isEmpty || lookedIntoSs (moduleNames lawW.prog.main.body) lawW.prog.main.body)) = true := by kernel_rfl
theorem sdA2 : (namesResolve lawW.prog) = true := by kernel_rfl
theorem sdA3 : (lawW.prog.boundNames.all (fun n => !worldNames.contains n)) = true := by kernel_rfl
theorem sdR0 : readsOut lawW.prog lawW.prog.main.body ("vars" : Str) = false := by kernel_rfl
theorem sdR1 : readsOut lawW.prog lawW.prog.main.body ("dir" : Str) = false := by kernel_rfl
theorem sdR2 : readsOut lawW.prog lawW.prog.main.body ("locals" : Str) = false := by kernel_rfl
theorem sdBare : (["vars", "dir", "locals"] : List Str).filter (readsOut lawW.prog lawW.prog.main.body) = [] := by
  rw [List.filter, sdR0, List.filter, sdR1, List.filter, sdR2, List.filter]
theorem sdStrict : (!(importedModules lawW.prog.main.body).all cThrough.contains) = false := by kernel_rfl
theorem noRoad_append {lk : Look} : ∀ (a b : List Stmt), noRoadLSs lk (a ++ b) = (noRoadLSs lk a && noRoadLSs lk b)
  | [], b => rfl
  | x :: a, b => by rw [List.cons_append, noRoadLSs, noRoadLSs, noRoad_append, Bool.and_assoc]
noncomputable abbrev lookW : Look := { strict := false, foot := none, bare := [] }
theorem sdW0 : noRoadLSs lookW (lawW.prog.main.body.take 9) = true := by kernel_rfl
theorem sdW1 : noRoadLSs lookW ((lawW.prog.main.body.drop 9).take 1) = true := by kernel_rfl
theorem sdW2 : noRoadLSs lookW ((lawW.prog.main.body.drop 9).drop 1) = true := by kernel_rfl
theorem sdW : noRoadLSs lookW lawW.prog.main.body = true := by
  rw [← List.take_append_drop 9 lawW.prog.main.body, noRoad_append, sdW0, ← List.take_append_drop 1 (lawW.prog.main.body.drop 9), noRoad_append, sdW1, sdW2]; rfl
theorem sdA4 : (noRoadLSs { strict := !(importedModules lawW.prog.main.body).all cThrough.contains, foot := none, bare := (["vars", "dir", "locals"] : List Str).filter (readsOut lawW.prog lawW.prog.main.body) } lawW.prog.main.body) = true := by
  rw [sdBare, sdStrict]; exact sdW
theorem sdA5 : (namesMeet lawW.prog lawW.prog.main.body fun _ n => attrL n) = true := by kernel_rfl
theorem sdB0 : (lawW.row.loose.isEmpty) = true := by kernel_rfl
theorem sdB1 : (lawW.row.makers.isEmpty) = true := by kernel_rfl
theorem sdB2 : ((lawW.row.records.isEmpty || lawW.row.raises.all fun ct => ct.1 != .builtin "AttributeError" && ct.1 != .builtin "TypeError")) = true := by kernel_rfl
theorem sdB3 : ((lawW.row.raises.all fun ct => match ct.1 with | .builtin n => !lawW.row.prog.boundNames.contains (Str.ofString n) && !ofTheWorld.contains n | .own _ => true)) = true := by kernel_rfl
theorem sdB4 : (decide (lawW.row.records.map (·.1)).Nodup) = true := by kernel_rfl
theorem sdB5 : ((lawW.row.records.all fun x => !x.1.opensWith "__" && !builtinNamed x.1 && lawW.row.prog.boundNames.contains x.1 && x.2.all fun f => !f.1.opensWith "__")) = true := by kernel_rfl
theorem sdB6 : (lawW.row.toRowW.solid) = true := by kernel_rfl
theorem sdB7 : (lawW.row.pre.litsOk) = true := by kernel_rfl
theorem sdB8 : (lawW.row.post.litsOk) = true := by kernel_rfl
theorem sdB9 : (lawW.row.raises.all (·.2.litsOk)) = true := by kernel_rfl
theorem sdB10 : (lawW.row.mutates.all (fun i => match lawW.row.args[i]? with
    | some sh => !sh.arms.any WShape.isObj
    | none => false)) = true := by kernel_rfl
theorem sdB11 : (lawW.row.within.all (fun i => decide (i < lawW.row.args.length))) = true := by kernel_rfl
theorem sdB12 : (lawW.row.same.all (fun i => decide (i < lawW.row.args.length))) = true := by kernel_rfl
theorem sdC0 : (lawW.row.prog.boundNames.contains lawW.row.name) = true := by kernel_rfl
theorem sdC1 : (!startupNames.contains lawW.row.name) = true := by kernel_rfl
theorem sdL1 : (decide (lawW.foot ≤ (behindTheImports lawW.prog).length)) = true := by kernel_rfl
theorem sdL2 : (lawW.footing.all footLine) = true := by kernel_rfl
theorem sdL3 : (noClassBlock lawW.prog lawW.footing) = true := by kernel_rfl
theorem sdL4 : (lawW.most.all (fun n => decide (63 ≤ n))) = true := by kernel_rfl
theorem sdL5 : (lawW.bound.all (fun n => decide (2 ^ 63 ≤ n))) = true := by kernel_rfl
theorem sdL6 : (noRoadLSs { strict := true, foot := some lawW.bound', writes := lawW.writes, may := lawW.may } lawW.footing) = true := by kernel_rfl
theorem sdL7 : (defStands lawW.about lawW.above) = true := by kernel_rfl
theorem sdL8 : (lawW.namesIt) = true := by kernel_rfl
theorem sdL9 : ((["type", "isinstance", "issubclass", "getattr", "hasattr"] : List Str).all (fun n => lawW.about != [n])) = true := by kernel_rfl
theorem sdL10 : (lawW.bound'.all (fun n => !builtinNamed n || lawW.about == [n] || !lawW.reads n)) = true := by kernel_rfl
theorem sdL11 : ((!lawW.writes || (lawW.prog.main.body.flatMap importedNames).all fun n => !lawW.reads n)) = true := by kernel_rfl
theorem sdL12 : ((lawW.prog.main.body.flatMap importedNames).all (fun n => !lawW.reads n || (drawsOf n lawW.prog.main.body).all fun mn => mn.2 != ("attrgetter" : Str) && mn.2 != ("methodcaller" : Str))) = true := by kernel_rfl
theorem sdL13 : (namesMeet lawW.prog lawW.footing (fun sc n => (!(["type", "isinstance", "issubclass", "getattr", "hasattr"] : List Str).contains n || sc.names.lookup n == some .globalImplicit) && (lawW.may != some n || sc.kind == .module || sc.names.lookup n == some .globalImplicit))) = true := by kernel_rfl
theorem sdL14 : (lawW.own.contains lawW.name) = true := by kernel_rfl
theorem sdL15 : (lawW.own.eraseDups.length == lawW.own.length) = true := by kernel_rfl
theorem sdL16 : (lawW.own.all (fun n => !builtinNamed n)) = true := by kernel_rfl
theorem sdL17 : (namesMeet lawW.prog lawW.above (fun _ n => !lawW.own.contains n)) = true := by kernel_rfl
theorem sdL18 : (namesMeet lawW.prog lawW.footing fun sc n => sc.kind == .module || sc.names.lookup n != some .globalExplicit) = true := by kernel_rfl
theorem sdOpen : looksOpen lawW.row.prog = true := by unfold looksOpen; exact (look_both (look_both (look_both (look_both (look_both sdA0 sdA1) sdA2) sdA3) sdA4) sdA5)
theorem sdPart : lawW.row.partSaid = true := by unfold OpenRow.partSaid; exact (look_both (look_both (look_both (look_both (look_both (look_both (look_both (look_both (look_both (look_both (look_both (look_both (look_both sdOpen sdB0) sdB1) sdB2) sdB3) sdB4) sdB5) sdB6) sdB7) sdB8) sdB9) sdB10) sdB11) sdB12)
theorem sdRow : lawW.row.wellSaid = true := by unfold OpenRow.wellSaid; exact (look_both (look_both sdPart sdC0) sdC1)
theorem said : OpenLaw.wellSaid PySem.Challenge.rw_re0128_01 = true := by unfold OpenLaw.wellSaid; exact (look_both (look_both (look_both (look_both (look_both (look_both (look_both (look_both (look_both (look_both (look_both (look_both (look_both (look_both (look_both (look_both (look_both (look_both sdRow sdL1) sdL2) sdL3) sdL4) sdL5) sdL6) sdL7) sdL8) sdL9) sdL10) sdL11) sdL12) sdL13) sdL14) sdL15) sdL16) sdL17) sdL18)
end Mine
end
-- part Fin2
section
namespace Mine
noncomputable def qv : Program := view PySem.Challenge.pw_re0128_01 [0, 2, 3, 5, 8, 10, 12, 13, 14, 15, 16]
noncomputable abbrev looseV : List Str := [Str.ofString "b1_set", Str.ofString "b3_exceptions"]
noncomputable abbrev XtV : Shared → Bool := fun s => xlAt qv [] s && recOk [] s
noncomputable def asK : List Addr := List.range 97 ++ List.range' 135 8 ++ List.range' 144 27
theorem asK_eq (P : Params) : asK = (KK P).map (·.1) := by kernel_rfl
noncomputable abbrev YfK (s : Shared) : (List (Option Obj) × Nat × Nat) × Option Obj := (obsZ asK s, s.heap.get? 143)
noncomputable abbrev YaK (w : World) : (List (Option Obj) × Nat × Nat) × Option Obj := (PySem.W.X.valZ KK 171 2349 w, some tab0)
theorem fin {N : Nat} (left : LeftO pw qv looseV XtV YfK YaK N) : PySem.Challenge.rw_re0128_01.Holds := by
  w_on
  refine holds_law said fun said => ?_
  refine holds_openX (q := qv) (loose := looseV) (Xt := XtV) (XP := XL qv []) (Yf := YfK) (Ya := YaK) (N := N) left (fun s e => xl_of s (Bool.and_eq_true_iff.mp e).1) XL.keeps (by rfl) (by rfl) (by rfl) (fun s e => recFacts_of (Bool.and_eq_true_iff.mp e).2) (by rfl) (by first | assumption | decide +kernel) (by decide +kernel) ⟨rfl, rfl, rfl, rfl, rfl, by decide +kernel⟩ ?hw ?hc
  case hw => w_witness2
  case hc =>
    intro w s₀ s₁ mg mb G y fa o pm cd doc dV kV ho hd hcd hD hmg hg args vals as L hpre hlay hrd hwl hlo
    obtain ⟨y1, y2⟩ := Prod.mk.inj y
    obtain ⟨-, KI, hn, ht⟩ := z_facts asK_eq y1
    have KX := InK.keeps w s₀.heap s₁.heap KI L.keeps
    have hfa : fa = 170 := by
      have z := mg_of KX G.T.g (n := Str.ofString "law") (v := .ref 170) (by kernel_rfl)
      have z2 := hmg.symm.trans z
      exact Value.ref.inj (Option.some.inj z2)
    subst hfa
    wrow_args hpre hlay hrd hwl hlo
    obtain ⟨hat, hsz⟩ := script_at L
    have htk := script_toks L ht
    rw [hn] at hat hsz
    subst hat
    rename IntsAre _ _ => hI
    rename Heap.IsList _ _ _ => hL
    rename ¬ _ => hcond
    have hob := script_obj L hL
    refine wpAny_mono (law_goal w s₁ _ _ KX (L.keeps _ _ y2) hsz htk hob hI (by omega) hg) (fun v s' hq => ?_) (fun _ _ h => h.elim)
    obtain ⟨rfl, h1, h2, h3⟩ := hq
    exact ⟨.inl ⟨.bool true, .bool true, [], rfl, fun cls => rfl, .bool true, postW_of (X := (true == true)) rfl (w_eq_bool (w_res rfl) w_lit) rfl, fun _ => ⟨List.nodup_nil, fun a h => nomatch h⟩⟩, h1, h2, h3⟩
end Mine
end
-- part HeadA
section
namespace Mine
/-! the head: the states behind the top's statements -/
noncomputable def entsOf (o : Obj) : List DictEntry := match o.data with | .dict es _ => es.toList | _ => []
noncomputable def fieldsOf (o : Obj) : List PySem.Value := match o.data with | .fields vs => vs.toList | _ => []
noncomputable def setVal (v : PySem.Value) : List DictEntry → List DictEntry
  | e :: r => { e with val := v } :: r
  | [] => []
/-- the main namespace with its first n names, `__name__` holding v -/
noncomputable def ns3 (P : Params) (n : Nat) (v : PySem.Value) : Obj := { kb3 P with data := .dict ⟨(setVal v (entsOf (kb3 P))).take n⟩ n }
/-- the modules' table of code, its first n fields -/
noncomputable def cs12 (P : Params) (n : Nat) : Obj := { kb12 P with data := .fields ⟨(fieldsOf (kb12 P)).take n⟩ }
/-- the table of exceptions: n pairs from the k-th on -/
noncomputable def tabX (P : Params) (k n : Nat) : Obj := { kb96 P with data := .dict ⟨((entsOf (kb96 P)).drop k).take n⟩ n }
/-- the object at an address, in the end -/
noncomputable def objZ (P : Params) (b : Nat) : Obj := match (ktop P).get b with
  | some o => o
  | none => match Nat.beq b 143 with
    | true => tab0
    | false => match Nat.beq b 134 with
      | true => tabX P 646 4
      | false => tabX P (17 * (b - 96)) 17
noncomputable def objS (k : Nat) (v : PySem.Value) (m : Nat) (P : Params) (b : Nat) : Obj := match Nat.beq b 3 with
  | true => ns3 P k v
  | false => match Nat.beq b 12 with
    | true => cs12 P m
    | false => objZ P b
noncomputable def bt (f : Nat → Obj) (n : Nat) : Nat → Nat → Nat → BT
  | 0, _, _ => .nil
  | k + 1, a, b => match Nat.blt b n with
    | true => .node (f b) (bt f n k (2 * a) (a + b)) (bt f n k (2 * a) (2 * a + b))
    | false => .nil
noncomputable def btOf (f : Nat → Obj) (n : Nat) : BT := bt f n 10 1 0
noncomputable def life0 : Life := {}
/-- the state: n objects, k names, `__name__` v, m fields, tokens t -/
noncomputable def stH (n k : Nat) (v : PySem.Value) (m t : Nat) (w : World) (os : OsState) : SharedT := ⟨btOf (objS k v m w.params) n, n, life0, ⟨[]⟩, ⟨0, 0, 0, 0⟩, t, os⟩
noncomputable abbrev HS0 : World → OsState → SharedT := stH 15 9 q260 0 187
noncomputable abbrev HS1 : World → OsState → SharedT := stH 22 10 q260 3 194
noncomputable abbrev HS2 : World → OsState → SharedT := stH 22 10 q240 3 196
noncomputable abbrev HS3 : World → OsState → SharedT := stH 29 11 q240 6 206
noncomputable abbrev HS4 : World → OsState → SharedT := stH 36 12 q240 9 218
noncomputable abbrev HS5 : World → OsState → SharedT := stH 36 12 q200 9 220
noncomputable abbrev HS6 : World → OsState → SharedT := stH 78 13 q200 12 278
noncomputable abbrev HS7 : World → OsState → SharedT := stH 78 13 q207 12 280
noncomputable abbrev HS8 : World → OsState → SharedT := stH 89 14 q207 12 340
noncomputable abbrev HS9 : World → OsState → SharedT := stH 96 15 q207 15 347
noncomputable abbrev HS10 : World → OsState → SharedT := stH 135 16 q207 15 2298
noncomputable abbrev HS11 : World → OsState → SharedT := stH 142 17 q207 18 2306
noncomputable abbrev HS12 : World → OsState → SharedT := stH 142 17 q160 18 2308
noncomputable abbrev HS13 : World → OsState → SharedT := stH 149 18 q160 21 2319
noncomputable abbrev HS14 : World → OsState → SharedT := stH 154 19 q160 24 2325
noncomputable abbrev HS15 : World → OsState → SharedT := stH 159 20 q160 27 2331
noncomputable abbrev HS16 : World → OsState → SharedT := stH 166 21 q160 30 2343
noncomputable abbrev HS17 : World → OsState → SharedT := stH 171 22 q160 33 2349
noncomputable abbrev envH : Env := { scope := pw.main.scope, locals := mainNs, globals := mainNs, cells := [], code := .ref 13, frame := some 14 }
noncomputable abbrev bodyH : List Stmt := behindTheImports pw
noncomputable abbrev cH : Code := .body bodyH envH
noncomputable abbrev BH : List Frame := [topFrame ⟨0, 0, 0, 0⟩]
noncomputable abbrev stmtH (i : Nat) : List Stmt := (bodyH.drop i).take 1
end Mine
end
-- part HeadC
section
namespace Mine
/-! the top's statements, each by one kernel run -/
noncomputable abbrev runF := Fast.tw10110043849684766642 Fast.tw14364793385576792824 pw
theorem runF_eq : segRunT treeTable pw = runF := by
  show _ = Fast.tw10110043849684766642 Fast.tw14364793385576792824 pw
  rw [← Fast.te10110043849684766642, ← Fast.te14364793385576792824]
noncomputable abbrev pieceF (l : List Stmt) (p : Pos) : Thread := ⟨(Fast.tw12563942051412417395 l envH).wrap doneF deadEnd id id, cH, p, BH⟩
theorem pieceF_eq (l : List Stmt) (p : Pos) : piecesOf l envH cH p BH = pieceF l p := by
  show Thread.mk ((execs l envH).wrap doneF deadEnd id id) cH p BH = ⟨(Fast.tw12563942051412417395 l envH).wrap doneF deadEnd id id, cH, p, BH⟩
  rw [← Fast.te12563942051412417395]
noncomputable abbrev annH : Option PySem.Value := some (.ref 6)
theorem seg_st {w : World} {n : Nat} {l : List Stmt} {S S' : SharedT} {p p' : Pos} (h : runF w 11 annH 1 n S (pieceF l p) = some (.next, S', cH, p')) :
    segRun treeTable pw w 11 annH 1 n S.abs (piecesOf l envH cH p BH) = some (.next, S'.abs, cH, p') :=
  segRun_of (by rw [runF_eq, pieceF_eq]; exact h)
theorem st0 (w : World) (os : OsState) : runF w 11 annH 1 30 (HS0 w os) (pieceF (stmtH 0) ⟨0,0,0,0⟩) = some (.next, HS1 w os, cH, ⟨1,0,3,12⟩) := by kernel_rfl
theorem st1 (w : World) (os : OsState) : runF w 11 annH 1 10 (HS1 w os) (pieceF (stmtH 1) ⟨1,0,3,12⟩) = some (.next, HS2 w os, cH, ⟨4,0,4,8⟩) := by kernel_rfl
theorem st2 (w : World) (os : OsState) : runF w 11 annH 1 33 (HS2 w os) (pieceF (stmtH 2) ⟨4,0,4,8⟩) = some (.next, HS3 w os, cH, ⟨5,0,17,25⟩) := by kernel_rfl
theorem st3 (w : World) (os : OsState) : runF w 11 annH 1 35 (HS3 w os) (pieceF (stmtH 3) ⟨5,0,17,25⟩) = some (.next, HS4 w os, cH, ⟨18,0,35,26⟩) := by kernel_rfl
theorem st4 (w : World) (os : OsState) : runF w 11 annH 1 10 (HS4 w os) (pieceF (stmtH 4) ⟨18,0,35,26⟩) = some (.next, HS5 w os, cH, ⟨36,0,36,8⟩) := by kernel_rfl
theorem st5 (w : World) (os : OsState) : runF w 11 annH 1 324 (HS5 w os) (pieceF (stmtH 5) ⟨36,0,36,8⟩) = some (.next, HS6 w os, cH, ⟨37,0,79,16⟩) := by kernel_rfl
theorem st6 (w : World) (os : OsState) : runF w 11 annH 1 10 (HS6 w os) (pieceF (stmtH 6) ⟨37,0,79,16⟩) = some (.next, HS7 w os, cH, ⟨80,0,80,8⟩) := by kernel_rfl
theorem st8 (w : World) (os : OsState) : runF w 11 annH 1 30 (HS8 w os) (pieceF (stmtH 8) ⟨81,0,81,6⟩) = some (.next, HS9 w os, cH, ⟨82,0,83,30⟩) := by kernel_rfl
theorem st10 (w : World) (os : OsState) : runF w 11 annH 1 31 (HS10 w os) (pieceF (stmtH 10) ⟨84,0,84,13⟩) = some (.next, HS11 w os, cH, ⟨85,0,89,23⟩) := by kernel_rfl
theorem st11 (w : World) (os : OsState) : runF w 11 annH 1 10 (HS11 w os) (pieceF (stmtH 11) ⟨85,0,89,23⟩) = some (.next, HS12 w os, cH, ⟨90,0,90,8⟩) := by kernel_rfl
theorem st12 (w : World) (os : OsState) : runF w 11 annH 1 34 (HS12 w os) (pieceF (stmtH 12) ⟨90,0,90,8⟩) = some (.next, HS13 w os, cH, ⟨91,0,97,50⟩) := by kernel_rfl
theorem st13 (w : World) (os : OsState) : runF w 11 annH 1 27 (HS13 w os) (pieceF (stmtH 13) ⟨91,0,97,50⟩) = some (.next, HS14 w os, cH, ⟨98,0,99,82⟩) := by kernel_rfl
theorem st14 (w : World) (os : OsState) : runF w 11 annH 1 27 (HS14 w os) (pieceF (stmtH 14) ⟨98,0,99,82⟩) = some (.next, HS15 w os, cH, ⟨100,0,112,17⟩) := by kernel_rfl
theorem st15 (w : World) (os : OsState) : runF w 11 annH 1 35 (HS15 w os) (pieceF (stmtH 15) ⟨100,0,112,17⟩) = some (.next, HS16 w os, cH, ⟨113,0,121,51⟩) := by kernel_rfl
theorem st16 (w : World) (os : OsState) : runF w 11 annH 1 27 (HS16 w os) (pieceF (stmtH 16) ⟨113,0,121,51⟩) = some (.next, HS17 w os, cH, ⟨122,0,137,70⟩) := by kernel_rfl
end Mine
end
-- part HeadD
section
namespace Mine
noncomputable abbrev w2 (w : World) (a b : Bool) : World := (w.withFollow "special-get-raises" b).withFollow "set-order" a
theorem st7_ff (w : World) (os : OsState) : runF (w2 w false false) 11 annH 1 999 (HS7 (w2 w false false) os) (pieceF (stmtH 7) ⟨80,0,80,8⟩) = some (.next, HS8 (w2 w false false) os, cH, ⟨81,0,81,6⟩) := by kernel_rfl
theorem st7_ft (w : World) (os : OsState) : runF (w2 w false true) 11 annH 1 999 (HS7 (w2 w false true) os) (pieceF (stmtH 7) ⟨80,0,80,8⟩) = some (.next, HS8 (w2 w false true) os, cH, ⟨81,0,81,6⟩) := by kernel_rfl
theorem st7_tf (w : World) (os : OsState) : runF (w2 w true false) 11 annH 1 999 (HS7 (w2 w true false) os) (pieceF (stmtH 7) ⟨80,0,80,8⟩) = some (.next, HS8 (w2 w true false) os, cH, ⟨81,0,81,6⟩) := by kernel_rfl
theorem st7_tt (w : World) (os : OsState) : runF (w2 w true true) 11 annH 1 999 (HS7 (w2 w true true) os) (pieceF (stmtH 7) ⟨80,0,80,8⟩) = some (.next, HS8 (w2 w true true) os, cH, ⟨81,0,81,6⟩) := by kernel_rfl
noncomputable abbrev P7 (os : OsState) (w : World) : Prop := runF w 11 annH 1 999 (HS7 w os) (pieceF (stmtH 7) ⟨80,0,80,8⟩) = some (.next, HS8 w os, cH, ⟨81,0,81,6⟩)
theorem st7 (w : World) (os : OsState) : P7 os w :=
  byRow2 "set-order" (P := P7 os) (byRow2 "special-get-raises" (P := fun w => P7 os (w.withFollow "set-order" false)) (fun w => st7_ff w os) (fun w => st7_ft w os))
    (byRow2 "special-get-raises" (P := fun w => P7 os (w.withFollow "set-order" true)) (fun w => st7_tf w os) (fun w => st7_tt w os)) w
end Mine
end
-- part HeadE
section
namespace Mine
/-! the head: the opening, the block's start, the end -/
noncomputable def heapZ (P : Params) : Heap := ⟨⟨[kb0 P, kb1 P, kb2 P, kb3 P, kb4 P, kb5 P, kb6 P, kb7 P, kb8 P, kb9 P, kb10 P, kb11 P, kb12 P, kb13 P, kb14 P, kb15 P, kb16 P, kb17 P, kb18 P, kb19 P, kb20 P, kb21 P, kb22 P, kb23 P, kb24 P, kb25 P, kb26 P, kb27 P, kb28 P, kb29 P, kb30 P, kb31 P, kb32 P, kb33 P, kb34 P, kb35 P, kb36 P, kb37 P, kb38 P, kb39 P, kb40 P, kb41 P, kb42 P, kb43 P, kb44 P, kb45 P, kb46 P, kb47 P, kb48 P, kb49 P, kb50 P, kb51 P, kb52 P, kb53 P, kb54 P, kb55 P, kb56 P, kb57 P, kb58 P, kb59 P, kb60 P, kb61 P, kb62 P, kb63 P, kb64 P, kb65 P, kb66 P, kb67 P, kb68 P, kb69 P, kb70 P, kb71 P, kb72 P, kb73 P, kb74 P, kb75 P, kb76 P, kb77 P, kb78 P, kb79 P, kb80 P, kb81 P, kb82 P, kb83 P, kb84 P, kb85 P, kb86 P, kb87 P, kb88 P, kb89 P, kb90 P, kb91 P, kb92 P, kb93 P, kb94 P, kb95 P, kb96 P, tabX P 17 17, tabX P 34 17, tabX P 51 17, tabX P 68 17, tabX P 85 17, tabX P 102 17, tabX P 119 17, tabX P 136 17, tabX P 153 17, tabX P 170 17, tabX P 187 17, tabX P 204 17, tabX P 221 17, tabX P 238 17, tabX P 255 17, tabX P 272 17, tabX P 289 17, tabX P 306 17, tabX P 323 17, tabX P 340 17, tabX P 357 17, tabX P 374 17, tabX P 391 17, tabX P 408 17, tabX P 425 17, tabX P 442 17, tabX P 459 17, tabX P 476 17, tabX P 493 17, tabX P 510 17, tabX P 527 17, tabX P 544 17, tabX P 561 17, tabX P 578 17, tabX P 595 17, tabX P 612 17, tabX P 629 17, tabX P 646 4, kb135 P, kb136 P, kb137 P, kb138 P, kb139 P, kb140 P, kb141 P, kb142 P, tab0, kb144 P, kb145 P, kb146 P, kb147 P, kb148 P, kb149 P, kb150 P, kb151 P, kb152 P, kb153 P, kb154 P, kb155 P, kb156 P, kb157 P, kb158 P, kb159 P, kb160 P, kb161 P, kb162 P, kb163 P, kb164 P, kb165 P, kb166 P, kb167 P, kb168 P, kb169 P, kb170 P]⟩, life0⟩
theorem heapZ_eq (P : Params) : absHeap (btOf (objS 22 q160 33 P) 171) 171 life0 = heapZ P := by kernel_rfl
noncomputable abbrev d0 : Drawn := ⟨0, 0, 0, 0⟩
theorem pre0 (w : World) (os : OsState) : Fast.tw15667345088766844465 Fast.tw14364793385576792824 pw w 11 annH 12 ⟨boot_heap w.params, ⟨[]⟩, boot_drawn, boot_toks, os⟩ (topStub pw)
    = some ((HS0 w os).abs, ⟨Dz cH, cH, ⟨0, 0, 0, 0⟩, BH⟩) := by kernel_rfl
theorem pre1 (w : World) (os : OsState) : topGo treeTable pw w 11 annH 12 ⟨boot_heap w.params, ⟨[]⟩, boot_drawn, boot_toks, os⟩ (topStub pw)
    = some ((HS0 w os).abs, ⟨denote treeTable cH, cH, ⟨0, 0, 0, 0⟩, BH⟩) := by
  have z := pre0 w os
  rw [Dz_eq, table_eq_tree, ← Fast.te15667345088766844465, ← Fast.te14364793385576792824] at z
  exact z
theorem block0 (w : World) (os : OsState) : runF w 11 annH 1 1 (HS0 w os) ⟨(Fast.tw1066825118222455980 bodyH envH).wrap (fun _ => doneF .next) deadEnd id id, cH, ⟨0, 0, 0, 0⟩, BH⟩ = some (.next, HS0 w os, cH, ⟨0, 0, 0, 0⟩) := by kernel_rfl
theorem block1 (w : World) (os : OsState) : segRun treeTable pw w 11 annH 1 1 (HS0 w os).abs (blockOf bodyH envH cH ⟨0, 0, 0, 0⟩ BH) = some (.next, (HS0 w os).abs, cH, ⟨0, 0, 0, 0⟩) :=
  segRun_of (by
    have z := block0 w os
    rw [← Fast.te1066825118222455980] at z
    rw [runF_eq]; exact z)
theorem fin1 (w : World) (os : OsState) : topRun treeTable pw w 11 annH 2 (HS17 w os).abs (PySem.W.restOf [] envH cH ⟨122, 0, 137, 70⟩ BH) = some (HS17 w os).abs := by kernel_rfl
theorem open1 {N : Nat} (h : Nat.ble 600 N = true) : ∀ w : World, (fencedOpening treeTable pw w N).map (fun s => (s.heap, s.gens, s.drawn, s.toks)) = some (boot_heap w.params, Array.mk [], boot_drawn, boot_toks) :=
  boot_open (by kernel_rfl) h (fun s => by kernel_rfl)
theorem size1 (w : World) : ((boot_heap w.params).isNs mainGlobals && (Array.mk [] : Array GenState).size == 0, (boot_heap w.params).objs.size, (boot_heap w.params).nsMap mainGlobals "__annotations__") = (true, 11, annH) := by kernel_rfl
theorem body_all : bodyH = stmtH 0 ++ (stmtH 1 ++ (stmtH 2 ++ (stmtH 3 ++ (stmtH 4 ++ (stmtH 5 ++ (stmtH 6 ++ (stmtH 7 ++ (stmtH 8 ++ (stmtH 9 ++ (stmtH 10 ++ (stmtH 11 ++ (stmtH 12 ++ (stmtH 13 ++ (stmtH 14 ++ (stmtH 15 ++ (stmtH 16 ++ [])))))))))))))))) := by kernel_rfl
end Mine
end
-- part HeadF
section
namespace Mine
/-! the head: the looks -/
noncomputable abbrev sZ (w : World) (os : OsState) : Shared := ⟨heapZ w.params, ⟨[]⟩, d0, 2349, os⟩
theorem mods_eq : importedModules pw.main.body = Fast.tw5923862056798008813 pw.main.body := by rw [← Fast.te5923862056798008813]
theorem lookA (w : World) : staticsOk (Fast.tw5923862056798008813 pw.main.body) (boot_heap w.params) (heapZ w.params) = true := by kernel_rfl
theorem lookB (w : World) : namesBound pw (heapZ w.params) = true := by kernel_rfl
theorem lookC (w : World) (os : OsState) : gensDone (sZ w os) = true := rfl
theorem lookD (w : World) : laidKept (boot_heap w.params) (heapZ w.params) = true := by kernel_rfl
theorem lookY (w : World) (os : OsState) : YfK (sZ w os) = YaK w := by kernel_rfl
noncomputable abbrev lw := Fast.tw821141287760084731 qv looseV
noncomputable abbrev modsF := Fast.tw5923862056798008813 pw.main.body
theorem lk0 (w : World) (os : OsState) : Fast.tw5160383126252970620 (R.mapR (fun x => x.name) (Fast.tw3399658132070893891 qv)) (Fast.tw5991557255702980513 qv) [] ⟨heapZ w.params, ⟨[]⟩, d0, 2349, os⟩ = expectedOf qv := by kernel_rfl
theorem lk1 (w : World) : (heapZ w.params).bltView = bltViewBooted := by kernel_rfl
theorem lk2 (w : World) : Fast.tw10880121769531294198 (heapZ w.params) lw (R.mapR (fun x => x.name) (Fast.tw3399658132070893891 qv))
    (R.mapR (fun x => x.fst) (Fast.tw7409074990110511671 qv)) (R.mapR (fun x => x.name) (Fast.tw13664370479719496447 qv lw)) = true := by kernel_rfl
theorem lk3 (w : World) : Fast.tw14722251495701143533 (heapZ w.params) modsF = true := by kernel_rfl
theorem lk4 (w : World) : (heapZ w.params).isNs mainGlobals = true := by kernel_rfl
theorem lk4b (w : World) : (heapZ w.params).isNs builtinsNs = true := by kernel_rfl
theorem lk5 (w : World) : Fast.tw10994771534591457954 qv (heapZ w.params) = true := by kernel_rfl
theorem lk6 (w : World) (os : OsState) : XtV (sZ w os) = true := by kernel_rfl
theorem lk7 (w : World) (os : OsState) : (if true = true then (sZ w os).gens.size == 0 else !leftWithCleanup (sZ w os).gens) = true := by kernel_rfl
theorem lk8 (w : World) (os : OsState) : Fast.tw479339242167458305 qv (sZ w os) = true := by kernel_rfl
theorem lk9 (w : World) (os : OsState) : Fast.tw16090120013241838585 qv (Fast.tw3247288618530077131 qv) (sZ w os) = pinGoodD (drecsOf qv) := by kernel_rfl
theorem lk10 (w : World) (os : OsState) : Fast.tw2386780881361962483 qv lw (sZ w os) = plainGoodE qv (looseW qv looseV) := by kernel_rfl
theorem lk11 (w : World) (os : OsState) : Fast.tw11698064438423848299 qv looseV (sZ w os) = plainGoodD qv looseV := by kernel_rfl
theorem lk12 (w : World) (os : OsState) : Fast.tw7317090234206586261 qv (sZ w os) = wideGood qv := by kernel_rfl
theorem lk13 (w : World) (os : OsState) : Fast.tw7369524293546568484 qv looseV (sZ w os) = clsGoodW qv looseV := by kernel_rfl
theorem and_t {a b : Bool} (x : a = true) (y : b = true) : (a && b) = true := by rw [x, y]; rfl
theorem lookO (w : World) (os : OsState) : openSeen qv looseV (importedModules pw.main.body) XtV true (sZ w os) = openGood qv looseV := by
  rw [mods_eq, Fast.te4187177175401517315]
  unfold Fast.tw4187177175401517315 openGood
  exact looks_pair (lk0 w os) (looks_pair (lk1 w) (looks_pair (and_t (and_t (and_t (and_t (and_t (and_t (lk2 w) (lk3 w)) (lk4 w)) (lk4b w)) (lk5 w)) (lk6 w os)) (lk7 w os)) (looks_pair (lk8 w os) (looks_pair (lk9 w os)
    (looks_pair (lk10 w os) (looks_pair (lk11 w os) (looks_pair (lk12 w os) (lk13 w os))))))))
theorem looks1 (w : World) : (fun os : OsState => ((staticsOk (importedModules pw.main.body) (boot_heap w.params) (heapZ w.params) && namesBound pw (heapZ w.params) && gensDone (sZ w os) && laidKept (boot_heap w.params) (heapZ w.params)),
    openSeen qv looseV (importedModules pw.main.body) XtV true (sZ w os), YfK (sZ w os))) = fun _ => (true, openGood qv looseV, YaK w) := by
  funext os
  exact looks_pair (and_t (and_t (and_t (by rw [mods_eq]; exact lookA w) (lookB w)) (lookC w os)) (lookD w)) (looks_pair (lookO w os) (lookY w os))
end Mine
end
-- part HeadG
section
namespace Mine
/-! the head: the whole run, the display's statement taken as proved -/
noncomputable abbrev St9 : Prop := ∀ (w : World) (os : OsState), segRun treeTable pw w 11 annH 1 12525 (HS9 w os).abs (piecesOf (stmtH 9) envH cH ⟨82, 0, 83, 30⟩ BH) = some (.next, (HS10 w os).abs, cH, ⟨84, 0, 84, 13⟩)
theorem run1 (st9 : St9) (w : World) (os : OsState) : topRun treeTable pw w 11 annH (12 + (1 + (30 + (10 + (33 + (35 + (10 + (324 + (10 + (999 + (30 + (12525 + (31 + (10 + (34 + (27 + (27 + (35 + (27 + 2))))))))))))))))))) ⟨boot_heap w.params, ⟨[]⟩, boot_drawn, boot_toks, os⟩ (topStub pw) = some ⟨heapZ w.params, ⟨[]⟩, d0, 2349, os⟩ := by
  refine go_top (pre1 w os) (piece_block (block1 w os) ?_)
  rw [body_all]
  refine piece_app (seg_st (st0 w os)) ?_
  refine piece_app (seg_st (st1 w os)) ?_
  refine piece_app (seg_st (st2 w os)) ?_
  refine piece_app (seg_st (st3 w os)) ?_
  refine piece_app (seg_st (st4 w os)) ?_
  refine piece_app (seg_st (st5 w os)) ?_
  refine piece_app (seg_st (st6 w os)) ?_
  refine piece_app (seg_st (st7 w os)) ?_
  refine piece_app (seg_st (st8 w os)) ?_
  refine piece_app (st9 w os) ?_
  refine piece_app (seg_st (st10 w os)) ?_
  refine piece_app (seg_st (st11 w os)) ?_
  refine piece_app (seg_st (st12 w os)) ?_
  refine piece_app (seg_st (st13 w os)) ?_
  refine piece_app (seg_st (st14 w os)) ?_
  refine piece_app (seg_st (st15 w os)) ?_
  refine piece_app (seg_st (st16 w os)) ?_
  rw [fin1 w os]
  show some (⟨absHeap (btOf (objS 22 q160 33 w.params) 171) 171 life0, ⟨[]⟩, d0, 2349, os⟩ : Shared) = _
  rw [heapZ_eq]
theorem left_of (st9 : St9) : LeftO pw qv looseV XtV YfK YaK 100000 :=
  LeftO.of_pieces (H₀ := boot_heap) (H₁ := heapZ) (gs₀ := ⟨[]⟩) (gs₁ := ⟨[]⟩) (d₀ := boot_drawn) (d₁ := d0) (k₀ := boot_toks) (k₁ := 2349) (m₀ := 11) (ann := annH) (open1 (by rfl)) size1 (run1 st9) (by decide +kernel) looks1
end Mine
end
-- part HeadH
section
namespace Mine
/-! the display of 650 pairs: its parts -/
noncomputable def dictKV : List Stmt → List (Option Expr) × List Expr × Pos
  | .Assign _ (.Dict ks vs p) _ :: _ => (ks, vs, p)
  | _ => ([], [], ⟨0, 0, 0, 0⟩)
noncomputable def cintOf : Option Expr → Int
  | some (.Constant (.int i) _ _) => i
  | _ => 0
noncomputable def cstrOf : Expr → Str
  | .Constant (.str s) _ _ => s
  | _ => Str.empty
noncomputable def pairOf (p : Pos) (x : Int × Str) : Sem PySem.Value × Sem PySem.Value := (.fresh fun t => .pure (.int x.1 t), .fresh fun t => .at p fun _ => .pure (.str x.2 t))
noncomputable def kv9 : List (Option Expr) × List Expr × Pos := dictKV (stmtH 9)
noncomputable def pD : Pos := kv9.2.2
noncomputable def L9 : List (Int × Str) := (kv9.1.map cintOf).zip (kv9.2.1.map cstrOf)
noncomputable def pairs9 : List (Sem PySem.Value × Sem PySem.Value) := L9.map (pairOf pD)
noncomputable def chunk (c : Nat) : List (Sem PySem.Value × Sem PySem.Value) := (pairs9.drop (17 * c)).take 17
noncomputable def items9 : List (Option (Sem PySem.Value) × Sem PySem.Value) := pairs9.map fun x => (some x.1, x.2)
end Mine
end
-- part HeadJ
section
namespace Mine
/-! exact runs at the top: a piece of code from a state to a value and a state, in so many steps -/
theorem seg_seg {tb : String → Option Builtin} {p : Program} {w : World} {n₀ : Nat} {ann : Option PySem.Value} {b : Nat} : ∀ {n m : Nat} {s s' : Shared} {t t' : Thread}, segGo tb p w n₀ ann b n s t = some (s', t') →
    segGo tb p w n₀ ann b (n + m) s t = segGo tb p w n₀ ann b m s' t'
  | 0, m, s, s', t, t', h => by
    obtain ⟨rfl, rfl⟩ : s = s' ∧ t = t' := by simpa [segGo] using h
    rw [Nat.zero_add]
  | n + 1, m, s, s', t, t', h => by
    rw [show n + 1 + m = n + m + 1 by omega]
    unfold segGo at h
    rw [segGo]
    cases he : endAt b t with
    | some f => rw [he] at h; cases h
    | none =>
      rw [he] at h
      cases hk : stepOk n₀ ann t with
      | false => rw [hk] at h; cases h
      | true =>
        rw [hk] at h
        cases hs : step (denote tb) p w s t with
        | halt o s₂ => rw [hs] at h; cases h
        | go s₂ t₂ => rw [hs] at h; exact seg_seg h
noncomputable def Go {α : Type} (w : World) (m : Sem α) (s : Shared) (a : α) (s' : Shared) (c : Nat) : Prop := ∀ (K : α → Sem PySem.Fin) (H : PySem.Value → Sem PySem.Fin) (gd : Bool → Bool) (lv : List PySem.Value → List PySem.Value) (pos : Pos),
  ∃ pos', segGo treeTable pw w 11 annH 1 c s ⟨m.wrap K H gd lv, cH, pos, BH⟩ = some (s', ⟨K a, cH, pos', BH⟩)
section
variable {α β : Type} {w : World} {s s' s'' : Shared} {c c' : Nat} {a : α} {b : β} {m : Sem α} {f : α → Sem β}
theorem Go.pure : Go w (.pure a) s a s 0 := fun _ _ _ _ pos => ⟨pos, rfl⟩
theorem Go.bind (x : Go w m s a s' c) (y : Go w (f a) s' b s'' c') : Go w (m.bind f) s b s'' (c + c') := fun K H gd lv pos => by
  rw [Sem.bind_eq_wrap, Sem.wrap_wrap]
  obtain ⟨p1, e1⟩ := x (fun a => (f a).wrap K H gd lv) (fun e => (Sem.raise e : Sem β).wrap K H gd lv) (fun g => gd (id g)) (fun l => lv (id l)) pos
  obtain ⟨p2, e2⟩ := y K H gd lv p1
  exact ⟨p2, (seg_seg e1).trans e2⟩
theorem Go.keep {vs : List PySem.Value} (x : Go w m s a s' c) : Go w (m.keep vs) s a s' c := fun K H gd lv pos => by
  rw [Sem.keep_eq_wrap, Sem.wrap_wrap]
  exact x (fun a => (Sem.pure a : Sem α).wrap K H gd lv) (fun e => (Sem.raise e : Sem α).wrap K H gd lv) _ _ pos
theorem Go.holding {vs : List PySem.Value} (x : Go w m s a s' c) : Go w (holding vs m) s a s' c := by
  unfold PySem.holding
  split
  · exact x
  · exact x.keep
theorem Go.onRaise {h : PySem.Value → Sem Unit} (x : Go w m s a s' c) : Go w (m.onRaise h) s a s' c := fun K H gd lv pos => by
  rw [Sem.onRaise_eq_wrap, Sem.wrap_wrap]
  exact x (fun a => (Sem.pure a : Sem α).wrap K H gd lv) (fun e => ((h e).bind fun _ => (Sem.raise e : Sem α)).wrap K H gd lv) _ _ pos
theorem go_step {n : Nat} {s s2 : Shared} {t t2 : Thread} (h1 : endAt 1 t = none) (h2 : stepOk 11 annH t = true) (h3 : step (denote treeTable) pw w s t = .go s2 t2) :
    segGo treeTable pw w 11 annH 1 (n + 1) s t = segGo treeTable pw w 11 annH 1 n s2 t2 := by
  rw [segGo]; simp only [h1, h2, h3]
theorem Go.load {x : Addr} {p : Option PySem.Value} {k : Obj → Sem α} {o : Obj} (e : s.heap.get? x = some o) (y : Go w (k o) s a s' c) : Go w (.load x p k) s a s' (c + 1) := fun K H gd lv pos => by
  obtain ⟨p2, e2⟩ := y K H gd lv pos
  refine ⟨p2, (go_step (t2 := ⟨(k o).wrap K H gd lv, cH, pos, BH⟩) rfl rfl ?_).trans e2⟩
  obtain ⟨h, g, d, tk, os⟩ := s
  have e : h.get? x = some o := e
  show (step (denote treeTable) pw w ⟨h, g, d, tk, os⟩ ⟨.load x p fun o => (k o).wrap K H gd lv, cH, pos, BH⟩) = _
  simp only [step, e]
theorem Go.update {x : Addr} {p : Option PySem.Value} {k : Unit → Sem α} {f : Obj → Obj} {h : Heap} {g : Array GenState} {d : Drawn} {tk : Nat} {os : OsState} {o : Obj} (hx : Nat.ble 11 x = true) (e : h.get? x = some o) (y : Go w (k ()) ⟨h.update x f, g, d, tk, os⟩ a s' c) :
    Go w (.update x p f k) ⟨h, g, d, tk, os⟩ a s' (c + 1) := fun K H gd lv pos => by
  obtain ⟨p2, e2⟩ := y K H gd lv pos
  refine ⟨p2, (go_step (t2 := ⟨(k ()).wrap K H gd lv, cH, pos, BH⟩) rfl ?_ ?_).trans e2⟩
  · show (_ && (Nat.ble 11 x || _ || _ || _)) = true
    rw [hx]; rfl
  · show (step (denote treeTable) pw w ⟨h, g, d, tk, os⟩ ⟨.update x p f fun o => (k o).wrap K H gd lv, cH, pos, BH⟩) = _
    simp only [step, e, Option.isSome_some, if_true]
theorem Go.alloc {k : Addr → Sem α} {h : Heap} {g : Array GenState} {d : Drawn} {tk : Nat} {os : OsState} {o : Obj} (y : Go w (k h.objs.size) ⟨h.push o, g, d, tk, os⟩ a s' c) :
    Go w (.alloc o k) ⟨h, g, d, tk, os⟩ a s' (c + 1) := fun K H gd lv pos => by
  obtain ⟨p2, e2⟩ := y K H gd lv pos
  exact ⟨p2, (go_step (t2 := ⟨(k h.objs.size).wrap K H gd lv, cH, pos, BH⟩) rfl rfl rfl).trans e2⟩
theorem Go.fresh {k : Tok → Sem α} {h : Heap} {g : Array GenState} {d : Drawn} {tk : Nat} {os : OsState} (y : Go w (k tk) ⟨h, g, d, tk + 1, os⟩ a s' c) :
    Go w (.fresh k) ⟨h, g, d, tk, os⟩ a s' (c + 1) := fun K H gd lv pos => by
  obtain ⟨p2, e2⟩ := y K H gd lv pos
  exact ⟨p2, (go_step (t2 := ⟨(k tk).wrap K H gd lv, cH, pos, BH⟩) rfl rfl rfl).trans e2⟩
theorem Go.at {k : Unit → Sem α} {p : Pos} (y : Go w (k ()) s a s' c) : Go w (.at p k) s a s' (c + 1) := fun K H gd lv pos => by
  obtain ⟨p2, e2⟩ := y K H gd lv p
  exact ⟨p2, (go_step (t2 := ⟨(k ()).wrap K H gd lv, cH, p, BH⟩) rfl rfl rfl).trans e2⟩
theorem Go.rule {k : Unit → Sem α} {p : String} (y : Go w (k ()) s a s' c) : Go w (.rule p k) s a s' (c + 1) := fun K H gd lv pos => by
  obtain ⟨p2, e2⟩ := y K H gd lv pos
  exact ⟨p2, (go_step (t2 := ⟨(k ()).wrap K H gd lv, cH, pos, BH⟩) rfl rfl rfl).trans e2⟩
end
theorem reduced_small {i : Int} (h0 : 0 ≤ i) (h1 : i < 2 ^ 63) : pyHashByItsType.reduced i = .pure i := by
  unfold pyHashByItsType.reduced
  have a1 : decide (-(2 ^ 63 : Int) ≤ i) = true := decide_eq_true (by omega)
  have a2 : decide (i < 2 ^ 63) = true := decide_eq_true h1
  have a3 : (i == -1) = false := by rw [beq_eq_false_iff_ne]; omega
  simp only [a1, a2, a3, Bool.and_self, if_true, Bool.false_eq_true, if_false]
  rfl
noncomputable def hInt (x : Int) : Int :=
  let h : Int := x.natAbs % (2 ^ 61 - 1 : Nat)
  let h := if x < 0 then -h else h
  if h == -1 then -2 else h
theorem hInt_small {i : Int} (h0 : 0 ≤ i) (h1 : i < 2 ^ 60) : hInt i = i := by
  unfold hInt
  have a1 : ((i.natAbs % (2 ^ 61 - 1 : Nat) : Nat) : Int) = i := by
    rw [Nat.mod_eq_of_lt (by omega)]; omega
  have a3 : (i == -1) = false := by rw [beq_eq_false_iff_ne]; omega
  have a4 : ¬ i < 0 := by omega
  simp only [a4, if_false]
  show (if (((i.natAbs % (2 ^ 61 - 1 : Nat) : Nat) : Int) == -1) = true then -2 else ((i.natAbs % (2 ^ 61 - 1 : Nat) : Nat) : Int)) = i
  rw [a1, a3]; rfl
theorem hash_t (w : World) (i : Int) (t : Nat) (h : Heap) (g : Array GenState) (d : Drawn) (tk : Nat) (os : OsState) (K : Int → Sem PySem.Fin) (H : PySem.Value → Sem PySem.Fin) (gd : Bool → Bool) (lv : List PySem.Value → List PySem.Value) (pos : Pos) :
    segGo treeTable pw (w.withFollow "special-get-raises" true) 11 annH 1 5 ⟨h, g, d, tk, os⟩ ⟨(pyHash (.int i t)).wrap K H gd lv, cH, pos, BH⟩ = some (⟨h, g, d, tk + 1, os⟩, ⟨(pyHashByItsType.reduced (hInt i)).wrap K H gd lv, cH, pos, BH⟩) := by kernel_rfl
theorem hash_f (w : World) (i : Int) (t : Nat) (h : Heap) (g : Array GenState) (d : Drawn) (tk : Nat) (os : OsState) (K : Int → Sem PySem.Fin) (H : PySem.Value → Sem PySem.Fin) (gd : Bool → Bool) (lv : List PySem.Value → List PySem.Value) (pos : Pos) :
    segGo treeTable pw (w.withFollow "special-get-raises" false) 11 annH 1 5 ⟨h, g, d, tk, os⟩ ⟨(pyHash (.int i t)).wrap K H gd lv, cH, pos, BH⟩ = some (⟨h, g, d, tk + 1, os⟩, ⟨(pyHashByItsType.reduced (hInt i)).wrap K H gd lv, cH, pos, BH⟩) := by kernel_rfl
theorem Go.hash {w : World} {i : Int} {t : Nat} {h : Heap} {g : Array GenState} {d : Drawn} {tk : Nat} {os : OsState} (h0 : 0 ≤ i) (h1 : i < 2 ^ 60) : Go w (pyHash (.int i t)) ⟨h, g, d, tk, os⟩ i ⟨h, g, d, tk + 1, os⟩ 5 := by
  refine byRow2 "special-get-raises" (P := fun w => Go w (pyHash (.int i t)) ⟨h, g, d, tk, os⟩ i ⟨h, g, d, tk + 1, os⟩ 5) (fun w K H gd lv pos => ⟨pos, ?_⟩) (fun w K H gd lv pos => ⟨pos, ?_⟩) w
  · have z := hash_f w i t h g d tk os K H gd lv pos
    rw [hInt_small h0 h1, reduced_small h0 (by omega)] at z; exact z
  · have z := hash_t w i t h g d tk os K H gd lv pos
    rw [hInt_small h0 h1, reduced_small h0 (by omega)] at z; exact z
end Mine
end
-- part HeadK
section
set_option maxHeartbeats 400000
namespace Mine
/-! dicts with whole-number keys, none twice -/
noncomputable def dO (es : List DictEntry) : Obj := ⟨.type "dict", .none, .dict ⟨es⟩ es.length, ⟨[]⟩⟩
theorem places_nil {es : List DictEntry} {h : Int} (no : ∀ e ∈ es, e.hash ≠ h) : placesWithHash (Array.mk es).size (fun i => Option.map (fun x => x.hash) (Array.mk es)[i]?) h = [] := by
  unfold placesWithHash
  rw [List.filter_eq_nil_iff]
  intro i _ q
  have q := beq_iff_eq.mp q
  rw [Option.map_eq_some_iff] at q
  obtain ⟨e, he, hh⟩ := q
  have he : es.toArray[i]? = some e := he
  rw [List.getElem?_toArray] at he
  exact no e (List.mem_of_getElem? he) hh
variable {w : World} {h : Heap} {g : Array GenState} {dr : Drawn} {tk : Nat} {os : OsState} {d : Addr} {es : List DictEntry} {i : Int} {t : Nat}
theorem Go.find {s : Shared} (e : s.heap.get? d = some (dO es)) (no : ∀ x ∈ es, x.hash ≠ i) : Go w (dictFind d (.int i t) i) s none s 1 := by
  unfold dictFind
  refine Go.holding ?_
  refine Go.load e ?_
  have p := places_nil no
  dsimp only [dO, bind, Pure.pure, Sem.bind]
  simp only [p]
  exact Go.pure
/-- a heap by one of its objects: those before, it, those behind -/
noncomputable def hp (base : List Obj) (x : Obj) (subs : List Obj) (l : Life) : Heap := ⟨⟨base ++ x :: subs⟩, l⟩
variable {base subs : List Obj} {l : Life} {x : Obj}
theorem hp_at (a : Nat) (ha : a = base.length) : (hp base x subs l).objs[a]? = some x := by
  subst ha
  show (List.toArray (base ++ x :: subs))[base.length]? = some x
  rw [List.getElem?_toArray]; simp
theorem hp_get (a : Nat) (ha : a = base.length) : (hp base (dO es) subs l).get? a = some (dO es) := by
  unfold Heap.get?
  rw [hp_at a ha]; rfl
theorem hp_update (a : Nat) (ha : a = base.length) (f : Obj → Obj) : (hp base x subs l).update a f = hp base (f x) subs l := by
  subst ha
  show Heap.mk ((List.toArray (base ++ x :: subs)).modify base.length f) l = Heap.mk (List.toArray (base ++ f x :: subs)) l
  congr 1
  rw [← Array.toList_inj, Array.toList_modify]
  show (base ++ x :: subs).modify base.length f = base ++ f x :: subs
  induction base with
  | nil => rfl
  | cons b r ih => simpa using ih
theorem hp_push (o : Obj) : (hp base x subs l).push o = hp base x (subs ++ [o]) l := by
  show Heap.mk ((List.toArray (base ++ x :: subs)).push o) l = Heap.mk (List.toArray (base ++ x :: (subs ++ [o]))) l
  congr 1
  simp
theorem hp_size : (hp base x subs l).objs.size = base.length + 1 + subs.length := by
  show (List.toArray (base ++ x :: subs)).size = _
  simp; omega
theorem dO_more (e : DictEntry) : Obj.mapDictKeys (fun a => a.push e) (dO es) = dO (es ++ [e]) := by
  show Obj.mk _ _ (.dict ((List.toArray es).push e) (es.length + 1)) _ = Obj.mk _ _ (.dict (List.toArray (es ++ [e])) (es ++ [e]).length) _
  simp
theorem past_line (sz : es.length < 1000) : (dO es).data.pastItsLine = none := by
  show (if (List.toArray es).size > sizeLine + 1 then some "dict:memory" else none) = none
  rw [List.size_toArray, if_neg]
  unfold sizeLine; omega
theorem Go.more {e : DictEntry} {p : Option PySem.Value} (ha : d = base.length) (hd : Nat.ble 11 d = true) (sz : es.length < 900) :
    Go w (updateDictKeys d (fun a => a.push e) p) ⟨hp base (dO es) subs l, g, dr, tk, os⟩ () ⟨hp base (dO (es ++ [e])) subs l, g, dr, tk, os⟩ 3 := by
  refine Go.load (c := 2) (hp_get d ha) ?_
  refine Go.update (c := 1) hd (hp_get d ha) ?_
  rw [hp_update d ha, dO_more]
  refine Go.load (c := 0) (hp_get d ha) ?_
  show Go w (match (dO (es ++ [e])).data.pastItsLine with | some what => unsupported what | _ => Sem.pure ()) _ _ _ 0
  rw [past_line (es := es ++ [e]) (by simp; omega)]
  exact Go.pure
theorem Go.setHashed {v : PySem.Value} (ha : d = base.length) (hd : Nat.ble 11 d = true) (no : ∀ x ∈ es, x.hash ≠ i) (sz : es.length < 900) :
    Go w (dictSetHashed d (.int i t) i v) ⟨hp base (dO es) subs l, g, dr, tk, os⟩ () ⟨hp base (dO (es ++ [⟨i, .int i t, v⟩])) subs l, g, dr, tk, os⟩ 5 := by
  unfold dictSetHashed
  refine Go.holding ?_
  refine Go.bind (c := 1) (c' := 4) (Go.find (hp_get d ha) no) ?_
  refine Go.rule (c := 3) ?_
  exact Go.more ha hd sz
theorem Go.set {v : PySem.Value} (ha : d = base.length) (hd : Nat.ble 11 d = true) (no : ∀ x ∈ es, x.hash ≠ i) (sz : es.length < 900) (h0 : 0 ≤ i) (h1 : i < 2 ^ 60) :
    Go w (dictSet d (.int i t) v) ⟨hp base (dO es) subs l, g, dr, tk, os⟩ () ⟨hp base (dO (es ++ [⟨i, .int i t, v⟩])) subs l, g, dr, tk + 1, os⟩ 10 := by
  unfold dictSet
  exact Go.holding (Go.bind (c := 5) (c' := 5) (Go.hash h0 h1) (Go.setHashed ha hd no sz))
theorem Go.put {v : PySem.Value} (ha : d = base.length) (hd : Nat.ble 11 d = true) (no : ∀ x ∈ es, x.hash ≠ i) (sz : es.length < 900) :
    Go w (dictPut d i (.int i t) v) ⟨hp base (dO es) subs l, g, dr, tk, os⟩ () ⟨hp base (dO (es ++ [⟨i, .int i t, v⟩])) subs l, g, dr, tk, os⟩ 4 := by
  unfold dictPut
  exact Go.bind (c := 1) (c' := 3) (Go.find (hp_get d ha) no) (Go.more ha hd sz)
end Mine
end
-- part HeadL
section
set_option maxHeartbeats 400000
namespace Mine
/-! one dict of a display's chunk -/
noncomputable def entL : List (Int × Str) → Nat → List DictEntry
  | [], _ => []
  | x :: r, k => ⟨x.1, .int x.1 k, .str x.2 (k + 1)⟩ :: entL r (k + 3)
noncomputable def entS : List (Int × Str) → Nat → List DictEntry
  | [], _ => []
  | x :: r, k => ⟨x.1, .int x.1 k, .str x.2 (k + 1)⟩ :: entS r (k + 2)
noncomputable def OkL (L : List (Int × Str)) : Prop := (∀ x ∈ L, 0 ≤ x.1 ∧ x.1 < 2 ^ 60) ∧ (L.map (·.1)).Nodup
theorem OkL.tail {x : Int × Str} {L : List (Int × Str)} (h : OkL (x :: L)) : OkL L := ⟨fun y hy => h.1 y (.tail _ hy), (List.nodup_cons.mp h.2).2⟩
/-- no pair ahead has a key of the list -/
noncomputable def Ahead (es : List DictEntry) (L : List (Int × Str)) : Prop := ∀ e ∈ es, ∀ x ∈ L, e.hash ≠ x.1
variable {w : World} {h : Heap} {g : Array GenState} {dr : Drawn} {tk : Nat} {os : OsState} {d : Addr} {es : List DictEntry} {base subs : List Obj} {l : Life} {p : Pos}
theorem Ahead.next {x : Int × Str} {L : List (Int × Str)} {es : List DictEntry} {v : PySem.Value} {t : Nat} (h : OkL (x :: L)) (A : Ahead es (x :: L)) : Ahead (es ++ [⟨x.1, .int x.1 t, v⟩]) L := by
  intro e he y hy
  rcases List.mem_append.mp he with he | he
  · exact A e he y (.tail _ hy)
  · obtain rfl := List.mem_singleton.mp he
    intro q
    exact (List.nodup_cons.mp h.2).1 (List.mem_map.mpr ⟨y, hy, q.symm⟩)
noncomputable abbrev bodyL (d : Addr) : Sem PySem.Value × Sem PySem.Value → PUnit → Sem (ForInStep PUnit) := fun x _ => do
  let kv ← x.1
  let vv ← holding [kv] x.2
  holding [kv, vv] (dictSet d kv vv)
  pure (ForInStep.yield PUnit.unit)
theorem Go.loopL (hb : Nat.ble 11 base.length = true) : ∀ (L : List (Int × Str)) (es : List DictEntry) (tk : Nat), OkL L → Ahead es L → es.length + L.length < 900 →
    Go w (forIn (L.map (pairOf p)) PUnit.unit (bodyL base.length)) ⟨hp base (dO es) subs l, g, dr, tk, os⟩ PUnit.unit ⟨hp base (dO (es ++ entL L tk)) subs l, g, dr, tk + 3 * L.length, os⟩ (13 * L.length)
  | [], es, tk, _, _, _ => by
    rw [List.map_nil, List.forIn_nil, entL, List.append_nil]
    exact Go.pure
  | x :: L, es, tk, ok, A, le => by
    rw [List.map_cons, List.forIn_cons]
    have ih := Go.loopL hb L (es ++ [⟨x.1, .int x.1 tk, .str x.2 (tk + 1)⟩]) (tk + 3) ok.tail (A.next ok) (by simp at le ⊢; omega)
    rw [List.append_assoc] at ih
    have e1 : tk + 3 * (x :: L).length = tk + 3 + 3 * L.length := by rw [List.length_cons]; omega
    have e2 : 13 * (x :: L).length = 13 + 13 * L.length := by rw [List.length_cons]; omega
    rw [e1, e2]
    refine Go.bind (c := 13) (a := ForInStep.yield PUnit.unit) (s' := ⟨hp base (dO (es ++ [⟨x.1, .int x.1 tk, .str x.2 (tk + 1)⟩])) subs l, g, dr, tk + 3, os⟩) ?_ ih
    refine Go.fresh (c := 12) ?_
    refine Go.fresh (c := 11) ?_
    refine Go.at (c := 10) ?_
    dsimp only [bind, Sem.bind, Pure.pure]
    refine Go.bind (c := 10) (c' := 0) (a := ()) (Go.holding (Go.set rfl hb (fun e he => A e he x (.head _)) (by simp at le; omega) (ok.1 x (.head _)).1 (ok.1 x (.head _)).2)) Go.pure
theorem Go.subLong (L : List (Int × Str)) (hl : 15 < L.length) (le : L.length < 900) (ok : OkL L) (hb : Nat.ble 11 base.length = true) :
    Go w (subDict (L.map (pairOf p))) ⟨⟨⟨base⟩, l⟩, g, dr, tk, os⟩ base.length ⟨hp base (dO (entL L tk)) [] l, g, dr, tk + 3 * L.length, os⟩ (13 * L.length + 2) := by
  unfold subDict
  refine Go.alloc (c := 13 * L.length + 1) ?_
  have hs : (Heap.mk (Array.mk base) l).objs.size = base.length := rfl
  have hpu : (Heap.mk (Array.mk base) l).push { cls := .type "dict", data := .dict #[] } = hp base (dO []) [] l := by
    show Heap.mk ((List.toArray base).push (dO [])) l = Heap.mk (List.toArray (base ++ [dO []])) l
    congr 1
    simp
  rw [hs, hpu]
  dsimp only [bind, Sem.bind, Pure.pure]
  refine Go.bind (a := ()) (c := 13 * L.length + 1) (c' := 0) (Go.holding ?_) Go.pure
  rw [if_neg (by rw [List.length_map]; omega)]
  refine Go.rule ?_
  have z := Go.loopL (w := w) (g := g) (dr := dr) (os := os) (l := l) (subs := []) (p := p) hb L [] tk ok (fun e he => nomatch he) (by simpa using le)
  dsimp only [bind, Sem.bind, Pure.pure]
  exact Go.bind (a := PUnit.unit) (c := 13 * L.length) (c' := 0) z Go.pure
theorem Go.evalPairs : ∀ (L : List (Int × Str)) (s : Heap) (tk : Nat), Go w (evalPairs (L.map (pairOf p))) ⟨s, g, dr, tk, os⟩ ((entS L tk).map fun e => (e.key, e.val)) ⟨s, g, dr, tk + 2 * L.length, os⟩ (3 * L.length)
  | [], s, tk => Go.pure
  | x :: L, s, tk => by
    have ih := Go.evalPairs L s (tk + 2)
    have e1 : tk + 2 * (x :: L).length = tk + 2 + 2 * L.length := by rw [List.length_cons]; omega
    have e2 : 3 * (x :: L).length = 3 * L.length + 2 + 1 := by rw [List.length_cons]; omega
    rw [e1, e2, List.map_cons]
    unfold PySem.evalPairs
    refine Go.fresh ?_
    refine Go.fresh (c := 3 * L.length + 1) ?_
    refine Go.at (c := 3 * L.length) ?_
    dsimp only [bind, Sem.bind, Pure.pure]
    exact Go.bind (c' := 0) (Go.holding ih) Go.pure
noncomputable abbrev bodyS (d : Addr) : PySem.Value × PySem.Value → PUnit → Sem (ForInStep PUnit) := fun x _ => do
  dictSet d x.1 x.2
  pure (ForInStep.yield PUnit.unit)
theorem Go.loopS (hb : Nat.ble 11 base.length = true) : ∀ (L : List (Int × Str)) (es : List DictEntry) (k tk : Nat), OkL L → Ahead es L → es.length + L.length < 900 →
    Go w (forIn ((entS L k).map fun e => (e.key, e.val)) PUnit.unit (bodyS base.length)) ⟨hp base (dO es) subs l, g, dr, tk, os⟩ PUnit.unit ⟨hp base (dO (es ++ entS L k)) subs l, g, dr, tk + L.length, os⟩ (10 * L.length)
  | [], es, k, tk, _, _, _ => by
    rw [entS, List.map_nil, List.forIn_nil, List.append_nil]
    exact Go.pure
  | x :: L, es, k, tk, ok, A, le => by
    rw [entS, List.map_cons, List.forIn_cons]
    have ih := Go.loopS hb L (es ++ [⟨x.1, .int x.1 k, .str x.2 (k + 1)⟩]) (k + 2) (tk + 1) ok.tail (A.next ok) (by simp at le ⊢; omega)
    rw [List.append_assoc] at ih
    have e1 : tk + (x :: L).length = tk + 1 + L.length := by rw [List.length_cons]; omega
    have e2 : 10 * (x :: L).length = 10 + 10 * L.length := by rw [List.length_cons]; omega
    rw [e1, e2]
    refine Go.bind (c := 10) (a := ForInStep.yield PUnit.unit) (s' := ⟨hp base (dO (es ++ [⟨x.1, .int x.1 k, .str x.2 (k + 1)⟩])) subs l, g, dr, tk + 1, os⟩) ?_ ih
    exact Go.bind (c := 10) (c' := 0) (a := ()) (Go.set rfl hb (fun e he => A e he x (.head _)) (by simp at le; omega) (ok.1 x (.head _)).1 (ok.1 x (.head _)).2) Go.pure
theorem Go.subShort (L : List (Int × Str)) (hl : L.length ≤ 15) (ok : OkL L) (hb : Nat.ble 11 base.length = true) :
    Go w (subDict (L.map (pairOf p))) ⟨⟨⟨base⟩, l⟩, g, dr, tk, os⟩ base.length ⟨hp base (dO (entS L tk)) [] l, g, dr, tk + 3 * L.length, os⟩ (13 * L.length + 1) := by
  unfold subDict
  refine Go.alloc (c := 13 * L.length) ?_
  have hs : (Heap.mk (Array.mk base) l).objs.size = base.length := rfl
  have hpu : (Heap.mk (Array.mk base) l).push { cls := .type "dict", data := .dict #[] } = hp base (dO []) [] l := by
    show Heap.mk ((List.toArray base).push (dO [])) l = Heap.mk (List.toArray (base ++ [dO []])) l
    congr 1
    simp
  rw [hs, hpu]
  dsimp only [bind, Sem.bind, Pure.pure]
  refine Go.bind (a := ()) (c := 13 * L.length) (c' := 0) (Go.holding ?_) Go.pure
  rw [if_pos (by rw [List.length_map]; omega)]
  have z := Go.loopS (w := w) (g := g) (dr := dr) (os := os) (l := l) (subs := []) hb L [] tk (tk + 2 * L.length) ok (fun e he => nomatch he) (by simp; omega)
  rw [show tk + 2 * L.length + L.length = tk + 3 * L.length by omega] at z
  rw [show 13 * L.length = 3 * L.length + 10 * L.length by omega]
  refine Go.bind (c := 3 * L.length) (c' := 10 * L.length) (Go.evalPairs L _ tk) (Go.holding ?_)
  exact Go.bind (a := PUnit.unit) (c := 10 * L.length) (c' := 0) z Go.pure
end Mine
end
-- part HeadM
section
set_option maxHeartbeats 400000
namespace Mine
/-! a chunk's dict merged into the main one -/
theorem dict_iter : typeLookup (.type "dict") "__iter__" = .pure (some (.builtin "dict.__iter__")) := by kernel_rfl
theorem dict_dict : isSubtype (.type "dict") (.type "dict") = .pure true := by kernel_rfl
variable {w : World} {h : Heap} {g : Array GenState} {dr : Drawn} {tk : Nat} {os : OsState} {d a : Addr} {es es' : List DictEntry} {base subs : List Obj} {l : Life} {p : Pos}
theorem hp_sub {x : Obj} {j : Nat} (ha : a = base.length + 1 + j) (hs : subs[j]? = some (dO es')) : (hp base x subs l).get? a = some (dO es') := by
  subst ha
  unfold Heap.get?
  have z : (hp base x subs l).objs[base.length + 1 + j]? = some (dO es') := by
    show (List.toArray (base ++ x :: subs))[base.length + 1 + j]? = _
    rw [List.getElem?_toArray, List.getElem?_append_right (by omega), show base.length + 1 + j - base.length = j + 1 by omega, List.getElem?_cons_succ]
    exact hs
  rw [z]; rfl
noncomputable abbrev bodyM (d a : Addr) (epoch : Nat) : Nat → PUnit → Sem (ForInStep PUnit) := fun i _ => do
  let es ← dictEntries a
  match es[i]? with
  | some e => do
    PySem.holding [e.key, e.val] (if false = true then do
        if (← dictFind d e.key e.hash).isSome = true then do
          PySem.rule "dict.merge.duplicate-key"
          raiseNew (← newExc (.type "KeyError") [e.key])
          dictPut d e.hash e.key e.val
        else dictPut d e.hash e.key e.val
      else dictPut d e.hash e.key e.val)
    if ((← dictEpoch a) != epoch) = true then do
      unsupported "dict.changed-during-merge"
      pure (ForInStep.yield PUnit.unit)
    else pure (ForInStep.yield PUnit.unit)
  | _ => do
    unsupported "dict.changed-during-merge"
    pure (ForInStep.yield PUnit.unit)
/-- pairs with whole-number keys, of other keys than those ahead -/
inductive Keyed : List DictEntry → List DictEntry → Prop
  | nil (xs : List DictEntry) : Keyed xs []
  | cons {xs : List DictEntry} {i : Int} {t : Nat} {v : PySem.Value} {r : List DictEntry} (no : ∀ x ∈ xs, x.hash ≠ i) (k : Keyed (xs ++ [⟨i, .int i t, v⟩]) r) : Keyed xs (⟨i, .int i t, v⟩ :: r)
theorem Go.loopM {j : Nat} (ha : a = base.length + 1 + j) (hs : subs[j]? = some (dO es')) (hb : Nat.ble 11 base.length = true) : ∀ (rest pre es : List DictEntry), es' = pre ++ rest → Keyed es rest → es.length + rest.length < 900 →
    Go w (forIn (List.range' pre.length rest.length) PUnit.unit (bodyM base.length a es'.length)) ⟨hp base (dO es) subs l, g, dr, tk, os⟩ PUnit.unit ⟨hp base (dO (es ++ rest)) subs l, g, dr, tk, os⟩ (6 * rest.length)
  | [], pre, es, _, _, _ => by
    rw [List.length_nil, List.range'_zero, List.forIn_nil, List.append_nil]
    exact Go.pure
  | e :: rest, pre, es, he, K, le => by
    obtain _ | @⟨_, i, t, v, _, no, K⟩ := K
    have hg : ∀ x, (hp base x subs l).get? a = some (dO es') := fun x => hp_sub ha hs
    rw [List.length_cons, List.range'_succ, List.forIn_cons]
    have ih := Go.loopM ha hs hb rest (pre ++ [⟨i, .int i t, v⟩]) (es ++ [⟨i, .int i t, v⟩]) (by rw [he, List.append_assoc]; rfl) K (by simp at le ⊢; omega)
    rw [List.append_assoc, List.length_append, List.length_singleton] at ih
    rw [show 6 * (rest.length + 1) = (5 + 1) + 6 * rest.length by omega]
    refine Go.bind (a := ForInStep.yield PUnit.unit) (s' := ⟨hp base (dO (es ++ [⟨i, .int i t, v⟩])) subs l, g, dr, tk, os⟩) ?_ ih
    refine Go.load (hg _) ?_
    have hi : (Array.mk es')[pre.length]? = some (⟨i, .int i t, v⟩ : DictEntry) := by
      show (List.toArray es')[pre.length]? = _
      rw [List.getElem?_toArray, he, List.getElem?_append_right (Nat.le_refl _), Nat.sub_self]; rfl
    dsimp only [bind, Sem.bind, Pure.pure, dO]
    rw [hi]
    dsimp only
    refine Go.bind (c := 4) (c' := 1) (Go.holding ?_) ?_ (a := ()) (s' := ⟨hp base (dO (es ++ [⟨i, .int i t, v⟩])) subs l, g, dr, tk, os⟩)
    · rw [if_neg (by decide)]
      exact Go.put rfl hb no (by simp at le; omega)
    · refine Go.load (hg _) ?_
      dsimp only [bind, Sem.bind, Pure.pure, dO]
      rw [if_neg (by simp)]
      exact Go.pure
theorem Go.merge {j : Nat} (ha : a = base.length + 1 + j) (hs : subs[j]? = some (dO es')) (hb : Nat.ble 11 base.length = true) (K : Keyed es es') (le : es.length + es'.length < 900) (ne : es ≠ []) :
    Go w (mergeMapping base.length (.ref a) false) ⟨hp base (dO es) subs l, g, dr, tk, os⟩ () ⟨hp base (dO (es ++ es')) subs l, g, dr, tk, os⟩ (6 * es'.length + 5) := by
  unfold mergeMapping
  have hg : ∀ x, (hp base x subs l).get? a = some (dO es') := fun x => hp_sub ha hs
  unfold isInstance specialOf
  refine Go.load (hg _) ?_
  dsimp only [bind, Sem.bind, Pure.pure, dO]
  rw [dict_dict]
  dsimp only [bind, Sem.bind, Pure.pure, dO]
  rw [if_pos rfl]
  refine Go.load (hg _) ?_
  dsimp only [bind, Sem.bind, Pure.pure, dO]
  rw [dict_iter]
  dsimp only [bind, Sem.bind, Pure.pure, dO]
  rw [show ((some (PySem.Value.builtin "dict.__iter__")) == some (PySem.Value.builtin "dict.__iter__")) = true from by rfl]
  change Go w (ite ((a == sysModules) = true) _ _) _ _ _ _
  have e2 : ¬ ((a == sysModules) = true) := by
    rw [beq_iff_eq]; subst ha
    have := Nat.le_of_ble_eq_true hb
    show ¬ (base.length + 1 + j = (1 : Nat))
    omega
  rw [if_neg e2]
  refine Go.load (hp_get base.length rfl) ?_
  dsimp only [bind, Sem.bind, Pure.pure, dO]
  have e3 : ¬ ((Array.mk es).isEmpty = true) := by
    cases es with
    | nil => exact absurd rfl ne
    | cons x r => simp
  rw [if_neg e3]
  refine Go.load (hg _) ?_
  dsimp only [bind, Sem.bind, Pure.pure, dO]
  refine Go.load (hg _) ?_
  have z := Go.loopM (w := w) (g := g) (dr := dr) (tk := tk) (os := os) (l := l) ha hs hb es' [] es rfl K le
  have e4 : List.range (Array.mk es').size = List.range' ([] : List DictEntry).length es'.length := by
    rw [List.range_eq_range']; rfl
  dsimp only [bind, Sem.bind, Pure.pure, dO]
  rw [e4]
  exact Go.bind (a := PUnit.unit) (c' := 0) z Go.pure
end Mine
end
-- part HeadN
section
set_option maxHeartbeats 400000
namespace Mine
/-! the whole display: chunks of 17 pairs, each but the first merged into the first, and a short rest -/
variable {w : World} {h : Heap} {g : Array GenState} {dr : Drawn} {tk : Nat} {os : OsState} {d a : Addr} {es es' : List DictEntry} {base subs : List Obj} {l : Life} {p : Pos}
noncomputable def entC : List (List (Int × Str)) → Nat → List DictEntry
  | [], _ => []
  | c :: r, k => entL c k ++ entC r (k + 51)
noncomputable def subC : List (List (Int × Str)) → Nat → List Obj
  | [], _ => []
  | c :: r, k => dO (entL c k) :: subC r (k + 51)
theorem entL_length : ∀ (L : List (Int × Str)) (k : Nat), (entL L k).length = L.length
  | [], _ => rfl
  | x :: L, k => by rw [entL, List.length_cons, List.length_cons, entL_length L]
theorem entS_length : ∀ (L : List (Int × Str)) (k : Nat), (entS L k).length = L.length
  | [], _ => rfl
  | x :: L, k => by rw [entS, List.length_cons, List.length_cons, entS_length L]
theorem keyedL : ∀ (L : List (Int × Str)) (k : Nat) (es : List DictEntry), OkL L → Ahead es L → Keyed es (entL L k)
  | [], _, _, _, _ => .nil _
  | x :: L, k, es, ok, A => .cons (fun e he => A e he x (.head _)) (keyedL L (k + 3) _ ok.tail (A.next ok))
theorem keyedS : ∀ (L : List (Int × Str)) (k : Nat) (es : List DictEntry), OkL L → Ahead es L → Keyed es (entS L k)
  | [], _, _, _, _ => .nil _
  | x :: L, k, es, ok, A => .cons (fun e he => A e he x (.head _)) (keyedS L (k + 2) _ ok.tail (A.next ok))
theorem hash_entL (L : List (Int × Str)) : ∀ {k : Nat} {e : DictEntry}, e ∈ entL L k → ∃ x ∈ L, e.hash = x.1 := by
  induction L with
  | nil => intro k e he; exact absurd he List.not_mem_nil
  | cons x L ih =>
    intro k e he
    rcases List.mem_cons.mp he with h | h
    · exact ⟨x, .head _, by rw [h]⟩
    · exact (ih h).elim fun y q => ⟨y, .tail _ q.1, q.2⟩
theorem OkL.left {A B : List (Int × Str)} (h : OkL (A ++ B)) : OkL A := ⟨fun x hx => h.1 x (List.mem_append_left _ hx), by have z := h.2; rw [List.map_append] at z; exact (List.nodup_append.mp z).1⟩
theorem OkL.right {A B : List (Int × Str)} (h : OkL (A ++ B)) : OkL B := ⟨fun x hx => h.1 x (List.mem_append_right _ hx), by have z := h.2; rw [List.map_append] at z; exact (List.nodup_append.mp z).2.1⟩
theorem OkL.part {A B : List (Int × Str)} (h : OkL (A ++ B)) : ∀ x ∈ A, ∀ y ∈ B, x.1 ≠ y.1 := fun x hx y hy => by
  have z := h.2; rw [List.map_append] at z
  exact (List.nodup_append.mp z).2.2 x.1 (List.mem_map.mpr ⟨x, hx, rfl⟩) y.1 (List.mem_map.mpr ⟨y, hy, rfl⟩)
theorem ahead_more {A B : List (Int × Str)} {es : List DictEntry} {k : Nat} (ok : OkL (A ++ B)) (H : Ahead es (A ++ B)) : Ahead (es ++ entL A k) B := fun e he y hy => by
  rcases List.mem_append.mp he with he | he
  · exact H e he y (List.mem_append_right _ hy)
  · obtain ⟨x, hx, q⟩ := hash_entL A he
    rw [q]; exact ok.part x hx y hy
noncomputable abbrev itemOf (p : Pos) (x : Int × Str) : Option (Sem PySem.Value) × Sem PySem.Value := (some (pairOf p x).1, (pairOf p x).2)
section
variable {fl : List (Sem PySem.Value × Sem PySem.Value) → Option Addr → Sem (Option Addr)} {body : Option (Sem PySem.Value) × Sem PySem.Value → Option Addr × List (Sem PySem.Value × Sem PySem.Value) → Sem (ForInStep (Option Addr × List (Sem PySem.Value × Sem PySem.Value)))}
structure Flushes (fl : List (Sem PySem.Value × Sem PySem.Value) → Option Addr → Sem (Option Addr)) (body : Option (Sem PySem.Value) × Sem PySem.Value → Option Addr × List (Sem PySem.Value × Sem PySem.Value) → Sem (ForInStep (Option Addr × List (Sem PySem.Value × Sem PySem.Value)))) : Prop where
  first : ∀ run, run ≠ [] → fl run none = (subDict run).bind fun d => .pure (some d)
  then_ : ∀ run d, run ≠ [] → ∃ hd, fl run (some d) = (holding [.ref d] (subDict run)).bind fun sub => ((holding [.ref d, .ref sub] (mergeMapping d (.ref sub) false)).onRaise hd).bind fun _ => .pure (some d)
  on : ∀ k v main run, (run ++ [(k, v)]).length ≠ 17 → body (some k, v) (main, run) = .pure (.yield (main, run ++ [(k, v)]))
  full : ∀ k v main run, (run ++ [(k, v)]).length = 17 → body (some k, v) (main, run) = (fl (run ++ [(k, v)]) main).bind fun m => .pure (.yield (m, []))
theorem Flushes.chunk (F : Flushes fl body) {main : Option Addr} {rest : List (Int × Str)} : ∀ (c : List (Int × Str)) (run : List (Sem PySem.Value × Sem PySem.Value)), c ≠ [] → run.length + c.length = 17 →
    forIn ((c ++ rest).map (itemOf p)) (main, run) body = (fl (run ++ c.map (pairOf p)) main).bind fun m => forIn (rest.map (itemOf p)) (m, []) body
  | [], _, h, _ => absurd rfl h
  | x :: c, run, _, hl => by
    rw [List.cons_append, List.map_cons, List.forIn_cons]
    by_cases hc : c = []
    · subst hc
      rw [F.full _ _ _ _ (by simpa using hl)]
      show Sem.bind (Sem.bind _ _) _ = _
      rw [Sem.bind_assoc]
      rfl
    · have hl' : run.length + 1 + c.length = 17 := by rw [List.length_cons] at hl; omega
      have : c.length ≠ 0 := fun q => hc (List.length_eq_zero_iff.mp q)
      rw [F.on _ _ _ _ (by rw [List.length_append, List.length_singleton]; omega)]
      show forIn ((c ++ rest).map (itemOf p)) (main, run ++ [pairOf p x]) body = _
      rw [F.chunk c (run ++ [pairOf p x]) hc (by rw [List.length_append, List.length_singleton]; exact hl')]
      simp
theorem Flushes.short (F : Flushes fl body) {main : Option Addr} : ∀ (c : List (Int × Str)) (run : List (Sem PySem.Value × Sem PySem.Value)), run.length + c.length < 17 →
    forIn (c.map (itemOf p)) (main, run) body = .pure (main, run ++ c.map (pairOf p))
  | [], run, _ => by simp; rfl
  | x :: c, run, hl => by
    rw [List.map_cons, List.forIn_cons]
    have hl' : run.length + 1 + c.length < 17 := by rw [List.length_cons] at hl; omega
    rw [F.on _ _ _ _ (by rw [List.length_append, List.length_singleton]; omega)]
    show forIn (c.map (itemOf p)) (main, run ++ [pairOf p x]) body = _
    rw [F.short c (run ++ [pairOf p x]) (by rw [List.length_append, List.length_singleton]; exact hl')]
    simp
theorem hp_more {x o : Obj} : hp (base ++ x :: subs) o [] l = hp base x (subs ++ [o]) l := by
  show Heap.mk (Array.mk ((base ++ x :: subs) ++ o :: [])) l = Heap.mk (Array.mk (base ++ x :: (subs ++ [o]))) l
  congr 2
  simp
theorem Go.flush (F : Flushes fl body) (c : List (Int × Str)) (hl : c.length = 17) (ok : OkL c) (A : Ahead es c) (ne : es ≠ []) (le : es.length + 17 < 900) (hb : Nat.ble 11 base.length = true) :
    Go w (fl (c.map (pairOf p)) (some base.length)) ⟨hp base (dO es) subs l, g, dr, tk, os⟩ (some base.length) ⟨hp base (dO (es ++ entL c tk)) (subs ++ [dO (entL c tk)]) l, g, dr, tk + 51, os⟩ 330 := by
  obtain ⟨hd, e⟩ := F.then_ (c.map (pairOf p)) base.length (by intro q; have := congrArg List.length q; simp at this; rw [this] at hl; simp at hl)
  rw [e]
  have z := Go.subLong (w := w) (g := g) (dr := dr) (tk := tk) (os := os) (l := l) (p := p) (base := base ++ dO es :: subs) c (by omega) (by omega) ok (Nat.ble_eq_true_of_le (by have := Nat.le_of_ble_eq_true hb; simp; omega))
  rw [hp_more, hl] at z
  have y := Go.merge (w := w) (g := g) (dr := dr) (tk := tk + 51) (os := os) (l := l) (base := base) (es := es) (es' := entL c tk) (subs := subs ++ [dO (entL c tk)]) (j := subs.length) (a := base.length + 1 + subs.length) rfl (by simp) hb (keyedL c tk es ok A) (by rw [entL_length, hl]; exact le) ne
  rw [entL_length, hl] at y
  have ez : (base ++ dO es :: subs).length = base.length + 1 + subs.length := by simp; omega
  rw [ez] at z
  exact Go.bind (c := 223) (c' := 107) (Go.holding z) (Go.bind (c := 107) (c' := 0) (a := ()) (Go.onRaise (Go.holding y)) Go.pure)
theorem Go.chunks (F : Flushes fl body) (hb : Nat.ble 11 base.length = true) (R : List (Int × Str)) (hR : R.length < 17) : ∀ (C : List (List (Int × Str))) (es : List DictEntry) (subs : List Obj) (tk : Nat), (∀ c ∈ C, c.length = 17) → OkL (C.flatten ++ R) → Ahead es (C.flatten ++ R) → es ≠ [] → es.length + 17 * C.length < 900 →
    Go w (forIn ((C.flatten ++ R).map (itemOf p)) (some base.length, []) body) ⟨hp base (dO es) subs l, g, dr, tk, os⟩ (some base.length, R.map (pairOf p)) ⟨hp base (dO (es ++ entC C tk)) (subs ++ subC C tk) l, g, dr, tk + 51 * C.length, os⟩ (330 * C.length)
  | [], es, subs, tk, _, ok, A, ne, le => by
    rw [List.flatten_nil, List.nil_append, F.short R [] (by simpa using hR), entC, subC, List.append_nil, List.append_nil, List.nil_append]
    exact Go.pure
  | c :: C, es, subs, tk, h17, ok, A, ne, le => by
    have hc := h17 c (.head _)
    have e : (c :: C).flatten ++ R = c ++ (C.flatten ++ R) := by simp
    rw [e] at ok A ⊢
    rw [List.length_cons] at le
    rw [F.chunk c [] (by rintro rfl; simp at hc) (by simpa using hc), List.nil_append]
    have x := Go.flush (w := w) (g := g) (dr := dr) (tk := tk) (os := os) (l := l) (p := p) (subs := subs) F c hc ok.left (fun e he y hy => A e he y (List.mem_append_left _ hy)) ne (by omega) hb
    have y := Go.chunks F hb R hR C (es ++ entL c tk) (subs ++ [dO (entL c tk)]) (tk + 51) (fun c' h' => h17 c' (.tail _ h')) ok.right (ahead_more ok A) (by simp [ne]) (by rw [List.length_append, entL_length, hc]; omega)
    rw [List.append_assoc, List.append_assoc] at y
    rw [show tk + 51 * (c :: C).length = tk + 51 + 51 * C.length by rw [List.length_cons]; omega, show 330 * (c :: C).length = 330 + 330 * C.length by rw [List.length_cons]; omega]
    exact Go.bind x y
end
end Mine
end
-- part HeadO
section
set_option maxHeartbeats 400000
namespace Mine
variable {w : World} {g : Array GenState} {dr : Drawn} {tk : Nat} {os : OsState} {base : List Obj} {l : Life} {p : Pos}
theorem Go.displayOf {fl : List (Sem PySem.Value × Sem PySem.Value) → Option Addr → Sem (Option Addr)} {body : Option (Sem PySem.Value) × Sem PySem.Value → Option Addr × List (Sem PySem.Value × Sem PySem.Value) → Sem (ForInStep (Option Addr × List (Sem PySem.Value × Sem PySem.Value)))}
    (F : Flushes fl body) {tail : Option Addr → Sem PySem.Value} (ht : ∀ d, tail (some d) = .pure (.ref d)) (hb : Nat.ble 11 base.length = true) (c : List (Int × Str)) (C : List (List (Int × Str))) (R : List (Int × Str)) (hR : R.length ≤ 15) (hR0 : R ≠ []) (hc : c.length = 17) (hC : ∀ c ∈ C, c.length = 17)
    (ok : OkL (c ++ (C.flatten ++ R))) (le : 17 + 17 * C.length + 17 < 900) :
    Go w ((forIn ((c ++ (C.flatten ++ R)).map (itemOf p)) (none, []) body).bind fun s => (fl s.2 s.1).bind tail) ⟨⟨⟨base⟩, l⟩, g, dr, tk, os⟩ (.ref base.length)
      ⟨hp base (dO ((entL c tk ++ entC C (tk + 51)) ++ entS R (tk + 51 + 51 * C.length))) (subC C (tk + 51) ++ [dO (entS R (tk + 51 + 51 * C.length))]) l, g, dr, tk + 51 + 51 * C.length + 3 * R.length, os⟩
      (223 + 330 * C.length + ((13 * R.length + 1) + (6 * R.length + 5))) := by
  have z := Go.subLong (w := w) (g := g) (dr := dr) (tk := tk) (os := os) (l := l) (p := p) (base := base) c (by omega) (by omega) ok.left hb
  rw [hc] at z
  have A : Ahead (entL c tk) (C.flatten ++ R) := by
    have := ahead_more (es := []) (k := tk) ok (fun e he => nomatch he)
    simpa using this
  have hne : entL c tk ≠ [] := by intro q; have := congrArg List.length q; rw [entL_length, hc] at this; cases this
  have y := Go.chunks (w := w) (g := g) (dr := dr) (os := os) (l := l) (p := p) (base := base) F hb R (by omega) C (entL c tk) [] (tk + 51) hC ok.right A hne (by rw [entL_length, hc]; omega)
  rw [F.chunk c [] (by rintro rfl; cases hc) (by simpa using hc), List.nil_append, F.first _ (by intro q; have := congrArg List.length q; rw [List.length_map, hc] at this; cases this)]
  rw [Sem.bind_assoc, Sem.bind_assoc]
  rw [show 223 + 330 * C.length + ((13 * R.length + 1) + (6 * R.length + 5)) = 223 + (330 * C.length + ((13 * R.length + 1) + (6 * R.length + 5))) by omega]
  refine Go.bind (c := 223) z ?_
  show Go w ((forIn ((C.flatten ++ R).map (itemOf p)) (some base.length, []) body).bind fun s => (fl s.2 s.1).bind tail) _ _ _ _
  rw [List.nil_append] at y
  refine Go.bind y ?_
  have hR' : R.map (pairOf p) ≠ [] := by intro q; exact hR0 (List.map_eq_nil_iff.mp q)
  obtain ⟨hd, e⟩ := F.then_ (R.map (pairOf p)) base.length hR'
  show Go w ((fl (R.map (pairOf p)) (some base.length)).bind tail) _ _ _ _
  rw [e]
  generalize hE : entL c tk ++ entC C (tk + 51) = E
  generalize hK : tk + 51 + 51 * C.length = k
  have lE : E.length = 17 + 17 * C.length := by
    have : ∀ (C : List (List (Int × Str))) (k : Nat), (∀ c ∈ C, c.length = 17) → (entC C k).length = 17 * C.length := by
      intro C
      induction C with
      | nil => intro k _; rfl
      | cons x r ih => intro k h; rw [entC, List.length_append, entL_length, h x (.head _), ih _ (fun c hc => h c (.tail _ hc)), List.length_cons]; omega
    rw [← hE, List.length_append, entL_length, hc, this C _ hC]
  have nE : E ≠ [] := by intro q; rw [q] at lE; simp at lE; omega
  have AE : Ahead E R := by
    have q : ∀ (C : List (List (Int × Str))) (es : List DictEntry) (k : Nat), OkL (C.flatten ++ R) → Ahead es (C.flatten ++ R) → Ahead (es ++ entC C k) R := by
      intro C
      induction C with
      | nil => intro es k ok A; simpa [entC] using A
      | cons x r ih =>
        intro es k ok A
        have e : (x :: r).flatten ++ R = x ++ (r.flatten ++ R) := by simp
        rw [e] at ok A
        have := ih (es ++ entL x k) (k + 51) ok.right (ahead_more ok A)
        rwa [List.append_assoc] at this
    rw [← hE]; exact q C _ _ ok.right A
  generalize hS : subC C (tk + 51) = S
  have x := Go.subShort (w := w) (g := g) (dr := dr) (tk := k) (os := os) (l := l) (p := p) (base := base ++ dO E :: S) R hR ok.right.right (Nat.ble_eq_true_of_le (by have := Nat.le_of_ble_eq_true hb; simp; omega))
  rw [hp_more] at x
  have u := Go.merge (w := w) (g := g) (dr := dr) (tk := k + 3 * R.length) (os := os) (l := l) (base := base) (es := E) (es' := entS R k) (subs := S ++ [dO (entS R k)]) (j := S.length) (a := base.length + 1 + S.length) rfl (by simp) hb (keyedS R k E ok.right.right AE) (by rw [entS_length, lE]; omega) nE
  rw [entS_length] at u
  have ez : (base ++ dO E :: S).length = base.length + 1 + S.length := by simp; omega
  rw [ez] at x
  rw [Sem.bind_assoc]
  refine Go.bind (Go.holding x) ?_
  rw [Sem.bind_assoc]
  refine Go.bind (c' := 0) (a := ()) (Go.onRaise (Go.holding u)) ?_
  show Go w (tail (some base.length)) _ _ _ _
  rw [ht]
  exact Go.pure
theorem Go.display (hb : Nat.ble 11 base.length = true) (c : List (Int × Str)) (C : List (List (Int × Str))) (R : List (Int × Str)) (hR : R.length ≤ 15) (hR0 : R ≠ []) (hc : c.length = 17) (hC : ∀ c ∈ C, c.length = 17)
    (ok : OkL (c ++ (C.flatten ++ R))) (le : 17 + 17 * C.length + 17 < 900) :
    Go w (dictDisplay ((c ++ (C.flatten ++ R)).map (itemOf p))) ⟨⟨⟨base⟩, l⟩, g, dr, tk, os⟩ (.ref base.length)
      ⟨hp base (dO ((entL c tk ++ entC C (tk + 51)) ++ entS R (tk + 51 + 51 * C.length))) (subC C (tk + 51) ++ [dO (entS R (tk + 51 + 51 * C.length))]) l, g, dr, tk + 51 + 51 * C.length + 3 * R.length, os⟩
      (223 + 330 * C.length + ((13 * R.length + 1) + (6 * R.length + 5))) := by
  unfold dictDisplay
  extract_lets flush main run
  refine Go.displayOf (fl := flush) ⟨?_, ?_, ?_, ?_⟩ ?_ hb c C R hR hR0 hc hC ok le
  · intro run hr
    show (if run.isEmpty = true then _ else _) = _
    rw [if_neg (by simpa using hr)]; rfl
  · intro run d hr
    apply Exists.intro
    show (if run.isEmpty = true then _ else _) = _
    rw [if_neg (by simpa using hr)]; rfl
  · intro k v main run hn
    show (if ((run ++ [(k, v)]).length == 17) = true then _ else _) = _
    rw [if_neg (by simpa using hn)]; rfl
  · intro k v main run hn
    show (if ((run ++ [(k, v)]).length == 17) = true then _ else _) = _
    rw [if_pos (by simpa using hn)]; rfl
  · intro d; rfl
end Mine
end
-- part HeadP
section
set_option maxHeartbeats 400000
namespace Mine
/-! statement 9: the table of exceptions -/
noncomputable def dKeyOf : Option Expr → Option Int
  | some (.Constant (.int i) _ _) => some i
  | _ => none
noncomputable def dStrOf : Expr → Option Str
  | .Constant (.str s) _ _ => some s
  | _ => none
theorem dKeyOf_eq {e : Option Expr} {i : Int} (h : dKeyOf e = some i) : ∃ a b, e = some (.Constant (.int i) a b) := by
  cases e with
  | none => cases h
  | some e =>
    cases e with
    | Constant c a b =>
      cases c with
      | int j => cases h; exact ⟨a, b, rfl⟩
      | _ => cases h
    | _ => cases h
theorem dStrOf_eq {e : Expr} {s : Str} (h : dStrOf e = some s) : ∃ a b, e = .Constant (.str s) a b := by
  cases e with
  | Constant c a b =>
    cases c with
    | str j => cases h; exact ⟨a, b, rfl⟩
    | _ => cases h
  | _ => cases h
noncomputable def constsOf : List (Option Expr) → List Expr → Option (List (Int × Str))
  | [], [] => some []
  | k :: ks, v :: vs => (dKeyOf k).bind fun i => (dStrOf v).bind fun s => (constsOf ks vs).map fun L => (i, s) :: L
  | _, _ => none
theorem constsOf_cons {k : Option Expr} {ks : List (Option Expr)} {v : Expr} {vs : List Expr} {L : List (Int × Str)} (h : constsOf (k :: ks) (v :: vs) = some L) :
    ∃ i s L', dKeyOf k = some i ∧ dStrOf v = some s ∧ constsOf ks vs = some L' ∧ L = (i, s) :: L' := by
  rw [constsOf] at h
  cases e : dKeyOf k with
  | none => rw [e] at h; cases h
  | some i =>
    rw [e] at h
    cases f : dStrOf v with
    | none => rw [f] at h; cases h
    | some s =>
      rw [f] at h
      cases g : constsOf ks vs with
      | none => rw [g] at h; cases h
      | some L' => rw [g] at h; cases h; exact ⟨i, s, L', rfl, rfl, rfl, rfl⟩
theorem items_of {p : Pos} {env : Env} (ks : List (Option Expr)) : ∀ {vs : List Expr} {L : List (Int × Str)}, constsOf ks vs = some L →
    (evalEachOpt ks env).zip ((evalEach vs env).map fun v => (do let x ← v; standAt p; pure x : Sem PySem.Value)) = L.map (itemOf p) := by
  induction ks with
  | nil =>
    intro vs L h
    cases vs with
    | nil => cases h; rfl
    | cons v vs => cases h
  | cons k ks ih =>
    intro vs L h
    cases vs with
    | nil => cases h
    | cons v vs =>
      obtain ⟨i, s, L', hk, hs, hL, e⟩ := constsOf_cons h
      obtain ⟨a, b, e1⟩ := dKeyOf_eq hk
      obtain ⟨a', b', e2⟩ := dStrOf_eq hs
      subst e; subst e1; subst e2
      rw [evalEachOpt, evalEach, List.map_cons, List.zip_cons_cons, ih hL, List.map_cons]
      rfl
theorem exec9 (t : Expr) (ks : List (Option Expr)) (vs : List Expr) (p pos : Pos) (env : Env) : exec (.Assign [t] (.Dict ks vs p) pos) env =
    (Sem.at pos fun _ => Sem.at p fun _ => (dictDisplay ((evalEachOpt ks env).zip ((evalEach vs env).map fun v => (do let x ← v; standAt p; pure x : Sem PySem.Value)))).bind fun v =>
      (swappedStores [t] (.Dict ks vs p) env).bind fun n => assignStores env v n ((assignEach [t] env).map (·.2))) := by
  kernel_rfl
noncomputable def incr : Int → List (Int × Str) → Bool
  | _, [] => true
  | k, x :: r => decide (k < x.1) && (decide (x.1 < 2 ^ 60) && incr x.1 r)
theorem ok_incr : ∀ {L : List (Int × Str)} {k : Int}, -1 ≤ k → incr k L = true → OkL L ∧ ∀ x ∈ L, k < x.1
  | [], _, _, _ => ⟨⟨fun x hx => (by cases hx), List.nodup_nil⟩, fun x hx => (by cases hx)⟩
  | x :: r, k, hk, h => by
    rw [incr, Bool.and_eq_true, Bool.and_eq_true, decide_eq_true_eq, decide_eq_true_eq] at h
    obtain ⟨a, b, c⟩ := h
    obtain ⟨i1, i2⟩ := ok_incr (k := x.1) (by omega) c
    refine ⟨⟨fun y hy => ?_, ?_⟩, fun y hy => ?_⟩
    · rcases List.mem_cons.mp hy with rfl | hy
      · exact ⟨by omega, b⟩
      · exact i1.1 y hy
    · rw [List.map_cons, List.nodup_cons]
      refine ⟨fun q => ?_, i1.2⟩
      obtain ⟨y, hy, e⟩ := List.mem_map.mp q
      have := i2 y hy; omega
    · rcases List.mem_cons.mp hy with rfl | hy
      · exact a
      · have := i2 y hy; omega
noncomputable def tgOf : List Stmt → Expr × Pos
  | .Assign [t] _ p :: _ => (t, p)
  | _ => (.Constant .none 0 ⟨0, 0, 0, 0⟩, ⟨0, 0, 0, 0⟩)
noncomputable def tg9 : Expr := (tgOf (stmtH 9)).1
noncomputable def ps9 : Pos := (tgOf (stmtH 9)).2
theorem stmt9 : stmtH 9 = [.Assign [tg9] (.Dict kv9.1 kv9.2.1 pD) ps9] := by kernel_rfl
theorem consts9 : constsOf kv9.1 kv9.2.1 = some L9 := by kernel_rfl
theorem incr9 : incr (-1) L9 = true := by kernel_rfl
noncomputable def c9 : List (Int × Str) := L9.take 17
noncomputable def C9 : List (List (Int × Str)) := (List.range 37).map fun j => (L9.drop (17 * (j + 1))).take 17
noncomputable def R9 : List (Int × Str) := L9.drop 646
theorem L9_eq : L9 = c9 ++ (C9.flatten ++ R9) := by kernel_rfl
theorem c9_len : c9.length = 17 := by kernel_rfl
theorem C9_len : C9.length = 37 := by kernel_rfl
theorem R9_len : R9.length = 4 := by kernel_rfl
theorem C9_all : C9.all (fun c => Nat.beq c.length 17) = true := by kernel_rfl
end Mine
end
-- part HeadQ
section
set_option maxHeartbeats 400000
namespace Mine
noncomputable def tail9 (v : PySem.Value) : Sem Flow := (swappedStores [tg9] (.Dict kv9.1 kv9.2.1 pD) envH).bind fun n => assignStores envH v n ((assignEach [tg9] envH).map (·.2))
noncomputable def all9 (v : PySem.Value) : Sem PySem.Flow := (tail9 v).bind fun f => match f with | .next => execs [] envH | f => .pure f
noncomputable abbrev HS9b (w : World) (os : OsState) : SharedT := stH 135 15 q207 15 2297 w os
theorem tail_run (w : World) (os : OsState) (pos : Pos) : runF w 11 annH 1 8 (HS9b w os) ⟨(all9 (.ref 96)).wrap doneF deadEnd id id, cH, pos, BH⟩ = some (.next, HS10 w os, cH, ⟨84, 0, 84, 13⟩) := by kernel_rfl
noncomputable abbrev base9 (w : World) : List Obj := (btOf (objS 15 q207 15 w.params) 96).list 96
theorem base9_len (w : World) : (base9 w).length = 96 := by
  unfold base9 BT.list
  rw [List.length_map, List.length_range]
theorem heap9 (w : World) : absHeap (btOf (objS 15 q207 15 w.params) 135) 135 life0
    = hp (base9 w) (dO ((entL c9 347 ++ entC C9 (347 + 51)) ++ entS R9 (347 + 51 + 51 * 37))) (subC C9 (347 + 51) ++ [dO (entS R9 (347 + 51 + 51 * 37))]) life0 := by kernel_rfl
end Mine
end
-- part HeadR
section
set_option maxHeartbeats 400000
namespace Mine
theorem go9 (w : World) (os : OsState) : Go w (.at ps9 fun _ => .at pD fun _ => dictDisplay (L9.map (itemOf pD))) (HS9 w os).abs (.ref 96) (HS9b w os).abs 12517 := by
  have z := Go.display (w := w) (g := ⟨[]⟩) (dr := d0) (tk := 347) (os := os) (base := base9 w) (l := life0) (p := pD) (by rw [base9_len]; rfl) c9 C9 R9 (by rw [R9_len]; decide) (by intro q; have := R9_len; rw [q] at this; cases this) c9_len
    (fun c hc => Nat.eq_of_beq_eq_true (List.all_eq_true.mp C9_all c hc)) (by rw [← L9_eq]; exact (ok_incr (by decide) incr9).1) (by rw [C9_len]; decide)
  rw [← L9_eq, C9_len, R9_len, base9_len, ← heap9] at z
  exact Go.at (c := 12516) (Go.at (c := 12515) z)
theorem st9 : St9 := fun w os => by
  have e : execs (stmtH 9) envH = (Sem.at ps9 fun _ => .at pD fun _ => dictDisplay (L9.map (itemOf pD))).bind all9 := by
    rw [stmt9]
    show (exec (.Assign [tg9] (.Dict kv9.1 kv9.2.1 pD) ps9) envH).bind (fun f => match f with | .next => execs [] envH | f => .pure f) = _
    rw [exec9, items_of _ consts9]
    show (Sem.at ps9 fun _ => Sem.at pD fun _ => ((dictDisplay (L9.map (itemOf pD))).bind tail9).bind _) = (Sem.at ps9 fun _ => Sem.at pD fun _ => (dictDisplay (L9.map (itemOf pD))).bind all9)
    simp only [Sem.bind_assoc]
    rfl
  obtain ⟨pos, x⟩ := go9 w os (fun v => (all9 v).wrap doneF deadEnd id id) (fun e => (Sem.raise e : Sem Flow).wrap doneF deadEnd id id) (fun g => id (id g)) (fun l => id (id l)) ⟨82, 0, 83, 30⟩
  have y := segRun_of (w := w) (n₀ := 11) (ann := annH) (b := 1) (by rw [runF_eq]; exact tail_run w os pos)
  have k := seg_go x y
  show segRun treeTable pw w 11 annH 1 (12517 + 8) (HS9 w os).abs ⟨(execs (stmtH 9) envH).wrap doneF deadEnd id id, cH, ⟨82, 0, 83, 30⟩, BH⟩ = _
  rw [e, Sem.bind_eq_wrap, Sem.wrap_wrap]
  exact k
theorem left : LeftO pw qv looseV XtV YfK YaK 100000 := left_of st9
theorem holds : PySem.Challenge.rw_re0128_01.Holds := fin left
end Mine
end
theorem PySem.Challenge.cw_re0128_01_holds : PySem.Challenge.rw_re0128_01.Holds :=
  Mine.holds
