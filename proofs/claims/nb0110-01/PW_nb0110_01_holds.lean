import PyProof.Rows.All
import Wide.All
import OpenK.AllK
import Wide.FinOn
import PyProof.FactsAll.tuple_2
import PyProof.WalksMore
import PyProof.DictItemsLoops
import PyProof.DictValues
import KE.KRevIter
import PyProof.FactsAll.range_2
import PyProof.IsiPairs
import PyProof.DictWalks
import PyProof.CompFree
import PyProof.WalksEnum
import PyProof.ZipIter
import PyProof.SliceMore
import KE.KSlice
import PyProof.DictCompW
import KE.KDictSum
import KE.KEqDict
import KE.KUnpack
import PySem.Challenge.RW_nb0110_01
set_option Elab.async false
set_option maxRecDepth 100000
set_option maxHeartbeats 8000000
set_option linter.unusedVariables false
/- the heap, over plain lists of addresses with keys -/
namespace Mine

abbrev KeyF := Nat → Int × Int
def klt (a b : Int × Int) : Bool := if a.1 = b.1 then decide (a.2 < b.2) else decide (a.1 < b.1)

/-- not greater -/
def kle (a b : Int × Int) : Prop := klt b a = false
theorem kle_of_lt {a b : Int × Int} (h : klt a b = true) : kle a b := by
  unfold kle klt at *; split at h <;> split <;> simp_all <;> omega
theorem kle_trans {a b c : Int × Int} (h : kle a b) (g : kle b c) : kle a c := by
  unfold kle klt at *
  by_cases h1 : b.1 = a.1 <;> by_cases h2 : c.1 = b.1 <;> by_cases h3 : c.1 = a.1 <;> simp_all <;> omega
theorem kle_refl (a : Int × Int) : kle a a := by unfold kle klt; simp

/-- the order holds from place i on -/
def HeapFrom (key : KeyF) (i : Nat) (as : List Nat) : Prop :=
  ∀ j c a b, i ≤ j → (c = 2 * j + 1 ∨ c = 2 * j + 2) → as[j]? = some a → as[c]? = some b → kle (key a) (key b)

/-- p lies under i -/
inductive Under (i : Nat) : Nat → Prop
  | refl : Under i i
  | left {p} : Under i p → Under i (2 * p + 1)
  | right {p} : Under i p → Under i (2 * p + 2)
theorem Under.le {i p : Nat} (u : Under i p) : i ≤ p := by induction u <;> omega
theorem Under.up {i p : Nat} (u : Under i p) (h : i < p) : Under i ((p - 1) / 2) := by
  cases u with
  | refl => omega
  | @left q v => rw [show (2 * q + 1 - 1) / 2 = q from by omega]; exact v
  | @right q v => rw [show (2 * q + 2 - 1) / 2 = q from by omega]; exact v

/-- _siftdown's loop: the hole at p, new is to go in -/
structure Down (key : KeyF) (i : Nat) (new : Nat) (as cur : List Nat) (p : Nat) : Prop where
  lt : p < cur.length
  under : Under i p
  perm : (cur.set p new).Perm as
  rel : ∀ j c a b, i ≤ j → (c = 2 * j + 1 ∨ c = 2 * j + 2) → j ≠ p → c ≠ p → cur[j]? = some a → cur[c]? = some b → kle (key a) (key b)
  kids : ∀ c b, (c = 2 * p + 1 ∨ c = 2 * p + 2) → cur[c]? = some b → kle (key new) (key b)
  grand : ∀ c a b, i < p → (c = 2 * p + 1 ∨ c = 2 * p + 2) → cur[(p - 1) / 2]? = some a → cur[c]? = some b → kle (key a) (key b)

theorem Down.step {key : KeyF} {i new : Nat} {as cur : List Nat} {p q : Nat} (D : Down key i new as cur p) (hp : i < p) (hq : cur[(p - 1) / 2]? = some q) (hlt : klt (key new) (key q) = true) :
    Down key i new as (cur.set p q) ((p - 1) / 2) := by
  have hpl := D.lt
  have hne : (p - 1) / 2 ≠ p := by omega
  have hlen : (p - 1) / 2 < cur.length := by omega
  refine ⟨by simpa using hlen, D.under.up hp, ?_, ?_, ?_, ?_⟩
  · refine List.Perm.trans ?_ D.perm
    have e : cur[(p - 1) / 2] = q := by rw [List.getElem?_eq_getElem hlen] at hq; exact Option.some.inj hq
    have e2 : (cur.set p q).set ((p - 1) / 2) new = ((cur.set p new).set p q).set ((p - 1) / 2) new := by simp
    have : (cur.set p new).Perm (((cur.set p new).set ((p-1)/2) ((cur.set p new)[p]'(by simpa using hpl))).set p ((cur.set p new)[(p-1)/2]'(by simpa using hlen))) := by
      exact (List.set_set_perm (by simpa using hlen) (by simpa using hpl)).symm
    refine List.Perm.trans ?_ this.symm
    rw [show ((cur.set p new)[p]'(by simpa using hpl)) = new from by simp, show ((cur.set p new)[(p-1)/2]'(by simpa using hlen)) = q from by rw [List.getElem_set_ne (Ne.symm hne), e]]
    rw [e2, List.set_comm _ _ (Ne.symm hne)]
  · intro j c a b hj hc hjq hcq ha hb
    have hcp : c = p → j = (p - 1) / 2 := by omega
    have hcp' : c ≠ p := fun e => hjq (hcp e)
    rw [List.getElem?_set_ne (Ne.symm hcp')] at hb
    by_cases hjp : j = p
    · subst hjp
      rw [List.getElem?_set_self hpl] at ha
      cases ha
      exact D.grand c q b hp hc hq hb
    · rw [List.getElem?_set_ne (Ne.symm hjp)] at ha
      exact D.rel j c a b hj hc hjp hcp' ha hb
  · intro c b hc hb
    by_cases hcp : c = p
    · subst hcp
      rw [List.getElem?_set_self hpl] at hb
      cases hb
      exact kle_of_lt hlt
    · rw [List.getElem?_set_ne (Ne.symm hcp)] at hb
      have h1 : kle (key q) (key b) := D.rel ((p - 1) / 2) c q b ((D.under.up hp).le) hc hne hcp hq hb
      exact kle_trans (kle_of_lt hlt) h1
  · intro c a b hi hc ha hb
    have hne2 : ((p - 1) / 2 - 1) / 2 ≠ p := by omega
    have hne3 : ((p - 1) / 2 - 1) / 2 ≠ (p - 1) / 2 := by omega
    have hge : i ≤ ((p - 1) / 2 - 1) / 2 := ((D.under.up hp).up hi).le
    rw [List.getElem?_set_ne (Ne.symm hne2)] at ha
    have h1 : kle (key a) (key q) := D.rel (((p - 1) / 2 - 1) / 2) ((p - 1) / 2) a q hge (by omega) hne2 hne ha hq
    by_cases hcp : c = p
    · subst hcp
      rw [List.getElem?_set_self hpl] at hb
      cases hb
      exact h1
    · rw [List.getElem?_set_ne (Ne.symm hcp)] at hb
      have h2 : kle (key q) (key b) := D.rel ((p - 1) / 2) c q b ((D.under.up hp).le) hc hne hcp hq hb
      exact kle_trans h1 h2

theorem Down.fin {key : KeyF} {i new : Nat} {as cur : List Nat} {p : Nat} (D : Down key i new as cur p) (he : p ≤ i ∨ ∀ q, cur[(p - 1) / 2]? = some q → kle (key q) (key new)) :
    HeapFrom key i (cur.set p new) := by
  intro j c a b hj hc ha hb
  by_cases hjp : j = p
  · subst hjp
    have hcj : c ≠ j := by omega
    rw [List.getElem?_set_self D.lt] at ha
    cases ha
    rw [List.getElem?_set_ne (Ne.symm hcj)] at hb
    exact D.kids c b hc hb
  · rw [List.getElem?_set_ne (Ne.symm hjp)] at ha
    by_cases hcp : c = p
    · subst hcp
      rw [List.getElem?_set_self D.lt] at hb
      cases hb
      rcases he with he | he
      · omega
      · refine he a ?_
        rw [show (c - 1) / 2 = j from by omega]; exact ha
    · rw [List.getElem?_set_ne (Ne.symm hcp)] at hb
      exact D.rel j c a b hj hc hjp hcp ha hb

/-- _siftup's loop -/
structure Up (key : KeyF) (i : Nat) (new : Nat) (as cur : List Nat) (p : Nat) : Prop where
  lt : p < cur.length
  under : Under i p
  perm : (cur.set p new).Perm as
  rel : ∀ j c a b, i ≤ j → (j ≠ i ∨ p ≠ i) → (c = 2 * j + 1 ∨ c = 2 * j + 2) → cur[j]? = some a → cur[c]? = some b → kle (key a) (key b)
  
theorem Up.start {key : KeyF} {i new : Nat} {as : List Nat} (hi : as[i]? = some new) (h : HeapFrom key (i + 1) as) : Up key i new as as i := by
  have hl : i < as.length := by
    cases Nat.lt_or_ge i as.length with
    | inl h => exact h
    | inr h => rw [List.getElem?_eq_none h] at hi; cases hi
  refine ⟨hl, .refl, ?_, ?_⟩
  · have : as.set i new = as := by
      rw [List.getElem?_eq_getElem hl] at hi
      cases hi
      exact List.set_getElem_self hl
    rw [this]
  · intro j c a b hj hji hc ha hb
    exact h j c a b (by omega) hc ha hb

theorem Up.step {key : KeyF} {i new : Nat} {as cur : List Nat} {p c x : Nat} (U : Up key i new as cur p) (hc : c = 2 * p + 1 ∨ c = 2 * p + 2) (hx : cur[c]? = some x)
    (hmin : ∀ d y, (d = 2 * p + 1 ∨ d = 2 * p + 2) → cur[d]? = some y → kle (key x) (key y)) : Up key i new as (cur.set p x) c := by
  have hpl := U.lt
  have hcl : c < cur.length := by
    cases Nat.lt_or_ge c cur.length with
    | inl h => exact h
    | inr h => rw [List.getElem?_eq_none h] at hx; cases hx
  have hi := U.under.le
  have hne : c ≠ p := by omega
  refine ⟨by simpa using hcl, ?_, ?_, ?_⟩
  · rcases hc with rfl | rfl
    · exact U.under.left
    · exact U.under.right
  · refine List.Perm.trans ?_ U.perm
    have e : cur[c] = x := by rw [List.getElem?_eq_getElem hcl] at hx; exact Option.some.inj hx
    have e2 : (cur.set p x).set c new = ((cur.set p new).set p x).set c new := by simp
    have : (cur.set p new).Perm (((cur.set p new).set c ((cur.set p new)[p]'(by simpa using hpl))).set p ((cur.set p new)[c]'(by simpa using hcl))) := by
      exact (List.set_set_perm (by simpa using hcl) (by simpa using hpl)).symm
    refine List.Perm.trans ?_ this.symm
    rw [show ((cur.set p new)[p]'(by simpa using hpl)) = new from by simp, show ((cur.set p new)[c]'(by simpa using hcl)) = x from by rw [List.getElem_set_ne (Ne.symm hne), e]]
    rw [e2, List.set_comm _ _ (Ne.symm hne)]
  · intro j d a b hj _ hd ha hb
    by_cases hjp : j = p
    · subst hjp
      have hdj : d ≠ j := by omega
      rw [List.getElem?_set_self hpl] at ha
      cases ha
      rw [List.getElem?_set_ne (Ne.symm hdj)] at hb
      exact hmin d b hd hb
    · rw [List.getElem?_set_ne (Ne.symm hjp)] at ha
      by_cases hdp : d = p
      · subst hdp
        rw [List.getElem?_set_self hpl] at hb
        cases hb
        -- j is p's parent; the old item at p is between
        have h1 : kle (key a) (key cur[d]) := U.rel j d a _ hj (by omega) hd ha (List.getElem?_eq_getElem hpl)
        have h2 : kle (key cur[d]) (key x) := U.rel d c _ x (by omega) (by omega) hc (List.getElem?_eq_getElem hpl) hx
        exact kle_trans h1 h2
      · rw [List.getElem?_set_ne (Ne.symm hdp)] at hb
        refine U.rel j d a b hj ?_ hd ha hb
        omega

theorem Up.down {key : KeyF} {i new : Nat} {as cur : List Nat} {p : Nat} (U : Up key i new as cur p) (hleaf : cur.length ≤ 2 * p + 1) : Down key i new as (cur.set p new) p := by
  have hpl := U.lt
  have no : ∀ c : Nat, (c = 2 * p + 1 ∨ c = 2 * p + 2) → (cur.set p new)[c]? = none := fun c hc => List.getElem?_eq_none (by simp; omega)
  refine ⟨by simpa using hpl, U.under, by simpa using U.perm, ?_, ?_, ?_⟩
  · intro j c a b hj hc hjp hcp ha hb
    rw [List.getElem?_set_ne (Ne.symm hjp)] at ha
    rw [List.getElem?_set_ne (Ne.symm hcp)] at hb
    exact U.rel j c a b hj (by omega) hc ha hb
  · intro c b hc hb; rw [no c hc] at hb; cases hb
  · intro c a b _ hc _ hb; rw [no c hc] at hb; cases hb

theorem root_least {key : KeyF} {as : List Nat} (h : HeapFrom key 0 as) {r : Nat} (hr : as[0]? = some r) : ∀ (j a : Nat), as[j]? = some a → kle (key r) (key a) := by
  intro j
  induction j using Nat.strongRecOn with
  | ind j ih =>
    intro a ha
    by_cases hj : j = 0
    · subst hj; rw [hr] at ha; cases ha; exact kle_refl _
    · have hlt : (j - 1) / 2 < as.length := by
        cases Nat.lt_or_ge j as.length with
        | inl h => omega
        | inr h => rw [List.getElem?_eq_none h] at ha; cases ha
      have h1 := ih ((j - 1) / 2) (by omega) _ (List.getElem?_eq_getElem hlt)
      have h2 := h ((j - 1) / 2) j _ a (by omega) (by omega) (List.getElem?_eq_getElem hlt) ha
      exact kle_trans h1 h2

theorem HeapFrom.congr {key key' : KeyF} {i : Nat} {as : List Nat} (h : HeapFrom key i as) (e : ∀ a ∈ as, key' a = key a) : HeapFrom key' i as := fun j c a b hj hc ha hb => by
  rw [e a (List.mem_of_getElem? ha), e b (List.mem_of_getElem? hb)]; exact h j c a b hj hc ha hb
theorem kle_fst {a b : Int × Int} (h : kle a b) : a.1 ≤ b.1 := by
  unfold kle klt at h; split at h <;> simp_all <;> omega
theorem root_mem {key : KeyF} {as : List Nat} {r : Nat} (h : HeapFrom key 0 as) (hr : as[0]? = some r) : ∀ a ∈ as, kle (key r) (key a) := fun a ha => by
  obtain ⟨j, hj⟩ := List.mem_iff_getElem?.mp ha
  exact root_least h hr j a hj
end Mine

namespace Mine
open PySem PySem.W PyProof.Rows

open_top hd for PySem.Challenge.rw_nb0110_01

/-- a plain list -/
def LL (h : Heap) (a : Addr) (xs : List Value) : Prop := ∃ n, PySem.IsL h a xs.toArray n
theorem LL.isList {h : Heap} {a : Addr} {xs : List Value} (x : LL h a xs) : h.IsList a xs.toArray := let ⟨_, y⟩ := x; y.isList

/-- what is known of an object -/
inductive AO where
  | lst (xs : List Value)
  | tup (xs : List Value)
  | dS (kvs : List (Str × Value))
  | dI (kvs : List (Int × Value))
  | cell (v : Option Value)
  | raw (o : Obj)

def AO.Sat (prog : Program) (w : World) (h : Heap) (a : Addr) : AO → Prop
  | .lst xs => LL h a xs
  | .tup xs => IsTup h a xs.toArray
  | .dS kvs => h.DictOf (strKind prog w) a kvs
  | .dI kvs => h.DictOf (intKind prog w) a kvs
  | .cell v => ∃ o, h.get? a = some o ∧ o.data = .cell v
  | .raw o => h.get? a = some o

theorem AO.Sat.keep {prog : Program} {w : World} {h h' : Heap} {a : Addr} {x : AO} (s : x.Sat prog w h a) (k : ∀ o, h.get? a = some o → h'.get? a = some o) : x.Sat prog w h' a := by
  cases x with
  | lst xs => obtain ⟨n, ho⟩ := s; exact ⟨n, k _ ho⟩
  | tup xs => obtain ⟨o, ho, r⟩ := s; exact ⟨o, k _ ho, r⟩
  | dS kvs => obtain ⟨o, es, ep, ho, r⟩ := s; exact ⟨o, es, ep, k _ ho, r⟩
  | dI kvs => obtain ⟨o, es, ep, ho, r⟩ := s; exact ⟨o, es, ep, k _ ho, r⟩
  | cell v => obtain ⟨o, ho, r⟩ := s; exact ⟨o, k _ ho, r⟩
  | raw o => exact k _ s

theorem AO.Sat.some {prog : Program} {w : World} {h : Heap} {a : Addr} {x : AO} (s : x.Sat prog w h a) : ∃ o, h.get? a = some o := by
  cases x with
  | lst xs => obtain ⟨n, ho⟩ := s; exact ⟨_, ho⟩
  | tup xs => obtain ⟨o, ho, r⟩ := s; exact ⟨o, ho⟩
  | dS kvs => obtain ⟨o, es, ep, ho, r⟩ := s; exact ⟨o, ho⟩
  | dI kvs => obtain ⟨o, es, ep, ho, r⟩ := s; exact ⟨o, ho⟩
  | cell v => obtain ⟨o, ho, r⟩ := s; exact ⟨o, ho⟩
  | raw o => exact ⟨o, s⟩

/-- all of the one heap is in the other -/
def Sub (h h' : Heap) : Prop := ∀ b o, h.get? b = some o → h'.get? b = some o
theorem Sub.refl (h : Heap) : Sub h h := fun _ _ e => e
theorem Sub.trans {a b c : Heap} (x : Sub a b) (y : Sub b c) : Sub a c := fun _ _ e => y _ _ (x _ _ e)

abbrev FF : Value → Shared → Prop := fun _ _ => False
def upd (F : Addr → Option AO) (a : Addr) (x : AO) : Addr → Option AO := fun b => if b = a then some x else F b
theorem upd_self (F : Addr → Option AO) (a : Addr) (x : AO) : upd F a x a = some x := if_pos rfl
theorem upd_ne {F : Addr → Option AO} {a b : Addr} {x : AO} (h : b ≠ a) : upd F a x b = F b := if_neg h
def none' : Addr → Option AO := fun _ => none

/-- the state of a frame: base (the module as the top left it), h₀ (the heap at the entry), F (what is made or changed since), L the frame's dict with the map m -/
structure St (prog : Program) (w : World) (base h₀ : Heap) (F : Addr → Option AO) (L : Addr) (h : Heap) (m : Str → Option Value) : Prop where
  ns : h.Ns L m
  bk : Sub base h
  ext : ∀ b o, F b = none → b ≠ L → h₀.get? b = some o → h.get? b = some o
  own : ∀ b x, F b = some x → x.Sat prog w h b
  nF : F L = none
  nb : base.get? L = none

section
variable {prog : Program} {w : World} {base h₀ h h' : Heap} {F : Addr → Option AO} {L a : Addr} {m m' : Str → Option Value} {x : AO}

theorem St.store (S : St prog w base h₀ F L h m) (hn : h'.Ns L m') (hs : Heap.SameBut L h h') : St prog w base h₀ F L h' m' where
  ns := hn
  bk := fun b o e => (hs.2 b (fun q => by rw [q, S.nb] at e; cases e)).trans (S.bk b o e)
  ext := fun b o f q e => (hs.2 b q).trans (S.ext b o f q e)
  own := fun b x f => (S.own b x f).keep fun o ho => (hs.2 b (fun q => by rw [q, S.nF] at f; cases f)).trans ho
  nF := S.nF
  nb := S.nb

theorem St.change (S : St prog w base h₀ F L h m) (hs : Heap.ExtBut a h h') (hx : x.Sat prog w h' a) (hL : L ≠ a) (hb : base.get? a = none) : St prog w base h₀ (upd F a x) L h' m where
  ns := S.ns.extBut hs hL
  bk := fun b o e => hs b o (fun q => by rw [q, hb] at e; cases e) (S.bk b o e)
  ext := fun b o f g e => by
    by_cases q : b = a
    · subst q; rw [upd_self] at f; cases f
    · rw [upd_ne q] at f; exact hs b o q (S.ext b o f g e)
  own := fun b y f => by
    by_cases q : b = a
    · subst q; rw [upd_self] at f; cases f; exact hx
    · rw [upd_ne q] at f; exact (S.own b y f).keep fun o ho => hs b o q ho
  nF := by rw [upd_ne hL]; exact S.nF
  nb := S.nb

theorem St.keep (S : St prog w base h₀ F L h m) (hs : Sub h h') : St prog w base h₀ F L h' m where
  ns := S.ns.keeps hs
  bk := S.bk.trans hs
  ext := fun b o f g e => hs b o (S.ext b o f g e)
  own := fun b y f => (S.own b y f).keep fun o ho => hs b o ho
  nF := S.nF
  nb := S.nb

theorem St.lt (S : St prog w base h₀ F L h m) (hf : F a = some x) : a < h.objs.size := let ⟨_, ho⟩ := (S.own a x hf).some; Heap.lt_size ho
theorem St.ltL (S : St prog w base h₀ F L h m) : L < h.objs.size := S.ns.lt
theorem get_none_size (h : Heap) : h.get? h.objs.size = none := Heap.get?_none_of_le (Nat.le_refl _)
theorem none_of_sub (s : Sub h h') (e : h'.get? a = none) : h.get? a = none := by
  cases q : h.get? a with
  | none => rfl
  | some o => rw [s _ _ q] at e; cases e
theorem St.freshB (S : St prog w base h₀ F L h m) : base.get? h.objs.size = none := none_of_sub S.bk (get_none_size h)
theorem St.freshF (S : St prog w base h₀ F L h m) : F h.objs.size = none := by
  cases q : F h.objs.size with
  | none => rfl
  | some x => exact absurd (S.lt q) (Nat.lt_irrefl _)

theorem St.push (S : St prog w base h₀ F L h m) {o : Obj} (hx : x.Sat prog w (h.push o) h.objs.size) : St prog w base h₀ (upd F h.objs.size x) L (h.push o) m := by
  refine (S.change (a := h.objs.size) (x := x) (fun b o' _ e => Heap.get?_push_of_some o e) hx (Nat.ne_of_lt S.ltL) S.freshB)
theorem St.more (S : St prog w base h₀ F L h m) (o : Obj) : St prog w base h₀ F L (h.push o) m := S.keep fun _ _ e => Heap.get?_push_of_some o e

theorem St.lst {xs : List Value} (S : St prog w base h₀ F L h m) (hf : F a = some (.lst xs)) : LL h a xs := S.own a _ hf
theorem St.tup {xs : List Value} (S : St prog w base h₀ F L h m) (hf : F a = some (.tup xs)) : IsTup h a xs.toArray := S.own a _ hf
theorem St.ext' (S : St prog w base h₀ F L h m) (n : h₀.get? L = none) : ∀ b o, F b = none → h₀.get? b = some o → h.get? b = some o := fun b o f e => S.ext b o f (fun q => by rw [q, n] at e; cases e) e
theorem St.tup0 {xs : List Value} (S : St prog w base h₀ F L h m) (hf : F a = none) (hL : a ≠ L) (ht : IsTup h₀ a xs.toArray) : IsTup h a xs.toArray := let ⟨o, ho, r⟩ := ht; ⟨o, S.ext a o hf hL ho, r⟩
/-- the same from the heap at hand on -/
theorem St.rebase (S : St prog w base h₀ F L h m) : St prog w base h none' L h m := ⟨S.ns, S.bk, fun _ _ _ _ e => e, fun _ _ f => (nomatch f), rfl, S.nb⟩
def over (G F : Addr → Option AO) : Addr → Option AO := fun b => (G b).or (F b)
theorem St.comp {G : Addr → Option AO} (S : St prog w base h₀ F L h m) (T : St prog w base h G L h' m') : St prog w base h₀ (over G F) L h' m' where
  ns := T.ns
  bk := T.bk
  ext := fun b o f q e => by
    unfold over at f
    cases g : G b with
    | some x => rw [g] at f; cases f
    | none => rw [g] at f; exact T.ext b o g q (S.ext b o f q e)
  own := fun b x f => by
    unfold over at f
    cases g : G b with
    | some y => rw [g] at f; cases f; exact T.own b _ g
    | none =>
      rw [g] at f
      exact (S.own b x f).keep fun o ho => T.ext b o g (fun q => by rw [q, show F L = none from S.nF] at f; cases f) ho
  nF := by unfold over; rw [T.nF]; exact S.nF
  nb := S.nb
end

/-- the base's facts -/
structure Bs (w : World) (base : Heap) : Prop where
  K : (hd.heap_39 w.params).In base
  g : ∃ mg, base.Ns mainGlobals mg
  bi : ∃ mb, base.Ns builtinsNs mb ∧ ∀ x : Str, x ≠ "__name__" → mb x = bootBuiltins x
  lim : base.NoLimit
  dig : ∃ mc, base.Ns cStatics mc ∧ mc "sys.int_max_str_digits" = none

theorem Bs.big {w : World} {base : Heap} (B : Bs w base) : 86 ≤ base.objs.size := Heap.lt_size (a := 85) (B.K 85 _ rfl)

/-- room -/
structure Ok (A : Around) (n : Nat) : Prop where
  hh : A.handled = none
  hd : A.depth + n < 900
  hu : A.units + 10 * n < 5000
theorem Ok.deeper {A : Around} {n : Nat} (o : Ok A (n + 1)) (env : Env) : Ok (A.deeper env) n := ⟨o.hh, by have := o.hd; show A.depth + 1 + n < 900; omega, by have := o.hu; show A.units + 3 + 10 * n < 5000; omega⟩
theorem Ok.le {A : Around} {n k : Nat} (o : Ok A n) (h : k ≤ n) : Ok A k := ⟨o.hh, by have := o.hd; omega, by have := o.hu; omega⟩
theorem Ok.room {A : Around} {n : Nat} (o : Ok A n) : A.depth < recursionLimit := by have := o.hd; show A.depth < 1000; omega
theorem Ok.units {A : Around} {n : Nat} (o : Ok A n) : A.units < cLine := by have := o.hu; show A.units < 9900; omega
theorem Ok.units64 {A : Around} {n : Nat} (o : Ok A n) : A.units + 64 < cLine := by have := o.hu; show A.units + 64 < 9900; omega

theorem St.init {prog : Program} {w : World} {base h h₁ : Heap} {m : Str → Option Value} (hk : Sub base h) (hn : h₁.Ns h.objs.size m) (hs : Sub h h₁) : St prog w base h none' h.objs.size h₁ m where
  ns := hn
  bk := hk.trans hs
  ext := fun b o _ _ e => hs b o e
  own := fun _ _ f => nomatch f
  nF := rfl
  nb := none_of_sub hk (get_none_size h)

theorem St.know {prog : Program} {w : World} {base h₀ h : Heap} {F : Addr → Option AO} {L : Addr} {m : Str → Option Value} {a : Addr} {x : AO} (S : St prog w base h₀ F L h m) (hx : x.Sat prog w h a) (hL : L ≠ a) (hb : base.get? a = none) : St prog w base h₀ (upd F a x) L h m :=
  S.change (fun _ _ _ e => e) hx hL hb

section
variable {prog : Program} {w : World} {base : Heap} {A : Around} {s : Shared}

theorem enter {R : Result → Shared → Prop} {f : Addr} {oc : Value} {od : Option Addr} {osl : Array (Option Value)} {name qual : Str} {params : Arguments} {body : List Stmt} {scope : Scope} {dV kV doc pm cdv ct : Value} {an : Option Addr} {args : Args} {n : Nat} (binds : List (Str × Value))
    (B : Bs w base) (hk : Sub base s.heap) (ok : Ok A (n + 1))
    (hl : (hd.heap_39 w.params).lookup f = some ⟨oc, od, .func (fnOf name qual params body scope dV kV doc pm an cdv ct), osl⟩) (hcd : codeIn (hd.heap_39 w.params) cdv qual = true)
    (hbind : bindArgs (fnOf name qual params body scope dV kV doc pm an cdv ct) args = pure binds)
    (hcell : ∀ x ∈ scope.names, x.2 ≠ .cell) (hloc : (binds.all fun x => decide (scope.names.lookup x.1 = some .local)) = true)
    (h : ∀ L h₁ tk A', s.heap.objs.size = L → Ok A' n → St prog w base s.heap none' L h₁ (fun x => binds.reverse.lookup x) →
      wpAny (model prog w) A' (execs body (envOf qual scope L f cdv)) (fun f s' => R (.ok (.ret (match f with | .ret v => v | _ => .none))) s') FF
        (⟨h₁, s.gens, s.drawn, tk, s.os⟩ : Shared))
    (hco : scope.isCoroutine = false := by rfl) (hgen : scope.isGenerator = false := by rfl) (hk' : scope.kind = .function := by rfl) :
    codeAny (model prog w) A (.call (.ref f) args) R s :=
  have X := B.K.keeps hk
  codeAny_call_def (fd := fnOf name qual params body scope dV kV doc pm an cdv ct) ok.room (X _ _ hl) rfl (B.lim.keeps hk) (codeRec_of X hcd) rfl (BindsTo.of_eq hbind) hcell (locs hloc)
    (fun h₁ hn hs => wpAny_mono (h _ h₁ _ _ rfl (ok.deeper _) (St.init hk hn hs)) (fun _ _ y => y) fun _ _ y => y.elim) hco hgen hk'

end
end Mine

namespace Mine
open PySem PySem.W PyProof.Rows PySem.Calls

abbrev At (s : Shared) (h : Heap) (tk : Nat) : Shared := { s with heap := h, toks := tk }

section
variable {prog : Program} {w : World} {base h₀ hp : Heap} {F : Addr → Option AO} {L a : Addr} {m : Str → Option Value} {A : Around} {E : Value → Shared → Prop} {s : Shared} {env : Env} {tk : Nat}

theorem ldv {x : Str} {pos : Pos} {v : Value} {Q : Value → Shared → Prop} (S : St prog w base h₀ F L hp m) (hv : m x = some v) (h : Q v (At s hp tk))
    (hL : env.locals = L := by rfl) (hk : env.scope.kind = .function := by rfl) (hl : env.kindOf x = some .local := by rfl) (hd : (x == ("__debug__" : Str)) = false := by decide) :
    wpAny (model prog w) A (eval (.Name x pos) env) Q E (At s hp tk) := by
  subst hL; exact wpAny_Name (wpAny_loadName_local hk hl S.ns hv h) hd
theorem ldn {x : Str} {v : Value} {Q : Value → Shared → Prop} (S : St prog w base h₀ F L hp m) (hv : m x = some v) (h : Q v (At s hp tk))
    (hL : env.locals = L := by rfl) (hk : env.scope.kind = .function := by rfl) (hl : env.kindOf x = some .local := by rfl) :
    wpAny (model prog w) A (loadName env x) Q E (At s hp tk) := by
  subst hL; exact wpAny_loadName_local hk hl S.ns hv h
theorem stv {x : Str} {v : Value} {Q : Unit → Shared → Prop} (S : St prog w base h₀ F L hp m)
    (h : ∀ h' tk', St prog w base h₀ F L h' (fun y => if y = x then some v else m y) → Q () (At s h' tk'))
    (hL : env.locals = L := by rfl) (hk : env.scope.kind = .function := by rfl) (hl : env.kindOf x = some .local := by rfl) :
    wpAny (model prog w) A (storeName env x v) Q E (At s hp tk) := by
  subst hL
  exact wpAny_storeName_local hl S.ns (fun h' hn hs => h h' _ (S.store hn hs)) (by rw [hk]; rfl)

theorem nameG {x : Str} {pos : Pos} {v : Value} {Q : Value → Shared → Prop} (B : Bs w base) (S : St prog w base h₀ F L hp m) (e : nsIn (hd.heap_39 w.params) mainGlobals x = some (some v)) (h : Q v (At s hp tk))
    (hg : env.globals = mainGlobals := by rfl) (hk : env.scope.kind = .function := by rfl) (hx : env.kindOf x = some .globalImplicit := by rfl) (hd : (x == ("__debug__" : Str)) = false := by decide) :
    wpAny (model prog w) A (eval (.Name x pos) env) Q E (At s hp tk) := by
  obtain ⟨mg, G⟩ := B.g
  exact Name_function_global hk hx (loadGlobal_global (hg ▸ G.keeps S.bk) (mg_of B.K G e) h) hd
theorem nameB {x : Str} {pos : Pos} {v : Value} {Q : Value → Shared → Prop} (B : Bs w base) (S : St prog w base h₀ F L hp m) (e : nsIn (hd.heap_39 w.params) mainGlobals x = some none) (hv : bootBuiltins x = some v) (hn : x ≠ "__name__") (h : Q v (At s hp tk))
    (hg : env.globals = mainGlobals := by rfl) (hb : env.builtins = builtinsNs := by rfl) (hk : env.scope.kind = .function := by rfl) (hx : env.kindOf x = some .globalImplicit := by rfl) (hd : (x == ("__debug__" : Str)) = false := by decide) :
    wpAny (model prog w) A (eval (.Name x pos) env) Q E (At s hp tk) := by
  obtain ⟨mg, G⟩ := B.g
  obtain ⟨mb, Gb, hb'⟩ := B.bi
  exact Name_function_global hk hx (loadGlobal_builtin (hg ▸ G.keeps S.bk) (mg_none_of B.K G e) (hb ▸ Gb.keeps S.bk) ((hb' x hn).trans hv) h) hd

theorem while_inv {test : Expr} {body orelse : List Stmt} {pos : Pos} {Q : Flow → Shared → Prop} (I : Nat → Shared → Prop)
    (turn : ∀ n s, I n s → wpAny (model prog w) A (isTrue test env (eval test env)) (fun b s₂ =>
        if b then wpAny (model prog w) A (execs body env) (fun f s₃ => match f with
            | .next | .cont => ∃ m, m < n ∧ I m s₃
            | .brk => Q .next s₃
            | .ret v => Q (.ret v) s₃) FF s₂
        else wpAny (model prog w) A (execs orelse env) (fun f s₃ => Q f s₃) FF s₂) FF s)
    (n : Nat) (h : I n s) : wpAny (model prog w) A (exec (.While test body orelse pos) env) Q FF s := by
  refine wpAny_While (codeAny_whileLoop I (fun n s hI => wpAny_mono (turn n s hI) (fun b s₂ hb => ?_) fun _ _ x => x.elim) n h)
  cases b with
  | false =>
    simp only [Bool.false_eq_true, if_false] at hb ⊢
    exact wpAny_mono hb (fun f s₃ hf => hf) fun _ _ x => x.elim
  | true =>
    simp only [if_true] at hb ⊢
    exact wpAny_mono hb (fun f s₃ hf => by cases f <;> exact hf) fun _ _ x => x.elim

/-- a while that leaves by its test or by break alone -/
theorem while_to {test : Expr} {body : List Stmt} {pos : Pos} {Q : Flow → Shared → Prop} (I : Nat → Shared → Prop) (P : Shared → Prop)
    (turn : ∀ n s, I n s → wpAny (model prog w) A (isTrue test env (eval test env)) (fun b s₂ =>
        if b then wpAny (model prog w) A (execs body env) (fun f s₃ => match f with
            | .next | .cont => ∃ m, m < n ∧ I m s₃
            | .brk => P s₃
            | .ret _ => False) FF s₂
        else P s₂) FF s)
    (n : Nat) (h : I n s) (k : ∀ s', P s' → Q .next s') : wpAny (model prog w) A (exec (.While test body [] pos) env) Q FF s := by
  refine while_inv I (fun n s hI => wpAny_mono (turn n s hI) (fun b s₂ hb => ?_) fun _ _ x => x) n h
  cases b with
  | false =>
    simp only [Bool.false_eq_true, if_false] at hb ⊢
    exact wpAny_execs_nil (k _ hb)
  | true =>
    simp only [if_true] at hb ⊢
    exact wpAny_mono hb (fun f s₃ hf => by cases f <;> first | exact hf | exact k _ hf | exact hf.elim) fun _ _ x => x

-- ints
section
variable {a b : Int} {t u : Tok} {Q : Value → Shared → Prop} {pos : Pos} {k : Nat}
theorem cI (h : ∀ t tk', Q (.int a t) (At s hp tk')) : wpAny (model prog w) A (eval (.Constant (.int a) k pos) env) Q E (At s hp tk) := wpAny_Constant_int (h _ _)
theorem cS {x : Str} (h : ∀ t tk', Q (.str x t) (At s hp tk')) : wpAny (model prog w) A (eval (.Constant (.str x) k pos) env) Q E (At s hp tk) := Constant_str (h _ _)
theorem addI (h : ∀ t tk', Q (.int (a + b) t) (At s hp tk')) : wpAny (model prog w) A (binaryOp .Add (.int a t) (.int b u)) Q E (At s hp tk) := add_int (h _ _)
theorem iaddI (h : ∀ t tk', Q (.int (a + b) t) (At s hp tk')) : wpAny (model prog w) A (inplaceOp .Add (.int a t) (.int b u)) Q E (At s hp tk) := iadd_int (h _ _)
theorem subI (h : ∀ t tk', Q (.int (a - b) t) (At s hp tk')) : wpAny (model prog w) A (binaryOp .Sub (.int a t) (.int b u)) Q E (At s hp tk) := sub_int (h _ _)
theorem mulI (hm : IntMulOk a b) (h : ∀ t tk', Q (.int (a * b) t) (At s hp tk')) : wpAny (model prog w) A (binaryOp .Mult (.int a t) (.int b u)) Q E (At s hp tk) := mul_int (h _ _) hm
theorem rshI1 (h : ∀ t tk', Q (.int (a / 2) t) (At s hp tk')) : wpAny (model prog w) A (binaryOp .RShift (.int a t) (.int 1 u)) Q E (At s hp tk) :=
  rshift_int (by omega) (by rw [fdiv_two]; exact h _ _)
theorem fdivI (hb : b ≠ 0) (hq : Builtin.divisionGoesByPylong a b = false) (h : ∀ t tk', Q (.int (a.fdiv b) t) (At s hp tk')) : wpAny (model prog w) A (binaryOp .FloorDiv (.int a t) (.int b u)) Q E (At s hp tk) := floordiv_int hb (h _ _) (.inl hq)
theorem fmodI (hb : b ≠ 0) (h : ∀ t tk', Q (.int (a.fmod b) t) (At s hp tk')) : wpAny (model prog w) A (binaryOp .Mod (.int a t) (.int b u)) Q E (At s hp tk) := mod_int' hb (h _ _)
theorem powI (hn : 0 ≤ b) (hn2 : b ≤ 1000000) (ha : a.natAbs < 2 ^ 64) (h : ∀ t tk', Q (.int (a ^ b.toNat) t) (At s hp tk')) : wpAny (model prog w) A (binaryOp .Pow (.int a t) (.int b u)) Q E (At s hp tk) := pow_int_small hn hn2 ha (h _ _)
theorem negI (h : ∀ t tk', Q (.int (-a) t) (At s hp tk')) : wpAny (model prog w) A (unaryOp .USub (.int a t)) Q E (At s hp tk) := neg_int (h _ _)
end

/-- an item of a list -/
theorem itemL {value slice : Expr} {l : Addr} {xs : List Value} {k : Int} {u : Tok} {v : Value} {Q : Value → Shared → Prop} (hf : LL hp l xs)
    (h0 : 0 ≤ k) (hhi : k < 2 ^ 63) (hx : xs[k.toNat]? = some v) (h : Q v (At s hp tk))
    (hs : subscripted slice false (.ref l) (.int k u) = operate [.ref l, .int k u] (getItem (.ref l) (.int k u)) := by with_unfolding_all rfl) :
    wpAny (model prog w) A (subscriptTail value slice (.ref l) (.int k u)) Q E (At s hp tk) :=
  have hf' : (At s hp tk).heap.IsList l xs.toArray := hf.isList
  tail_any hf'.typeIs slot_list_getitem.lookup (wpAny_getItem_list hf' h0 hhi (by simpa using hx) h) hs

/-- an item of a tuple -/
theorem itemT {value slice : Expr} {l : Addr} {xs : List Value} {k : Nat} {u : Tok} {v : Value} {Q : Value → Shared → Prop} (hf : IsTup hp l xs.toArray)
    (hhi : k < 2 ^ 20) (hx : xs[k]? = some v) (h : Q v (At s hp tk))
    (hs : subscripted slice false (.ref l) (.int k u) = operate [.ref l, .int k u] (getItem (.ref l) (.int k u)) := by with_unfolding_all rfl) :
    wpAny (model prog w) A (subscriptTail value slice (.ref l) (.int k u)) Q E (At s hp tk) := by
  have hl : k < xs.length := (List.getElem?_eq_some_iff.mp hx).1
  exact item_tupleT (s := At s hp tk) hf (by omega) (by omega) (j := k) (by rw [seqIndex_of (by omega) (by omega)]; rfl) hx h hs

theorem setL {l : Addr} {xs : List Value} {k : Int} {u : Tok} {v : Value} {Q : Unit → Shared → Prop} (S : St prog w base h₀ F L hp m) (hf : F l = some (.lst xs)) (hb : base.get? l = none)
    (h0 : 0 ≤ k) (hhi : k < 2 ^ 63) (hn : k < (xs.length : Int)) (h : ∀ h', St prog w base h₀ (upd F l (.lst (xs.set k.toNat v))) L h' m → Q () (At s h' tk)) :
    wpAny (model prog w) A (setItem (.ref l) (.int k u) v) Q E (At s hp tk) := by
  obtain ⟨n, hl⟩ := S.lst hf
  refine ki_setAt (s := At s hp tk) (n := n) hl h0 hhi (by simpa using hn) (h _ (S.change (x := .lst (xs.set k.toNat v)) (Heap.SameBut.extBut (Heap.SameBut.update hp l _)) ⟨n, ?_⟩ (fun q => by rw [← q, S.nF] at hf; cases hf) hb))
  have := PySem.IsL.update (n := n) hl (fun y => y.setIfInBounds k.toNat v)
  simpa using this

theorem upd_upd (F : Addr → Option AO) (a : Addr) (x y : AO) : upd (upd F a x) a y = upd F a y := by
  funext b; unfold upd; split <;> rfl

theorem lt_tree {x y : Addr} {w1 w2 k1 k2 : Int} {t1 t2 u1 u2 : Tok} {e1 e2 : Value} {P : PySem.Fin → Shared → Prop} (hx : IsTup s.heap x [.int w1 t1, .int k1 u1, e1].toArray) (hy : IsTup s.heap y [.int w2 t2, .int k2 u2, e2].toArray)
    (hk : k1 ≠ k2) (h : P (.done (.ret (.bool (klt (w1, k1) (w2, k2))))) s) : wpAny (model prog w) A (Builtin.«tuple.__lt__» ⟨[.ref x, .ref y], []⟩) P E s := by
  have hTb := hy.typeIs
  show wpAny _ _ (isInstance (.ref y) (.type "tuple") >>= _) _ _ s
  refine wpAny_bind (wpAny_isInstance hTb isSubtype_tuple_tuple ?_)
  simp only [Bool.not_true, Bool.false_eq_true, if_false]
  refine wpAny_bind (tupleItemsOf_ hx ?_)
  refine wpAny_bind (tupleItemsOf_ hy ?_)
  refine wpAny_bind ?_
  simp only [List.zip_cons_cons, List.zip_nil_right]
  rw [List.forIn_cons]
  refine wpAny_bind (wpAny_bind (wpAny_eqBool_int ?_))
  by_cases hw : w1 = w2
  · subst hw
    simp only [beq_self_eq_true, Bool.not_true, Bool.false_eq_true, if_false]
    refine wpAny_pure ?_
    simp only
    rw [List.forIn_cons]
    refine wpAny_bind (wpAny_bind (wpAny_eqBool_int ?_))
    have : (k1 == k2) = false := by simpa using hk
    simp only [this, Bool.not_false, if_true]
    refine wpAny_bind (wpAny_rule (wpAny_bind (lt_int ?_)))
    refine wpAny_bind (wpAny_pure (wpAny_pure (wpAny_pure (wpAny_pure ?_))))
    simpa [klt] using h
  · have : (w1 == w2) = false := by simpa using hw
    simp only [this, Bool.not_false, if_true]
    refine wpAny_bind (wpAny_rule (wpAny_bind (lt_int ?_)))
    refine wpAny_bind (wpAny_pure (wpAny_pure (wpAny_pure (wpAny_pure ?_))))
    simpa [klt, hw] using h

theorem ltT {x y : Addr} {w1 w2 k1 k2 : Int} {t1 t2 u1 u2 : Tok} {e1 e2 : Value} {Q : Value → Shared → Prop} (hx : IsTup hp x [.int w1 t1, .int k1 u1, e1].toArray) (hy : IsTup hp y [.int w2 t2, .int k2 u2, e2].toArray)
    (hk : k1 ≠ k2) (hu : A.units < cLine) (h : Q (.bool (klt (w1, k1) (w2, k2))) (At s hp tk)) : wpAny (model prog w) A (compareOp .Lt (.ref x) (.ref y)) Q E (At s hp tk) := by
  have hx' : IsTup (At s hp tk).heap x [.int w1 t1, .int k1 u1, e1].toArray := hx
  have hy' : IsTup (At s hp tk).heap y [.int w2 t2, .int k2 u2, e2].toArray := hy
  show wpAny _ _ (richCompare .Lt (.ref x) (.ref y)) _ _ _
  refine wpAny_richCompare_same_room hx'.typeIs hy'.typeIs PySem.F.slot_tuple_lt ?_ hu
  refine wpAny_call_entry PySem.F.slot_tuple_lt hx'.typeIs PySem.F.entry_tuple_lt ?_ (PySem.F.args_tuple_lt_2 _ _)
  exact lt_tree hx' hy' hk ⟨_, rfl, ⟨fun q => (by cases q), h⟩⟩

/-- a call of one of the module's defs -/
theorem callD {x : Str} {ps pos : Pos} {f : Addr} {oc : Value} {od : Option Addr} {osl : Array (Option Value)} {fd : FuncData} {e : Expr} {rest : List Expr} {Q : Value → Shared → Prop} (B : Bs w base) (S : St prog w base h₀ F L hp m)
    (en : nsIn (hd.heap_39 w.params) mainGlobals x = some (some (.ref f))) (hl : (hd.heap_39 w.params).lookup f = some ⟨oc, od, .func fd, osl⟩)
    (h : wpAny (model prog w) A (spliced (backTo pos (starEach (e :: rest) env))) (fun vs s₁ => Sub base s₁.heap ∧ codeAny (model prog w) A (.call (.ref f) ⟨vs, []⟩) (fun r s' => match r with | .ok (.ret v) => Q v s' | .ok _ => False | .error e => E e s') s₁) E (At s hp tk))
    (he : starEach (e :: rest) env = (false, eval e env) :: starEach rest env := by rfl)
    (hg : env.globals = mainGlobals := by rfl) (hk : env.scope.kind = .function := by rfl) (hx : env.kindOf x = some .globalImplicit := by rfl) (hd : (x == ("__debug__" : Str)) = false := by decide)
    (he' : eval (.Call (.Name x ps) (e :: rest) [] pos) env = (do callWith pos (← eval (.Name x ps) env) [] (backTo pos (starEach (e :: rest) env)) (backToKw pos (keywordEach [] env))) := by rfl) :
    wpAny (model prog w) A (eval (.Call (.Name x ps) (e :: rest) [] pos) env) Q E (At s hp tk) :=
  Call_ (nameG B S en (callWith_def (o := ⟨oc, od, .func fd, osl⟩) rfl (wpAny_mono h (fun vs s₁ h₁ => ⟨(B.K.keeps h₁.1) _ _ hl, wpAny_call h₁.2⟩) fun _ _ x => x) he) hg hk hx hd) he'

/-- a statement's end, told apart -/
theorem then_ {st : Stmt} {rest : List Stmt} {Q : Flow → Shared → Prop} (P : Shared → Prop) (h : wpAny (model prog w) A (exec st env) (fun f s' => f = .next ∧ P s') FF s)
    (k : ∀ s', P s' → wpAny (model prog w) A (execs rest env) Q FF s') : wpAny (model prog w) A (execs (st :: rest) env) Q FF s :=
  wpAny_execs_cons (wpAny_mono h (fun f s' hf => by obtain ⟨rfl, hp⟩ := hf; exact k s' hp) fun _ _ x => x)

/-- len of a list -/
theorem lenL {ps pos : Pos} {e : Expr} {l : Addr} {xs : List Value} {Q : Value → Shared → Prop} (B : Bs w base) (S : St prog w base h₀ F L hp m)
    (h : wpAny (model prog w) A (eval e env) (fun v s₁ => ∃ tk', v = .ref l ∧ s₁ = At s hp tk' ∧ LL hp l xs ∧ xs.length < 2 ^ 40 ∧ ∀ t tk'', Q (.int xs.length t) (At s hp tk'')) E (At s hp tk))
    (he : starEach [e] env = (false, eval e env) :: starEach [] env := by rfl)
    (hg : env.globals = mainGlobals := by rfl) (hb : env.builtins = builtinsNs := by rfl) (hk : env.scope.kind = .function := by rfl) (hx : env.kindOf "len" = some .globalImplicit := by rfl)
    (he' : eval (.Call (.Name "len" ps) [e] [] pos) env = (do callWith pos (← eval (.Name "len" ps) env) [] (backTo pos (starEach [e] env)) (backToKw pos (keywordEach [] env))) := by rfl) :
    wpAny (model prog w) A (eval (.Call (.Name "len" ps) [e] [] pos) env) Q E (At s hp tk) := by
  refine Call_ (nameB B S (by rfl) (v := .builtin "len") (by rfl) (by decide) ?_ hg hb hk hx) he'
  refine callWith_builtin1 (args_cons (wpAny_mono h (fun v s₁ h₁ => ?_) fun _ _ x => x) he) he
  obtain ⟨tk', rfl, rfl, hl, hn, hq⟩ := h₁
  refine args_nil ?_
  refine len_list (s := At s hp tk') hl.isList (by simp; omega) ?_
  simpa using hq _ _
end
end Mine

namespace Mine
open PySem PySem.W PyProof.Rows PySem.Calls

section
variable {prog : Program} {w : World} {base h₀ hp : Heap} {F G : Addr → Option AO} {L a I : Addr} {m : Str → Option Value} {A : Around} {E : Value → Shared → Prop} {s : Shared} {env : Env} {tk : Nat}

theorem St.drop {h h' : Heap} {x : AO} (S : St prog w base h₀ (upd G I x) L h m) (n0 : h₀.get? I = none) (nb : base.get? I = none) (nG : G I = none) (hk : ∀ b o, b ≠ I → h.get? b = some o → h'.get? b = some o) : St prog w base h₀ G L h' m := by
  have hL : L ≠ I := fun q => by have := S.nF; rw [q, upd_self] at this; cases this
  refine ⟨S.ns.extBut hk hL, fun b o e => hk b o (fun q => by rw [q, nb] at e; cases e) (S.bk b o e), fun b o f q e => ?_, fun b y f => ?_, by have := S.nF; rwa [upd_ne hL] at this, S.nb⟩
  · have hb : b ≠ I := fun q => by rw [q, n0] at e; cases e
    exact hk b o hb (S.ext b o (by rw [upd_ne hb]; exact f) q e)
  · have hb : b ≠ I := fun q => by rw [q, nG] at f; cases f
    exact (S.own b y (by rw [upd_ne hb]; exact f)).keep fun o ho => hk b o hb ho

/-- a for loop with a plain name, over any walk -/
theorem loop_walk {R : Result → Shared → Prop} {x : Str} {px : Pos} {body : List Stmt} {fp : List Addr} {n : Nat} {P : Nat → Value → Prop} {Wst : Nat → Heap → Prop} {o₀ : Obj}
    (W : Walks prog w A I fp [I] n P Wst) (hI : ∀ i h, Wst i h → ∃ o, h.get? I = some o)
    (S : St prog w base h₀ (upd G I (.raw o₀)) L hp m) (n0 : h₀.get? I = none) (nb : base.get? I = none) (hst : Wst 0 hp)
    (hfp : ∀ b ∈ fp, b ≠ I → b ≠ L ∧ ∃ o, h₀.get? b = some o)
    (J : Nat → (Addr → Option AO) → (Str → Option Value) → Prop) (j0 : J 0 G m) (hJ : ∀ i G m, J i G m → G I = none ∧ ∀ b ∈ fp, b ≠ I → G b = none)
    (turn : ∀ i v G m h tk o, i < n → P i v → J i G m → St prog w base h₀ (upd G I (.raw o)) L h (fun y => if y = x then some v else m y) →
      wpAny (model prog w) A (execs body env) (fun f s₃ => f = .next ∧ ∃ G' m' h' tk', s₃ = At s h' tk' ∧ J (i + 1) G' m' ∧ St prog w base h₀ (upd G' I (.raw o)) L h' m') FF (At s h tk))
    (fin : ∀ G m h tk, J n G m → St prog w base h₀ G L h m → R (.ok .next) (At s h tk))
    (hL : env.locals = L := by rfl) (hk : env.scope.kind = .function := by rfl) (hl : env.kindOf x = some .local := by rfl) :
    codeAny (model prog w) A (.forLoop (.Name x px) (.ref I) body [] env) R (At s hp tk) := by
  refine codeAny_forLoop_any (fun k s' => ∃ i G m h tk o, k = n - i ∧ i ≤ n ∧ s' = At s h tk ∧ J i G m ∧ Wst i h ∧ St prog w base h₀ (upd G I (.raw o)) L h m) ?_ n ⟨0, G, m, hp, tk, o₀, by omega, by omega, rfl, j0, hst, S⟩
  rintro k s' ⟨i, G, m, h, tk, o, rfl, hi, rfl, jG, st, S⟩
  obtain ⟨nG, nfp⟩ := hJ i G m jG
  have hLI : L ≠ I := fun q => by have := S.nF; rw [q, upd_self] at this; cases this
  by_cases hin : i < n
  · refine W.item i (At s h tk) _ _ hin st (fun v h' tk' hP st' hk' => ?_)
    obtain ⟨o', ho'⟩ := hI _ _ st'
    have S' : St prog w base h₀ (upd G I (.raw o')) L h' m := by
      have := S.change (a := I) (x := .raw o') (h' := h') (fun b o hb e => hk' b o (by simpa using hb) e) ho' hLI nb
      rwa [upd_upd] at this
    show wpAny _ _ (letOwnedTupleGo (.Name x px) (.ref I) v) _ _ _
    refine wpAny_of_eq (a := ()) rfl ?_
    refine wpAny_assign_Name (stv S' (fun h₂ tk₂ S₂ => ?_) hL hk hl)
    refine wpAny_mono (turn i v G m h₂ tk₂ o' hin hP jG S₂) (fun f s₃ hf => ?_) fun _ _ x => x.elim
    obtain ⟨rfl, G', m', h₃, tk₃, rfl, jG', S₃⟩ := hf
    obtain ⟨nG', nfp'⟩ := hJ _ _ _ jG'
    refine ⟨n - (i + 1), by omega, i + 1, G', m', h₃, tk₃, o', rfl, hin, rfl, jG', ?_, S₃⟩
    -- the walk's own objects are kept by the turn
    refine W.frame (i + 1) h' h₃ st' (fun b hb ob eb => ?_)
    by_cases hbI : b = I
    · subst hbI
      have e1 : h₃.get? b = some o' := S₃.own b _ (upd_self _ _ _)
      rw [ho'] at eb; cases eb; exact e1
    · obtain ⟨hbL, o1, e1⟩ := hfp b hb hbI
      have e2 := S'.ext b o1 (by rw [upd_ne hbI]; exact nfp b hb hbI) hbL e1
      have e3 := S₃.ext b o1 (by rw [upd_ne hbI]; exact nfp' b hb hbI) hbL e1
      rw [e2] at eb; cases eb; exact e3
  · have e : i = n := by omega
    subst e
    refine W.done (At s h tk) _ _ st (fun h' tk' hk' => ?_)
    refine wpAny_execs_nil (fin G m h' tk' jG (S.drop n0 nb nG fun b o hb e => hk' b o (by simpa using hb) e))

/-- reversed(range(k)) -/
abbrev ritObj (x left step : Int) : Obj := { cls := .type "range_iterator", data := .fields #[rawInt x, rawInt left, rawInt step] }
end
end Mine

namespace Mine
open PySem PySem.W PyProof.Rows PySem.Calls

section
variable {prog : Program} {w : World} {base h₀ hp : Heap} {F G : Addr → Option AO} {L a I : Addr} {m : Str → Option Value} {A : Around} {E : Value → Shared → Prop} {s : Shared} {env : Env} {tk : Nat}

/-- for k, v in d.items() -/
theorem loop_items {R : Result → Shared → Prop} {xk xv : Str} {pk pv pt : Pos} {x1 : Nat} {body : List Stmt} {d : Addr} {kvs : List (Str × Value)} {ep : Nat} {o₀ : Obj}
    (hh : A.handled = none)
    (S : St prog w base h₀ (upd G I (.raw o₀)) L hp m) (n0 : h₀.get? I = none) (nb : base.get? I = none)
    (hit : IsItemIter hp I d 0 kvs.length ep .none .none) (hd : h₀.DictAt (strKind prog w) d kvs ep) (hdL : d ≠ L)
    (J : Nat → (Addr → Option AO) → (Str → Option Value) → Prop) (j0 : J 0 G m) (hJ : ∀ i G m, J i G m → G I = none ∧ G d = none)
    (turn : ∀ i k v t G m h tk o, kvs[i]? = some (k, v) → J i G m → St prog w base h₀ (upd G I (.raw o)) L h (fun y => if y = xv then some v else if y = xk then some (.str k t) else m y) →
      wpAny (model prog w) A (execs body env) (fun f s₃ => f = .next ∧ ∃ G' m' h' tk', s₃ = At s h' tk' ∧ J (i + 1) G' m' ∧ St prog w base h₀ (upd G' I (.raw o)) L h' m') FF (At s h tk))
    (fin : ∀ G m h tk, J kvs.length G m → St prog w base h₀ G L h m → R (.ok .next) (At s h tk))
    (hL : env.locals = L := by rfl) (hk : env.scope.kind = .function := by rfl) (hlk : env.kindOf xk = some .local := by rfl) (hlv : env.kindOf xv = some .local := by rfl) :
    codeAny (model prog w) A (.forLoop (.Tuple [.Name xk pk, .Name xv pv] x1 pt) (.ref I) body [] env) R (At s hp tk) := by
  have hdI : d ≠ I := fun q => by obtain ⟨_, _, e, _⟩ := hd; rw [q, n0] at e; cases e
  refine codeAny_forLoop_any (fun k s' => ∃ i G m h tk ok ov, k = kvs.length + 1 - i ∧ i ≤ kvs.length ∧ s' = At s h tk ∧ J i G m ∧
      St prog w base h₀ (upd G I (.raw { cls := .type "dict_itemiterator", dict := none, data := .fields #[.none, .bool false, .ref d, .int i 0, .int kvs.length 0, .int ep 0, ok, ov], slots := #[] })) L h m) ?turn (kvs.length + 1)
    ⟨0, G, m, hp, tk, .none, .none, rfl, by omega, rfl, j0, ?init⟩
  case init =>
    have := S.change (a := I) (h' := hp) (x := .raw _) (fun _ _ _ e => e) hit (fun q => by have := S.nF; rw [q, upd_self] at this; cases this) nb
    rwa [upd_upd] at this
  rintro k s' ⟨i, G, m, h, tk, ok, ov, rfl, hi, rfl, jG, S⟩
  obtain ⟨nG, nd⟩ := hJ i G m jG
  have hLI : L ≠ I := fun q => by have := S.nF; rw [q, upd_self] at this; cases this
  have hit' : IsItemIter h I d i kvs.length ep ok ov := S.own I _ (upd_self _ _ _)
  have dAt : ∀ {h o m}, St prog w base h₀ (upd G I (.raw o)) L h m → h.DictAt (strKind prog w) d kvs ep := fun {h o m} S => hd.at fun o e => S.ext d o (by rw [upd_ne hdI]; exact nd) hdL e
  cases hv : kvs[i]? with
  | none =>
    have e : i = kvs.length := Nat.le_antisymm hi (by simpa using hv)
    subst e
    refine wpAny_pyNext_items_end (s := At s h tk) hh hit' (dAt S) hv (fun h' he => ?_)
    exact wpAny_execs_nil (fin G m h' tk jG (S.drop n0 nb nG fun b o hb e => he b o hb e))
  | some kv =>
    obtain ⟨k, v⟩ := kv
    have hlt : i < kvs.length := (List.getElem?_eq_some_iff.mp hv).1
    have hIh : I < h.objs.size := Heap.lt_size hit'
    refine wpAny_pyNext_items_item (s := At s h tk) hit' (dAt S) hv (fun key h₁ hkey heo ht₁ hz₁ hk₁ => ?_)
    obtain ⟨t, rfl⟩ := Value.isStrOf_shape hkey
    have S₁ := S.change (a := I) (h' := h₁) (x := .raw _) (fun b o hb e => hk₁ b o hb e) heo hLI nb
    rw [upd_upd] at S₁
    refine wpAny_letOwnedTupleGo_items heo (fun h₂ he₂ hs₂ => ?_)
    replace hs₂ : Heap.SameBut I h₁ h₂ := hs₂
    have S₂ := S₁.change (a := I) (h' := h₂) (x := .raw _) hs₂.extBut he₂ hLI nb
    rw [upd_upd] at S₂
    have ht₂ : h₂.IsTuple h.objs.size #[.str k t, v] := ⟨_, (hs₂.2 _ (Nat.ne_of_gt hIh)).trans ht₁, rfl, _, rfl⟩
    refine wpAny_assign_Tuple hh ht₂ rfl rfl fun h₃ hx₃ => ?_
    replace hx₃ : Heap.ExtBut h₂.objs.size h₂ h₃ := hx₃
    have S₃ := S₂.keep (h' := h₃) (fun b o e => hx₃ b o (Nat.ne_of_lt (Heap.lt_size e)) e)
    show wpAny _ _ (do holding [v] (assign (.Name xk pk) env (.str k t)); do holding [] (assign (.Name xv pv) env v); pure ()) _ _ _
    refine wpAny_bind (wpAny_holding (wpAny_assign_Name (stv (s := s) S₃ (fun h₄ tk₄ S₄ => ?_) hL hk hlk)))
    refine wpAny_bind (wpAny_holding (wpAny_assign_Name (stv (s := s) S₄ (fun h₅ tk₅ S₅ => wpAny_pure ?_) hL hk hlv)))
    refine wpAny_mono (turn i k v t G m h₅ tk₅ _ hv jG S₅) (fun f s₃ hf => ?_) fun _ _ x => x.elim
    obtain ⟨rfl, G', m', h₆, tk₆, rfl, jG', S₆⟩ := hf
    exact ⟨kvs.length + 1 - (i + 1), by omega, i + 1, G', m', h₆, tk₆, _, _, rfl, hlt, rfl, jG', S₆⟩
end
end Mine

namespace Mine
open PySem PySem.W PyProof.Rows PySem.Calls

def Items (h : Heap) (key : KeyF) (as : List Nat) : Prop := ∀ a ∈ as, ∃ t u e, IsTup h a [.int (key a).1 t, .int (key a).2 u, e].toArray
def Apart (key : KeyF) (as : List Nat) : Prop := as.Pairwise fun a b => (key a).2 ≠ (key b).2
theorem Apart.perm {key : KeyF} {as bs : List Nat} (h : Apart key as) (p : bs.Perm as) : Apart key bs := (List.Perm.pairwise_iff (fun x => Ne.symm x) p).mpr h
theorem Apart.ne {key : KeyF} {as : List Nat} (h : Apart key as) {i j a b : Nat} (hi : as[i]? = some a) (hj : as[j]? = some b) (n : i ≠ j) : (key a).2 ≠ (key b).2 := by
  have key' : ∀ i j a b : Nat, i < j → as[i]? = some a → as[j]? = some b → (key a).2 ≠ (key b).2 := by
    intro i j a b hij hi hj
    obtain ⟨h1, e1⟩ := List.getElem?_eq_some_iff.mp hi
    obtain ⟨h2, e2⟩ := List.getElem?_eq_some_iff.mp hj
    have := List.pairwise_iff_getElem.mp h i j h1 h2 hij
    rw [e1, e2] at this; exact this
  rcases Nat.lt_or_gt_of_ne n with q | q
  · exact key' i j a b q hi hj
  · exact (key' j i b a q hj hi).symm

section
variable {prog : Program} {w : World} {base h₀ : Heap} {F : Addr → Option AO} {L l : Addr} {m : Str → Option Value} {A : Around} {s : Shared} {key : KeyF}

theorem Items.tup {h h' : Heap} {as : List Nat} {a : Nat} (I : Items h key as) (ha : a ∈ as) (hl : ∃ xs, LL h l xs) (hs : Heap.ExtBut l h h') : ∃ t u e, IsTup h' a [.int (key a).1 t, .int (key a).2 u, e].toArray := by
  obtain ⟨t, u, e, o, ho, hc, r⟩ := I a ha
  refine ⟨t, u, e, o, hs a o ?_ ho, hc, r⟩
  rintro rfl
  obtain ⟨xs, n, ho'⟩ := hl
  have ho'' := ho.symm.trans ho'
  cases ho''; exact absurd (show Value.type "list" = Value.type "tuple" from hc) (by decide)

theorem refs_get {as : List Nat} {k : Nat} {a : Nat} (h : as[k]? = some a) : (as.map Value.ref)[k]? = some (.ref a) := by simp [h]

theorem refs_set (as : List Nat) (k : Int) (a : Nat) : (as.map Value.ref).set k.toNat (.ref a) = (as.set k.toNat a).map Value.ref := by rw [List.map_set]

theorem siftdown {R : Result → Shared → Prop} {i p : Nat} {ti tp : Tok} {as : List Nat} {new : Nat}
    (B : Bs w base) (hk : Sub base s.heap) (hb : base.get? l = none) (ok : Ok A 1)
    (hl : LL s.heap l (as.map Value.ref)) (hI : Items s.heap key as) (hA : Apart key as) (hn : as.length < 2 ^ 20)
    (hp : as[p]? = some new) (D : Down key i new as as p)
    (h : ∀ h' tk as', Heap.ExtBut l s.heap h' → LL h' l (as'.map Value.ref) → as'.Perm as → HeapFrom key i as' → R (.ok (.ret .none)) { s with heap := h', toks := tk }) :
    codeAny (model prog w) A (.call (.ref 42) ⟨[.ref l, .int i ti, .int p tp], []⟩) R s := by
  refine enter [("heap", .ref l), ("startpos", .int i ti), ("pos", .int p tp)] B hk ok rfl rfl rfl (by decide) rfl (fun L h₁ tk A' eL ok' S₀ => ?_)
  have n0 : s.heap.get? L = none := eL ▸ get_none_size _
  have lL : L ≠ l := by obtain ⟨o, ho⟩ := hl; exact eL ▸ Nat.ne_of_gt (Heap.lt_size ho)
  have S := S₀.know (x := .lst (as.map Value.ref)) (a := l) (by obtain ⟨o, ho⟩ := hl; exact ⟨o, S₀.ext' n0 _ _ rfl ho⟩) lL hb
  clear S₀
  have hpl := D.lt
  have hlist : ∃ xs, LL s.heap l xs := ⟨_, hl⟩
  refine wpAny_execs_cons (wpAny_Assign_Name (Subscript_ (ldv S rfl (ldv S rfl (itemL (v := .ref new) (S.lst (upd_self _ _ _)) (by omega) (by omega) (by simpa using hp) (stv S fun h₂ tk₂ S => ?_))))))
  refine wpAny_execs_cons (while_to (fun n s' => ∃ h' tk m' cur t1 t2, s' = At s h' tk ∧ St prog w base s.heap (upd none' l (.lst (cur.map Value.ref))) L h' m' ∧
      Down key i new as cur n ∧ m' "heap" = some (.ref l) ∧ m' "startpos" = some (.int i t1) ∧ m' "pos" = some (.int n t2) ∧ m' "newitem" = some (.ref new))
    (fun s' => ∃ h' tk m' cur n t2, s' = At s h' tk ∧ St prog w base s.heap (upd none' l (.lst (cur.map Value.ref))) L h' m' ∧
      Down key i new as cur n ∧ (n ≤ i ∨ ∀ q, cur[(n - 1) / 2]? = some q → kle (key q) (key new)) ∧ m' "heap" = some (.ref l) ∧ m' "pos" = some (.int n t2) ∧ m' "newitem" = some (.ref new)) ?turn p ?init ?fin)
  case init => exact ⟨_, _, _, as, _, _, rfl, S, D, rfl, rfl, rfl, rfl⟩
  case fin =>
    rintro s' ⟨h', tk', m', cur, n, t2, rfl, S, D, he, m1, m3, m4⟩
    have hlen : cur.length = as.length := by have := D.perm.length_eq; simpa using this
    have hnl := D.lt
    refine wpAny_execs_cons (wpAny_Assign_Subscript (ldv S m4 (ldv S m1 (ldv S m3 (setL S (upd_self _ _ _) hb (by omega) (by omega) (by simpa using hnl) (fun h₃ S => ?_))))))
    rw [upd_upd] at S
    refine wpAny_execs_nil (h h₃ _ (cur.set n new) (fun b o hb e => S.ext' n0 b o (upd_ne hb) e) ?_ D.perm (D.fin he))
    have := S.lst (upd_self _ _ _)
    simpa [List.map_set] using this
  case turn =>
    rintro n s' ⟨h', tk', m', cur, t1, t2, rfl, S, D, m1, m2, m3, m4⟩
    have hlen : cur.length = as.length := by have := D.perm.length_eq; simpa using this
    have hnl := D.lt
    refine wpAny_isTrue_Compare1 (ldv S m3 (ldv S m2 (gt_int (wpAny_truthy_bool ?_))))
    by_cases hlt : i < n
    · rw [if_pos (by simpa using hlt)]
      have hq : (n - 1) / 2 < cur.length := by omega
      have eq : cur[(n - 1) / 2]? = some cur[(n - 1) / 2] := List.getElem?_eq_getElem hq
      have eqs : (cur.set n new)[(n - 1) / 2]? = some cur[(n - 1) / 2] := by rw [List.getElem?_set_ne (by omega)]; exact eq
      have memq : cur[(n - 1) / 2] ∈ as := D.perm.mem_iff.mp (List.mem_of_getElem? eqs)
      have newmem : new ∈ as := List.mem_of_getElem? hp
      have hne := (hA.perm D.perm).ne (List.getElem?_set_self hnl) eqs (by omega)
      refine wpAny_execs_cons (wpAny_Assign_Name (wpAny_BinOp (wpAny_BinOp (ldv S m3 (cI fun _ _ => subI fun _ _ => cI fun _ _ => rshI1 fun tp tk₃ => stv S fun h₃ tk₃ S => ?_)))))
      refine wpAny_execs_cons (wpAny_Assign_Name (Subscript_ (ldv S m1 (ldv S rfl (itemL (v := .ref cur[(n - 1) / 2]) (S.lst (upd_self _ _ _)) (by omega) (by omega) (by rw [show (((n : Int) - 1) / 2).toNat = (n - 1) / 2 from by omega]; exact refs_get eq) (stv S fun h₄ tk₄ S => ?_))))))
      have ext : Heap.ExtBut l s.heap h₄ := fun b o hb e => S.ext' n0 b o (upd_ne hb) e
      obtain ⟨a1, a2, a3, ta⟩ := hI.tup newmem hlist ext
      obtain ⟨b1, b2, b3, tb⟩ := hI.tup memq hlist ext
      refine wpAny_execs_cons (wpAny_If (wpAny_isTrue_Compare1 (ldv S m4 (ldv S rfl (ltT ta tb hne ok'.units (wpAny_truthy_bool ?_))))))
      cases hc : klt (key new) (key cur[(n - 1) / 2]) with
      | true =>
        rw [if_pos rfl]
        refine wpAny_execs_cons (wpAny_Assign_Subscript (ldv S rfl (ldv S m1 (ldv S m3 (setL S (upd_self _ _ _) hb (by omega) (by omega) (by simpa using hnl) (fun h₅ S => ?_))))))
        rw [upd_upd, refs_set] at S
        refine wpAny_execs_cons (wpAny_Assign_Name (ldv S rfl (stv S fun h₆ tk₆ S => ?_)))
        refine wpAny_execs_cons (wpAny_Continue ?_)
        refine ⟨(n - 1) / 2, by omega, h₆, tk₆, _, cur.set n cur[(n - 1) / 2], t1, tp, rfl, S, D.step hlt eq hc, m1, m2, ?_, m4⟩
        show some (Value.int (((n : Int) - 1) / 2) tp) = _
        rw [show ((n : Int) - 1) / 2 = (((n - 1) / 2 : Nat) : Int) from by omega]
      | false =>
        rw [if_neg (by decide)]
        refine wpAny_execs_nil ?_
        refine wpAny_execs_cons (wpAny_Break ?_)
        exact ⟨h₄, tk₄, _, cur, n, t2, rfl, S, D, .inr fun q hq => by rw [eq] at hq; cases hq; exact hc, m1, m3, m4⟩
    · rw [if_neg (by simpa using hlt)]
      exact ⟨h', tk', m', cur, n, t2, rfl, S, D, .inl (by omega), m1, m3, m4⟩
end
end Mine

namespace Mine
open PySem PySem.W PyProof.Rows PySem.Calls
section
variable {prog : Program} {w : World} {base h₀ : Heap} {F : Addr → Option AO} {L l : Addr} {m : Str → Option Value} {A : Around} {s : Shared} {key : KeyF}

theorem Items.ext {h h' : Heap} {as bs : List Nat} (I : Items h key as) (hl : ∃ xs, LL h l xs) (hs : Heap.ExtBut l h h') (hb : ∀ b ∈ bs, b ∈ as) : Items h' key bs := fun a ha => I.tup (hb a ha) hl hs

theorem siftup {R : Result → Shared → Prop} {i : Nat} {ti : Tok} {as : List Nat} {new : Nat}
    (B : Bs w base) (hk : Sub base s.heap) (hb : base.get? l = none) (ok : Ok A 2)
    (hl : LL s.heap l (as.map Value.ref)) (hI : Items s.heap key as) (hA : Apart key as) (hn : as.length < 2 ^ 20)
    (hi : as[i]? = some new) (hH : HeapFrom key (i + 1) as)
    (h : ∀ h' tk as', Heap.ExtBut l s.heap h' → LL h' l (as'.map Value.ref) → as'.Perm as → HeapFrom key i as' → R (.ok (.ret .none)) (At s h' tk)) :
    codeAny (model prog w) A (.call (.ref 49) ⟨[.ref l, .int i ti], []⟩) R s := by
  refine enter [("heap", .ref l), ("pos", .int i ti)] B hk ok rfl rfl rfl (by decide) rfl (fun L h₁ tk A' eL ok' S₀ => ?_)
  have n0 : s.heap.get? L = none := eL ▸ get_none_size _
  have lL : L ≠ l := by obtain ⟨o, ho⟩ := hl; exact eL ▸ Nat.ne_of_gt (Heap.lt_size ho)
  have S := S₀.know (x := .lst (as.map Value.ref)) (a := l) (by obtain ⟨o, ho⟩ := hl; exact ⟨o, S₀.ext' n0 _ _ rfl ho⟩) lL hb
  clear S₀
  have U := Up.start hi hH
  have hil := U.lt
  have hlist : ∃ xs, LL s.heap l xs := ⟨_, hl⟩
  refine wpAny_execs_cons (wpAny_Assign_Name (lenL (xs := as.map Value.ref) B S (ldv S rfl ⟨_, rfl, rfl, S.lst (upd_self _ _ _), by simpa using (by omega), fun te tk₂ => stv S fun h₂ tk₂ S => ?_⟩)))
  refine wpAny_execs_cons (wpAny_Assign_Name (ldv S rfl (stv S fun h₃ tk₃ S => ?_)))
  refine wpAny_execs_cons (wpAny_Assign_Name (Subscript_ (ldv S rfl (ldv S rfl (itemL (v := .ref new) (S.lst (upd_self _ _ _)) (by omega) (by omega) (by simpa using hi) (stv S fun h₄ tk₄ S => ?_))))))
  refine wpAny_execs_cons (wpAny_Assign_Name (wpAny_BinOp (wpAny_BinOp (cI fun _ _ => ldv S rfl (mulI (.of_left (by decide)) fun _ _ => cI fun _ _ => addI fun tc tk₅ => stv S fun h₅ tk₅ S => ?_)))))
  refine wpAny_execs_cons (while_to (fun n s' => ∃ h' tk m' cur p t1 t2 t3 t4, s' = At s h' tk ∧ St prog w base s.heap (upd none' l (.lst (cur.map Value.ref))) L h' m' ∧ n + p = as.length ∧
      Up key i new as cur p ∧ m' "heap" = some (.ref l) ∧ m' "startpos" = some (.int i t1) ∧ m' "pos" = some (.int p t2) ∧ m' "newitem" = some (.ref new) ∧ m' "endpos" = some (.int as.length t3) ∧ m' "childpos" = some (.int ((2 * p + 1 : Nat) : Int) t4))
    (fun s' => ∃ h' tk m' cur p t1 t2, s' = At s h' tk ∧ St prog w base s.heap (upd none' l (.lst (cur.map Value.ref))) L h' m' ∧
      Up key i new as cur p ∧ as.length ≤ 2 * p + 1 ∧ m' "heap" = some (.ref l) ∧ m' "startpos" = some (.int i t1) ∧ m' "pos" = some (.int p t2) ∧ m' "newitem" = some (.ref new)) ?turn (as.length - i) ?init ?fin)
  case init =>
    refine ⟨h₅, tk₅, _, as, i, ti, ti, te, tc, rfl, S, by omega, U, rfl, rfl, rfl, rfl, ?_, rfl⟩
    show some (Value.int ((as.map Value.ref).length : Int) te) = _
    rw [List.length_map]
  case fin =>
    rintro s' ⟨h', tk', m', cur, p, t1, t2, rfl, S, U, he, m1, m2, m3, m4⟩
    have hlen : cur.length = as.length := by have := U.perm.length_eq; simpa using this
    have hpl := U.lt
    refine wpAny_execs_cons (wpAny_Assign_Subscript (ldv S m4 (ldv S m1 (ldv S m3 (setL S (upd_self _ _ _) hb (by omega) (by omega) (by simpa using hpl) (fun h₆ S => ?_))))))
    rw [upd_upd, refs_set] at S
    have ext : Heap.ExtBut l s.heap h₆ := fun b o hb e => S.ext' n0 b o (upd_ne hb) e
    have hl' := S.lst (upd_self _ _ _)
    refine wpAny_execs_cons (wpAny_Expr (callD B S rfl rfl (args_cons (ldv S m1 (args_cons (ldv S m2 (args_cons (ldv S m3 (args_nil ⟨S.bk, ?_⟩)))))))))
    have D := U.down (by omega)
    refine siftdown (s := At s h₆ tk') (key := key) (as := cur.set p new) B S.bk hb ok' hl' (hI.ext hlist ext fun b hb => U.perm.mem_iff.mp hb) (hA.perm U.perm) (by simpa [hlen] using hn)
      (List.getElem?_set_self hpl) ?_ ?_
    · refine ⟨D.lt, D.under, by simp, D.rel, D.kids, D.grand⟩
    · intro h₇ tk₇ as' e7 l7 p7 H7
      refine wpAny_execs_nil (h h₇ _ as' (fun b o hb e => e7 b o hb (ext b o hb e)) l7 (p7.trans U.perm) H7)
  case turn =>
    rintro n s' ⟨h', tk', m', cur, p, t1, t2, t3, t4, rfl, S, hnp, U, m1, m2, m3, m4, m5, m6⟩
    have hlen : cur.length = as.length := by have := U.perm.length_eq; simpa using this
    have hpl := U.lt
    refine wpAny_isTrue_Compare1 (ldv S m6 (ldv S m5 (lt_int (wpAny_truthy_bool ?_))))
    by_cases hlt : 2 * p + 1 < as.length
    · rw [if_pos (by simpa using (by omega))]
      have e1 : cur[2 * p + 1]? = some cur[2 * p + 1] := List.getElem?_eq_getElem (by omega)
      have e1' : (cur.set p new)[2 * p + 1]? = some cur[2 * p + 1] := by rw [List.getElem?_set_ne (by omega)]; exact e1
      have mem1 : cur[2 * p + 1] ∈ as := U.perm.mem_iff.mp (List.mem_of_getElem? e1')
      refine wpAny_execs_cons (wpAny_Assign_Name (wpAny_BinOp (ldv S m6 (cI fun _ _ => addI fun tr tk₇ => stv S fun h₇ tk₇ S => ?_))))
      have ext : Heap.ExtBut l s.heap h₇ := fun b o hb e => S.ext' n0 b o (upd_ne hb) e
      have r1 : (if ("rightpos" : Str) = "rightpos" then some (Value.int (((2 * p + 1 : Nat) : Int) + 1) tr) else m' "rightpos") = some (Value.int ((2 * p + 2 : Nat) : Int) tr) := by
        rw [if_pos rfl]; congr 2
      -- the least of the children
      refine then_ (fun s' => ∃ h' tk m' c x t4, s' = At s h' tk ∧ St prog w base s.heap (upd none' l (.lst (cur.map Value.ref))) L h' m' ∧ (c = 2 * p + 1 ∨ c = 2 * p + 2) ∧ cur[c]? = some x ∧
          (∀ d y, (d = 2 * p + 1 ∨ d = 2 * p + 2) → cur[d]? = some y → kle (key x) (key y)) ∧
          m' "heap" = some (.ref l) ∧ m' "startpos" = some (.int i t1) ∧ m' "pos" = some (.int p t2) ∧ m' "newitem" = some (.ref new) ∧ m' "endpos" = some (.int as.length t3) ∧ m' "childpos" = some (.int (c : Int) t4)) ?pick ?go
      case pick =>
        refine wpAny_If (isTrue_and (wpAny_isTrue_Compare1 (ldv S r1 (ldv S m5 (lt_int (wpAny_truthy_bool ?_))))))
        by_cases hr : 2 * p + 2 < as.length
        · rw [if_pos (by simpa using (by omega))]
          have e2 : cur[2 * p + 2]? = some cur[2 * p + 2] := List.getElem?_eq_getElem (by omega)
          have e2' : (cur.set p new)[2 * p + 2]? = some cur[2 * p + 2] := by rw [List.getElem?_set_ne (by omega)]; exact e2
          have mem2 : cur[2 * p + 2] ∈ as := U.perm.mem_iff.mp (List.mem_of_getElem? e2')
          have hne := (hA.perm U.perm).ne e1' e2' (by omega)
          obtain ⟨a1, a2, a3, ta⟩ := hI.tup mem1 hlist ext
          obtain ⟨b1, b2, b3, tb⟩ := hI.tup mem2 hlist ext
          refine isTrue_and (isTrue_not (wpAny_isTrue_Compare1 (Subscript_ (ldv S m1 (ldv S m6 (itemL (S.lst (upd_self _ _ _)) (by omega) (by omega) (refs_get e1) (Subscript_ (ldv S m1 (ldv S r1 (itemL (S.lst (upd_self _ _ _)) (by omega) (by omega) (refs_get e2) (ltT ta tb hne ok'.units (wpAny_truthy_bool ?_))))))))))))
          cases hc : klt (key cur[2 * p + 1]) (key cur[2 * p + 2]) with
          | true =>
            rw [Bool.not_true, if_neg (by decide), if_neg (by decide)]
            refine wpAny_execs_nil ⟨rfl, h₇, tk₇, _, 2 * p + 1, _, t4, rfl, S, .inl rfl, e1, ?_, m1, m2, m3, m4, m5, m6⟩
            rintro d y (rfl | rfl) hy
            · rw [e1] at hy; cases hy; exact kle_refl _
            · rw [e2] at hy; cases hy; exact kle_of_lt hc
          | false =>
            rw [Bool.not_false, if_pos rfl]
            refine isTrue_and_nil ?_
            rw [if_pos rfl]
            refine wpAny_execs_cons (wpAny_Assign_Name (ldv S r1 (stv S fun h₈ tk₈ S => ?_)))
            refine wpAny_execs_nil ⟨rfl, h₈, tk₈, _, 2 * p + 2, _, tr, rfl, S, .inr rfl, e2, ?_, m1, m2, m3, m4, m5, rfl⟩
            rintro d y (rfl | rfl) hy
            · rw [e1] at hy; cases hy; exact hc
            · rw [e2] at hy; cases hy; exact kle_refl _
        · rw [if_neg (by simpa using (by omega)), if_neg (by decide)]
          refine wpAny_execs_nil ⟨rfl, h₇, tk₇, _, 2 * p + 1, _, t4, rfl, S, .inl rfl, e1, ?_, m1, m2, m3, m4, m5, m6⟩
          rintro d y (rfl | rfl) hy
          · rw [e1] at hy; cases hy; exact kle_refl _
          · rw [List.getElem?_eq_none (by omega)] at hy; cases hy
      case go =>
        rintro s' ⟨h₈, tk₈, m₈, c, x, t5, rfl, S, hc, ex, hmin, m1, m2, m3, m4, m5, m6⟩
        have hcl : c < cur.length := (List.getElem?_eq_some_iff.mp ex).1
        refine wpAny_execs_cons (wpAny_Assign_Subscript (Subscript_ (ldv S m1 (ldv S m6 (itemL (S.lst (upd_self _ _ _)) (by omega) (by omega) (refs_get ex) (ldv S m1 (ldv S m3 (setL S (upd_self _ _ _) hb (by omega) (by omega) (by simpa using hpl) (fun h₉ S => ?_)))))))))
        rw [upd_upd, refs_set] at S
        refine wpAny_execs_cons (wpAny_Assign_Name (ldv S m6 (stv S fun h₁₀ tk₁₀ S => ?_)))
        refine wpAny_execs_cons (wpAny_Assign_Name (wpAny_BinOp (wpAny_BinOp (cI fun _ _ => ldv S rfl (mulI (.of_left (by decide)) fun _ _ => cI fun _ _ => addI fun tc tk₁₁ => stv S fun h₁₁ tk₁₁ S => ?_)))))
        refine wpAny_execs_nil ⟨as.length - c, by omega, h₁₁, tk₁₁, _, cur.set p x, c, t1, t5, t3, tc, rfl, S, by omega, U.step hc ex hmin, m1, m2, rfl, m4, m5, ?_⟩
        show some (Value.int (2 * (c : Int) + 1) tc) = _
        congr 2
    · rw [if_neg (by simpa using (by omega))]
      exact ⟨h', tk', m', cur, p, t1, t2, rfl, S, U, by omega, m1, m2, m3, m4⟩
end
end Mine

namespace Mine
open PySem PySem.W PyProof.Rows PySem.Calls
section
variable {prog : Program} {w : World} {base h₀ hp : Heap} {F : Addr → Option AO} {L l : Addr} {m : Str → Option Value} {A : Around} {E : Value → Shared → Prop} {s : Shared} {key : KeyF} {env : Env} {tk : Nat}

theorem truthyL {xs : List Value} {Q : Bool → Shared → Prop} (hl : LL hp l xs) (hn : xs.length < 2 ^ 40) (h : ∀ tk', Q (!xs.isEmpty) (At s hp tk')) : wpAny (model prog w) A (truthy (.ref l)) Q E (At s hp tk) := by
  refine wpAny_truthy_list (s := At s hp tk) hl.isList (by simp; omega) ?_
  have e : xs.toArray.isEmpty = xs.isEmpty := by simp
  rw [e]; exact h _

theorem getPop {pl : Sem Bool} {xs : List Value} {Q : Value × List Value → Shared → Prop} (hl : LL hp l xs) (h : Q (.builtin "list.pop", [.ref l]) (At s hp tk)) : wpAny (model prog w) A (getMethod (.ref l) "pop" pl) Q E (At s hp tk) := by
  obtain ⟨n, hl⟩ := hl
  exact getMethod_list_of (s := At s hp tk) PySem.F.slot_list_pop PySem.F.type_list_pop (PySem.IsL.isList (n := n) hl) ⟨_, hl, rfl⟩ h

theorem popL {pos : Pos} {xs : List Value} {y : Value} {Q : Value → Shared → Prop} (S : St prog w base h₀ F L hp m) (hf : F l = some (.lst (xs ++ [y]))) (hb : base.get? l = none) (hn : xs.length < 2 ^ 20)
    (h : ∀ h', St prog w base h₀ (upd F l (.lst xs)) L h' m → Q y (At s h' tk)) : wpAny (model prog w) A (callWith pos (.builtin "list.pop") [.ref l] [] []) Q E (At s hp tk) := by
  obtain ⟨n, hl⟩ := S.lst hf
  refine PySem.P.pop_list (s := At s hp tk) (n := n) hl (y := y) (by simp) (h _ (S.change (x := .lst xs) (Heap.SameBut.extBut (Heap.SameBut.update hp l _)) ⟨n + 1, ?_⟩ (fun q => by rw [← q, S.nF] at hf; cases hf) hb)) (by rw [sizeLine_eq]; simp; omega)
  have q := PySem.IsL.update (n := n) hl (fun z => z.eraseIdxIfInBounds ((xs ++ [y]).toArray.size - 1))
  have e : (xs ++ [y]).toArray.eraseIdxIfInBounds ((xs ++ [y]).toArray.size - 1) = xs.toArray := by
    have := kl_erase xs [] y
    rw [List.append_nil] at this
    rw [← this]; congr 1; simp
  simp only [e] at q
  rw [if_neg (by simp)] at q
  exact q

theorem heapreplace {R : Result → Shared → Prop} {r x : Nat} {rest : List Nat}
    (B : Bs w base) (hk : Sub base s.heap) (hb : base.get? l = none) (ok : Ok A 3)
    (hl : LL s.heap l ((r :: rest).map Value.ref)) (hI : Items s.heap key (x :: rest)) (hA : Apart key (x :: rest)) (hn : rest.length + 1 < 2 ^ 20) (hH : HeapFrom key 0 (r :: rest))
    (h : ∀ h' tk as', Heap.ExtBut l s.heap h' → LL h' l (as'.map Value.ref) → as'.Perm (x :: rest) → HeapFrom key 0 as' → R (.ok (.ret (.ref r))) (At s h' tk)) :
    codeAny (model prog w) A (.call (.ref 28) ⟨[.ref l, .ref x], []⟩) R s := by
  refine enter [("heap", .ref l), ("item", .ref x)] B hk ok rfl rfl rfl (by decide) rfl (fun L h₁ tk A' eL ok' S₀ => ?_)
  have n0 : s.heap.get? L = none := eL ▸ get_none_size _
  have lL : L ≠ l := by obtain ⟨o, ho⟩ := hl; exact eL ▸ Nat.ne_of_gt (Heap.lt_size ho)
  have S := S₀.know (x := .lst ((r :: rest).map Value.ref)) (a := l) (by obtain ⟨o, ho⟩ := hl; exact ⟨o, S₀.ext' n0 _ _ rfl ho⟩) lL hb
  clear S₀
  have hlist : ∃ xs, LL s.heap l xs := ⟨_, hl⟩
  refine wpAny_execs_cons (wpAny_Assign_Name (Subscript_ (ldv S rfl (cI fun _ _ => itemL (v := .ref r) (S.lst (upd_self _ _ _)) (by omega) (by omega) rfl (stv S fun h₂ tk₂ S => ?_)))))
  refine wpAny_execs_cons (wpAny_Assign_Subscript (ldv S rfl (ldv S rfl (cI fun _ _ => setL S (upd_self _ _ _) hb (by omega) (by omega) (by simp) (fun h₃ S => ?_)))))
  rw [upd_upd, refs_set] at S
  have ext : Heap.ExtBut l s.heap h₃ := fun b o hb e => S.ext' n0 b o (upd_ne hb) e
  refine wpAny_execs_cons (wpAny_Expr (callD B S rfl rfl (args_cons (ldv S rfl (args_cons (cI fun t0 tk₄ => args_nil ⟨S.bk, ?_⟩))))))
  refine siftup (s := At s h₃ tk₄) (key := key) (i := 0) (as := x :: rest) (new := x) B S.bk hb ok' (S.lst (upd_self _ _ _)) (hI.ext hlist ext fun b hb => hb) hA (by simpa using hn) rfl ?_ ?_
  · intro j c a b hj hc ha hb
    have e1 : (x :: rest)[j]? = (r :: rest)[j]? := by cases j with | zero => omega | succ j => rfl
    have e2 : (x :: rest)[c]? = (r :: rest)[c]? := by cases c with | zero => omega | succ c => rfl
    exact hH j c a b (by omega) hc (e1 ▸ ha) (e2 ▸ hb)
  · intro h₅ tk₅ as' e5 l5 p5 H5
    have S := S.change (x := .lst (as'.map Value.ref)) e5 l5 lL hb
    refine wpAny_execs_cons (wpAny_Return_some (ldv S rfl ?_))
    exact h h₅ _ as' (fun b o hb e => e5 b o hb (ext b o hb e)) l5 p5 H5

theorem heappop {R : Result → Shared → Prop} {r : Nat} {rest : List Nat}
    (B : Bs w base) (hk : Sub base s.heap) (hb : base.get? l = none) (ok : Ok A 3)
    (hl : LL s.heap l ((r :: rest).map Value.ref)) (hI : Items s.heap key rest) (hA : Apart key rest) (hn : rest.length + 1 < 2 ^ 20) (hH : HeapFrom key 0 (r :: rest))
    (h : ∀ h' tk as', Heap.ExtBut l s.heap h' → LL h' l (as'.map Value.ref) → as'.Perm rest → HeapFrom key 0 as' → R (.ok (.ret (.ref r))) (At s h' tk)) :
    codeAny (model prog w) A (.call (.ref 21) ⟨[.ref l], []⟩) R s := by
  refine enter [("heap", .ref l)] B hk ok rfl rfl rfl (by decide) rfl (fun L h₁ tk A' eL ok' S₀ => ?_)
  have n0 : s.heap.get? L = none := eL ▸ get_none_size _
  have lL : L ≠ l := by obtain ⟨o, ho⟩ := hl; exact eL ▸ Nat.ne_of_gt (Heap.lt_size ho)
  have S := S₀.know (x := .lst ((r :: rest).map Value.ref)) (a := l) (by obtain ⟨o, ho⟩ := hl; exact ⟨o, S₀.ext' n0 _ _ rfl ho⟩) lL hb
  clear S₀
  have hlist : ∃ xs, LL s.heap l xs := ⟨_, hl⟩
  rcases List.eq_nil_or_concat rest with rfl | ⟨mid, z, er⟩
  · refine wpAny_execs_cons (wpAny_Assign_Name (MethodCall_ (ldv S rfl (getPop (S.lst (upd_self _ _ _)) (popL (xs := []) (y := .ref r) S (upd_self _ _ _) hb (by simp) (fun h₂ S => stv S fun h₃ tk₃ S => ?_))))))
    rw [upd_upd] at S
    refine wpAny_execs_cons (wpAny_If (isTrue_plain (ldv S rfl (wpAny_truthy_list (S.lst (upd_self _ _ _)).isList (by simp) ?_))))
    refine wpAny_execs_nil ?_
    refine wpAny_execs_cons (wpAny_Return_some (ldv S rfl ?_))
    exact h h₃ _ [] (fun b o hb e => S.ext' n0 b o (upd_ne hb) e) (S.lst (upd_self _ _ _)) (.refl _) (fun j c a b _ _ ha _ => by simp at ha)
  · rw [List.concat_eq_append] at er
    subst er
    have hA' : Apart key (z :: mid) := hA.perm (List.perm_append_singleton z mid).symm
    have hml : mid.length + 2 < 2 ^ 20 := by simpa using hn
    refine wpAny_execs_cons (wpAny_Assign_Name (MethodCall_ (ldv S rfl (getPop (S.lst (upd_self _ _ _)) (popL (xs := (r :: mid).map Value.ref) (y := .ref z) S (by rw [upd_self]; simp) hb (by simp; omega) (fun h₂ S => stv S fun h₃ tk₃ S => ?_))))))
    rw [upd_upd] at S
    refine wpAny_execs_cons (wpAny_If (isTrue_plain (ldv S rfl (truthyL (S.lst (upd_self _ _ _)) (by simp; omega) fun tk₃ => ?_))))
    refine wpAny_execs_cons (wpAny_Assign_Name (Subscript_ (ldv S rfl (cI fun _ _ => itemL (v := .ref r) (S.lst (upd_self _ _ _)) (by omega) (by omega) rfl (stv S fun h₂ tk₂ S => ?_)))))
    refine wpAny_execs_cons (wpAny_Assign_Subscript (ldv S rfl (ldv S rfl (cI fun _ _ => setL S (upd_self _ _ _) hb (by omega) (by omega) (by simp) (fun h₃ S => ?_)))))
    rw [upd_upd, refs_set] at S
    have ext : Heap.ExtBut l s.heap h₃ := fun b o hb e => S.ext' n0 b o (upd_ne hb) e
    refine wpAny_execs_cons (wpAny_Expr (callD B S rfl rfl (args_cons (ldv S rfl (args_cons (cI fun t0 tk₄ => args_nil ⟨S.bk, ?_⟩))))))
    refine siftup (s := At s h₃ tk₄) (key := key) (i := 0) (as := z :: mid) (new := z) B S.bk hb ok' (S.lst (upd_self _ _ _)) (hI.ext hlist ext fun b hb => by simpa [or_comm] using hb) hA' (by simp; omega) rfl ?_ ?_
    · intro j c a b hj hc ha hb
      have e : ∀ (k v : Nat), 1 ≤ k → (z :: mid)[k]? = some v → (r :: (mid ++ [z]))[k]? = some v := by
        intro k v hk hv
        cases k with
        | zero => omega
        | succ k =>
          have hv' : mid[k]? = some v := hv
          have : k < mid.length := (List.getElem?_eq_some_iff.mp hv').1
          simp [List.getElem?_append_left this, hv']
      exact hH j c a b (by omega) hc (e _ _ hj ha) (e _ _ (by omega) hb)
    · intro h₅ tk₅ as' e5 l5 p5 H5
      have S := S.change (x := .lst (as'.map Value.ref)) e5 l5 lL hb
      refine wpAny_execs_cons (wpAny_Return_some (ldv S rfl ?_))
      exact h h₅ _ as' (fun b o hb e => e5 b o hb (ext b o hb e)) l5 (p5.trans (List.perm_append_singleton z mid).symm) H5
end
end Mine

namespace Mine
open PySem PySem.W PyProof.Rows PySem.Calls

theorem sub_ri_reversed : isSubtype (.type "range_iterator") (.type "reversed") = pure false := by rw [isSubtype_type]; kernel_rfl

section
variable {prog : Program} {w : World} {base h₀ hp : Heap} {F G : Addr → Option AO} {L l I : Addr} {m : Str → Option Value} {A : Around} {E : Value → Shared → Prop} {s : Shared} {env : Env} {tk : Nat} {key : KeyF}

theorem call_range_rev {r : Addr} {k : Nat} {t u v : Tok} {Q : Value → Shared → Prop} (hk : k < 2 ^ 20) (hr : IsRange s.heap r 0 k 1 t u v)
    (h : Q (.ref s.heap.objs.size) { s with heap := s.heap.push (ritObj ((k : Int) - 1) k (-1)) }) : wpAny (model prog w) A (call (.builtin "range.__reversed__") [.ref r]) Q E s := by
  have hT : s.TypeIs (.ref r) "range" := ⟨_, hr, rfl⟩
  refine wpAny_call_entry PySem.F.slot_range_reversed hT PySem.F.entry_range_reversed ?_ (PySem.F.args_range_reversed_1 _)
  unfold Builtin.«range.__reversed__»
  refine wpAny_bind (wpAny_of_eq (a := Value.ref r) rfl ?_)
  have hf : wpAny (model prog w) A.in1 (Builtin.Range.rangeFields (.ref r)) (fun x s' => x = ((0 : Int), (k : Int), (1 : Int)) ∧ s' = s) E s := by
    unfold Builtin.Range.rangeFields
    refine wpAny_bind (wpAny_field hr rfl rfl ?_)
    refine wpAny_bind (wpAny_of_eq (a := some (0 : Int)) rfl ?_)
    refine wpAny_bind (wpAny_field hr rfl rfl ?_)
    refine wpAny_bind (wpAny_of_eq (a := some (k : Int)) rfl ?_)
    refine wpAny_bind (wpAny_field hr rfl rfl ?_)
    refine wpAny_bind (wpAny_of_eq (a := some (1 : Int)) rfl ?_)
    exact wpAny_pure ⟨rfl, rfl⟩
  refine wpAny_bind (wpAny_mono hf (fun x s' hx => ?_) fun _ _ e => e)
  obtain ⟨rfl, rfl⟩ := hx
  have hn : Builtin.Range.rangeSize 0 k 1 = k := by rw [rangeSize_one]; split <;> omega
  have hs : (Builtin.Range.rangeFitsLong 0 && Builtin.Range.rangeFitsLong k && Builtin.Range.rangeFitsLong 1 && Builtin.Range.rangeFitsLong (-1) && Builtin.Range.rangeFitsLong (0 - 1) && Builtin.Range.rangeFitsLong k) = true := by
    simp only [Builtin.Range.rangeFitsLong, Bool.and_eq_true, decide_eq_true_eq]; omega
  simp only [hn, hs, Bool.not_true, Bool.false_eq_true, if_false, if_true]
  refine wpAny_bind (wpAny_newObj_type (wpAny_pure ⟨_, rfl, ?_⟩))
  have e : (0 : Int) + ((k : Int) - 1) * 1 = (k : Int) - 1 := by omega
  rw [e]
  exact h

theorem code_reversed_range {r : Addr} {k : Nat} {t u v : Tok} {Q₁ : Value → Shared → Prop} (hk : k < 2 ^ 20) (hr : IsRange s.heap r 0 k 1 t u v)
    (h : Q₁ (.ref s.heap.objs.size) { s with heap := s.heap.push (ritObj ((k : Int) - 1) k (-1)) }) :
    codeAny (model prog w) A (.call (.builtin "reversed.__new__") ⟨[.type "reversed", .ref r], []⟩) (wants Q₁ E) s := by
  have hT : s.TypeIs (.ref r) "range" := ⟨_, hr, rfl⟩
  refine codeAny_of_tree ?_
  show wpAny _ A.in1 (do checkBuiltinCall "reversed.__new__" ⟨[.type "reversed", .ref r], []⟩; again (.builtin "reversed.__new__" ⟨[.type "reversed", .ref r], []⟩)) _ _ s
  refine wpAny_bind (wpAny_of_eq (PySem.F.newCall_reversed_1 _) (wpAny_pure ⟨plainId_quiet PySem.F.plain_reversed_new _, codeAny_builtin PySem.F.entry_reversed_new ?_⟩))
  rw [Around.under_plainId PySem.F.plain_reversed_new _]
  unfold Builtin.«reversed.__new__»
  refine wpAny_bind (wpAny_of_eq (newClass_reversed _) ?_)
  try dsimp only
  refine wpAny_bind (wpAny_of_eq (a := ()) (by first | rfl | kernel_rfl) ?_)
  refine wpAny_bind (wpAny_of_eq (a := ()) (by first | rfl | kernel_rfl) ?_)
  try dsimp only
  refine wpAny_bind (wpAny_specialOf hT PySem.F.slot_range_reversed.lookup ?_)
  try dsimp only
  refine wpAny_bind (wpAny_of_eq (PySem.F.slot_range_reversed.bind _) ?_)
  try dsimp only
  first
  | rw [if_neg (show ¬ ((Value.builtin "range.__reversed__" == Value.none) = true) from Bool.false_ne_true)]
  | (show wpAny _ _ (if (Value.builtin "range.__reversed__" == Value.none) = true then _ else _) _ _ _; rw [if_neg (show ¬ ((Value.builtin "range.__reversed__" == Value.none) = true) from Bool.false_ne_true)])
  refine wpAny_bind (wpAny_rule ?_)
  refine wpAny_bind (m := runValue (.call (.builtin "range.__reversed__") ⟨[.ref r], []⟩)) (show wpAny _ _ (call (.builtin "range.__reversed__") [.ref r]) _ _ _ from call_range_rev hk hr ?_)
  first
  | exact wpAny_pure h
  | exact wpAny_bind (wpAny_pure (wpAny_pure h))

theorem call_reversed_range {r : Addr} {k : Nat} {t u v : Tok} {Q : Value → Shared → Prop} (hk : k < 2 ^ 20) (hr : IsRange s.heap r 0 k 1 t u v)
    (h : Q (.ref s.heap.objs.size) { s with heap := s.heap.push (ritObj ((k : Int) - 1) k (-1)) }) : wpAny (model prog w) A (call (.type "reversed") [.ref r]) Q E s := by
  refine callType_other (U := "range_iterator") (Q₁ := fun obj s₁ => obj = .ref s.heap.objs.size ∧ s₁ = { s with heap := s.heap.push (ritObj ((k : Int) - 1) k (-1)) }) (by decide +kernel) PySem.F.create_reversed ⟨_, _, PySem.F.mro_reversed⟩ PySem.F.made_reversed sub_ri_reversed (PySem.F.typeCall_reversed_1 _) (code_reversed_range hk hr ⟨rfl, rfl⟩) ?_
  rintro obj s₁ ⟨rfl, rfl⟩
  exact ⟨⟨_, Heap.get?_push_size _ rfl, rfl⟩, h⟩

theorem mkRange1 {n : Int} {t : Tok} {Q : Value → Shared → Prop} (S : St prog w base h₀ F L hp m)
    (h : ∀ r h' tk', St prog w base h₀ F L h' m → hp.objs.size ≤ r → (∃ t u v, IsRange h' r 0 n 1 t u v) → Q (.ref r) (At s h' tk')) : wpAny (model prog w) A (call (.type "range") [.int n t]) Q E (At s hp tk) :=
  call_range_1 (s := At s hp tk) (h _ _ _ (S.more _) (Nat.le_refl _) ⟨_, _, _, IsRange.new _ _ _ _ _ _ _⟩)
theorem mkRev {r : Addr} {k : Nat} {t u v : Tok} {Q : Value → Shared → Prop} (S : St prog w base h₀ F L hp m) (hk : k < 2 ^ 20) (hr : IsRange hp r 0 k 1 t u v)
    (h : St prog w base h₀ (upd F hp.objs.size (.raw (ritObj ((k : Int) - 1) k (-1)))) L (hp.push (ritObj ((k : Int) - 1) k (-1))) m → Q (.ref hp.objs.size) (At s (hp.push (ritObj ((k : Int) - 1) k (-1))) tk)) :
    wpAny (model prog w) A (call (.type "reversed") [.ref r]) Q E (At s hp tk) :=
  call_reversed_range (s := At s hp tk) hk hr (h (S.push (x := .raw _) (Heap.get?_push_size _ rfl)))

theorem callT1 {x : Str} {T : String} {ps pos : Pos} {e : Expr} {Q : Value → Shared → Prop} (B : Bs w base) (S : St prog w base h₀ F L hp m) (en : nsIn (hd.heap_39 w.params) mainGlobals x = some none) (hv : bootBuiltins x = some (.type T)) (hn : x ≠ "__name__")
    (h : wpAny (model prog w) A (eval e env) (fun v s₁ => wpAny (model prog w) A (call (.type T) [v]) Q E s₁) E (At s hp tk))
    (he : starEach [e] env = (false, eval e env) :: starEach [] env := by rfl)
    (hg : env.globals = mainGlobals := by rfl) (hb : env.builtins = builtinsNs := by rfl) (hk : env.scope.kind = .function := by rfl) (hx : env.kindOf x = some .globalImplicit := by rfl) (hd : (x == ("__debug__" : Str)) = false := by decide)
    (he' : eval (.Call (.Name x ps) [e] [] pos) env = (do callWith pos (← eval (.Name x ps) env) [] (backTo pos (starEach [e] env)) (backToKw pos (keywordEach [] env))) := by rfl) :
    wpAny (model prog w) A (eval (.Call (.Name x ps) [e] [] pos) env) Q E (At s hp tk) :=
  Call_ (nameB B S en hv hn (callWith_type1 (args_cons (wpAny_mono h (fun v s₁ h₁ => args_nil h₁) fun _ _ x => x) he) he) hg hb hk hx hd) he'

theorem heapify {R : Result → Shared → Prop} {as : List Nat}
    (B : Bs w base) (hk : Sub base s.heap) (hb : base.get? l = none) (ok : Ok A 3)
    (hl : LL s.heap l (as.map Value.ref)) (hI : Items s.heap key as) (hA : Apart key as) (hn : as.length < 2 ^ 20)
    (h : ∀ h' tk as', Heap.ExtBut l s.heap h' → LL h' l (as'.map Value.ref) → as'.Perm as → HeapFrom key 0 as' → R (.ok (.ret .none)) (At s h' tk)) :
    codeAny (model prog w) A (.call (.ref 35) ⟨[.ref l], []⟩) R s := by
  refine enter [("x", .ref l)] B hk ok rfl rfl rfl (by decide) rfl (fun L h₁ tk A' eL ok' S₀ => ?_)
  have n0 : s.heap.get? L = none := eL ▸ get_none_size _
  have lL : L ≠ l := by obtain ⟨o, ho⟩ := hl; exact eL ▸ Nat.ne_of_gt (Heap.lt_size ho)
  have S := S₀.know (x := .lst (as.map Value.ref)) (a := l) (by obtain ⟨o, ho⟩ := hl; exact ⟨o, S₀.ext' n0 _ _ rfl ho⟩) lL hb
  clear S₀
  have hlist : ∃ xs, LL s.heap l xs := ⟨_, hl⟩
  refine wpAny_execs_cons (wpAny_Assign_Name (lenL (xs := as.map Value.ref) B S (ldv S rfl ⟨_, rfl, rfl, S.lst (upd_self _ _ _), by simpa using (by omega), fun te tk₂ => stv S fun h₂ tk₂ S => ?_⟩)))
  rw [List.length_map] at S
  refine wpAny_execs_cons (wpAny_For ?_)
  have hfd : ((as.length : Nat) : Int).fdiv 2 = ((as.length / 2 : Nat) : Int) := by
    rw [Int.fdiv_eq_ediv_of_nonneg _ (by decide)]; omega
  refine callT1 (T := "reversed") B S rfl rfl (by decide) (callT1 (T := "range") B S rfl rfl (by decide) (wpAny_BinOp (ldv S rfl (cI fun _ _ => fdivI (by decide) rfl fun t1 tk₃ => ?_))))
  rw [hfd]
  refine mkRange1 S (fun r h₃ tk₄ S1 _ ⟨u1, u2, u3, hr⟩ => ?_)
  refine mkRev (k := as.length / 2) S1 (by omega) hr (fun S2 => ?_)
  refine wpAny_pyIter_rangeiter (Heap.get?_push_size _ rfl) ?_
  have hsz : s.heap.objs.size < h₃.objs.size := eL ▸ S1.ltL
  have lI : l < h₃.objs.size := S1.lt (upd_self _ _ _)
  have nI : s.heap.get? h₃.objs.size = none := Heap.get?_none_of_le (by omega)
  refine loop_walk (Walks.range ok'.hh h₃.objs.size (((as.length / 2 : Nat) : Int) - 1) (-1) (as.length / 2)) (fun i h st => ⟨_, st⟩) (hp := h₃.push (ritObj (((as.length / 2 : Nat) : Int) - 1) ((as.length / 2 : Nat) : Int) (-1))) S2 nI S1.freshB ?_ (fun b hb hne => absurd (by simpa using hb) hne)
    (fun i G m => ∃ cur, G = upd none' l (.lst (cur.map Value.ref)) ∧ cur.Perm as ∧ HeapFrom key (as.length / 2 - i) cur ∧ m "x" = some (.ref l)) ⟨as, rfl, .refl _, ?_, rfl⟩ ?_ ?_ ?_
  · show IsRangeIter _ _ _ _ _
    rw [show (((as.length / 2 : Nat) : Int) - 1) + ((0 : Nat) : Int) * (-1) = ((as.length / 2 : Nat) : Int) - 1 from by omega, show ((as.length / 2 : Nat) : Int) - ((0 : Nat) : Int) = ((as.length / 2 : Nat) : Int) from by omega]
    exact Heap.get?_push_size _ rfl
  · intro j c a b hj hc ha hb
    rw [List.getElem?_eq_none (by omega)] at hb; cases hb
  · rintro i G m ⟨cur, rfl, _⟩
    exact ⟨by rw [upd_ne (Nat.ne_of_gt lI)]; rfl, fun b hb hne => absurd (by simpa using hb) hne⟩
  · rintro i v G m h₄ tk₄ o hi ⟨t2, rfl⟩ ⟨cur, rfl, hp, hH, m1⟩ S
    have hlen := hp.length_eq
    have hfl : upd (upd none' l (.lst (cur.map Value.ref))) h₃.objs.size (.raw o) l = some (.lst (cur.map Value.ref)) := by rw [upd_ne (Nat.ne_of_lt lI), upd_self]
    have ext : Heap.ExtBut l s.heap h₄ := fun b ob hb e => S.ext' n0 b ob (by rw [upd_ne (Nat.ne_of_lt (Nat.lt_trans (Heap.lt_size e) hsz)), upd_ne hb]; rfl) e
    have hi' : as.length / 2 - 1 - i < cur.length := by omega
    have ev : (((as.length / 2 : Nat) : Int) - 1) + ((i : Nat) : Int) * (-1) = ((as.length / 2 - 1 - i : Nat) : Int) := by omega
    rw [ev] at S
    refine wpAny_execs_cons (wpAny_Expr (callD B S rfl rfl (args_cons (ldv S m1 (args_cons (ldv S rfl (args_nil ⟨S.bk, ?_⟩)))))))
    refine siftup (s := At s h₄ tk₄) (key := key) (i := as.length / 2 - 1 - i) (as := cur) (new := cur[as.length / 2 - 1 - i]) B S.bk hb ok' (S.lst hfl) (hI.ext hlist ext fun b hb => hp.mem_iff.mp hb) (hA.perm hp) (by omega)
      (List.getElem?_eq_getElem hi') (by rw [show as.length / 2 - 1 - i + 1 = as.length / 2 - i from by omega]; exact hH) ?_
    intro h₅ tk₅ as' e5 l5 p5 H5
    have S5 := S.change (x := .lst (as'.map Value.ref)) e5 l5 lL hb
    refine wpAny_execs_nil ⟨rfl, upd none' l (.lst (as'.map Value.ref)), (fun y => if y = "i" then some (.int ((as.length / 2 - 1 - i : Nat) : Int) t2) else m y), h₅, tk₅, rfl, ⟨as', rfl, p5.trans hp, by rw [show as.length / 2 - (i + 1) = as.length / 2 - 1 - i from by omega]; exact H5, m1⟩, ?_⟩
    have eu : upd (upd (upd none' l (.lst (cur.map Value.ref))) h₃.objs.size (.raw o)) l (.lst (as'.map Value.ref)) = upd (upd none' l (.lst (as'.map Value.ref))) h₃.objs.size (.raw o) := by
      funext b; unfold upd; by_cases q : b = l
      · subst q; rw [if_pos rfl, if_neg (Nat.ne_of_lt lI), if_pos rfl]
      · rw [if_neg q, if_neg q, if_neg q]
    rw [eu] at S5
    exact S5
  · rintro G m h₆ tk₆ ⟨cur, rfl, hp, hH, m1⟩ S
    refine wpAny_execs_nil (h h₆ _ cur (fun b o hb e => S.ext' n0 b o (upd_ne hb) e) (S.lst (upd_self _ _ _)) hp (by rw [Nat.sub_self] at hH; exact hH))
end
end Mine

namespace Mine
open PySem

/-- a table of callers, plain -/
abbrev Cs := List (Str × Int)
def look (cs : Cs) (k : Str) : Option Int := (cs.find? fun p => p.1 = k).map (·.2)
def put (cs : Cs) (k : Str) (n : Int) : Cs := if cs.any (fun p => p.1 = k) then cs.map (fun p => if p.1 = k then (p.1, n) else p) else cs ++ [(k, n)]
def bump (cs : Cs) (k : Str) (n : Int) : Cs := put cs k (((look cs k).getD 0) + n)
def addC (t s : Cs) : Cs := s.foldl (fun acc p => bump acc p.1 p.2) t
def keys (cs : Cs) : List Str := cs.map (·.1)
def total (cs : Cs) : Int := (cs.map (·.2)).sum

inductive CV : List (Str × Value) → Cs → Prop
  | nil : CV [] []
  | cons {kvs cs} (k : Str) (n : Int) (t : Tok) : CV kvs cs → CV ((k, .int n t) :: kvs) ((k, n) :: cs)

theorem CV.length {kvs cs} (h : CV kvs cs) : kvs.length = cs.length := by induction h <;> simp_all
theorem CV.keys {kvs cs} (h : CV kvs cs) : kvs.map (·.1) = keys cs := by
  induction h with
  | nil => rfl
  | cons k n t _ ih => simp [Mine.keys] at ih ⊢; exact ih
theorem CV.get {kvs cs} (h : CV kvs cs) : ∀ {i : Nat} {k : Str} {v : Value}, kvs[i]? = some (k, v) → ∃ n t, v = .int n t ∧ cs[i]? = some (k, n) := by
  induction h with
  | nil => intro i k v e; simp at e
  | cons k' n t _ ih =>
    intro i k v e
    cases i with
    | zero => simp at e; obtain ⟨rfl, rfl⟩ := e; exact ⟨n, t, rfl, rfl⟩
    | succ i => exact ih (by simpa using e)
theorem CV.any {kvs cs} (h : CV kvs cs) (k : Str) : kvs.any (fun p => p.1 = k) = cs.any (fun p => p.1 = k) := by
  induction h with
  | nil => rfl
  | cons k' n t _ ih => simp only [List.any_cons, ih]
theorem CV.value {kvs cs} (h : CV kvs cs) (k : Str) : (valueAt kvs k = none ∧ look cs k = none) ∨ ∃ n t, valueAt kvs k = some (.int n t) ∧ look cs k = some n := by
  induction h with
  | nil => exact .inl ⟨rfl, rfl⟩
  | cons k' n t _ ih =>
    unfold valueAt look at *
    by_cases e : k' = k
    · right; refine ⟨n, t, ?_, ?_⟩ <;> simp [List.find?_cons, e]
    · simp only [List.find?_cons, e, decide_false]; exact ih
theorem CV.append {kvs cs} (h : CV kvs cs) (k : Str) (n : Int) (t : Tok) : CV (kvs ++ [(k, .int n t)]) (cs ++ [(k, n)]) := by
  induction h with
  | nil => exact .cons k n t .nil
  | cons k' n' t' _ ih => exact .cons k' n' t' ih
theorem CV.map {kvs cs} (h : CV kvs cs) (k : Str) (n : Int) (t : Tok) : CV (kvs.map fun p => if p.1 = k then (p.1, .int n t) else p) (cs.map fun p => if p.1 = k then (p.1, n) else p) := by
  induction h with
  | nil => exact .nil
  | cons k' n' t' _ ih =>
    simp only [List.map_cons]
    by_cases e : k' = k
    · simp only [e, if_true]; exact .cons _ _ _ ih
    · simp only [e, if_false]; exact .cons _ _ _ ih
theorem CV.stored {kvs cs} (h : CV kvs cs) (k : Str) (n : Int) (t : Tok) : CV (stored kvs k (.int n t)) (put cs k n) := by
  unfold PySem.stored put
  rw [h.any k]
  split
  · exact h.map k n t
  · exact h.append k n t

theorem put_new {cs : Cs} {k : Str} (n : Int) (h : k ∉ keys cs) : put cs k n = cs ++ [(k, n)] := by
  unfold put
  rw [if_neg]
  simp only [List.any_eq_true, decide_eq_true_eq, not_exists, not_and]
  intro p hp e
  exact h (by rw [← e]; exact List.mem_map_of_mem hp)
theorem keys_put (cs : Cs) (k : Str) (n : Int) : keys (put cs k n) = if k ∈ keys cs then keys cs else keys cs ++ [k] := by
  unfold put
  have e : (cs.any fun p => decide (p.1 = k)) = decide (k ∈ keys cs) := by
    rw [Bool.eq_iff_iff]
    simp only [List.any_eq_true, decide_eq_true_eq, keys, List.mem_map]
  rw [e]
  by_cases hk : k ∈ keys cs
  · simp only [hk, decide_true, if_true]
    unfold keys
    rw [List.map_map]
    congr 1
    funext p
    simp only [Function.comp]
    split <;> rfl
  · simp only [hk, decide_false, Bool.false_eq_true, if_false]
    simp [keys]
theorem look_put (cs : Cs) (k : Str) (n : Int) (q : Str) : look (put cs k n) q = if q = k then some n else look cs q := by
  unfold put look
  by_cases h : cs.any (fun p => decide (p.1 = k)) = true
  · rw [if_pos h]
    induction cs with
    | nil => simp at h
    | cons p r ih =>
      simp only [List.map_cons, List.find?_cons]
      by_cases e : p.1 = k
      · simp only [e, if_true]
        by_cases e2 : q = k
        · subst e2; simp
        · have e3 : ¬ k = q := fun x => e2 x.symm
          simp only [e3, decide_false, e2, if_false]
          by_cases hr : (r.any fun p => decide (p.1 = k)) = true
          · rw [ih hr]; simp [e2]
          · have : (r.map fun p => if p.1 = k then (p.1, n) else p) = r := by
              have hr' : ∀ x ∈ r, ¬ x.1 = k := fun x hx e => hr (List.any_eq_true.mpr ⟨x, hx, by simpa using e⟩)
              conv => rhs; rw [← List.map_id r]
              exact List.map_congr_left fun x hx => by rw [if_neg (hr' x hx)]; rfl
            rw [this]
      · have hr : (r.any fun p => decide (p.1 = k)) = true := by simpa [e] using h
        simp only [e, if_false]
        by_cases e2 : p.1 = q
        · have : ¬ q = k := fun x => e (e2.trans x)
          simp [e2, this]
        · simp only [e2, decide_false]; exact ih hr
  · rw [if_neg h]
    have hn : ∀ x ∈ cs, ¬ x.1 = k := fun x hx e => h (List.any_eq_true.mpr ⟨x, hx, by simpa using e⟩)
    rw [List.find?_append]
    by_cases e2 : q = k
    · subst e2
      have : cs.find? (fun p => decide (p.1 = q)) = none := by rw [List.find?_eq_none]; intro x hx; simpa using hn x hx
      rw [this]; simp
    · simp only [e2, if_false]
      have : List.find? (fun p => decide (p.1 = q)) [(k, n)] = none := by
        have e3 : ¬ k = q := fun x => e2 x.symm
        simp [e3]
      rw [this]; simp

theorem look_none {cs : Cs} {k : Str} : look cs k = none ↔ k ∉ keys cs := by
  unfold look keys
  rw [Option.map_eq_none_iff, List.find?_eq_none]
  simp only [decide_eq_true_eq, List.mem_map, not_exists, not_and]

theorem keys_bump (cs : Cs) (k : Str) (n : Int) : keys (bump cs k n) = if k ∈ keys cs then keys cs else keys cs ++ [k] := keys_put ..
theorem nodup_bump {cs : Cs} (h : (keys cs).Nodup) (k : Str) (n : Int) : (keys (bump cs k n)).Nodup := by
  rw [keys_bump]
  split
  · exact h
  · rename_i hk
    rw [List.nodup_append]
    exact ⟨h, by simp, fun a ha b hb => by simp at hb; subst hb; exact fun e => hk (e ▸ ha)⟩
theorem nodup_addC {t s : Cs} (h : (keys t).Nodup) : (keys (addC t s)).Nodup := by
  unfold addC
  induction s generalizing t with
  | nil => exact h
  | cons p r ih => exact ih (nodup_bump h p.1 p.2)
theorem look_bump (cs : Cs) (k : Str) (n : Int) (q : Str) : look (bump cs k n) q = if q = k then some ((look cs k).getD 0 + n) else look cs q := look_put ..

/-- what the sum holds at a key -/
theorem look_addC {t s : Cs} (hs : (keys s).Nodup) (q : Str) : look (addC t s) q = match look t q, look s q with
    | some a, some b => some (a + b)
    | some a, none => some a
    | none, x => x := by
  unfold addC
  induction s generalizing t with
  | nil =>
    have e : look [] q = none := rfl
    rw [e, List.foldl_nil]
    cases look t q <;> rfl
  | cons p r ih =>
    obtain ⟨k, n⟩ := p
    have hs' : k ∉ keys r ∧ (keys r).Nodup := by simpa [keys] using hs
    rw [List.foldl_cons, ih hs'.2, look_bump]
    by_cases e : q = k
    · subst e
      have hr : look r q = none := look_none.mpr hs'.1
      have hc : look ((q, n) :: r) q = some n := by simp [look]
      simp only [if_true, hr, hc]
      cases look t q <;> simp
    · have hc : look ((k, n) :: r) q = look r q := by
        unfold look
        have e3 : ¬ k = q := fun x => e x.symm
        simp [List.find?_cons, e3]
      simp only [e, if_false, hc]

theorem total_bump (cs : Cs) (k : Str) (n : Int) (hn : (keys cs).Nodup) : total (bump cs k n) = total cs + n := by
  unfold bump
  induction cs with
  | nil => simp [put, look, total]
  | cons p r ih =>
    obtain ⟨j, a⟩ := p
    have hn' : j ∉ keys r ∧ (keys r).Nodup := by simpa [keys] using hn
    by_cases e : j = k
    · subst e
      have hr : ∀ x ∈ r, ¬ x.1 = j := fun x hx e => hn'.1 (by rw [← e]; exact List.mem_map_of_mem hx)
      have hm : (r.map fun p => if p.1 = j then (p.1, (look ((j, a) :: r) j).getD 0 + n) else p) = r := by
        conv => rhs; rw [← List.map_id r]
        exact List.map_congr_left fun x hx => by rw [if_neg (hr x hx)]; rfl
      have hl : look ((j, a) :: r) j = some a := by simp [look]
      unfold put
      rw [if_pos (by simp)]
      simp only [List.map_cons, if_true, hm]
      simp [hl, total]; omega
    · have hl : look ((j, a) :: r) k = look r k := by unfold look; simp [List.find?_cons, e]
      have ih' := ih hn'.2
      have hp : put ((j, a) :: r) k ((look r k).getD 0 + n) = (j, a) :: put r k ((look r k).getD 0 + n) := by
        unfold put
        simp only [List.any_cons, e, decide_false, Bool.false_or, List.map_cons, if_false]
        split <;> rfl
      rw [hl, hp]
      simp only [total, List.map_cons, List.sum_cons] at ih' ⊢
      omega
theorem total_addC {t s : Cs} (h : (keys t).Nodup) : total (addC t s) = total t + total s := by
  unfold addC
  induction s generalizing t with
  | nil => simp [total]
  | cons p r ih =>
    rw [List.foldl_cons, ih (nodup_bump h p.1 p.2), total_bump _ _ _ h]
    simp [total]; omega
theorem mem_keys_addC {t s : Cs} {k : Str} (hs : (keys s).Nodup) : k ∈ keys (addC t s) ↔ k ∈ keys t ∨ k ∈ keys s := by
  have h := look_addC (t := t) hs k
  have a : ∀ cs : Cs, k ∈ keys cs ↔ look cs k ≠ none := fun cs => by rw [Ne, look_none, Classical.not_not]
  rw [a, a, a, h]
  cases look t k <;> cases look s k <;> simp
end Mine

namespace Mine
open PySem PySem.W PyProof.Rows PySem.Calls

def CD (prog : Program) (w : World) (h : Heap) (d : Addr) (cs : Cs) : Prop := ∃ kvs, h.DictOf (strKind prog w) d kvs ∧ CV kvs cs
theorem CD.sub {prog : Program} {w : World} {h h' : Heap} {d : Addr} {cs : Cs} (x : CD prog w h d cs) (hs : Sub h h') : CD prog w h' d cs := let ⟨k, a, b⟩ := x; ⟨k, a.keep hs, b⟩
theorem CD.lt {prog : Program} {w : World} {h : Heap} {d : Addr} {cs : Cs} (x : CD prog w h d cs) : d < h.objs.size := by
  obtain ⟨k, ⟨o, es, ep, ho, r⟩, b⟩ := x; exact Heap.lt_size ho
theorem CD.nodup {prog : Program} {w : World} {h : Heap} {d : Addr} {cs : Cs} (x : CD prog w h d cs) : (keys cs).Nodup := by
  obtain ⟨k, a, b⟩ := x
  rw [← b.keys]; obtain ⟨ep, z⟩ := a.dictAt; exact z.nodup

theorem ne_one {b d : Nat} (hb : 86 ≤ b) (h : b ≤ d) : d ≠ 1 := by omega
theorem ne_one' {b d : Nat} (hb : 86 ≤ b) (h : b < d) : d ≠ 1 := by omega
/-- two known objects, the other way round -/
theorem upd_swap {F : Addr → Option AO} {a b : Addr} {x y z : AO} (h : a ≠ b) : upd (upd (upd F a x) b y) a z = upd (upd F a z) b y := by
  funext c; unfold upd; by_cases q : c = a
  · subst q; rw [if_pos rfl, if_neg h, if_pos rfl]
  · rw [if_neg q, if_neg q, if_neg q]

section
variable {prog : Program} {w : World} {base h₀ hp : Heap} {F G : Addr → Option AO} {L a d : Addr} {m : Str → Option Value} {A : Around} {E : Value → Shared → Prop} {s : Shared} {env : Env} {tk : Nat}

/-- an empty dict -/
theorem mkDict {pos : Pos} {Q : Value → Shared → Prop} (S : St prog w base h₀ F L hp m)
    (h : ∀ d h', L < d → F d = none → base.get? d = none → Sub hp h' → hp.objs.size ≤ d → h'.DictOf (strKind prog w) d [] → St prog w base h₀ (upd F d (.dS [])) L h' m → Q (.ref d) (At s h' tk)) : wpAny (model prog w) A (eval (.Dict [] [] pos) env) Q E (At s hp tk) :=
  wpAny_Dict_empty (h _ _ S.ltL S.freshF S.freshB (fun _ _ e => Heap.get?_push_of_some _ e) (Nat.le_refl _) (Heap.DictOf.new _) (S.push (x := .dS []) (Heap.DictOf.new _)))

theorem setS {kvs : List (Str × Value)} {k : Str} {t : Tok} {v : Value} {Q : Unit → Shared → Prop} (S : St prog w base h₀ F L hp m) (hf : F d = some (.dS kvs)) (hb : base.get? d = none) (hn : kvs.length < 2 ^ 20)
    (h : ∀ h' tk', St prog w base h₀ (upd F d (.dS (stored kvs k v))) L h' m → Q () (At s h' tk')) : wpAny (model prog w) A (setItem (.ref d) (.str k t) v) Q E (At s hp tk) :=
  wpAny_setItem_pairs (s := At s hp tk) (strKind_is prog w k t) (S.own d _ hf) (fun h' hm hs => h h' _ (S.change (x := .dS _) hs.extBut hm (fun q => by rw [← q, S.nF] at hf; cases hf) hb)) (by rw [sizeLine_eq]; omega)

theorem inS {kvs : List (Str × Value)} {k : Str} {t : Tok} {Q : Value → Shared → Prop} (S : St prog w base h₀ F L hp m) (hf : F d = some (.dS kvs)) (hd : d ≠ 1)
    (h : ∀ tk', Q (.bool (valueAt kvs k).isSome) (At s hp tk')) : wpAny (model prog w) A (compareOp .In (.str k t) (.ref d)) Q E (At s hp tk) :=
  wpAny_in_of (s := At s hp tk) (strKind_is prog w k t) (by simpa [sysModules] using hd) (Heap.DictOf.mapOf (S.own d _ hf)) (h _)

theorem getS {kvs : List (Str × Value)} {k : Str} {t : Tok} {v : Value} {Q : Value → Shared → Prop} (hd : hp.DictOf (strKind prog w) d kvs) (hv : valueAt kvs k = some v)
    (h : ∀ tk', Q v (At s hp tk')) : wpAny (model prog w) A (getItem (.ref d) (.str k t)) Q E (At s hp tk) :=
  wpAny_getItem_of (s := At s hp tk) (strKind_is prog w k t) (Heap.DictOf.mapOf hd) hv (h _)

/-- d.items() and its iterator -/
theorem itemsOf {o : Expr} {apos pos : Pos} {kvs : List (Str × Value)} {ep : Nat} {Q : Value → Shared → Prop} (S : St prog w base h₀ F L hp m) (hm : hp.DictAt (strKind prog w) d kvs ep) (hd : d ≠ 1)
    (ho : ∀ Q', Q' (.ref d) (At s hp tk) → wpAny (model prog w) A (eval o env) Q' E (At s hp tk))
    (h : ∀ I h', L < I → F I = none → base.get? I = none → (∀ b, d = b → b ≠ I) → IsItemIter h' I d 0 kvs.length ep .none .none → St prog w base h₀ (upd F I (.raw { cls := .type "dict_itemiterator", data := .fields #[.none, .bool false, .ref d, .int 0 0, .int kvs.length 0, .int ep 0, .none, .none] })) L h' m → Q (.ref I) (At s h' tk))
    (hbase : attributeBase o "items" env (eval o env) = eval o env := by rfl) (hline : (apos.endLine == pos.line) = true := by rfl) :
    wpAny (model prog w) A (eval (.Call (.Attribute o "items" apos) [] [] pos) env) (fun x s₁ => wpAny (model prog w) A (pyIter x) Q E s₁) E (At s hp tk) := by
  refine wpAny_Call_items (s := At s hp tk) (knd := strKind prog w) (by simpa [sysModules] using hd) hm.dictOf hbase hline ho ?_
  refine wpAny_pyIter_items (knd := strKind prog w) (d := d) (kvs := kvs) (ep := ep) ⟨_, Heap.get?_push_size _ rfl, rfl, rfl⟩ (hm.push _) ?_
  have S1 := S.more { cls := .type "dict_items", data := .fields #[.ref d] }
  exact h _ _ S1.ltL S1.freshF S1.freshB (fun b e => e ▸ Nat.ne_of_lt (Nat.lt_of_lt_of_le hm.lt_size (by show hp.objs.size ≤ (hp.push _).objs.size; rw [Heap.size_push]; omega))) (Heap.get?_push_size _ rfl) (S1.push (x := .raw _) (Heap.get?_push_size _ rfl))

theorem plain2 {e : Expr} {pos : Pos} (he : starEach [e] env = (false, eval e env) :: starEach [] env := by rfl) : (backTo pos (starEach [e] env)).any (·.1) = false := by rw [he]; rfl
theorem isiIT {n : Int} {u : Tok} {Q : Value → Shared → Prop} (h : ∀ tk', Q (.bool false) (At s hp tk')) : wpAny (model prog w) A (call (.builtin "isinstance") [.int n u, .type "tuple"]) Q E (At s hp tk) := PySem.IsiPair.int_tuple (h _)

theorem addCallers {R : Result → Shared → Prop} {dt ds : Addr} {ct cs : Cs}
    (B : Bs w base) (hk : Sub base s.heap) (ok : Ok A 1) (ht : CD prog w s.heap dt ct) (hs : CD prog w s.heap ds cs) (bt : base.objs.size ≤ dt) (bs : base.objs.size ≤ ds) (hn : ct.length + cs.length < 2 ^ 20)
    (h : ∀ h' tk d, Sub s.heap h' → s.heap.objs.size ≤ d → CD prog w h' d (addC ct cs) → R (.ok (.ret (.ref d))) (At s h' tk)) :
    codeAny (model prog w) A (.call (.ref 63) ⟨[.ref dt, .ref ds], []⟩) R s := by
  refine enter [("target", .ref dt), ("source", .ref ds)] B hk ok rfl rfl rfl (by decide) rfl (fun L h₁ tk A' eL ok' S => ?_)
  have n0 : s.heap.get? L = none := eL ▸ get_none_size _
  have big := B.big
  have ltt := ht.lt
  have lts := hs.lt
  obtain ⟨kt, ht, cvt⟩ := ht
  obtain ⟨ks, hs, cvs⟩ := hs
  obtain ⟨ept, htA⟩ := ht.dictAt
  obtain ⟨eps, hsA⟩ := hs.dictAt
  refine wpAny_execs_cons (wpAny_Assign_Name (mkDict S fun d h₂ dL _ bd _ _ _ S => stv S fun h₃ tk₃ S => ?_))
  have dn : s.heap.get? d = none := Heap.get?_none_of_le (by rw [eL]; exact Nat.le_of_lt dL)
  have d1 : d ≠ 1 := ne_one' big (Nat.lt_of_le_of_lt (Nat.le_trans bt (Nat.le_of_lt (eL ▸ ltt))) dL)
  have dtd : dt ≠ d := fun q => by rw [q] at ltt; have : d < L := eL ▸ ltt; exact absurd dL (Nat.lt_asymm this)
  have dsd : ds ≠ d := fun q => by rw [q] at lts; have : d < L := eL ▸ lts; exact absurd dL (Nat.lt_asymm this)
  have dtL : dt ≠ L := fun q => by rw [q, eL] at ltt; exact absurd ltt (Nat.lt_irrefl _)
  have dsL : ds ≠ L := fun q => by rw [q, eL] at lts; exact absurd lts (Nat.lt_irrefl _)
  have keep : ∀ {x : AO} {h : Heap} {m}, St prog w base s.heap (upd none' d x) L h m → Sub s.heap h := fun S b o e => S.ext' n0 b o (by rw [upd_ne (fun q => by rw [q, dn] at e; cases e)]; rfl) e
  -- the first loop copies
  refine wpAny_execs_cons (wpAny_For (itemsOf S (htA.keep (keep S)) (ne_one big bt) (fun Q' q => ldv S rfl q) (fun I h₄ LI fI bI dI hit S => ?_)))
  have In : s.heap.get? I = none := Heap.get?_none_of_le (by rw [eL]; exact Nat.le_of_lt LI)
  have dI' : d ≠ I := fun q => by rw [← q, upd_self] at fI; cases fI
  refine loop_items ok'.hh S In bI hit htA dtL
    (fun i G m => ∃ kv, G = upd none' d (.dS kv) ∧ CV kv (ct.take i) ∧ m "source" = some (.ref ds) ∧ m "new_callers" = some (.ref d)) ⟨[], rfl, .nil, rfl, rfl⟩ ?_ ?_ ?_
  · rintro i G m ⟨kv, rfl, _⟩
    exact ⟨upd_ne (Ne.symm dI'), upd_ne dtd⟩
  · rintro i k v t G m h₅ tk₅ o hi ⟨kv, rfl, cv, m1, m2⟩ S
    obtain ⟨n, u, rfl, hc⟩ := cvt.get hi
    have hil : i < ct.length := (List.getElem?_eq_some_iff.mp hc).1
    have etake : ct.take (i + 1) = ct.take i ++ [(k, n)] := by rw [List.take_add_one, hc]; rfl
    have knot : k ∉ keys (ct.take i) := by
      have nd : (keys ct).Nodup := by rw [← cvt.keys]; exact htA.nodup
      have : (keys (ct.take i ++ [(k, n)])).Nodup := by rw [← etake]; unfold keys; rw [List.map_take]; exact nd.sublist (List.take_sublist _ _)
      rw [show keys (ct.take i ++ [(k, n)]) = keys (ct.take i) ++ [k] from by simp [keys], List.nodup_append] at this
      exact fun hm => this.2.2 k hm k (by simp) rfl
    have kl : kv.length < 2 ^ 20 := by rw [cv.length, List.length_take]; omega
    refine wpAny_execs_cons (wpAny_Assign_Subscript (ldv S rfl (ldv S m2 (ldv S rfl (setS (kvs := kv) S (by rw [upd_ne dI', upd_self]) bd kl (fun h₆ tk₆ S => ?_))))))
    rw [upd_swap dI'] at S
    refine wpAny_execs_nil ⟨rfl, _, _, h₆, tk₆, rfl, ?_, S⟩
    refine ⟨_, rfl, ?_, m1, m2⟩
    rw [etake, ← put_new n knot]; exact cv.stored k n u
  · rintro G m h₅ tk₅ ⟨kv, rfl, cv, m1, m2⟩ S
    have hlen : kt.length = ct.length := cvt.length
    rw [hlen, List.take_length] at cv
    -- the second adds
    refine wpAny_execs_cons (wpAny_For (itemsOf S (hsA.keep (keep S)) (ne_one big bs) (fun Q' q => ldv S m1 q) (fun I h₄ LI fI bI dI hit S => ?_)))
    have In : s.heap.get? I = none := Heap.get?_none_of_le (by rw [eL]; exact Nat.le_of_lt LI)
    have dI' : d ≠ I := fun q => by rw [← q, upd_self] at fI; cases fI
    have addlen : ∀ i, (addC ct (cs.take i)).length ≤ ct.length + cs.length := fun i => by
      have : ∀ (l t : Cs), (addC t l).length ≤ t.length + l.length := by
        intro l
        induction l with
        | nil => intro t; exact Nat.le_refl _
        | cons p r ih =>
          intro t
          have h1 := ih (bump t p.1 p.2)
          have h2 : (bump t p.1 p.2).length ≤ t.length + 1 := by
            have := congrArg List.length (keys_bump t p.1 p.2)
            unfold keys at this
            rw [List.length_map] at this
            rw [this]; split <;> simp
          show (addC (bump t p.1 p.2) r).length ≤ _
          simp only [List.length_cons]; omega
      have h1 := this (cs.take i) ct
      rw [List.length_take] at h1; omega
    refine loop_items ok'.hh S In bI hit hsA dsL
      (fun i G m => ∃ kv, G = upd none' d (.dS kv) ∧ CV kv (addC ct (cs.take i)) ∧ m "new_callers" = some (.ref d)) ⟨kv, rfl, cv, m2⟩ ?_ ?_ ?_
    · rintro i G m ⟨kv, rfl, _⟩
      exact ⟨upd_ne (Ne.symm dI'), upd_ne dsd⟩
    · rintro i k v t G m h₅ tk₅ o hi ⟨kv, rfl, cv, m2⟩ S
      obtain ⟨n, u, rfl, hc⟩ := cvs.get hi
      have etake : addC ct (cs.take (i + 1)) = bump (addC ct (cs.take i)) k n := by rw [List.take_add_one, hc]; unfold addC; rw [List.foldl_append]; rfl
      have kl : kv.length < 2 ^ 20 := by rw [cv.length]; have := addlen i; omega
      have hf : upd (upd none' d (.dS kv)) I (.raw o) d = some (.dS kv) := by rw [upd_ne dI', upd_self]
      refine then_ (fun s' => ∃ h' tk m' kv', s' = At s h' tk ∧ St prog w base s.heap (upd (upd none' d (.dS kv')) I (.raw o)) L h' m' ∧ CV kv' (bump (addC ct (cs.take i)) k n) ∧ m' "new_callers" = some (.ref d)) ?_ ?_
      · refine wpAny_If (wpAny_isTrue_Compare1 (ldv S rfl (ldv S m2 (inS S hf d1 fun tk₆ => wpAny_truthy_bool ?_))))
        rcases cv.value k with ⟨e1, e2⟩ | ⟨b, tb, e1, e2⟩
        · rw [e1, if_neg (by decide)]
          refine wpAny_execs_cons (wpAny_Assign_Subscript (ldv S rfl (ldv S m2 (ldv S rfl (setS (kvs := kv) S hf bd kl (fun h₆ tk₆ S => ?_))))))
          rw [upd_swap dI'] at S
          refine wpAny_execs_nil ⟨rfl, h₆, tk₆, _, _, rfl, S, ?_, m2⟩
          unfold bump; rw [e2]
          have := cv.stored k n u
          simpa using this
        · rw [e1, Option.isSome_some, if_pos rfl]
          refine wpAny_execs_cons (wpAny_If ?_)
          refine isTrue_plain ?_
          refine Call_ ?_
          refine nameB B S rfl (v := .builtin "isinstance") boot_isinstance (by decide) ?_
          refine callWith_builtin1 ?_ (hplain := plain2)
          refine args_cons (ldv S rfl ?_)
          refine args_cons ?_
          refine nameB B S rfl (v := .type "tuple") rfl (by decide) ?_
          refine args_nil ?_
          refine isiIT fun tk₇ => wpAny_truthy_bool ?_
          rw [if_neg (by decide)]
          refine wpAny_execs_cons (wpAny_AugAssign_Subscript (ldv S m2 (ldv S rfl (getS (S.own d _ hf) e1 fun tk₇ => ldv S rfl (iaddI fun tn tk₈ => setS (kvs := kv) S hf bd kl (fun h₆ tk₆ S => ?_))))))
          rw [upd_swap dI'] at S
          refine wpAny_execs_nil (wpAny_execs_nil ⟨rfl, h₆, tk₆, _, _, rfl, S, ?_, m2⟩)
          unfold bump; rw [e2]
          exact cv.stored k (b + n) tn
      · rintro s' ⟨h', tk', m', kv', rfl, S, cv', m2⟩
        exact wpAny_execs_nil ⟨rfl, _, _, h', tk', rfl, ⟨kv', rfl, etake ▸ cv', m2⟩, S⟩
    · rintro G m h₅ tk₅ ⟨kv, rfl, cv, m2⟩ S
      have hlen : ks.length = cs.length := cvs.length
      rw [hlen, List.take_length] at cv
      refine wpAny_execs_cons (wpAny_Return_some (ldv S m2 ?_))
      exact h h₅ _ d (keep S) (by rw [eL]; exact Nat.le_of_lt dL) ⟨kv, S.own d _ (upd_self _ _ _), cv⟩
end
end Mine

namespace Mine
open PySem PySem.W PyProof.Rows PySem.Calls

section
variable {prog : Program} {w : World} {base h₀ hp : Heap} {F G : Addr → Option AO} {L a d : Addr} {m : Str → Option Value} {A : Around} {E : Value → Shared → Prop} {s : Shared} {env : Env} {tk : Nat}

theorem inOrder_nil {Q : Unit → Shared → Prop} (h : Q () s) : wpAny (model prog w) A (assignInOrder [] []) Q E s := wpAny_pure h
theorem inOrder_cons {f : Value → Sem Unit} {fs : List (Value → Sem Unit)} {v : Value} {vs : List Value} {Q : Unit → Shared → Prop} (h : wpAny (model prog w) A (f v) (fun _ s₁ => wpAny (model prog w) A (assignInOrder fs vs) Q E s₁) E s) : wpAny (model prog w) A (assignInOrder (f :: fs) (v :: vs)) Q E s := by
  show wpAny _ _ (do holding vs (f v); assignInOrder fs vs) _ _ _
  exact wpAny_bind (wpAny_holding h)

/-- a store by unpacking a tuple -/
theorem unpackT {elts : List Expr} {x1 : Nat} {pos : Pos} {t : Addr} {xs : List Value} {Q : Unit → Shared → Prop} (hh : A.handled = none) (S : St prog w base h₀ F L hp m) (ht : IsTup hp t xs.toArray)
    (hn : (assignEach elts env).length = xs.length) (hstar : (assignEach elts env).findIdx? (·.1) = none)
    (h : ∀ h', St prog w base h₀ F L h' m → Sub hp h' → wpAny (model prog w) A (assignInOrder ((assignEach elts env).map (·.2)) xs) Q E (At s h' tk)) :
    wpAny (model prog w) A (assign (.Tuple elts x1 pos) env (.ref t)) Q E (At s hp tk) := by
  refine wpAny_assign_Tuple (s := At s hp tk) hh ht (by simpa using hn) hstar (fun h' hx => ?_)
  have hs : Sub hp h' := fun b o e => hx b o (Nat.ne_of_lt (Heap.lt_size e)) e
  exact h h' (S.keep hs) hs

theorem stn {x : Str} {pos : Pos} {v : Value} {Q : Unit → Shared → Prop} (S : St prog w base h₀ F L hp m)
    (h : ∀ h' tk', St prog w base h₀ F L h' (fun y => if y = x then some v else m y) → Q () (At s h' tk'))
    (hL : env.locals = L := by rfl) (hk : env.scope.kind = .function := by rfl) (hl : env.kindOf x = some .local := by rfl) :
    wpAny (model prog w) A (assign (.Name x pos) env v) Q E (At s hp tk) := wpAny_assign_Name (stv S h hL hk hl)

/-- a new tuple -/
theorem mkTup {vs : List Value} {Q : Value → Shared → Prop} (S : St prog w base h₀ F L hp m) (hn : vs.length < 2 ^ 20)
    (h : ∀ t h', L < t → F t = none → base.get? t = none → Sub hp h' → hp.objs.size ≤ t → IsTup h' t vs.toArray → St prog w base h₀ (upd F t (.tup vs)) L h' m → Q (.ref t) (At s h' tk)) : wpAny (model prog w) A (newTuple vs) Q E (At s hp tk) :=
  wpAny_newObj_type (s := At s hp tk) (h _ _ S.ltL S.freshF S.freshB (fun _ _ e => Heap.get?_push_of_some _ e) (Nat.le_refl _) (IsTup.new _ _) (S.push (x := .tup vs) (IsTup.new _ _))) (by show vs.toArray.size ≤ sizeLine; rw [List.size_toArray, sizeLine_eq]; omega)

/-- an entry: two counts, two times, the callers' table -/
structure Ent where
  cc : Int
  nc : Int
  tt : Int
  ct : Int
  cs : Cs
def Ent.add (target source : Ent) : Ent := ⟨source.cc + target.cc, source.nc + target.nc, source.tt + target.tt, source.ct + target.ct, addC target.cs source.cs⟩
def IsEnt (prog : Program) (w : World) (lo : Nat) (h : Heap) (a : Addr) (e : Ent) : Prop :=
  ∃ t1 t2 t3 t4 d, IsTup h a [.int e.cc t1, .int e.nc t2, .int e.tt t3, .int e.ct t4, .ref d].toArray ∧ CD prog w h d e.cs ∧ lo ≤ d
theorem IsEnt.sub {lo : Nat} {h h' : Heap} {e : Ent} (x : IsEnt prog w lo h a e) (hs : Sub h h') : IsEnt prog w lo h' a e :=
  let ⟨t1, t2, t3, t4, d, ⟨o, ho, r⟩, c, l⟩ := x; ⟨t1, t2, t3, t4, d, ⟨o, hs _ _ ho, r⟩, c.sub hs, l⟩

theorem addFuncStats {R : Result → Shared → Prop} {at' as' : Addr} {et es : Ent} {lo : Nat}
    (B : Bs w base) (hk : Sub base s.heap) (ok : Ok A 2) (hlo : base.objs.size ≤ lo) (ht : IsEnt prog w lo s.heap at' et) (hs : IsEnt prog w lo s.heap as' es) (hn : et.cs.length + es.cs.length < 2 ^ 20)
    (h : ∀ h' tk a, Sub s.heap h' → s.heap.objs.size ≤ a → IsEnt prog w lo h' a (et.add es) → R (.ok (.ret (.ref a))) (At s h' tk)) :
    codeAny (model prog w) A (.call (.ref 56) ⟨[.ref at', .ref as'], []⟩) R s := by
  refine enter [("target", .ref at'), ("source", .ref as')] B hk ok rfl rfl rfl (by decide) rfl (fun L h₁ tk A' eL ok' S => ?_)
  have n0 : s.heap.get? L = none := eL ▸ get_none_size _
  have keep : ∀ {h : Heap} {m}, St prog w base s.heap none' L h m → Sub s.heap h := fun S b o e => S.ext' n0 b o rfl e
  obtain ⟨t1, t2, t3, t4, dt, tt, ct, bt⟩ := ht
  obtain ⟨u1, u2, u3, u4, ds, ts, cs, bs⟩ := hs
  refine wpAny_execs_cons (Assign_Tuple (ldv S rfl (unpackT ok'.hh S (IsTup.keeps ts (keep S)) rfl rfl (fun h₂ S _ => ?_))))
  refine inOrder_cons (stn S fun h₃ tk₃ S => inOrder_cons (stn S fun h₃ tk₃ S => inOrder_cons (stn S fun h₃ tk₃ S => inOrder_cons (stn S fun h₃ tk₃ S => inOrder_cons (stn S fun h₃ tk₃ S => inOrder_nil ?_)))))
  refine wpAny_execs_cons (Assign_Tuple (ldv S rfl (unpackT ok'.hh S (IsTup.keeps tt (keep S)) rfl rfl (fun h₂ S _ => ?_))))
  refine inOrder_cons (stn S fun h₃ tk₃ S => inOrder_cons (stn S fun h₃ tk₃ S => inOrder_cons (stn S fun h₃ tk₃ S => inOrder_cons (stn S fun h₃ tk₃ S => inOrder_cons (stn S fun h₃ tk₃ S => inOrder_nil ?_)))))
  refine wpAny_execs_cons (wpAny_Return_some (Tuple_ ?_))
  refine args_cons (wpAny_BinOp (ldv S rfl (ldv S rfl (addI fun v1 k1 => ?_))))
  refine args_cons (wpAny_BinOp (ldv S rfl (ldv S rfl (addI fun v2 k2 => ?_))))
  refine args_cons (wpAny_BinOp (ldv S rfl (ldv S rfl (addI fun v3 k3 => ?_))))
  refine args_cons (wpAny_BinOp (ldv S rfl (ldv S rfl (addI fun v4 k4 => ?_))))
  refine args_cons (callD B S rfl rfl (args_cons (ldv S rfl (args_cons (ldv S rfl (args_nil ⟨S.bk, ?_⟩))))))
  refine addCallers (s := At s h₃ k4) (ct := et.cs) (cs := es.cs) B S.bk ok' (ct.sub (keep S)) (cs.sub (keep S)) (Nat.le_trans hlo bt) (Nat.le_trans hlo bs) hn (fun h₄ tk₄ d sub4 ld cd => ?_)
  have S4 := S.keep (h' := h₄) sub4
  refine args_nil (mkTup S4 (by simp) (fun t h₅ Lt _ _ sub5 lt tup S5 => ?_))
  have lh : s.heap.objs.size ≤ t := by rw [eL]; exact Nat.le_of_lt Lt
  refine h h₅ _ t ((keep S).trans (sub4.trans sub5)) lh ⟨_, _, _, _, d, tup, cd.sub sub5, ?_⟩
  exact Nat.le_trans (Nat.le_of_lt (Nat.lt_of_le_of_lt bt (ct.sub (keep S)).lt)) ld
end
end Mine

namespace Mine
open PySem PySem.W PyProof.Rows PySem.Calls

section
variable {prog : Program} {w : World} {base h₀ hp : Heap} {F G : Addr → Option AO} {L a d : Addr} {m : Str → Option Value} {A : Around} {E : Value → Shared → Prop} {s : Shared} {env : Env} {tk : Nat}

abbrev vitObj (d : Addr) (n ep : Nat) : Obj := { cls := .type "dict_valueiterator", data := .fields #[.ref d, .int 0 0, .int n 0, .int ep 0] }

/-- d.values() and its iterator -/
theorem valuesOf {o : Expr} {apos pos : Pos} {kvs : List (Str × Value)} {ep : Nat} {Q : Value → Shared → Prop} (S : St prog w base h₀ F L hp m) (hm : hp.DictAt (strKind prog w) d kvs ep) (hd : d ≠ 1)
    (ho : ∀ Q', Q' (.ref d) (At s hp tk) → wpAny (model prog w) A (eval o env) Q' E (At s hp tk))
    (h : ∀ I h', L < I → F I = none → base.get? I = none → h'.IsValIter I d 0 kvs.length ep → St prog w base h₀ (upd F I (.raw (vitObj d kvs.length ep))) L h' m → Q (.ref I) (At s h' tk))
    (hbase : attributeBase o "values" env (eval o env) = eval o env := by rfl) (hline : (apos.endLine == pos.line) = true := by rfl) :
    wpAny (model prog w) A (eval (.Call (.Attribute o "values" apos) [] [] pos) env) (fun x s₁ => wpAny (model prog w) A (pyIter x) Q E s₁) E (At s hp tk) := by
  refine wpAny_Call_method (T := "dict") (id := "dict.values") hbase rfl hline PySem.F.plainAttrs_dict PySem.F.slot_dict_values PySem.F.type_dict_values (ho _ ⟨hm.dictOf.typeIs, hm.dictOf.mapOf.noDict, ?_⟩)
  show wpAny _ _ (callWith pos (.builtin "dict.values") [.ref d] [] []) _ _ _
  refine method_meetsIn PySem.F.slot_dict_values PySem.F.entry_dict_values rfl (PyProof.Rows.evalArgs_none ⟨rfl, hm.dictOf.typeIs, PySem.F.args_dict_values_1 _, _, meets_dict_values (strKind prog w) d (by simpa [sysModules] using hd), ⟨kvs, hm.dictOf⟩, ?_⟩)
  refine wpAny_pyIter_values (knd := strKind prog w) (d := d) (kvs := kvs) (ep := ep) ⟨_, Heap.get?_push_size _ rfl, rfl, rfl⟩ (hm.push _) ?_
  have S1 := S.more { cls := .type "dict_values", data := .fields #[.ref d] }
  exact h _ _ S1.ltL S1.freshF S1.freshB ⟨_, Heap.get?_push_size _ rfl, rfl, rfl⟩ (S1.push (x := .raw _) (Heap.get?_push_size _ rfl))

theorem countCalls {R : Result → Shared → Prop} {dc : Addr} {cs : Cs}
    (B : Bs w base) (hk : Sub base s.heap) (ok : Ok A 1) (hc : CD prog w s.heap dc cs) (bc : base.objs.size ≤ dc)
    (h : ∀ h' tk t, Sub s.heap h' → R (.ok (.ret (.int (total cs) t))) (At s h' tk)) :
    codeAny (model prog w) A (.call (.ref 70) ⟨[.ref dc], []⟩) R s := by
  refine enter [("callers", .ref dc)] B hk ok rfl rfl rfl (by decide) rfl (fun L h₁ tk A' eL ok' S => ?_)
  have n0 : s.heap.get? L = none := eL ▸ get_none_size _
  have keep : ∀ {h : Heap} {m}, St prog w base s.heap none' L h m → Sub s.heap h := fun S b o e => S.ext' n0 b o rfl e
  have ltc := hc.lt
  have big := B.big
  obtain ⟨kc, hc, cv⟩ := hc
  obtain ⟨ep, hcA⟩ := hc.dictAt
  have dcL : dc ≠ L := fun q => by rw [q, eL] at ltc; exact absurd ltc (Nat.lt_irrefl _)
  refine wpAny_execs_cons (wpAny_Assign_Name (cI fun t0 k0 => stv S fun h₂ tk₂ S => ?_))
  refine wpAny_execs_cons (wpAny_For (valuesOf S (hcA.keep (keep S)) (ne_one big bc) (fun Q' q => ldv S rfl q) (fun I h₃ LI fI bI hit S3 => ?_)))
  have In : s.heap.get? I = none := Heap.get?_none_of_le (by rw [eL]; exact Nat.le_of_lt LI)
  have dI : dc ≠ I := fun q => by obtain ⟨o, _, e, _⟩ := hcA; rw [q, In] at e; cases e
  refine loop_walk (Walks.dictValues (knd := strKind prog w) ok'.hh I dc dI kc ep) (fun i h st => let ⟨o, ho, _⟩ := st.1; ⟨o, ho⟩) S3 In bI ⟨hit, hcA.at fun o e => S3.ext dc o (by rw [upd_ne dI]; rfl) dcL e⟩ (fun b hb hne => ?_)
    (fun i G m => G = none' ∧ ∃ t, m "nc" = some (.int (total (cs.take i)) t)) ⟨rfl, t0, rfl⟩ (fun i G m j => ?_) ?_ ?_
  · have e : b = dc := by simpa [hne] using hb
    subst e
    obtain ⟨o, _, ho, _⟩ := hcA
    exact ⟨dcL, o, ho⟩
  · rw [j.1]; exact ⟨rfl, fun b _ _ => rfl⟩
  · rintro i v G m h₄ tk₄ o hi ⟨k, hv⟩ ⟨rfl, t1, m1⟩ S
    obtain ⟨n, u, rfl, hc⟩ := cv.get hv
    refine wpAny_execs_cons (wpAny_AugAssign_Name (ldn S m1 (ldv S rfl (iaddI fun t2 tk₅ => stv S fun h₅ tk₅ S => ?_))))
    refine wpAny_execs_nil ⟨rfl, _, _, h₅, tk₅, rfl, ⟨rfl, t2, ?_⟩, S⟩
    have : total (cs.take (i + 1)) = total (cs.take i) + n := by rw [List.take_add_one, hc]; simp [total]
    rw [this]; rfl
  · rintro G m h₅ tk₅ ⟨rfl, t1, m1⟩ S
    rw [cv.length, List.take_length] at m1
    refine wpAny_execs_cons (wpAny_Return_some (ldv S m1 ?_))
    exact h h₅ _ t1 (keep S)
end
end Mine

namespace Mine
open PySem PySem.W PyProof.Rows PySem.Calls

section
variable {prog : Program} {w : World} {base h₀ hp : Heap} {F G : Addr → Option AO} {L a d : Addr} {m : Str → Option Value} {A : Around} {E : Value → Shared → Prop} {s : Shared} {env : Env} {tk : Nat}

/-- what a comprehension's element must do: from any state of the block's frame C, over the heap hp -/
def EltOk (prog : Program) (w : World) (A : Around) (base hp : Heap) (cenv : Addr → Env) (x : Str) (elt : Expr) (P : Nat → Value → Prop) (Fv : Value → Value → Prop) : Prop :=
  ∀ (s' : Shared) (C : Addr) i v h₃ tk₃ m₃, P i v → m₃ x = some v → hp.get? C = none → St prog w base hp none' C h₃ m₃ →
    wpAny (model prog w) A (eval elt (cenv C)) (fun y s₄ => Fv v y ∧ ∃ h' tk', s₄ = At s' h' tk' ∧ Sub h₃ h') FF (At s' h₃ tk₃)

theorem quiet_of {scope : Scope} {cl : List (Str × Addr)} {x : Str} {elt : Expr} {P : Nat → Value → Prop} {Fv : Value → Value → Prop} {I : Addr} {h₂ : Heap} {tk₂ : Nat} (hb : Sub base hp) (hs : Sub hp h₂) (hI : hp.get? I = none)
    (he : EltOk prog w A base hp (fun C => compEnvC scope cl C env) x elt P Fv) : QuietOnC prog w A env scope cl x [] elt [I] P (fun _ => true) Fv (At s h₂ tk₂) where
  tests := fun C i v s₃ m₃ E' hC hP hn hm hk ht => wpAny_pure ⟨rfl, s₃.heap, s₃.toks, rfl, fun _ _ e => e⟩
  elt := fun C i v s₃ m₃ E' hC hP _ hn hm hk ht => by
    have hC' : h₂.objs.size ≤ C := hC
    have nC : hp.get? C = none := none_of_sub hs (Heap.get?_none_of_le hC')
    have S : St prog w base hp none' C s₃.heap m₃ := ⟨hn, fun b o e => hk b o (by simp; rintro rfl; have := hb _ _ e; rw [hI] at this; cases this) (hs _ _ (hb _ _ e)),
      fun b o _ _ e => hk b o (by simp; rintro rfl; rw [hI] at e; cases e) (hs _ _ e), fun _ _ f => (nomatch f), rfl, none_of_sub hb nC⟩
    refine wpAny_mono (he s₃ C i v s₃.heap s₃.toks m₃ hP hm nC S) (fun y s₄ h₄ => ?_) fun _ _ e => e.elim
    obtain ⟨hF, h', tk', rfl, hk'⟩ := h₄
    exact ⟨hF, h', tk', rfl, hk'⟩

theorem filter_true {α : Type} (l : List α) : l.filter (fun _ => true) = l := by simp

/-- a comprehension with one name, as a value -/
theorem compN {elt iter : Expr} {x : Str} {px pos : Pos} {scope : Scope} {cl : List (Str × Addr)} {Q : Value → Shared → Prop} (Fv : Value → Value → Prop) (S : St prog w base h₀ F L hp m)
    (h : wpAny (model prog w) A (eval iter env) (fun xv s₁ => wpAny (model prog w) A (pyIter xv) (fun it s₂ => ∃ I h₂ tk₂ fp n P Wst, it = .ref I ∧ s₂ = At s h₂ tk₂ ∧ Sub hp h₂ ∧ hp.get? I = none ∧ Walks prog w A I fp [I] n P Wst ∧ n < 2 ^ 20 ∧ Wst 0 h₂ ∧
      (∀ b ∈ fp, b < h₂.objs.size) ∧ EltOk prog w A base hp (fun C => compEnvC scope cl C env) x elt P Fv ∧
      (∀ D h' tk' ys (vs : List Value), hp.get? D = none → Sub hp h' → LL h' D ys → St prog w base h₀ (upd F D (.lst ys)) L h' m → vs.length = n → (∀ j v, vs[j]? = some v → P j v) → Paired Fv vs ys → Q (.ref D) (At s h' tk'))) FF s₁) FF (At s hp tk))
    (hclos : closureFor scope env = pure cl := by rfl) (hcell : ∀ y ∈ scope.names, y.2 ≠ .cell := by decide) (hkind : scope.kind = .function := by rfl)
    (hnames : ∀ y ∈ scope.names, y.2 = .local → scope.names.lookup y.1 = some .local := by decide) (hx : scope.names.lookup x = some .local := by rfl) (hs : ∀ x, foldedSetIterable iter env x = pure x := by intro _; rfl) :
    wpAny (model prog w) A (eval (.ListComp elt [⟨.Name x px, iter, [], 0⟩] scope pos) env) Q FF (At s hp tk) := by
  refine wpAny_ListComp_free (fun _ => true) Fv hclos hcell hkind hnames hx (wpAny_mono h (fun xv s₁ h₁ => wpAny_mono h₁ (fun it s₂ h₂ => ?_) fun _ _ e => e) fun _ _ e => e) hs
  obtain ⟨I, h₂, tk₂, fp, n, P, Wst, rfl, rfl, sub, nI, W, hn, hst, hfp, he, hQ⟩ := h₂
  refine ⟨I, fp, [I], n, P, Wst, rfl, W, by rw [sizeLine_eq]; omega, hst, hfp, quiet_of S.bk sub nI he, ?_⟩
  intro D h' tk' ys vs hD _ hpl hlen hP hF hk
  rw [filter_true] at hF
  have nD : hp.get? D = none := none_of_sub sub hD
  have sub' : Sub hp h' := fun b o e => hk b o (by simp; rintro rfl; rw [nI] at e; cases e) (sub _ _ e)
  have DL : L ≠ D := fun q => by obtain ⟨o, _, _, e, _⟩ := S.ns; rw [q, nD] at e; cases e
  exact hQ D h' tk' ys.toList vs nD sub' hpl ((S.keep sub').know (x := .lst ys.toList) hpl DL (none_of_sub S.bk nD)) hlen hP hF

/-- the same, bound to a name -/
theorem compA {elt iter : Expr} {x y : Str} {px py pos spos : Pos} {scope : Scope} {cl : List (Str × Addr)} {Q : Flow → Shared → Prop} (Fv : Value → Value → Prop) (S : St prog w base h₀ F L hp m)
    (h : wpAny (model prog w) A (eval iter env) (fun xv s₁ => wpAny (model prog w) A (pyIter xv) (fun it s₂ => ∃ I h₂ tk₂ fp n P Wst, it = .ref I ∧ s₂ = At s h₂ tk₂ ∧ Sub hp h₂ ∧ hp.get? I = none ∧ Walks prog w A I fp [I] n P Wst ∧ n < 2 ^ 20 ∧ Wst 0 h₂ ∧
      (∀ b ∈ fp, b < h₂.objs.size) ∧ EltOk prog w A base hp (fun C => compEnvC scope cl C env) x elt P Fv ∧
      (∀ D h' tk' ys (vs : List Value), hp.get? D = none → LL h' D ys → St prog w base h₀ (upd F D (.lst ys)) L h' (fun z => if z = y then some (.ref D) else m z) → vs.length = n → (∀ j v, vs[j]? = some v → P j v) → Paired Fv vs ys → Q .next (At s h' tk'))) FF s₁) FF (At s hp tk))
    (hsw : swapsWith (.ListComp elt [⟨.Name x px, iter, [], 0⟩] scope pos) (some (.Name y py)) spos.line env = pure true := by rfl)
    (hL : env.locals = L := by rfl) (hk : env.scope.kind = .function := by rfl) (hy : env.kindOf y = some .local := by rfl)
    (hclos : closureFor scope env = pure cl := by rfl) (hcell : ∀ y ∈ scope.names, y.2 ≠ .cell := by decide) (hkind : scope.kind = .function := by rfl)
    (hnames : ∀ y ∈ scope.names, y.2 = .local → scope.names.lookup y.1 = some .local := by decide) (hx : scope.names.lookup x = some .local := by rfl) (hs : ∀ x, foldedSetIterable iter env x = pure x := by intro _; rfl) :
    wpAny (model prog w) A (exec (.Assign [.Name y py] (.ListComp elt [⟨.Name x px, iter, [], 0⟩] scope pos) spos) env) Q FF (At s hp tk) := by
  subst hL
  refine wpAny_Assign_ListComp_free (fun _ => true) Fv hsw hclos hcell hkind hnames hx hy (by rw [hk]; rfl) (wpAny_mono h (fun xv s₁ h₁ => wpAny_mono h₁ (fun it s₂ h₂ => ?_) fun _ _ e => e) fun _ _ e => e) hs
  obtain ⟨I, h₂, tk₂, fp, n, P, Wst, rfl, rfl, sub, nI, W, hn, hst, hfp, he, hQ⟩ := h₂
  have LI : env.locals ≠ I := fun q => by obtain ⟨o, _, _, e, _⟩ := S.ns; rw [q, nI] at e; cases e
  refine ⟨I, fp, [I], n, P, Wst, m, rfl, W, by rw [sizeLine_eq]; omega, hst, hfp, by simpa using LI, S.ns.keeps sub, quiet_of S.bk sub nI he, ?_⟩
  intro D h' tk' ys vs hD _ hpl hlen hP hF hns hk'
  rw [filter_true] at hF
  have nD : hp.get? D = none := none_of_sub sub hD
  have keep : ∀ b o, b ≠ env.locals → hp.get? b = some o → h'.get? b = some o := fun b o hb e => hk' b o hb (by simp; rintro rfl; rw [nI] at e; cases e) (sub _ _ e)
  have DL : env.locals ≠ D := fun q => by obtain ⟨o, _, _, e, _⟩ := S.ns; rw [q, nD] at e; cases e
  have S' : St prog w base h₀ F env.locals h' (fun z => if z = y then some (.ref D) else m z) := ⟨hns, fun b o e => keep b o (fun q => by rw [q, S.nb] at e; cases e) (S.bk b o e), fun b o f q e => keep b o q (S.ext b o f q e),
    fun b x f => (S.own b x f).keep fun o ho => keep b o (fun q => by rw [q, S.nF] at f; cases f) ho, S.nF, S.nb⟩
  exact hQ D h' tk' ys.toList vs nD hpl (S'.know (x := .lst ys.toList) hpl DL (none_of_sub S.bk nD)) hlen hP hF
end
end Mine

namespace Mine
open PySem PySem.W PyProof.Rows PySem.Calls

section
variable {prog : Program} {w : World} {base h₀ hp : Heap} {F G : Addr → Option AO} {L a d : Addr} {m : Str → Option Value} {A : Around} {E : Value → Shared → Prop} {s : Shared} {env : Env} {tk : Nat}

/-- a list comprehension's loop, any target -/
theorem compLoop_any {R : Result → Shared → Prop} {elt target iter : Expr} {scope : Scope} {pos : Pos} {it acc : Value} (I : Nat → Shared → Prop)
    (turn : ∀ n s, I n s → wpAny (model prog w) A (pyNext it) (fun r s₁ => match r with
      | none => R (.ok .next) s₁
      | some v => wpAny (model prog w) A (letOwnedTupleGo target it v) (fun _ s₁' => wpAny (model prog w) A (assign target env v) (fun _ s₂ => wpAny (model prog w) A (eval elt env) (fun x s₃ =>
          wpAny (model prog w) A (call (.builtin "list.append") [acc, x]) (fun _ s₄ => ∃ m, m < n ∧ I m s₄) FF s₃) FF s₂) FF s₁') FF s₁) FF s)
    (n : Nat) (h : I n s) : codeAny (model prog w) A (.compLoop (.ListComp elt [⟨target, iter, [], 0⟩] scope pos) 0 it acc env) R s := by
  refine codeAny_loop rfl I (fun n s hI => ?_) n h
  show wpAny _ _ ((compTurn (.ListComp elt [⟨target, iter, [], 0⟩] scope pos) 0 it acc env).onRaise (fun x => do noteFrame x env; theTreesLotGoes x)) _ _ s
  refine wpAny_noted ?_
  rw [compTurn_list1]
  refine wpAny_mono (Q := fun fin s' => match fin with | .done f => R (.ok f) s' | .again c => c = .compLoop (.ListComp elt [⟨target, iter, [], 0⟩] scope pos) 0 it acc env ∧ ∃ m, m < n ∧ I m s') (E := FF) ?_ (fun fin s' hf => by cases fin <;> exact hf) fun _ _ x => x.elim
  refine wpAny_bind (wpAny_standAt (wpAny_bind (wpAny_mono (turn n s hI) (fun r s₁ h₁ => ?_) fun _ _ h' => h')))
  cases r with
  | none => exact wpAny_pure h₁
  | some v =>
    refine wpAny_bind (wpAny_mono h₁ (fun _ s₁' h₁' => ?_) fun _ _ h' => h')
    exact wpAny_bind (wpAny_mono h₁' (fun _ s₂ h₂ => wpAny_bind (wpAny_bind (wpAny_mono h₂ (fun x s₃ h₃ => wpAny_bind (wpAny_mono h₃
      (fun _ s₄ h₄ => wpAny_pure (wpAny_pure ⟨rfl, h₄⟩)) fun _ _ h' => h')) fun _ _ h' => h'))) fun _ _ h' => h')

theorem St.wr {h h' : Heap} {L : Addr} {m} (wr : List Addr) (S : St prog w base h₀ F L h m) (hk : ∀ b o, b ∉ wr → h.get? b = some o → h'.get? b = some o) (hL : L ∉ wr) (nb : ∀ b ∈ wr, base.get? b = none) (n0 : ∀ b ∈ wr, h₀.get? b = none) (nF : ∀ b ∈ wr, F b = none) :
    St prog w base h₀ F L h' m :=
  ⟨S.ns.at' (fun o e => hk _ o hL e), fun b o e => hk b o (fun q => by rw [nb b q] at e; cases e) (S.bk b o e), fun b o f q e => hk b o (fun q => by rw [n0 b q] at e; cases e) (S.ext b o f q e),
    fun b x f => (S.own b x f).keep fun o ho => hk b o (fun q => by rw [nF b q] at f; cases f) ho, S.nF, S.nb⟩

/-- what an element over pairs must do -/
def EltT (prog : Program) (w : World) (A : Around) (base hp : Heap) (cenv : Addr → Env) (xa xb : Str) (elt : Expr) (Pt : Nat → Array Value → Prop) (Ei : Nat → Value → Heap → Prop) : Prop :=
  ∀ (s' : Shared) (C : Addr) (i : Nat) (va vb : Value) (h₃ : Heap) (tk₃ : Nat) (m₃ : Str → Option Value), Pt i #[va, vb] → St prog w base hp none' C h₃ (fun y => if y = xb then some vb else if y = xa then some va else m₃ y) →
    wpAny (model prog w) A (eval elt (cenv C)) (fun y s₄ => ∃ h' tk', s₄ = At s' h' tk' ∧ Sub h₃ h' ∧ ∀ g : Heap, (∀ b o, h'.get? b = some o → h₃.objs.size ≤ b → g.get? b = some o) → Ei i y g) FF (At s' h₃ tk₃)

theorem appendL {l : Addr} {xs : List Value} {x : Value} {Q : Value → Shared → Prop} (hl : LL hp l xs) (hn : xs.length < 2 ^ 20)
    (h : ∀ h', LL h' l (xs ++ [x]) → Heap.SameBut l hp h' → Q .none (At s h' tk)) : wpAny (model prog w) A (call (.builtin "list.append") [.ref l, x]) Q E (At s hp tk) := by
  obtain ⟨n, hl⟩ := hl
  refine call_meets PySem.F.slot_list_append ⟨_, hl, rfl⟩ PySem.F.entry_list_append (PySem.F.args_list_append_2 _ _) (PySem.list_append l xs.toArray n x (by rw [sizeLine_eq]; simp; omega)) ⟨hl, h _ ⟨n + 1, ?_⟩ (Heap.SameBut.update hp l _)⟩
  have q := PySem.IsL.update (n := n) hl (fun z => z.push x)
  rw [if_neg (by simp)] at q
  simpa using q

theorem stvS {x : Str} {v : Value} {Q : Unit → Shared → Prop} (S : St prog w base h₀ F L hp m)
    (h : ∀ h' tk', St prog w base h₀ F L h' (fun y => if y = x then some v else m y) → Heap.SameBut L hp h' → Q () (At s h' tk'))
    (hL : env.locals = L) (hk : env.scope.kind = .function) (hl : env.kindOf x = some .local) :
    wpAny (model prog w) A (storeName env x v) Q E (At s hp tk) := by
  subst hL
  exact wpAny_storeName_local hl S.ns (fun h' hn hs => h h' _ (S.store hn hs) hs) (by rw [hk]; rfl)

theorem hide_sub {h h' : Heap} {sp : List Addr} (hk : ∀ b o, b ∉ sp → h.get? b = some o → h'.get? b = some o) : Sub (hideAll h sp) (hideAll h' sp) := fun b o e => by
  have hb : b ∉ sp := fun q => by rw [hideAll_none sp q] at e; cases e
  exact hideAll_get sp (hk b o hb (of_hideAll sp e)) hb

theorem comp_blockT {elt iter : Expr} {xa xb : Str} {pa pb pt : Pos} {x1 : Nat} {scope : Scope} {cl : List (Str × Addr)} {pos : Pos} {I : Addr} {h₂ : Heap} {tk₂ : Nat} {fp wr : List Addr} {n : Nat} {Pt : Nat → Array Value → Prop} {Wst : Nat → Heap → Prop} {Mid : Nat → Addr → Heap → Prop}
    (W : WalksT prog w A I fp wr n Pt Wst Mid) (hh : A.handled = none) (hn : n < 2 ^ 20) (Ei : Nat → Value → Heap → Prop) (mono : ∀ i y h h', Sub h h' → Ei i y h → Ei i y h') {RR : Value → Addr → Result → Shared → Prop}
    (hpt : ∀ i vals, Pt i vals → ∃ va vb, vals = #[va, vb])
    (hb : Sub base hp) (hs : Sub hp h₂) (nwr : ∀ b ∈ wr, hp.get? b = none) (hfp : ∀ b ∈ fp, b < h₂.objs.size) (hst : Wst 0 h₂)
    (he : EltT prog w A base hp (fun C => compEnvC scope cl C env) xa xb elt Pt Ei)
    (hcell : ∀ y ∈ scope.names, y.2 ≠ .cell) (hkind : scope.kind = .function) (hxa : scope.names.lookup xa = some .local) (hxb : scope.names.lookup xb = some .local)
    (hRR : ∀ D C h' tk' m' ys, hp.get? D = none → hp.get? C = none → D ≠ C → h'.Ns C m' → LL h' D ys → ys.length = n → (∀ j y, ys[j]? = some y → Ei j y (hideAll h' (List.range (h₂.objs.size + 2)))) → D < h₂.objs.size + 2 → C < h₂.objs.size + 2 → Sub hp h' → RR (.ref D) C (.ok .next) (At s h' tk')) :
    wpAny (model prog w) A (newList []) (fun acc s₃ => wpAny (model prog w) A (newFunctionEnv scope env.globals cl [] env.qual none .none (some env)) (fun cenv s₄ =>
      codeAny (model prog w) A (.compStart (.ListComp elt [⟨.Tuple [.Name xa pa, .Name xb pb] x1 pt, iter, [], 0⟩] scope pos) 0 (.ref I) acc { cenv with scope := relabel scope env }) (RR acc cenv.locals) s₄) E s₃) E (At s h₂ tk₂) := by
  refine wpAny_newObj_type (wpAny_newFunctionEnv hcell (by intro y hy; simp at hy) (fun h₁ hns₁ hsb₁ => ?_) hkind)
  dsimp only at hns₁ hsb₁ ⊢
  generalize hH2 : h₂.push { cls := .type "list", dict := none, data := .seq ([] : List Value).toArray } = H2 at hns₁ hsb₁ ⊢
  have hC : H2.objs.size = h₂.objs.size + 1 := by rw [← hH2, Heap.size_push]
  have below : ∀ b, b < h₂.objs.size → b ≠ H2.objs.size ∧ b ≠ h₂.objs.size := fun b hb => ⟨by rw [hC]; exact Nat.ne_of_lt (Nat.lt_succ_of_lt hb), Nat.ne_of_lt hb⟩
  have hDC : h₂.objs.size ≠ H2.objs.size := by rw [hC]; exact Nat.ne_of_lt (Nat.lt_succ_self _)
  have old : ∀ b o, h₂.get? b = some o → h₁.get? b = some o := fun b o e => hsb₁.extBut b o (below b (Heap.lt_size e)).1 (Heap.get?_push_of_some _ (hH2 ▸ Heap.get?_push_of_some _ e))
  have hacc : LL h₁ h₂.objs.size [] := ⟨_, hsb₁.extBut _ _ hDC (Heap.get?_push_of_some _ (hH2 ▸ Heap.get?_push_size _ rfl))⟩
  have hst₁ : Wst 0 h₁ := W.frame _ _ _ hst fun b _ o e => old b o e
  have nD : hp.get? h₂.objs.size = none := none_of_sub hs (get_none_size _)
  have nC : hp.get? H2.objs.size = none := none_of_sub hs (Heap.get?_none_of_le (by rw [hC]; exact Nat.le_succ _))
  have wrlt : ∀ b ∈ wr, b < h₂.objs.size := fun b hb => hfp b (W.sub b hb)
  have Cwr : H2.objs.size ∉ wr := fun q => (below _ (wrlt _ q)).1 rfl
  have Dwr : h₂.objs.size ∉ wr := fun q => (below _ (wrlt _ q)).2 rfl
  have notsp : ∀ b, b ∉ List.range (h₂.objs.size + 2) → b ≠ h₂.objs.size ∧ b ≠ H2.objs.size ∧ b ∉ wr := fun b hb => by
    rw [List.mem_range] at hb
    refine ⟨fun q => hb (by rw [q]; exact Nat.lt_succ_of_lt (Nat.lt_succ_self _)), fun q => hb (by rw [q, hC]; exact Nat.lt_succ_self _), fun q => hb (Nat.lt_succ_of_lt (Nat.lt_succ_of_lt (wrlt b q)))⟩
  have S₁ : St prog w base hp none' H2.objs.size h₁ (fun x => ([] : List (Str × Value)).reverse.lookup x) := ⟨hns₁, fun b o e => old _ _ (hs _ _ (hb _ _ e)), fun b o _ _ e => old _ _ (hs _ _ e), fun _ _ f => (nomatch f), rfl, none_of_sub hb nC⟩
  generalize hm₁ : (fun x => ([] : List (Str × Value)).reverse.lookup x) = m₁ at S₁
  clear hm₁ hns₁ hsb₁
  have kinda : (compEnvC scope cl H2.objs.size env).kindOf xa = some .local := lookup_relabel_local hxa
  have kindb : (compEnvC scope cl H2.objs.size env).kindOf xb = some .local := lookup_relabel_local hxb
  have loop : ∀ tk', codeAny (model prog w) A (.compLoop (.ListComp elt [⟨.Tuple [.Name xa pa, .Name xb pb] x1 pt, iter, [], 0⟩] scope pos) 0 (.ref I) (.ref h₂.objs.size) (compEnvC scope cl H2.objs.size env)) (RR (.ref h₂.objs.size) H2.objs.size) (At s h₁ tk') := by
    intro tk'
    refine compLoop_any (fun k s' => ∃ i h' tk m' ys, k = n - i ∧ i ≤ n ∧ s' = At s h' tk ∧ Wst i h' ∧ St prog w base hp none' H2.objs.size h' m' ∧ LL h' h₂.objs.size ys ∧ ys.length = i ∧
      (∀ j y, ys[j]? = some y → Ei j y (hideAll h' (List.range (h₂.objs.size + 2))))) ?_ n ⟨0, h₁, tk', m₁, [], by omega, by omega, rfl, hst₁, S₁, hacc, rfl, by simp⟩
    rintro k s' ⟨i, h', tk, m', ys, rfl, hi, rfl, hst', S', hl', hlen, hE⟩
    have wrS : ∀ {h h' : Heap} {m}, St prog w base hp none' H2.objs.size h m → (∀ b o, b ∉ wr → h.get? b = some o → h'.get? b = some o) → St prog w base hp none' H2.objs.size h' m := fun S hk => S.wr wr hk Cwr (fun b q => none_of_sub hb (nwr b q)) nwr (fun _ _ => rfl)
    by_cases hin : i < n
    · refine W.item i (At s h' tk) _ _ hin hst' (fun T vals h₃ tk₃ hP hT hTt mid hk₃ => ?_)
      obtain ⟨va, vb, rfl⟩ := hpt i vals hP
      have S₃ := wrS S' hk₃
      refine W.go _ _ _ i T (At s h₃ tk₃) _ _ mid (fun h₄ hst₄ hk₄ => ?_)
      have S₄ := wrS S₃ hk₄
      have Twr := W.apart _ _ _ mid
      have hT₄ : h₄.IsTuple T #[va, vb] := by obtain ⟨o, ho, r⟩ := hTt; exact ⟨o, hk₄ _ _ Twr ho, r⟩
      have hl₄ : LL h₄ h₂.objs.size ys := by obtain ⟨e, he⟩ := hl'; exact ⟨e, hk₄ _ _ Dwr (hk₃ _ _ Dwr he)⟩
      refine wpAny_assign_Tuple hh hT₄ rfl rfl fun h₅ hx₅ => ?_
      replace hx₅ : Heap.ExtBut h₄.objs.size h₄ h₅ := hx₅
      have sub5 : Sub h₄ h₅ := fun b o e => hx₅ b o (Nat.ne_of_lt (Heap.lt_size e)) e
      have S₅ := S₄.keep sub5
      show wpAny _ _ (do holding [vb] (assign (.Name xa pa) _ va); do holding [] (assign (.Name xb pb) _ vb); pure ()) _ _ _
      refine wpAny_bind (wpAny_holding (wpAny_assign_Name (stvS (s := s) S₅ (fun h₆ tk₆ S₆ sb₆ => ?_) rfl hkind kinda)))
      refine wpAny_bind (wpAny_holding (wpAny_assign_Name (stvS (s := s) S₆ (fun h₇ tk₇ S₇ sb₇ => wpAny_pure ?_) rfl hkind kindb)))
      -- from the walk's step on all but C is kept
      have keep7 : ∀ b o, b ≠ H2.objs.size → h₄.get? b = some o → h₇.get? b = some o := fun b o hb e => (sb₇.2 b hb).trans ((sb₆.2 b hb).trans (sub5 b o e))
      refine wpAny_mono (he s H2.objs.size i va vb h₇ tk₇ m' hP S₇) (fun y s₈ h₈' => ?_) fun _ _ e => e
      obtain ⟨h₈, tk₈, rfl, sub8, hy⟩ := h₈'
      have hl₈ : LL h₈ h₂.objs.size ys := by obtain ⟨e, he⟩ := hl₄; exact ⟨e, sub8 _ _ (keep7 _ _ hDC he)⟩
      refine appendL (s := s) hl₈ (by omega) (fun h₉ hl₉ sb₉ => ?_)
      have keep9 : ∀ b o, b ∉ List.range (h₂.objs.size + 2) → h'.get? b = some o → h₉.get? b = some o := fun b o hb e => by
        replace hb := notsp b hb
        exact (sb₉.2 b hb.1).trans (sub8 _ _ (keep7 _ _ hb.2.1 (hk₄ _ _ hb.2.2 (hk₃ _ _ hb.2.2 e))))
      have Dlt : h₂.objs.size < h₇.objs.size := by obtain ⟨e, he⟩ := hl₄; exact Heap.lt_size (keep7 _ _ hDC he)
      have Clt : H2.objs.size < h₇.objs.size := S₇.ltL
      refine ⟨n - (i + 1), by omega, i + 1, h₉, tk₈, _, ys ++ [y], rfl, hin, rfl, ?_, (S₇.keep sub8).change (a := h₂.objs.size) (x := .lst (ys ++ [y])) sb₉.extBut hl₉ (Ne.symm hDC) (none_of_sub hb nD) |>.drop nD (none_of_sub hb nD) rfl (fun _ _ _ e => e), hl₉, by simp [hlen], ?_⟩
      · refine W.frame (i + 1) h₄ h₉ hst₄ (fun b hbf o e => ?_)
        have hbl := hfp b hbf
        exact (sb₉.2 b (below b hbl).2).trans (sub8 _ _ (keep7 _ _ (below b hbl).1 e))
      · intro j z hz
        by_cases hj : j < ys.length
        · rw [List.getElem?_append_left hj] at hz
          exact mono j z _ _ (hide_sub keep9) (hE j z hz)
        · have ej : j = ys.length := by
            have := (List.getElem?_eq_some_iff.mp hz).1
            simp at this; omega
          subst ej
          rw [List.getElem?_append_right (Nat.le_refl _)] at hz
          simp at hz
          subst hz
          rw [hlen]
          refine hy _ (fun b o e hor => ?_)
          have hbs : b ∉ List.range (h₂.objs.size + 2) := by
            rw [List.mem_range]
            have : h₂.objs.size + 1 < b := by rw [← hC]; exact Nat.lt_of_lt_of_le Clt hor
            omega
          refine hideAll_get _ ?_ hbs
          exact (sb₉.2 b (notsp b hbs).1).trans e
    · have e : i = n := by omega
      subst e
      refine W.done (At s h' tk) _ _ hst' (fun h₃ tk₃ hk₃ => ?_)
      have S₃ := wrS S' hk₃
      refine hRR _ _ h₃ tk₃ m' ys nD nC hDC S₃.ns (by obtain ⟨e, he⟩ := hl'; exact ⟨e, hk₃ _ _ Dwr he⟩) hlen (fun j y hy => mono j y _ _ (hide_sub fun b o hb e => hk₃ b o (notsp b hb).2.2 e) (hE j y hy)) (Nat.lt_succ_of_lt (Nat.lt_succ_self _)) (by rw [hC]; exact Nat.lt_succ_self _) (fun b o e => S₃.ext b o rfl (fun q => by rw [q, nC] at e; cases e) e)
  exact codeAny_compStart_list (loop _) (W.self 0 _ _ _ hst₁ (loop _))

/-- what the source of a comprehension over pairs must show -/
def SrcT (prog : Program) (w : World) (A : Around) (env : Env) (s : Shared) (base hp : Heap) (scope : Scope) (cl : List (Str × Addr)) (xa xb : Str) (elt : Expr) (Ei : Nat → Value → Heap → Prop) (n : Nat) (it : Value) (s₂ : Shared) : Prop :=
  ∃ I h₂ tk₂ fp wr Pt Wst Mid, it = .ref I ∧ s₂ = At s h₂ tk₂ ∧ Sub hp h₂ ∧ (∀ b ∈ wr, hp.get? b = none) ∧ WalksT prog w A I fp wr n Pt Wst Mid ∧ (∀ i vals, Pt i vals → ∃ va vb, vals = #[va, vb]) ∧ (∀ b ∈ fp, b < h₂.objs.size) ∧ Wst 0 h₂ ∧
    EltT prog w A base hp (fun C => compEnvC scope cl C env) xa xb elt Pt Ei

theorem compTN {elt iter : Expr} {xa xb : Str} {pa pb pt pos : Pos} {x1 : Nat} {scope : Scope} {cl : List (Str × Addr)} {Q : Value → Shared → Prop} {n : Nat} (Ei : Nat → Value → Heap → Prop) (mono : ∀ i y h h', Sub h h' → Ei i y h → Ei i y h') (hh : A.handled = none) (hn : n < 2 ^ 20) (S : St prog w base h₀ F L hp m)
    (h : wpAny (model prog w) A (eval iter env) (fun xv s₁ => wpAny (model prog w) A (pyIter xv) (SrcT prog w A env s base hp scope cl xa xb elt Ei n) FF s₁) FF (At s hp tk))
    (k : ∀ D h' tk' ys, hp.get? D = none → Sub hp h' → LL h' D ys → St prog w base h₀ (upd F D (.lst ys)) L h' m → ys.length = n → (∀ j y, ys[j]? = some y → Ei j y h') → Q (.ref D) (At s h' tk'))
    (hclos : closureFor scope env = pure cl := by rfl) (hcell : ∀ y ∈ scope.names, y.2 ≠ .cell := by decide) (hkind : scope.kind = .function := by rfl)
    (hnames : ∀ y ∈ scope.names, y.2 = .local → scope.names.lookup y.1 = some .local := by decide) (hxa : scope.names.lookup xa = some .local := by rfl) (hxb : scope.names.lookup xb = some .local := by rfl) (hs : ∀ x, foldedSetIterable iter env x = pure x := by intro _; rfl) :
    wpAny (model prog w) A (eval (.ListComp elt [⟨.Tuple [.Name xa pa, .Name xb pb] x1 pt, iter, [], 0⟩] scope pos) env) Q FF (At s hp tk) := by
  rw [eval_ListComp]
  refine wpAny_comprehension_free (use := none) rfl hs hclos hkind hnames (wpAny_mono h (fun xv s₁ h₁ => wpAny_mono h₁ (fun it s₂ h₂ => ?_) fun _ _ e => e) fun _ _ e => e)
  obtain ⟨I, h₂, tk₂, fp, wr, Pt, Wst, Mid, rfl, rfl, sub, nwr, W, hpt, hfp, hst, he⟩ := h₂
  refine comp_blockT (RR := fun acc C => compPost (model prog w) A FF none Q acc C) W hh hn Ei mono hpt S.bk sub nwr hfp hst he hcell hkind hxa hxb ?_
  intro D C h' tk' m' ys nD nC hDC hns hl hlen hE ltD ltC hk
  refine ⟨m', hns, fun h'' hs'' => ?_⟩
  replace hs'' : Heap.SameBut C h' h'' := hs''
  have sub' : Sub hp h'' := fun b o e => (hs''.2 b (fun q => by rw [q, nC] at e; cases e)).trans (hk b o e)
  have DL : L ≠ D := fun q => by obtain ⟨o, _, _, e, _⟩ := S.ns; rw [q, nD] at e; cases e
  have hl'' : LL h'' D ys := by obtain ⟨e, he⟩ := hl; exact ⟨e, (hs''.2 D hDC).trans he⟩
  refine k D h'' tk' ys nD sub' hl'' ((S.keep sub').know (x := .lst ys) hl'' DL (none_of_sub S.bk nD)) hlen (fun j y hy => mono j y _ _ (fun b o e => ?_) (hE j y hy))
  have hb' : b ∉ List.range (h₂.objs.size + 2) := fun q => by rw [hideAll_none _ q] at e; cases e
  rw [List.mem_range] at hb'
  exact (hs''.2 b (fun q => hb' (q ▸ ltC))).trans (of_hideAll _ e)

theorem compTA {elt iter : Expr} {xa xb y : Str} {pa pb pt py pos spos : Pos} {x1 : Nat} {scope : Scope} {cl : List (Str × Addr)} {Q : Flow → Shared → Prop} {n : Nat} (Ei : Nat → Value → Heap → Prop) (mono : ∀ i y h h', Sub h h' → Ei i y h → Ei i y h') (hh : A.handled = none) (hn : n < 2 ^ 20) (S : St prog w base h₀ F L hp m)
    (h : wpAny (model prog w) A (eval iter env) (fun xv s₁ => wpAny (model prog w) A (pyIter xv) (SrcT prog w A env s base hp scope cl xa xb elt Ei n) FF s₁) FF (At s hp tk))
    (k : ∀ D h' tk' ys, hp.get? D = none → (∀ b o, b ≠ L → hp.get? b = some o → h'.get? b = some o) → LL h' D ys → St prog w base h₀ (upd F D (.lst ys)) L h' (fun z => if z = y then some (.ref D) else m z) → ys.length = n → (∀ j y, ys[j]? = some y → ∃ g, (∀ b o, g.get? b = some o → b ≠ L ∧ b ≠ D ∧ h'.get? b = some o) ∧ Ei j y g) → Q .next (At s h' tk'))
    (hsw : swapsWith (.ListComp elt [⟨.Tuple [.Name xa pa, .Name xb pb] x1 pt, iter, [], 0⟩] scope pos) (some (.Name y py)) spos.line env = pure true := by rfl)
    (hL : env.locals = L := by rfl) (hk : env.scope.kind = .function := by rfl) (hy : env.kindOf y = some .local := by rfl)
    (hclos : closureFor scope env = pure cl := by rfl) (hcell : ∀ y ∈ scope.names, y.2 ≠ .cell := by decide) (hkind : scope.kind = .function := by rfl)
    (hnames : ∀ y ∈ scope.names, y.2 = .local → scope.names.lookup y.1 = some .local := by decide) (hxa : scope.names.lookup xa = some .local := by rfl) (hxb : scope.names.lookup xb = some .local := by rfl) (hs : ∀ x, foldedSetIterable iter env x = pure x := by intro _; rfl) :
    wpAny (model prog w) A (exec (.Assign [.Name y py] (.ListComp elt [⟨.Tuple [.Name xa pa, .Name xb pb] x1 pt, iter, [], 0⟩] scope pos) spos) env) Q FF (At s hp tk) := by
  rw [exec_Assign_Name_used _ _ _ _ hsw]
  refine wpAny_bind (wpAny_standAt (wpAny_bind ?_))
  show wpAny _ A (do let _ ← comprehension (.ListComp elt [⟨.Tuple [.Name xa pa, .Name xb pb] x1 pt, iter, [], 0⟩] scope pos) scope env _ (newList []) false (eval iter env) (some (assign (.Name y py) env))) _ _ _
  refine wpAny_bind (wpAny_mono (wpAny_comprehension_free (use := some (assign (.Name y py) env)) (Q := fun _ s' => Q .next s') rfl hs hclos hkind hnames
    (wpAny_mono h (fun xv s₁ h₁ => wpAny_mono h₁ (fun it s₂ h₂ => ?_) fun _ _ e => e) fun _ _ e => e)) (fun _ s' hq => wpAny_pure (wpAny_pure hq)) fun _ _ e => e)
  obtain ⟨I, hI, tkI, fp, wr, Pt, Wst, Mid, rfl, rfl, sub, nwr, W, hpt, hfp, hst, he⟩ := h₂
  refine comp_blockT (RR := fun acc C => compPost (model prog w) A FF (some (assign (.Name y py) env)) (fun _ s' => Q .next s') acc C) W hh hn Ei mono hpt S.bk sub nwr hfp hst he hcell hkind hxa hxb ?_
  intro D C h' tk' m' ys nD nC hDC hns hl hlen hE ltD ltC hk'
  have DL : L ≠ D := fun q => by obtain ⟨o, _, _, e, _⟩ := S.ns; rw [q, nD] at e; cases e
  have CL : L ≠ C := fun q => by obtain ⟨o, _, _, e, _⟩ := S.ns; rw [q, nC] at e; cases e
  show wpAny _ A (assign (.Name y py) env (.ref D)) _ _ _
  refine wpAny_assign_Name (stvS (s := s) (S.keep hk') (fun h₂ tk₂ S₂ sb₂ => ?_) hL hk hy)
  refine ⟨m', hns.sameBut sb₂ (Ne.symm CL), fun h₃ hs₃ => ?_⟩
  replace hs₃ : Heap.SameBut C h₂ h₃ := hs₃
  have hl₃ : LL h₃ D ys := by obtain ⟨e, he⟩ := hl; exact ⟨e, (hs₃.2 D hDC).trans ((sb₂.2 D (Ne.symm DL)).trans he)⟩
  have keep3 : ∀ b o, b ≠ L → hp.get? b = some o → h₃.get? b = some o := fun b o hb e => (hs₃.2 b (fun q => by rw [q, nC] at e; cases e)).trans ((sb₂.2 b hb).trans (hk' b o e))
  have S₃ : St prog w base h₀ F L h₃ (fun z => if z = y then some (.ref D) else m z) := by
    refine ⟨S₂.ns.sameBut hs₃ CL, fun b o e => (hs₃.2 b (fun q => ?_)).trans (S₂.bk b o e), fun b o f q e => keep3 b o q (S.ext b o f q e), fun b x f => (S.own b x f).keep fun o ho => keep3 b o (fun q => ?_) ho, S.nF, S.nb⟩
    · rw [q] at e; have := S.bk _ _ e; rw [nC] at this; cases this
    · rw [q, S.nF] at f; cases f
  have Llt : L < hI.objs.size + 2 := by
    obtain ⟨o, _, _, e, _⟩ := S.ns
    exact Nat.lt_succ_of_lt (Nat.lt_succ_of_lt (Heap.lt_size (sub _ _ e)))
  refine k D h₃ tk₂ ys nD keep3 hl₃ (S₃.know (x := .lst ys) hl₃ DL (none_of_sub S.bk nD)) hlen (fun j y hy => ⟨_, fun b o e => ?_, hE j y hy⟩)
  have hb' : b ∉ List.range (hI.objs.size + 2) := fun q => by rw [hideAll_none _ q] at e; cases e
  rw [List.mem_range] at hb'
  have bL : b ≠ L := fun q => hb' (q ▸ Llt)
  exact ⟨bL, fun q => hb' (q ▸ ltD), (hs₃.2 b (fun q => hb' (q ▸ ltC))).trans ((sb₂.2 b bL).trans (of_hideAll _ e))⟩
end
end Mine

namespace Mine
open PySem PySem.W PyProof.Rows PySem.Calls

/-- the name of a work -/
def nm (k : Nat) : Str := Str.ofString "work " ++ Str.ofString (toString (k : Int))

section
variable {prog : Program} {w : World} {base h₀ hp : Heap} {F G : Addr → Option AO} {L a d : Addr} {m : Str → Option Value} {A : Around} {E : Value → Shared → Prop} {s : Shared} {env : Env} {tk : Nat}

theorem strI {k : Nat} {t : Tok} {Q : Value → Shared → Prop} (hk : k < 2 ^ 20) (h : ∀ t' tk', Q (.str (Str.ofString (toString (k : Int))) t') (At s hp tk')) : wpAny (model prog w) A (call (.type "str") [.int k t]) Q E (At s hp tk) :=
  P.str_of_int (s := At s hp tk) (by
    rcases Nat.eq_zero_or_pos k with q | q
    · subst q; decide
    · have : ((k : Int)).natAbs = k := Int.natAbs_natCast k
      rw [this]
      have h1 := (Nat.log2_lt (by omega)).mpr hk
      omega) (h _ _)

theorem dig_len (k : Nat) (hk : k < 2 ^ 20) : (Str.ofString (toString (k : Int))).length ≤ 21 := by
  rw [PySem.ofString_length]
  refine int_text_length_le (k := 20) (by decide) ?_
  rcases Nat.eq_zero_or_pos k with q | q
  · subst q; decide
  · have : ((k : Int)).natAbs = k := Int.natAbs_natCast k
    rw [this]
    exact (Nat.log2_lt (by omega)).mpr hk

theorem addS {x y : Str} {t u : Tok} {Q : Value → Shared → Prop} (hsz : x.length + y.length ≤ 2 ^ 21) (h : ∀ t' tk', Q (.str (x ++ y) t') (At s hp tk')) : wpAny (model prog w) A (binaryOp .Add (.str x t) (.str y u)) Q E (At s hp tk) :=
  PyProof.Rows.add_str (s := At s hp tk) (fun t' tk' => h t' tk') (by rw [sizeLine_eq]; omega)

/-- a dict with one pair -/
theorem mkDict1 {ke ve : Expr} {pos : Pos} {key : Str} {Q : Value → Shared → Prop} (S : St prog w base h₀ F L hp m)
    (h : ∀ d h₁, hp.objs.size = d → St prog w base h₀ (upd F d (.dS [])) L h₁ m → wpAny (model prog w) A (eval ke env) (fun kv s₁ => wpAny (model prog w) A (eval ve env) (fun vv s₂ => ∃ t tk₂, kv = .str key t ∧ s₂ = At s h₁ tk₂ ∧
      ∀ h' tk', St prog w base h₀ (upd F d (.dS [(key, vv)])) L h' m → Sub hp h' → h'.DictOf (strKind prog w) d [(key, vv)] → Q (.ref d) (At s h' tk')) E s₁) E (At s h₁ tk))
    (hshape : (evalEachOpt [some ke] env).zip ((evalEach [ve] env).map fun v => do let x ← v; standAt pos; pure x) = [(some (eval ke env), (do let x ← eval ve env; standAt pos; pure x))] := by rfl) :
    wpAny (model prog w) A (eval (.Dict [some ke] [ve] pos) env) Q E (At s hp tk) := by
  refine wpAny_Dict_pairs (knd := strKind prog w) (s := At s hp tk) (pairs := [(eval ke env, (do let x ← eval ve env; standAt pos; pure x))]) hshape (by simp) (by simp) ?_
  have S1 := S.push (x := .dS []) (o := { cls := .type "dict", data := .dict #[] }) (Heap.DictOf.new _)
  have Lne : L ≠ hp.objs.size := Nat.ne_of_lt S.ltL
  refine evalPairs_cons (wpAny_mono (h _ _ rfl S1) (fun kv s₁ h₁ => wpAny_bind (wpAny_mono h₁ (fun vv s₂ h₂ => wpAny_bind (wpAny_standAt (wpAny_pure (evalPairs_nil ?_)))) fun _ _ e => e)) fun _ _ e => e)
  obtain ⟨t, tk₂, rfl, rfl, hq⟩ := h₂
  refine ⟨[(key, vv)], ⟨strKind_is prog w key t, rfl, trivial⟩, S1.own _ _ (upd_self _ _ _), fun h' hd hsb => ?_⟩
  replace hsb : Heap.SameBut hp.objs.size (hp.push { cls := .type "dict", data := .dict #[] }) h' := hsb
  have hd' : h'.DictOf (strKind prog w) hp.objs.size [(key, vv)] := hd
  have S2 := S1.change (x := .dS [(key, vv)]) hsb.extBut hd' Lne S.freshB
  rw [upd_upd] at S2
  exact hq h' _ S2 (fun b o e => (hsb.2 b (Nat.ne_of_lt (Heap.lt_size e))).trans (Heap.get?_push_of_some _ e)) hd'

/-- an item of the heap, with its entry, all of it made at or above lo -/
def IsItem (prog : Program) (w : World) (lo : Nat) (h : Heap) (a : Addr) (wt k : Int) (e : Ent) : Prop :=
  ∃ t u ea, IsTup h a [.int wt t, .int k u, .ref ea].toArray ∧ IsEnt prog w lo h ea e
def ent0 (k : Nat) (wt : Int) : Ent := ⟨2, 1, wt, 3, [(nm k, 1)]⟩

theorem tup_restrict {h g : Heap} {a : Addr} {xs : Array Value} (t : IsTup h a xs) (hg : ∀ o, h.get? a = some o → g.get? a = some o) : IsTup g a xs := let ⟨o, ho, r⟩ := t; ⟨o, hg o ho, r⟩
theorem DictOf.restrict {h g : Heap} {a : Addr} {kvs : List (Str × Value)} (t : h.DictOf (strKind prog w) a kvs) (hg : ∀ o, h.get? a = some o → g.get? a = some o) : g.DictOf (strKind prog w) a kvs := let ⟨o, es, ep, ho, r⟩ := t; ⟨o, es, ep, hg o ho, r⟩


def KeepBut (l L : Addr) (h h' : Heap) : Prop := ∀ b o, b ≠ l → b ≠ L → h.get? b = some o → h'.get? b = some o
theorem St.kb {l : Addr} {x : AO} {h h' : Heap} {m'} (T : St prog w base h (upd none' l x) L h' m') : KeepBut l L h h' := fun b o hb hL e => T.ext b o (upd_ne hb) hL e
theorem St.again {l : Addr} {zs : List Value} {h : Heap} (S : St prog w base h₀ F L h m) (hf : F l = some (.lst zs)) (hb : base.get? l = none) : St prog w base h (upd none' l (.lst zs)) L h m :=
  S.rebase.know (x := .lst zs) (S.lst hf) (fun q => by rw [← q, S.nF] at hf; cases hf) hb
theorem KeepBut.trans {l L : Addr} {a b c : Heap} (x : KeepBut l L a b) (y : KeepBut l L b c) : KeepBut l L a c := fun d o h1 h2 e => y d o h1 h2 (x d o h1 h2 e)
theorem KeepBut.of_sub {l L : Addr} {a b : Heap} (x : Sub a b) : KeepBut l L a b := fun d o _ _ e => x d o e
theorem KeepBut.of_ext {l L : Addr} {a b : Heap} (x : Heap.ExtBut l a b) : KeepBut l L a b := fun d o h1 _ e => x d o h1 e

section
variable {l : Addr} {h h' : Heap} {xs ys : List Value} {lo : Nat} {e : Ent} {wt k : Int}
theorem tup_ne_l (t : IsTup h a xs.toArray) (hl : LL h l ys) : a ≠ l := by
  rintro rfl
  obtain ⟨o, ho, hc, _⟩ := t
  obtain ⟨n, ho'⟩ := hl
  have q := ho.symm.trans ho'
  cases q
  exact absurd (show Value.type "list" = Value.type "tuple" from hc) (by decide)
theorem tup_ne_L (t : IsTup h a xs.toArray) (hn : h.Ns L m) : a ≠ L := by
  rintro rfl
  obtain ⟨o, ho, hc, n, hd⟩ := t
  obtain ⟨o', es, ep, ho', hd', _⟩ := hn
  rw [ho] at ho'; cases ho'
  rw [hd] at hd'; cases hd'
theorem dict_ne_l {kvs : List (Str × Value)} (t : h.DictOf (strKind prog w) a kvs) (hl : LL h l ys) : a ≠ l := by
  rintro rfl
  obtain ⟨o, es, ep, ho, hc, hd, _⟩ := t
  obtain ⟨n, ho'⟩ := hl
  have q := ho.symm.trans ho'
  cases q
  cases hd
theorem tup_kb (t : IsTup h a xs.toArray) (hl : LL h l ys) (hn : h.Ns L m) (k : KeepBut l L h h') : IsTup h' a xs.toArray :=
  tup_restrict t fun o e => k a o (tup_ne_l t hl) (tup_ne_L t hn) e
theorem IsEnt.kb (t : IsEnt prog w lo h a e) (hlo : L < lo) (hl : LL h l ys) (hn : h.Ns L m) (k : KeepBut l L h h') : IsEnt prog w lo h' a e := by
  obtain ⟨t1, t2, t3, t4, d, tt, ⟨kvs, c, cv⟩, ld⟩ := t
  refine ⟨t1, t2, t3, t4, d, tup_kb tt hl hn k, ⟨kvs, DictOf.restrict c fun o e => k d o (dict_ne_l c hl) (Nat.ne_of_gt (Nat.lt_of_lt_of_le hlo ld)) e, cv⟩, ld⟩
theorem IsItem.kb (t : IsItem prog w lo h a wt k e) (hlo : L < lo) (hl : LL h l ys) (hn : h.Ns L m) (kb : KeepBut l L h h') : IsItem prog w lo h' a wt k e := by
  obtain ⟨t, u, ea, tt, ie⟩ := t
  exact ⟨t, u, ea, tup_kb tt hl hn kb, ie.kb hlo hl hn kb⟩
theorem IsItem.sub (t : IsItem prog w lo h a wt k e) (hs : Sub h h') : IsItem prog w lo h' a wt k e := by
  obtain ⟨t, u, ea, tt, ie⟩ := t
  exact ⟨t, u, ea, tup_restrict tt fun o e => hs _ _ e, ie.sub hs⟩
end

def Bag (prog : Program) (w : World) (lo : Nat) (h : Heap) (as : List Nat) (key : KeyF) (ent : Nat → Ent) : Prop := ∀ a ∈ as, IsItem prog w lo h a (key a).1 (key a).2 (ent a)
theorem Bag.items {lo : Nat} {h : Heap} {as : List Nat} {key : KeyF} {ent : Nat → Ent} (b : Bag prog w lo h as key ent) : Items h key as := fun a ha => by
  obtain ⟨t, u, ea, tt, _⟩ := b a ha; exact ⟨t, u, .ref ea, tt⟩
end
end Mine

namespace Mine
open PySem PySem.W PyProof.Rows PySem.Calls

/-- the run of sums, plain: the two least are taken together, each sum goes to the log -/
inductive Merge : List (Int × Ent) → Ent → Ent → Ent → Prop
  | done (wt : Int) (e log : Ent) : Merge [(wt, e)] log e log
  | step {its rest : List (Int × Ent)} {w1 w2 : Int} {e1 e2 log whole fin : Ent} : its.Perm ((w1, e1) :: (w2, e2) :: rest) → w1 ≤ w2 → (∀ p ∈ rest, w2 ≤ p.1) →
      Merge (((e1.add e2).tt, e1.add e2) :: rest) (log.add (e1.add e2)) whole fin → Merge its log whole fin

theorem Merge.perm {its its' : List (Int × Ent)} {log wh fn : Ent} (h : Merge its log wh fn) (p : its.Perm its') : Merge its' log wh fn := by
  cases h with
  | done wt => rw [List.perm_singleton.mp p.symm]; exact .done wt _ _
  | step q a b c => exact .step (p.symm.trans q) a b c

def its0 (ws : List Int) : List (Int × Ent) := ws.mapIdx fun k wt => (wt, ent0 k wt)
def log0 : Ent := ⟨0, 0, 0, 0, []⟩

theorem refs_of {P : Nat → Nat → Prop} : ∀ {ys : List Value}, (∀ j y, ys[j]? = some y → ∃ a, y = .ref a ∧ P j a) → ∃ as : List Nat, ys = as.map Value.ref ∧ ∀ j a, as[j]? = some a → P j a := by
  intro ys
  induction ys generalizing P with
  | nil => intro _; exact ⟨[], rfl, by simp⟩
  | cons y r ih =>
    intro h
    obtain ⟨a, rfl, ha⟩ := h 0 y rfl
    obtain ⟨as, rfl, has⟩ := ih (P := fun j a => P (j + 1) a) (fun j y hy => h (j + 1) y (by simpa using hy))
    refine ⟨a :: as, rfl, fun j b hb => ?_⟩
    cases j with
    | zero => simp at hb; subst hb; exact ha
    | succ j => exact has j b (by simpa using hb)

section
variable {prog : Program} {w : World} {base h₀ hp : Heap} {F G : Addr → Option AO} {L a d : Addr} {m : Str → Option Value} {A : Around} {E : Value → Shared → Prop} {s : Shared} {env : Env} {tk : Nat}

theorem IsEnt.le {lo lo' : Nat} {h : Heap} {e : Ent} (x : IsEnt prog w lo h a e) (hl : lo' ≤ lo) : IsEnt prog w lo' h a e :=
  let ⟨t1, t2, t3, t4, d, t, c, l⟩ := x; ⟨t1, t2, t3, t4, d, t, c, Nat.le_trans hl l⟩

/-- a new list -/
theorem mkList {vs : List Value} {Q : Value → Shared → Prop} (S : St prog w base h₀ F L hp m) (hn : vs.length < 2 ^ 20)
    (h : ∀ t h', L < t → F t = none → base.get? t = none → Sub hp h' → hp.get? t = none → LL h' t vs → St prog w base h₀ (upd F t (.lst vs)) L h' m → Q (.ref t) (At s h' tk)) : wpAny (model prog w) A (newList vs) Q E (At s hp tk) :=
  wpAny_newObj_type (s := At s hp tk) (h _ _ S.ltL S.freshF S.freshB (fun _ _ e => Heap.get?_push_of_some _ e) (get_none_size _) ⟨0, PySem.IsL.new _ _⟩ (S.push (x := .lst vs) ⟨0, PySem.IsL.new _ _⟩)) (by show vs.toArray.size ≤ sizeLine; rw [List.size_toArray, sizeLine_eq]; omega)

structure Inv (prog : Program) (w : World) (ws : List Int) (lo : Nat) (h : Heap) (as : List Nat) (key : KeyF) (ent : Nat → Ent) (num : Nat) (elog : Ent) : Prop where
  bag : Bag prog w lo h as key ent
  heap : HeapFrom key 0 as
  apart : Apart key as
  fit : ∀ a ∈ as, (key a).2 < num ∧ 0 ≤ (key a).1 ∧ (key a).1 = (ent a).tt
  merge : ∀ wh fn, Merge (as.map fun a => ((key a).1, ent a)) elog wh fn → Merge (its0 ws) log0 wh fn
  size1 : (as.map fun a => (ent a).cs.length).sum ≤ 10
  size2 : elog.cs.length + 10 * as.length ≤ 100

theorem addC_length (t s : Cs) : (addC t s).length ≤ t.length + s.length := by
  induction s generalizing t with
  | nil => exact Nat.le_refl _
  | cons p r ih =>
    have h1 := ih (bump t p.1 p.2)
    have h2 : (bump t p.1 p.2).length ≤ t.length + 1 := by
      have := congrArg List.length (keys_bump t p.1 p.2)
      unfold keys at this
      rw [List.length_map] at this
      rw [this]; split <;> simp
    show (addC (bump t p.1 p.2) r).length ≤ _
    simp only [List.length_cons]; omega

theorem Inv.turn {ws : List Int} {lo : Nat} {h h' : Heap} {as rest rest2 as3 : List Nat} {key key2 : KeyF} {ent : Nat → Ent} {num : Nat} {elog : Ent} {r1 r2 anew : Nat}
    (I : Inv prog w ws lo h as key ent num elog) (e : as = r1 :: rest) (p1 : (r2 :: rest2).Perm rest) (H1 : HeapFrom key 0 (r2 :: rest2)) (fresh : anew ∉ as) (kold : ∀ a ∈ as, key2 a = key a)
    (knew : key2 anew = (((ent r1).add (ent r2)).tt, (num : Int))) (p3 : as3.Perm (anew :: rest2)) (H3 : HeapFrom key2 0 as3) (bag2 : Bag prog w lo h' rest2 key ent) (new : IsItem prog w lo h' anew ((ent r1).add (ent r2)).tt num ((ent r1).add (ent r2))) :
    Inv prog w ws lo h' as3 key2 (fun a => if a = anew then (ent r1).add (ent r2) else ent a) (num + 1) (elog.add ((ent r1).add (ent r2))) := by
  have pas : as.Perm (r1 :: r2 :: rest2) := by rw [e]; exact .cons _ p1.symm
  have mem2 : ∀ a ∈ rest2, a ∈ as := fun a ha => pas.mem_iff.mpr (by simp [ha])
  have mr1 : r1 ∈ as := by rw [e]; simp
  have mr2 : r2 ∈ as := pas.mem_iff.mpr (by simp)
  have ne2 : ∀ a ∈ rest2, a ≠ anew := fun a ha q => fresh (q ▸ mem2 a ha)
  have f1 := I.fit r1 mr1
  have f2 := I.fit r2 mr2
  have htt : ((ent r1).add (ent r2)).tt = (key r1).1 + (key r2).1 := by show (ent r2).tt + (ent r1).tt = _; rw [f1.2.2, f2.2.2, Int.add_comm]
  have hmap : (anew :: rest2).map (fun a => ((key2 a).1, if a = anew then (ent r1).add (ent r2) else ent a)) = (((ent r1).add (ent r2)).tt, (ent r1).add (ent r2)) :: rest2.map (fun a => ((key a).1, ent a)) := by
    rw [List.map_cons, if_pos rfl, knew]
    congr 1
    exact List.map_congr_left fun a ha => by rw [if_neg (ne2 a ha), kold a (mem2 a ha)]
  refine ⟨fun a ha => ?_, H3, ?_, fun a ha => ?_, fun wh fn hm => ?_, ?_, ?_⟩
  · rcases List.mem_cons.mp (p3.mem_iff.mp ha) with rfl | q
    · rw [knew, if_pos rfl]; exact new
    · rw [kold a (mem2 a q), if_neg (ne2 a q)]; exact bag2 a q
  · refine Apart.perm (as := anew :: rest2) ?_ p3
    have ap : Apart key (r1 :: r2 :: rest2) := I.apart.perm pas.symm
    have ap2 : Apart key rest2 := (List.pairwise_cons.mp (List.pairwise_cons.mp ap).2).2
    refine List.pairwise_cons.mpr ⟨fun b hb => ?_, ?_⟩
    · rw [knew, kold b (mem2 b hb)]
      have := (I.fit b (mem2 b hb)).1
      intro q; rw [← q] at this; exact absurd this (Int.lt_irrefl _)
    · exact List.Pairwise.imp_of_mem (fun {a b} ha hb hab => by rw [kold a (mem2 a ha), kold b (mem2 b hb)]; exact hab) ap2
  · rcases List.mem_cons.mp (p3.mem_iff.mp ha) with rfl | q
    · rw [knew, if_pos rfl, htt]
      refine ⟨by show (num : Int) < ((num + 1 : Nat) : Int); omega, by show 0 ≤ (key r1).1 + (key r2).1; omega, rfl⟩
    · rw [kold a (mem2 a q), if_neg (ne2 a q)]
      have := I.fit a (mem2 a q)
      exact ⟨by have := this.1; omega, this.2⟩
  · refine I.merge wh fn (.step (its := as.map fun a => ((key a).1, ent a)) (rest := rest2.map fun a => ((key a).1, ent a)) (w1 := (key r1).1) (w2 := (key r2).1) (e1 := ent r1) (e2 := ent r2) ?_ ?_ ?_ ?_)
    · exact (pas.map _)
    · exact kle_fst (root_mem I.heap (by rw [e]; rfl) r2 mr2)
    · intro p hp
      obtain ⟨a, ha, rfl⟩ := List.mem_map.mp hp
      exact kle_fst (root_mem H1 rfl a (by simp [ha]))
    · rw [← hmap]
      exact hm.perm (p3.map _)
  · have s1 := I.size1
    rw [(pas.map _).sum_nat] at s1
    rw [(p3.map _).sum_nat]
    have h1 := addC_length (ent r1).cs (ent r2).cs
    have e2 : (rest2.map fun a => (if a = anew then (ent r1).add (ent r2) else ent a).cs.length) = rest2.map fun a => (ent a).cs.length := List.map_congr_left fun a ha => by rw [if_neg (ne2 a ha)]
    simp only [List.map_cons, List.sum_cons, if_true, e2] at s1 ⊢
    have h2 : ((ent r1).add (ent r2)).cs.length ≤ (ent r1).cs.length + (ent r2).cs.length := h1
    omega
  · have := p3.length_eq
    have q := pas.length_eq
    have s2 := I.size2
    have s1 := I.size1
    have hb : ((ent r1).add (ent r2)).cs.length ≤ 10 := by
      have h1 := addC_length (ent r1).cs (ent r2).cs
      have h2 : (ent r1).cs.length + (ent r2).cs.length ≤ (as.map fun a => (ent a).cs.length).sum := by
        rw [(pas.map _).sum_nat]
        simp
      show (addC (ent r1).cs (ent r2).cs).length ≤ 10
      omega
    have h3 := addC_length elog.cs ((ent r1).add (ent r2)).cs
    have h4 : (elog.add ((ent r1).add (ent r2))).cs.length ≤ elog.cs.length + ((ent r1).add (ent r2)).cs.length := h3
    simp only [List.length_cons] at this q
    omega

theorem Inv.init {ws : List Int} {lo : Nat} {h : Heap} {as : List Nat} (hlen : as.length = ws.length) (hAs : ∀ (j a : Nat), as[j]? = some a → ∃ wt, ws[j]? = some wt ∧ IsItem prog w lo h a wt j (ent0 j wt)) (h10 : ws.length ≤ 10) (h0 : ∀ x ∈ ws, 0 ≤ x) :
    ∃ key ent, Bag prog w lo h as key ent ∧ Apart key as ∧ ∀ as' h', as'.Perm as → HeapFrom key 0 as' → Bag prog w lo h' as' key ent → Inv prog w ws lo h' as' key ent ws.length log0 := by
  have uniq : ∀ (i j a : Nat), as[i]? = some a → as[j]? = some a → i = j := by
    intro i j a hi' hj'
    obtain ⟨_, _, t1, u1, e1, ⟨o1, g1, _, n1, d1⟩, _⟩ := hAs i a hi'
    obtain ⟨_, _, t2, u2, e2, ⟨o2, g2, _, n2, d2⟩, _⟩ := hAs j a hj'
    rw [g1] at g2; cases g2
    rw [d1] at d2
    have := (Data.seq.inj d2).1
    simp at this
    omega
  obtain ⟨num, hnum⟩ : ∃ num : Nat → Nat, ∀ (j a : Nat), as[j]? = some a → num a = j := by
    classical
    refine ⟨fun a => if q : ∃ j, as[j]? = some a then Classical.choose q else 0, fun j a ha => ?_⟩
    have q : ∃ j, as[j]? = some a := ⟨j, ha⟩
    show (if q : ∃ j, as[j]? = some a then Classical.choose q else 0) = j
    rw [dif_pos q]
    exact uniq _ _ _ (Classical.choose_spec q) ha
  have at_ : ∀ a ∈ as, as[num a]? = some a := fun a ha => by
    obtain ⟨j, hj⟩ := List.mem_iff_getElem?.mp ha
    rw [hnum j a hj]; exact hj
  have wat : ∀ a ∈ as, ws[num a]? = some (ws.getD (num a) 0) := fun a ha => by
    obtain ⟨wt, e, _⟩ := hAs _ _ (at_ a ha)
    rw [List.getD_eq_getElem?_getD, e]; rfl
  refine ⟨fun a => (ws.getD (num a) 0, ((num a : Nat) : Int)), fun a => ent0 (num a) (ws.getD (num a) 0), ?_, ?_, ?_⟩
  · intro a ha
    obtain ⟨wt, e, it⟩ := hAs _ _ (at_ a ha)
    rw [wat a ha] at e
    cases e
    exact it
  · refine List.pairwise_iff_getElem.mpr fun i j hi hj hij => ?_
    show ((num as[i] : Nat) : Int) ≠ ((num as[j] : Nat) : Int)
    rw [hnum i _ (List.getElem?_eq_getElem hi), hnum j _ (List.getElem?_eq_getElem hj)]
    omega
  · intro as' h' p hH bag'
    have ap : Apart (fun a => (ws.getD (num a) 0, ((num a : Nat) : Int))) as := by
      refine List.pairwise_iff_getElem.mpr fun i j hi hj hij => ?_
      show ((num as[i] : Nat) : Int) ≠ ((num as[j] : Nat) : Int)
      rw [hnum i _ (List.getElem?_eq_getElem hi), hnum j _ (List.getElem?_eq_getElem hj)]
      omega
    refine ⟨bag', hH, ap.perm p, fun a ha => ?_, fun wh fn hm => ?_, ?_, ?_⟩
    · have ha' := p.mem_iff.mp ha
      have lt := (List.getElem?_eq_some_iff.mp (wat a ha')).1
      refine ⟨by show ((num a : Nat) : Int) < ((ws.length : Nat) : Int); omega, h0 _ (List.mem_of_getElem? (wat a ha')), rfl⟩
    · have e : its0 ws = as.map fun a => (ws.getD (num a) 0, ent0 (num a) (ws.getD (num a) 0)) := by
        refine List.ext_getElem? fun j => ?_
        unfold its0
        rw [List.getElem?_mapIdx, List.getElem?_map]
        by_cases hj : j < as.length
        · have ej := List.getElem?_eq_getElem hj
          have ew : ws[j]? = some ws[j] := List.getElem?_eq_getElem (by omega)
          rw [ej, ew]
          simp only [Option.map_some]
          rw [hnum j _ ej, List.getD_eq_getElem?_getD, ew]
          rfl
        · rw [List.getElem?_eq_none (by omega), List.getElem?_eq_none (by omega)]; rfl
      rw [e]
      exact hm.perm (p.map _)
    · have : (as'.map fun a => (ent0 (num a) (ws.getD (num a) 0)).cs.length) = as'.map fun _ => 1 := List.map_congr_left fun a _ => rfl
      rw [this]
      have l := p.length_eq
      have e : ∀ z : List Nat, (z.map fun _ => 1).sum = z.length := by
        intro z
        induction z with
        | nil => rfl
        | cons _ _ ih => simp only [List.map_cons, List.sum_cons, ih, List.length_cons]; omega
      rw [e]; omega
    · have l := p.length_eq
      show 0 + 10 * as'.length ≤ 100
      omega

theorem lawAdded {R : Result → Shared → Prop} {lw : Addr} {xs : List Value} {ws : List Int}
    (B : Bs w base) (hk : Sub base s.heap) (hbs : base.objs.size ≤ s.heap.objs.size) (ok : Ok A 5) (hw : LL s.heap lw xs) (hi : IntsAre xs ws) (h1 : 1 ≤ ws.length) (h10 : ws.length ≤ 10) (h0 : ∀ x ∈ ws, 0 ≤ x)
    (h : ∀ h' tk D aw al ew el, Sub s.heap h' → s.heap.get? D = none → LL h' D [.ref aw, .ref al] → IsEnt prog w s.heap.objs.size h' aw ew → IsEnt prog w s.heap.objs.size h' al el → Merge (its0 ws) log0 ew el → R (.ok (.ret (.ref D))) (At s h' tk)) :
    codeAny (model prog w) A (.call (.ref 75) ⟨[.ref lw], []⟩) R s := by
  refine enter [("weights", .ref lw)] B hk ok rfl rfl rfl (by decide) rfl (fun L h₁ tk A' eL ok' S => ?_)
  have n0 : s.heap.get? L = none := eL ▸ get_none_size _
  have hlen : xs.length = ws.length := hi.length
  have sub1 : Sub s.heap h₁ := fun b o e => S.ext' n0 b o rfl e
  have hw1 : LL h₁ lw xs := by obtain ⟨n, e⟩ := hw; exact ⟨n, sub1 _ _ e⟩
  have hw1' : h₁.IsList lw xs.toArray := hw1.isList
  have lwlt : lw < h₁.objs.size := by obtain ⟨n, e⟩ := hw1; exact Heap.lt_size e
  -- the list of items
  refine wpAny_execs_cons (compTA (n := xs.length) (fun j y g => ∃ a, y = .ref a ∧ ∃ wt, ws[j]? = some wt ∧ IsItem prog w (L + 1) g a wt j (ent0 j wt)) (fun i y h h' hs ⟨a, e1, wt, e2, e3⟩ => ⟨a, e1, wt, e2, e3.sub hs⟩) ok'.hh (by omega) S
    (callT1 (T := "enumerate") B S rfl rfl (by decide) (ldv S rfl (call_enumerate_list (s := At s h₁ tk) hw1' (fun h₂ he hit hsz hk₂ => wpAny_pyIter_enum he ?src)))) ?rest)
  case src =>
    replace hk₂ : Sub h₁ h₂ := hk₂
    replace hsz : h₂.objs.size = h₁.objs.size + 2 := hsz
    replace he : IsEnum h₂ (h₁.objs.size + 1) h₁.objs.size 0 .none := he
    replace hit : h₂.IsListIter h₁.objs.size lw 0 := hit
    refine ⟨h₁.objs.size + 1, h₂, _, _, _, _, _, _, rfl, rfl, hk₂, ?_, (WalksT.enumerate ok'.hh (h₁.objs.size + 1) h₁.objs.size lw (Nat.ne_of_gt (Nat.lt_succ_self _)) (Nat.ne_of_lt (Nat.lt_succ_of_lt lwlt)) (Nat.ne_of_lt lwlt) xs.toArray), ?_, ?_, ⟨⟨_, he⟩, hit, ?_⟩, ?_⟩
    · intro b hb
      simp only [List.mem_cons, List.mem_nil_iff, or_false] at hb
      rcases hb with rfl | rfl
      · exact Heap.get?_none_of_le (Nat.le_succ _)
      · exact get_none_size _
    · rintro i vals ⟨t, x, _, rfl⟩; exact ⟨_, _, rfl⟩
    · intro b hb
      simp only [List.mem_cons, List.mem_nil_iff, or_false] at hb
      rw [hsz]
      rcases hb with rfl | rfl | rfl
      · exact Nat.lt_succ_self _
      · exact Nat.lt_succ_of_lt (Nat.lt_succ_self _)
      · exact Nat.lt_succ_of_lt (Nat.lt_succ_of_lt lwlt)
    · obtain ⟨n, e⟩ := hw1; exact PySem.IsL.isList (n := n) (hk₂ _ _ e)
    · intro s' C i va vb h₃ tk₃ m₃ hP S₃
      obtain ⟨t0, x, hx, ev⟩ := hP
      have e1 : va = .int i t0 ∧ vb = x := by simpa using ev
      obtain ⟨rfl, rfl⟩ := e1
      obtain ⟨wt, u0, rfl, hwt⟩ := hi.at i _ (by simpa using hx)
      have il : i < ws.length := (List.getElem?_eq_some_iff.mp hwt).1
      have Llt : L < h₃.objs.size := by
        by_cases q : L = C
        · rw [q]; exact S₃.ltL
        · obtain ⟨o, _, _, e, _⟩ := S.ns
          exact Heap.lt_size (S₃.ext L o rfl q e)
      refine Tuple_ (args_cons (ldv S₃ rfl (args_cons (ldv S₃ rfl (args_cons (Tuple_ ?_))))))
      refine args_cons (cI fun v1 k1 => args_cons (cI fun v2 k2 => args_cons (ldv S₃ rfl (args_cons (cI fun v3 k3 => args_cons ?_)))))
      refine mkDict1 (key := nm i) S₃ (fun d h₄ ed S₄ => wpAny_BinOp (cS fun v4 k4 => callT1 (T := "str") B S₄ rfl rfl (by decide) (ldv S₄ rfl (strI (by omega) fun v5 k5 => addS ?_ fun v6 k6 => cI fun v7 k7 => ⟨v6, k7, rfl, rfl, fun h₅ k8 S₅ sub5 hd5 => ?_⟩))))
      · have := dig_len i (by omega)
        have e2 : (Str.ofString "work ").length = 5 := by decide
        omega
      · refine args_nil (mkTup S₅ (by simp) (fun t6 h₆ _ _ _ sub6 le6 tup6 S₆ => ?_))
        refine args_nil (mkTup S₆ (by simp) (fun t7 h₇ _ _ _ sub7 le7 tup7 S₇ => ?_))
        have g5 : h₃.objs.size ≤ h₅.objs.size := Nat.le_of_lt (by rw [ed]; exact S₅.lt (upd_self _ _ _))
        have g6 : h₃.objs.size ≤ t6 := Nat.le_trans g5 le6
        have g7 : h₃.objs.size ≤ t7 := Nat.le_trans (Nat.le_of_lt (Nat.lt_of_le_of_lt g6 (by obtain ⟨o, ho, _⟩ := tup6; exact Heap.lt_size ho))) le7
        refine ⟨h₇, _, rfl, sub5.trans (sub6.trans sub7), fun g hg => ⟨t7, rfl, wt, hwt, _, _, t6, tup_restrict tup7 fun o e => hg _ _ e g7, ?_⟩⟩
        have tup6' : IsTup h₇ t6 _ := tup_restrict tup6 fun o e => sub7 _ _ e
        refine ⟨_, _, _, _, d, tup_restrict tup6' fun o e => hg _ _ e g6, ⟨[(nm i, .int 1 v7)], DictOf.restrict hd5 fun o e => hg _ _ (sub7 _ _ (sub6 _ _ e)) (by rw [ed]; exact Nat.le_refl _), .cons _ _ _ .nil⟩, ?_⟩
        rw [← ed]; exact Llt
  case rest =>
    intro l h₂ tk₂ ys nl kb2 ll2 S hyl hE
    have bl : base.get? l = none := none_of_sub hk (none_of_sub sub1 nl)
    have sl : s.heap.get? l = none := none_of_sub sub1 nl
    have lL : L ≠ l := fun q => by have := S.nF; rw [q, upd_self] at this; cases this
    obtain ⟨as, rfl, hAs⟩ := refs_of (P := fun j a => ∃ wt, ws[j]? = some wt ∧ IsItem prog w (L + 1) h₂ a wt j (ent0 j wt)) (fun j y hy => by
      obtain ⟨g, hg, a, rfl, wt, e2, e3⟩ := hE j y hy
      exact ⟨a, rfl, wt, e2, e3.sub fun b o e => (hg b o e).2.2⟩)
    have aslen : as.length = ws.length := by rw [List.length_map] at hyl; omega
    obtain ⟨key, ent, bag, apart, mk⟩ := Inv.init (prog := prog) (w := w) aslen hAs h10 h0
    have lo : L < L + 1 := Nat.lt_succ_self L
    have blo : base.objs.size ≤ L + 1 := Nat.le_succ_of_le (eL ▸ hbs)
    -- heapify
    refine wpAny_execs_cons (wpAny_Expr (callD B S rfl rfl (args_cons (ldv S rfl (args_nil ⟨S.bk, ?_⟩)))))
    refine heapify (s := At s h₂ tk₂) (key := key) (as := as) B S.bk bl (ok'.le (by omega)) (S.lst (upd_self _ _ _)) bag.items apart (by omega) (fun h₃ tk₃ as1 e3 l3 p3 H3 => ?_)
    have S3 := S.change (x := .lst (as1.map Value.ref)) e3 l3 lL bl
    rw [upd_upd] at S3
    have bag3 : Bag prog w (L + 1) h₃ as1 key ent := fun a ha => (bag a (p3.mem_iff.mp ha)).kb lo (S.lst (upd_self _ _ _)) S.ns (KeepBut.of_ext e3)
    have I3 := mk as1 h₃ p3 H3 bag3
    -- the empty log
    have T3 := S3.again (upd_self _ _ _) bl
    refine wpAny_execs_cons (wpAny_Assign_Name (Tuple_ (args_cons (cI fun v1 k1 => args_cons (cI fun v2 k2 => args_cons (cI fun v3 k3 => args_cons (cI fun v4 k4 => args_cons (mkDict T3 fun d h₄ Ld fd bd sub4 le4 dict4 S4 => args_nil (mkTup S4 (by simp) (fun alog h₅ La fa ba sub5 le5 tup5 S5 => ?_))))))))))
    have sub35 : Sub h₃ h₅ := sub4.trans sub5
    have T5 := (T3.keep sub35).again (upd_self _ _ _) bl
    have ent5 : IsEnt prog w (L + 1) h₅ alog log0 := ⟨v1, v2, v3, v4, d, tup5, ⟨[], dict4.keep sub5, .nil⟩, Ld⟩
    have bag5 : Bag prog w (L + 1) h₅ as1 key ent := fun a ha => (bag3 a ha).sub sub35
    have I5 := mk as1 h₅ p3 H3 bag5
    have s5 : Sub s.heap h₅ := fun b o e => sub35 _ _ (S3.ext' n0 b o (upd_ne (fun q => by rw [q, sl] at e; cases e)) e)
    have lw5 : LL h₅ lw xs := by obtain ⟨n, e⟩ := hw; exact ⟨n, s5 _ _ e⟩
    have lwl : lw ≠ l := fun q => by obtain ⟨n, e⟩ := hw; rw [q] at e; exact absurd (sl.symm.trans e) (by simp)
    have lwL : lw ≠ L := fun q => by obtain ⟨n, e⟩ := hw; rw [q] at e; exact absurd (n0.symm.trans e) (by simp)
    refine stv T5 fun h₆ tk₆ S6 => ?_
    have lw6 : LL h₆ lw xs := by obtain ⟨n, e⟩ := lw5; exact ⟨n, S6.kb _ _ lwl lwL e⟩
    -- the number
    refine wpAny_execs_cons (wpAny_Assign_Name (lenL (xs := xs) B S6 (ldv S6 rfl ⟨_, rfl, rfl, lw6, by omega, fun tn tk₇ => stv S6 fun h₇ tk₇ S7 => ?_⟩)))
    rw [hlen] at S7
    have k57 : KeepBut l L h₅ h₇ := S7.kb
    have l5 := T5.lst (upd_self _ _ _)
    refine wpAny_execs_cons (while_to
      (fun n s' => ∃ h tk m as key ent num elog alog tn, s' = At s h tk ∧ St prog w base h (upd none' l (.lst (as.map Value.ref))) L h m ∧ Sub s.heap h ∧ Inv prog w ws (L + 1) h as key ent num elog ∧ IsEnt prog w (L + 1) h alog elog ∧
        as.length = n ∧ 1 ≤ n ∧ m "heap" = some (.ref l) ∧ m "log" = some (.ref alog) ∧ m "number" = some (.int ((num : Nat) : Int) tn))
      (fun s' => ∃ h tk m r key ent num elog alog, s' = At s h tk ∧ St prog w base h (upd none' l (.lst [Value.ref r])) L h m ∧ Sub s.heap h ∧ Inv prog w ws (L + 1) h [r] key ent num elog ∧ IsEnt prog w (L + 1) h alog elog ∧
        m "heap" = some (.ref l) ∧ m "log" = some (.ref alog)) ?turn ws.length ?init ?fin)
    case init =>
      have l1 := p3.length_eq
      refine ⟨h₇, tk₇, _, as1, key, ent, ws.length, log0, alog, tn, rfl, S7.again (upd_self _ _ _) bl, fun b o e => k57 b o (fun q => by rw [q, sl] at e; cases e) (fun q => by rw [q, n0] at e; cases e) (s5 b o e),
        mk as1 h₇ p3 H3 (fun a ha => (bag5 a ha).kb lo l5 T5.ns k57), ent5.kb lo l5 T5.ns k57, by omega, h1, rfl, rfl, rfl⟩
    case fin =>
      rintro s' ⟨h', tk', m', r, key, ent, num, elog, alog, rfl, S, subS, I, hlog, m1, m2⟩
      refine wpAny_execs_cons (wpAny_Return_some (List_ (args_cons (Subscript_ (callD B S rfl rfl (args_cons (ldv S m1 (args_nil ⟨S.bk, ?_⟩))))))))
      refine heappop (s := At s h' tk') (key := key) (r := r) (rest := []) B S.bk bl (ok'.le (by omega)) (S.lst (upd_self _ _ _)) (fun a ha => nomatch ha) List.Pairwise.nil (by simp) I.heap (fun h₈ tk₈ as8 e8 l8 p8 H8 => ?_)
      have S8 := S.change (x := .lst (as8.map Value.ref)) e8 l8 lL bl
      have hl' := S.lst (upd_self _ _ _)
      obtain ⟨t1, u1, ea, tupr, entr⟩ := (I.bag r (by simp)).kb lo hl' S.ns (KeepBut.of_ext e8)
      refine cI fun _ tk₉ => itemT (k := 2) tupr (by omega) rfl (args_cons (ldv S8 m2 (args_nil ?_)))
      refine mkList S8 (by simp) (fun D h₉ LD fD bD sub9 nD ll9 S9 => ?_)
      have s8 : Sub s.heap h₈ := fun b o e => e8 b o (fun q => by rw [q, sl] at e; cases e) (subS b o e)
      have lel : s.heap.objs.size ≤ L + 1 := Nat.le_succ_of_le (Nat.le_of_eq eL)
      exact h h₉ _ D ea alog (ent r) elog (s8.trans sub9) (none_of_sub s8 nD) ll9 ((entr.sub sub9).le lel) (((hlog.kb lo hl' S.ns (KeepBut.of_ext e8)).sub sub9).le lel) (I.merge _ _ (.done _ _ _))
    case turn =>
      rintro n s' ⟨h', tk', m', as, key, ent, num, elog, alog, tn, rfl, S, subS, I, hlog, hn, hn1, m1, m2, m3⟩
      have hl' := S.lst (upd_self _ _ _)
      refine wpAny_isTrue_Compare1 (lenL (xs := as.map Value.ref) B S (ldv S m1 ⟨_, rfl, rfl, hl', by have := I.size2; simp; omega, fun t1 tk₁ => cI fun t2 tk₂ => gt_int (wpAny_truthy_bool ?_)⟩))
      rw [List.length_map]
      have asz : as.length ≤ 10 := by have := I.size2; omega
      match as, I, hn, S, hl', asz with
      | [], I, hn, _, _, _ => simp at hn; omega
      | [r], I, hn, S, hl', asz =>
        rw [if_neg (by simp)]
        exact ⟨h', tk₂, m', r, key, ent, num, elog, alog, rfl, S, subS, I, hlog, m1, m2⟩
      | r1 :: x :: rs, I, hn, S, hl', asz =>
        rw [if_pos (by simp; omega)]
        have ap := List.pairwise_cons.mp I.apart
        -- the least
        refine wpAny_execs_cons (wpAny_Assign_Name (callD B S rfl rfl (args_cons (ldv S m1 (args_nil ⟨S.bk, ?_⟩)))))
        refine heappop (s := At s h' tk₂) (key := key) (r := r1) (rest := x :: rs) B S.bk bl (ok'.le (by omega)) hl' (fun a ha => I.bag.items a (List.mem_cons_of_mem _ ha)) ap.2 (by simp at asz ⊢; omega) I.heap (fun h₁ tk₁ as1 e1 l1 p1 H1 => ?_)
        have S1 := S.change (x := .lst (as1.map Value.ref)) e1 l1 lL bl
        rw [upd_upd] at S1
        obtain ⟨r2, rest2, rfl⟩ : ∃ r2 rest2, as1 = r2 :: rest2 := by
          cases as1 with
          | nil => have := p1.length_eq; simp at this
          | cons a b => exact ⟨a, b, rfl⟩
        have pas : (r1 :: x :: rs).Perm (r1 :: r2 :: rest2) := .cons _ p1.symm
        have len2 : rest2.length + 2 ≤ 10 := by have := pas.length_eq; simp at this asz; omega
        have mem1 : r1 ∈ r1 :: x :: rs := by simp
        have mem2 : r2 ∈ r1 :: x :: rs := pas.mem_iff.mpr (by simp)
        have memr : ∀ a ∈ rest2, a ∈ r1 :: x :: rs := fun a ha => pas.mem_iff.mpr (by simp [ha])
        -- from here on the heap h₁ is the ground
        have T1 := S1.again (upd_self _ _ _) bl
        have bag1 : Bag prog w (L + 1) h₁ (r1 :: x :: rs) key ent := fun a ha => (I.bag a ha).kb lo hl' S.ns (KeepBut.of_ext e1)
        have log1 := hlog.kb lo hl' S.ns (KeepBut.of_ext e1)
        have sub1 : Sub s.heap h₁ := fun b o e => e1 b o (fun q => by rw [q, sl] at e; cases e) (subS b o e)
        refine stv T1 fun h₂ tk₂ S2 => ?_
        refine wpAny_execs_cons (wpAny_Assign_Name (Subscript_ (ldv S2 m1 (cI fun _ _ => itemL (v := .ref r2) (S2.lst (upd_self _ _ _)) (by omega) (by omega) rfl (stv S2 fun h₃ tk₃ S3 => ?_)))))
        have kb3 := S3.kb
        -- both
        obtain ⟨ta, ua, ea, tupa, enta⟩ := (bag1 r1 mem1).kb lo l1 T1.ns kb3
        obtain ⟨tb, ub, eb, tupb, entb⟩ := (bag1 r2 mem2).kb lo l1 T1.ns kb3
        refine wpAny_execs_cons (wpAny_Assign_Name (callD B S3 rfl rfl (args_cons (Subscript_ (ldv S3 rfl (cI fun _ _ => itemT (k := 2) tupa (by omega) rfl (args_cons (Subscript_ (ldv S3 rfl (cI fun _ tk₄ => itemT (k := 2) tupb (by omega) rfl (args_nil ⟨S3.bk, ?_⟩)))))))))))
        have hcs : (ent r1).cs.length + (ent r2).cs.length < 2 ^ 20 := by
          have s1 := I.size1
          rw [(pas.map _).sum_nat] at s1
          simp at s1; omega
        refine addFuncStats (s := At s h₃ tk₄) (et := ent r1) (es := ent r2) (lo := L + 1) B S3.bk (ok'.le (by omega)) blo enta entb hcs (fun h₄ tk₅ ab sub4 lab entab => ?_)
        have kb4 : KeepBut l L h₁ h₄ := kb3.trans (KeepBut.of_sub sub4)
        have T4 := (S3.keep sub4).again (upd_self _ _ _) bl
        have l4 := T4.lst (upd_self _ _ _)
        have bag4 : Bag prog w (L + 1) h₄ (r1 :: x :: rs) key ent := fun a ha => (bag1 a ha).kb lo l1 T1.ns kb4
        have log4 := log1.kb lo l1 T1.ns kb4
        have sub14 : Sub s.heap h₄ := fun b o e => kb4 b o (fun q => by rw [q, sl] at e; cases e) (fun q => by rw [q, n0] at e; cases e) (sub1 b o e)
        refine stv T4 fun h₅ tk₅ S5 => ?_
        -- the mark
        refine wpAny_execs_cons (wpAny_Assign_Name (Tuple_ (args_cons (UnaryOp_ (cI fun _ _ => negI fun tm k6 => args_cons (ldv S5 m3 (args_cons (Tuple_ (args_nil (mkTup S5 (by simp) (fun em h₆ _ _ _ sub6 le6 _ S6 => args_nil (mkTup S6 (by simp) (fun amark h₇ Lm fm bm sub7 le7 tupm S7 => ?_)))))))))))))
        have kb47 : KeepBut l L h₄ h₇ := S5.kb.trans (KeepBut.of_sub (sub6.trans sub7))
        have T7 := (S5.keep (sub6.trans sub7)).again (upd_self _ _ _) bl
        have l7 := T7.lst (upd_self _ _ _)
        have bag7 : Bag prog w (L + 1) h₇ (r1 :: x :: rs) key ent := fun a ha => (bag4 a ha).kb lo l4 T4.ns kb47
        have log7 := log4.kb lo l4 T4.ns kb47
        have ent7 := entab.kb lo l4 T4.ns kb47
        have sub17 : Sub s.heap h₇ := fun b o e => kb47 b o (fun q => by rw [q, sl] at e; cases e) (fun q => by rw [q, n0] at e; cases e) (sub14 b o e)
        have mfresh : ∀ a ∈ r1 :: x :: rs, a ≠ amark := fun a ha q => by
          obtain ⟨_, _, _, ⟨o, ho, _⟩, _⟩ := (bag4 a ha).kb lo l4 T4.ns S5.kb
          have h1 := Heap.lt_size (sub6 _ _ ho)
          rw [q] at h1
          exact absurd (Nat.lt_of_lt_of_le h1 le7) (Nat.lt_irrefl _)
        refine stv T7 fun h₈ tk₈ S8 => ?_
        have kb8 := S8.kb
        -- the mark goes in
        have tupm8 := tup_kb tupm l7 T7.ns kb8
        have bag8 : Bag prog w (L + 1) h₈ (r1 :: x :: rs) key ent := fun a ha => (bag7 a ha).kb lo l7 T7.ns kb8
        have log8 := log7.kb lo l7 T7.ns kb8
        have ent8 := ent7.kb lo l7 T7.ns kb8
        have l8 := S8.lst (upd_self _ _ _)
        have sub18 : Sub s.heap h₈ := fun b o e => kb8 b o (fun q => by rw [q, sl] at e; cases e) (fun q => by rw [q, n0] at e; cases e) (sub17 b o e)
        let key' : KeyF := fun a => if a = amark then (-1, (num : Int)) else key a
        have kold' : ∀ a ∈ r1 :: x :: rs, key' a = key a := fun a ha => if_neg (mfresh a ha)
        have kmark : key' amark = (-1, (num : Int)) := if_pos rfl
        have ap2 : Apart key rest2 := (List.pairwise_cons.mp (List.pairwise_cons.mp (I.apart.perm pas.symm)).2).2
        refine wpAny_execs_cons (wpAny_If (isTrue_or (wpAny_isTrue_Compare1 (callD B S8 rfl rfl (args_cons (ldv S8 m1 (args_cons (ldv S8 rfl (args_nil ⟨S8.bk, ?_⟩)))))))))
        refine heapreplace (s := At s h₈ tk₈) (key := key') (r := r2) (x := amark) (rest := rest2) B S8.bk bl (ok'.le (by omega)) l8 ?_ ?_ (by omega) (H1.congr fun a ha => kold' a (pas.mem_iff.mpr (List.mem_cons_of_mem _ ha))) (fun h₉ tk₉ as2 e9 l9 p9 H9 => ?_)
        · intro a ha
          rcases List.mem_cons.mp ha with rfl | q
          · rw [kmark]; exact ⟨_, _, _, tupm8⟩
          · rw [kold' a (memr a q)]; exact bag8.items a (memr a q)
        · refine List.pairwise_cons.mpr ⟨fun b hb => ?_, List.Pairwise.imp_of_mem (fun {a b} ha hb hab => by rw [kold' a (memr a ha), kold' b (memr b hb)]; exact hab) ap2⟩
          rw [kmark, kold' b (memr b hb)]
          have := (I.fit b (memr b hb)).1
          intro q; rw [← q] at this; exact absurd this (Int.lt_irrefl _)
        have S9 := S8.change (x := .lst (as2.map Value.ref)) e9 l9 lL bl
        rw [upd_upd] at S9
        refine ldv S9 rfl (wpAny_isNot_ref_self (wpAny_truthy_bool ?_))
        -- it is the least
        obtain ⟨rest3, rfl⟩ : ∃ rest3, as2 = amark :: rest3 := by
          cases as2 with
          | nil => have := p9.length_eq; simp at this
          | cons q rest3 =>
            refine ⟨rest3, ?_⟩
            congr 1
            rcases List.mem_cons.mp (p9.mem_iff.mp (List.mem_cons_self ..)) with e | e
            · exact e
            · exfalso
              have h1 := root_mem H9 rfl amark (p9.mem_iff.mpr (by simp))
              have h2 := kle_fst h1
              rw [kmark, kold' q (memr q e)] at h2
              have := (I.fit q (memr q e)).2.1
              simp at h2; omega
        have p23 : rest3.Perm rest2 := List.Perm.cons_inv p9
        have len3 := p23.length_eq
        have mem3 : ∀ a ∈ rest3, a ∈ r1 :: x :: rs := fun a ha => memr a (p23.mem_iff.mp ha)
        have kb9 : KeepBut l L h₈ h₉ := KeepBut.of_ext e9
        have T9 := S9.again (upd_self _ _ _) bl
        have bag9 : Bag prog w (L + 1) h₉ (r1 :: x :: rs) key ent := fun a ha => (bag8 a ha).kb lo l8 S8.ns kb9
        have log9 := log8.kb lo l8 S8.ns kb9
        have ent9 := ent8.kb lo l8 S8.ns kb9
        have tupm9 := tup_kb tupm8 l8 S8.ns kb9
        have sub19 : Sub s.heap h₉ := fun b o e => e9 b o (fun q => by rw [q, sl] at e; cases e) (sub18 b o e)
        rw [if_neg (by decide)]
        -- the sum goes in
        obtain ⟨c1, c2, c3, c4, dd, tupab, cdab, ldd⟩ := id ent9
        refine isTrue_or (wpAny_isTrue_Compare1 (callD B T9 rfl rfl ?_))
        refine args_cons (ldv T9 m1 (args_cons (Tuple_ ?_)))
        refine args_cons (Subscript_ (ldv T9 rfl (cI fun _ _ => itemT (k := 2) tupab (by omega) rfl ?_)))
        refine args_cons (ldv T9 m3 (args_cons (ldv T9 rfl (args_nil ?_))))
        refine mkTup T9 (by simp) (fun anew hA LA fA bA subA leA tupA SA => args_nil ⟨SA.bk, ?_⟩)
        have TA := (T9.keep subA).again (upd_self _ _ _) bl
        have lA := TA.lst (upd_self _ _ _)
        have afresh : ∀ a ∈ r1 :: x :: rs, a ≠ anew := fun a ha q => by
          obtain ⟨_, _, _, ⟨o, ho, _⟩, _⟩ := bag9 a ha
          have h1 := Heap.lt_size ho
          rw [q] at h1
          exact absurd (Nat.lt_of_lt_of_le h1 leA) (Nat.lt_irrefl _)
        have amfresh : amark ≠ anew := fun q => by
          obtain ⟨o, ho, _⟩ := tupm9
          have h1 := Heap.lt_size ho
          rw [q] at h1
          exact absurd (Nat.lt_of_lt_of_le h1 leA) (Nat.lt_irrefl _)
        let key2 : KeyF := fun a => if a = anew then (((ent r1).add (ent r2)).tt, (num : Int)) else key' a
        have kold2 : ∀ a ∈ r1 :: x :: rs, key2 a = key a := fun a ha => (if_neg (afresh a ha)).trans (kold' a ha)
        have knew2 : key2 anew = (((ent r1).add (ent r2)).tt, (num : Int)) := if_pos rfl
        have bagA : Bag prog w (L + 1) hA (r1 :: x :: rs) key ent := fun a ha => (bag9 a ha).sub subA
        have newA : IsItem prog w (L + 1) hA anew ((ent r1).add (ent r2)).tt num ((ent r1).add (ent r2)) := ⟨_, _, ab, tupA, ent9.sub subA⟩
        refine heapreplace (s := At s hA _) (key := key2) (r := amark) (x := anew) (rest := rest3) B SA.bk bl (ok'.le (by omega)) lA ?_ ?_ (by omega) (H9.congr fun a ha => ?_) (fun hB tkB as3 eB lB pB HB => ?_)
        · intro a ha
          rcases List.mem_cons.mp ha with rfl | q
          · rw [knew2]; exact ⟨_, _, _, tupA⟩
          · rw [kold2 a (mem3 a q)]; exact bagA.items a (mem3 a q)
        · refine List.pairwise_cons.mpr ⟨fun b hb => ?_, List.Pairwise.imp_of_mem (fun {a b} ha hb hab => by rw [kold2 a (mem3 a ha), kold2 b (mem3 b hb)]; exact hab) (ap2.perm p23)⟩
          rw [knew2, kold2 b (mem3 b hb)]
          have := (I.fit b (mem3 b hb)).1
          intro q; rw [← q] at this; exact absurd this (Int.lt_irrefl _)
        · rcases List.mem_cons.mp ha with rfl | q
          · exact if_neg amfresh
          · exact if_neg (afresh a (mem3 a q))
        have SB := TA.change (x := .lst (as3.map Value.ref)) eB lB lL bl
        rw [upd_upd] at SB
        refine ldv SB rfl (wpAny_isNot_ref_self (wpAny_truthy_bool ?_))
        rw [if_neg (by decide)]
        refine isTrue_or_nil ?_
        rw [if_neg (by decide)]
        refine wpAny_execs_nil ?_
        -- the log
        have kbB : KeepBut l L hA hB := KeepBut.of_ext eB
        have TB := SB.again (upd_self _ _ _) bl
        have logB := (log9.sub subA).kb lo lA TA.ns kbB
        have entB := (ent9.sub subA).kb lo lA TA.ns kbB
        have bagB : Bag prog w (L + 1) hB rest2 key ent := fun a ha => (bagA a (memr a ha)).kb lo lA TA.ns kbB
        have newB := newA.kb lo lA TA.ns kbB
        have subB : Sub s.heap hB := fun b o e => eB b o (fun q => by rw [q, sl] at e; cases e) (subA _ _ (sub19 b o e))
        refine wpAny_execs_cons (wpAny_Assign_Name (callD B TB rfl rfl (args_cons (ldv TB m2 (args_cons (ldv TB rfl (args_nil ⟨TB.bk, ?_⟩)))))))
        have hcs2 : elog.cs.length + ((ent r1).add (ent r2)).cs.length < 2 ^ 20 := by
          have h1 := addC_length (ent r1).cs (ent r2).cs
          have h2 : ((ent r1).add (ent r2)).cs.length ≤ (ent r1).cs.length + (ent r2).cs.length := h1
          have s1 := I.size1
          have s2 := I.size2
          rw [(pas.map _).sum_nat] at s1
          simp at s1 s2
          omega
        refine addFuncStats (s := At s hB _) (et := elog) (es := (ent r1).add (ent r2)) (lo := L + 1) B TB.bk (ok'.le (by omega)) blo logB entB hcs2 (fun hC tkC alog2 subC laC entC => ?_)
        have TC := (TB.keep subC).again (upd_self _ _ _) bl
        have lC := TC.lst (upd_self _ _ _)
        have lBB := TB.lst (upd_self _ _ _)
        refine stv TC fun hD tkD SD => ?_
        refine wpAny_execs_cons (wpAny_AugAssign_Name (ldn SD m3 (cI fun _ _ => iaddI fun tn2 tkE => stv SD fun hE tkE SE => ?_)))
        have kbE := SE.kb
        have INV := I.turn (h' := hE) rfl p1 H1 (fun q => afresh anew q rfl) kold2 knew2 (pB.trans (.cons _ p23)) HB (fun a ha => ((bagB a ha).sub subC).kb lo lC TC.ns kbE) ((newB.sub subC).kb lo lC TC.ns kbE)
        refine wpAny_execs_nil ⟨n - 1, by omega, hE, tkE, _, as3, key2, _, num + 1, _, alog2, tn2, rfl, SE.again (upd_self _ _ _) bl, fun b o e => kbE b o (fun q => by rw [q, sl] at e; cases e) (fun q => by rw [q, n0] at e; cases e) (subC _ _ (subB b o e)), INV, entC.kb lo lC TC.ns kbE, ?_, ?_, m1, rfl, ?_⟩
        · have := pB.length_eq
          have q := pas.length_eq
          simp at this q hn
          omega
        · simp at hn; omega
        · show some (Value.int ((num : Int) + 1) tn2) = _
          congr 2
end
end Mine

/- the plain law: the least sums; no program in sight -/
namespace Mine

/-- the halves of one, over 2^N -/
def kr (N : Nat) (ds : List Nat) : Nat := (ds.map fun d => 2 ^ (N - d)).sum
def Kraft (ds : List Nat) : Prop := ∀ N, (∀ d ∈ ds, d ≤ N) → kr N ds = 2 ^ N
def cost (ps : List (Int × Nat)) : Int := (ps.map fun p => p.1 * (p.2 : Int)).sum

theorem kr_cons (N d : Nat) (ds : List Nat) : kr N (d :: ds) = 2 ^ (N - d) + kr N ds := by simp [kr]
theorem kr_append (N : Nat) (a b : List Nat) : kr N (a ++ b) = kr N a + kr N b := by simp [kr]
theorem kr_perm {N : Nat} {a b : List Nat} (p : a.Perm b) : kr N a = kr N b := (p.map _).sum_nat
theorem Kraft.perm {a b : List Nat} (h : Kraft a) (p : a.Perm b) : Kraft b := fun N hN => by rw [← kr_perm p]; exact h N fun d hd => hN d (p.mem_iff.mp hd)
theorem cost_cons (p : Int × Nat) (ps : List (Int × Nat)) : cost (p :: ps) = p.1 * (p.2 : Int) + cost ps := by simp [cost]
theorem cost_perm {a b : List (Int × Nat)} (p : a.Perm b) : cost a = cost b := by
  unfold cost
  induction p with
  | nil => rfl
  | cons x _ ih => simp only [List.map_cons, List.sum_cons, ih]
  | swap x y l => simp only [List.map_cons, List.sum_cons]; omega
  | trans _ _ h1 h2 => exact h1.trans h2
theorem cost_append (a b : List (Int × Nat)) : cost (a ++ b) = cost a + cost b := by
  induction a with
  | nil => simp [cost]
  | cons p r ih => rw [List.cons_append, cost_cons, cost_cons, ih]; omega

theorem kr_succ {N : Nat} {ds : List Nat} (h : ∀ d ∈ ds, d ≤ N) : kr (N + 1) ds = 2 * kr N ds := by
  induction ds with
  | nil => rfl
  | cons d r ih =>
    rw [kr_cons, kr_cons, ih fun x hx => h x (List.mem_cons_of_mem _ hx), show N + 1 - d = (N - d) + 1 from by have := h d (by simp); omega, Nat.pow_succ]
    omega
theorem kr_up {N : Nat} (ds : List Nat) : kr (N + 1) (ds.map (· + 1)) = kr N ds := by
  unfold kr
  rw [List.map_map]
  congr 1
  exact List.map_congr_left fun d _ => by simp only [Function.comp]; congr 1; omega

theorem Kraft.one : Kraft [0] := fun N _ => by simp [kr]
theorem Kraft.split {d : Nat} {r : List Nat} (h : Kraft (d :: r)) : Kraft ((d + 1) :: (d + 1) :: r) := fun N hN => by
  have h1 : d + 1 ≤ N := hN (d + 1) (by simp)
  have := h N (fun x hx => by
    rcases List.mem_cons.mp hx with rfl | q
    · omega
    · exact hN x (by simp [q]))
  rw [kr_cons] at this
  rw [kr_cons, kr_cons]
  rw [show N - d = (N - (d + 1)) + 1 from by omega, Nat.pow_succ] at this
  omega
theorem Kraft.join {d : Nat} {r : List Nat} (h : Kraft ((d + 1) :: (d + 1) :: r)) : Kraft (d :: r) := fun N hN => by
  have hd : d ≤ N := hN d (by simp)
  have := h (N + 1) (fun x hx => by
    rcases List.mem_cons.mp hx with rfl | q
    · omega
    · rcases List.mem_cons.mp q with rfl | q
      · omega
      · have := hN x (by simp [q]); omega)
  rw [kr_cons, kr_cons, kr_succ fun x hx => hN x (by simp [hx]), show N + 1 - (d + 1) = N - d from by omega, Nat.pow_succ] at this
  rw [kr_cons]
  omega
theorem Kraft.single {d : Nat} (h : Kraft [d]) : d = 0 := by
  have := h d (by simp)
  simp [kr] at this
  rcases Nat.eq_zero_or_pos d with q | q
  · exact q
  · exfalso
    have h2 : 2 ^ 1 ≤ 2 ^ d := Nat.pow_le_pow_right (by decide) q
    omega

/-- in a falling row of depths the two deepest are alike -/
theorem Kraft.two {d e : Nat} {r : List Nat} (h : Kraft (d :: e :: r)) (hd : ∀ x ∈ e :: r, x ≤ d) (he : ∀ x ∈ r, x ≤ e) : e = d ∧ 1 ≤ d := by
  have hk := h d (fun x hx => by rcases List.mem_cons.mp hx with rfl | q; exact Nat.le_refl _; exact hd x q)
  have hed := hd e (by simp)
  rw [kr_cons, Nat.sub_self, Nat.pow_zero] at hk
  by_cases h0 : d = 0
  · exfalso
    subst h0
    have : e = 0 := by omega
    subst this
    rw [kr_cons] at hk
    simp at hk
  · refine ⟨?_, by omega⟩
    rcases Nat.lt_or_ge e d with q | q
    · exfalso
      have even : ∀ l : List Nat, (∀ x ∈ l, x < d) → kr d l % 2 = 0 := by
        intro l
        induction l with
        | nil => intro _; rfl
        | cons x t ih =>
          intro hl
          rw [kr_cons, show d - x = (d - x - 1) + 1 from by have := hl x (by simp); omega, Nat.pow_succ]
          have := ih fun y hy => hl y (by simp [hy])
          omega
      have h1 := even (e :: r) (fun x hx => by rcases List.mem_cons.mp hx with rfl | q'; exact q; exact Nat.lt_of_le_of_lt (he x q') q)
      have h2 : 2 ^ d % 2 = 0 := by rw [show d = (d - 1) + 1 from by omega, Nat.pow_succ]; omega
      omega
    · omega

theorem perm_of_mem {α : Type} {a : α} {l : List α} (h : a ∈ l) : ∃ r, l.Perm (a :: r) := by
  obtain ⟨s, t, rfl⟩ := List.append_of_mem h
  exact ⟨s ++ t, List.perm_middle⟩
theorem exists_min : ∀ (l : List Int), l ≠ [] → ∃ m ∈ l, ∀ x ∈ l, m ≤ x
  | [a], _ => ⟨a, by simp, by simp⟩
  | a :: b :: r, _ => by
    obtain ⟨m, hm, hl⟩ := exists_min (b :: r) (by simp)
    by_cases h : a ≤ m
    · refine ⟨a, by simp, fun x hx => ?_⟩
      rcases List.mem_cons.mp hx with rfl | q
      · exact Int.le_refl _
      · exact Int.le_trans h (hl x q)
    · refine ⟨m, List.mem_cons_of_mem _ hm, fun x hx => ?_⟩
      rcases List.mem_cons.mp hx with rfl | q
      · omega
      · exact hl x q
theorem exists_max : ∀ (l : List Nat), l ≠ [] → ∃ m ∈ l, ∀ x ∈ l, x ≤ m
  | [a], _ => ⟨a, by simp, by simp⟩
  | a :: b :: r, _ => by
    obtain ⟨m, hm, hl⟩ := exists_max (b :: r) (by simp)
    by_cases h : m ≤ a
    · refine ⟨a, by simp, fun x hx => ?_⟩
      rcases List.mem_cons.mp hx with rfl | q
      · exact Nat.le_refl _
      · exact Nat.le_trans (hl x q) h
    · refine ⟨m, List.mem_cons_of_mem _ hm, fun x hx => ?_⟩
      rcases List.mem_cons.mp hx with rfl | q
      · omega
      · exact hl x q

/-- weights rising, depths falling costs least -/
theorem rearrange : ∀ (n : Nat) (ps : List (Int × Nat)), ps.length = n → ∃ qs : List (Int × Nat), (qs.map (·.1)).Perm (ps.map (·.1)) ∧ (qs.map (·.2)).Perm (ps.map (·.2)) ∧ qs.Pairwise (fun p q => p.1 ≤ q.1 ∧ q.2 ≤ p.2) ∧ cost qs ≤ cost ps := by
  intro n
  induction n with
  | zero =>
    intro ps h
    have : ps = [] := List.length_eq_zero_iff.mp h
    subst this
    exact ⟨[], .refl _, .refl _, .nil, Int.le_refl _⟩
  | succ n ih =>
    intro ps h
    have hne : ps ≠ [] := fun e => by rw [e] at h; simp at h
    obtain ⟨w, hw, hwl⟩ := exists_min (ps.map (·.1)) (by simpa using hne)
    obtain ⟨d, hd, hdl⟩ := exists_max (ps.map (·.2)) (by simpa using hne)
    -- a row that begins with the least weight at the greatest depth
    obtain ⟨rs, p1, p2, hc⟩ : ∃ rs : List (Int × Nat), (((w, d) :: rs).map (·.1)).Perm (ps.map (·.1)) ∧ (((w, d) :: rs).map (·.2)).Perm (ps.map (·.2)) ∧ cost ((w, d) :: rs) ≤ cost ps := by
      obtain ⟨⟨w', d1⟩, hm1, e1⟩ := List.mem_map.mp hw
      simp only at e1
      subst e1
      obtain ⟨t, ht⟩ := perm_of_mem hm1
      by_cases hdd : d1 = d
      · subst hdd
        exact ⟨t, (ht.map _).symm, (ht.map _).symm, Int.le_of_eq (cost_perm ht).symm⟩
      · obtain ⟨⟨w2, d'⟩, hm2, e2⟩ := List.mem_map.mp hd
        simp only at e2
        subst e2
        have hm3 : (w2, d') ∈ t := by
          rcases List.mem_cons.mp (ht.mem_iff.mp hm2) with q | q
          · exact absurd (congrArg Prod.snd q).symm hdd
          · exact q
        obtain ⟨u, hu⟩ := perm_of_mem hm3
        have hp : ps.Perm ((w', d1) :: (w2, d') :: u) := ht.trans (.cons _ hu)
        refine ⟨(w2, d1) :: u, (hp.map (·.1)).symm, ?_, ?_⟩
        · refine List.Perm.trans ?_ (hp.map (·.2)).symm
          exact .swap _ _ _
        · rw [cost_perm hp, cost_cons, cost_cons, cost_cons, cost_cons]
          have hw2 : w' ≤ w2 := hwl w2 (List.mem_map.mpr ⟨_, hm2, rfl⟩)
          have hd1 : d1 ≤ d' := hdl d1 (List.mem_map.mpr ⟨_, hm1, rfl⟩)
          have key : 0 ≤ (w2 - w') * ((d' : Int) - (d1 : Int)) := Int.mul_nonneg (by omega) (by omega)
          have ex : (w2 - w') * ((d' : Int) - (d1 : Int)) = w2 * d' - w2 * d1 - w' * d' + w' * d1 := by
            rw [Int.sub_mul, Int.mul_sub, Int.mul_sub]; omega
          simp only
          omega
    have hl : rs.length = n := by
      have := p1.length_eq
      simp at this; omega
    obtain ⟨qs, q1, q2, q3, q4⟩ := ih rs hl
    refine ⟨(w, d) :: qs, (List.Perm.cons _ q1).trans p1, (List.Perm.cons _ q2).trans p2, List.pairwise_cons.mpr ⟨fun p hp => ⟨?_, ?_⟩, q3⟩, ?_⟩
    · exact hwl _ (p1.mem_iff.mp (List.mem_cons_of_mem _ (q1.mem_iff.mp (List.mem_map_of_mem hp))))
    · exact hdl _ (p2.mem_iff.mp (List.mem_cons_of_mem _ (q2.mem_iff.mp (List.mem_map_of_mem hp))))
    · rw [cost_cons] at hc ⊢
      omega

/-- the run on weights alone -/
inductive HuffW : List Int → Int → Prop
  | done (w : Int) : HuffW [w] 0
  | step {l rest : List Int} {w1 w2 c : Int} : l.Perm (w1 :: w2 :: rest) → w1 ≤ w2 → (∀ x ∈ rest, w2 ≤ x) → HuffW ((w1 + w2) :: rest) c → HuffW l (w1 + w2 + c)

theorem huff_least {l : List Int} {c : Int} (h : HuffW l c) : ∀ ps : List (Int × Nat), (ps.map (·.1)).Perm l → Kraft (ps.map (·.2)) → c ≤ cost ps := by
  induction h with
  | done w =>
    intro ps p k
    have hl := p.length_eq
    match ps, hl with
    | [(w', d)], _ =>
      have : d = 0 := Kraft.single k
      subst this
      simp [cost]
  | @step l rest w1 w2 c p hw hr _ ih =>
    intro ps pp k
    obtain ⟨qs, q1, q2, q3, q4⟩ := rearrange _ ps rfl
    have hqp : (qs.map (·.1)).Perm (w1 :: w2 :: rest) := q1.trans (pp.trans p)
    have hk : Kraft (qs.map (·.2)) := k.perm q2.symm
    match qs, hqp, q3, hk, q4 with
    | [], hqp, _, _, _ => have := hqp.length_eq; simp at this
    | [_], hqp, _, _, _ => have := hqp.length_eq; simp at this
    | (a, d) :: (b, e) :: r, hqp, q3, hk, q4 =>
      have pc := List.pairwise_cons.mp q3
      have pc2 := List.pairwise_cons.mp pc.2
      obtain ⟨ede, hd1⟩ := Kraft.two hk (fun x hx => by
          rcases List.mem_cons.mp hx with rfl | q
          · exact (pc.1 (b, x) (by simp)).2
          · obtain ⟨p', hp', rfl⟩ := List.mem_map.mp q
            exact (pc.1 p' (by simp [hp'])).2) (fun x hx => by
          obtain ⟨p', hp', rfl⟩ := List.mem_map.mp hx
          exact (pc2.1 p' hp').2)
      simp only at ede hd1
      subst ede
      -- the two first weights are the two least
      have ha : a = w1 := by
        have h1 : a ≤ w1 := by
          have : w1 ∈ (((a, e) :: (b, e) :: r).map (·.1)) := hqp.mem_iff.mpr (by simp)
          obtain ⟨p', hp', e'⟩ := List.mem_map.mp this
          rcases List.mem_cons.mp hp' with rfl | q
          · simp only at e'; omega
          · have := (pc.1 p' q).1; simp only at this; omega
        have h2 : w1 ≤ a := by
          have : a ∈ w1 :: w2 :: rest := hqp.mem_iff.mp (by simp)
          rcases List.mem_cons.mp this with rfl | q
          · exact Int.le_refl _
          · rcases List.mem_cons.mp q with rfl | q
            · exact hw
            · exact Int.le_trans hw (hr a q)
        omega
      subst ha
      have hqp2 : (b :: r.map (·.1)).Perm (w2 :: rest) := List.Perm.cons_inv hqp
      have hb : b = w2 := by
        have h1 : b ≤ w2 := by
          have : w2 ∈ b :: r.map (·.1) := hqp2.mem_iff.mpr (by simp)
          rcases List.mem_cons.mp this with rfl | q
          · exact Int.le_refl _
          · obtain ⟨p', hp', e'⟩ := List.mem_map.mp q
            have := (pc2.1 p' hp').1; simp only at this; omega
        have h2 : w2 ≤ b := by
          have : b ∈ w2 :: rest := hqp2.mem_iff.mp (by simp)
          rcases List.mem_cons.mp this with rfl | q
          · exact Int.le_refl _
          · exact hr b q
        omega
      subst hb
      have hqp3 : (r.map (·.1)).Perm rest := List.Perm.cons_inv hqp2
      obtain ⟨e', rfl⟩ : ∃ e', e = e' + 1 := ⟨e - 1, by omega⟩
      have hk' : Kraft ((e') :: r.map (·.2)) := Kraft.join hk
      have := ih ((a + b, e') :: r) (.cons _ hqp3) hk'
      rw [cost_cons] at this
      rw [cost_cons, cost_cons] at q4
      simp only at this q4
      have e1 : (a + b) * (e' : Int) = a * e' + b * e' := Int.add_mul ..
      have e2 : a * ((e' + 1 : Nat) : Int) = a * e' + a := by rw [Int.natCast_add, Int.mul_add]; simp
      have e3 : b * ((e' + 1 : Nat) : Int) = b * e' + b := by rw [Int.natCast_add, Int.mul_add]; simp
      omega
end Mine

namespace Mine

/-- a way that adds neighbours of the row up to one, two by two, with its cost -/
inductive OT : List Int → Int → Prop
  | leaf (x : Int) : OT [x] 0
  | node {a b : List Int} {c d : Int} : OT a c → OT b d → OT (a ++ b) (c + d + (a ++ b).sum)

theorem OT.ne {r : List Int} {c : Int} (h : OT r c) : r ≠ [] := by
  induction h with
  | leaf => simp
  | node _ _ ih _ => simp [ih]

theorem cost_up (ps : List (Int × Nat)) : cost (ps.map fun p => (p.1, p.2 + 1)) = cost ps + (ps.map (·.1)).sum := by
  induction ps with
  | nil => simp [cost]
  | cons p r ih =>
    rw [List.map_cons, cost_cons, cost_cons, ih, List.map_cons, List.sum_cons]
    simp only
    rw [Int.natCast_add, Int.mul_add]
    simp
    omega

/-- a way gives depths -/
theorem OT.depths {r : List Int} {c : Int} (h : OT r c) : ∃ ps : List (Int × Nat), ps.map (·.1) = r ∧ Kraft (ps.map (·.2)) ∧ cost ps = c := by
  induction h with
  | leaf x => exact ⟨[(x, 0)], rfl, Kraft.one, by simp [cost]⟩
  | @node a b c d _ _ ih1 ih2 =>
    obtain ⟨p, hp, kp, cp⟩ := ih1
    obtain ⟨q, hq, kq, cq⟩ := ih2
    refine ⟨(p ++ q).map fun x => (x.1, x.2 + 1), ?_, ?_, ?_⟩
    · rw [List.map_map, ← hp, ← hq, ← List.map_append]; rfl
    · intro N hN
      have e : ((p ++ q).map fun x => (x.1, x.2 + 1)).map (·.2) = (p.map (·.2) ++ q.map (·.2)).map (· + 1) := by
        rw [← List.map_append, List.map_map, List.map_map]; rfl
      rw [e] at hN ⊢
      rcases Nat.eq_zero_or_pos N with q0 | q0
      · exfalso
        subst q0
        have hne : p ≠ [] := fun z => by
          have := kp 0 (by rw [z]; simp)
          rw [z] at this; simp [kr] at this
        cases p with
        | nil => exact hne rfl
        | cons x t => have := hN (x.2 + 1) (by simp); omega
      · obtain ⟨M, rfl⟩ : ∃ M, N = M + 1 := ⟨N - 1, by omega⟩
        rw [kr_up, kr_append]
        have hM : ∀ z ∈ p.map (·.2) ++ q.map (·.2), z ≤ M := fun z hz => by
          have := hN (z + 1) (List.mem_map.mpr ⟨z, hz, rfl⟩); omega
        rw [kp M fun z hz => hM z (List.mem_append_left _ hz), kq M fun z hz => hM z (List.mem_append_right _ hz), Nat.pow_succ]
        omega
    · rw [cost_up, cost_append, cp, cq, List.map_append, hp, hq]

/-- a leaf opened into two -/
theorem OT.opened {r : List Int} {c : Int} (h : OT r c) : ∀ (a b : List Int) (x y : Int), r = a ++ (x + y) :: b → OT (a ++ x :: y :: b) (c + x + y) := by
  induction h with
  | leaf z =>
    intro a b x y e
    have : a = [] ∧ b = [] ∧ z = x + y := by
      cases a with
      | nil => simp at e; exact ⟨rfl, e.2.symm ▸ rfl, e.1⟩
      | cons _ _ => simp at e
    obtain ⟨rfl, rfl, rfl⟩ := this
    have := OT.node (OT.leaf x) (OT.leaf y)
    simpa [Int.add_assoc] using this
  | @node r1 r2 c d h1 h2 ih1 ih2 =>
    intro a b x y e
    rcases List.append_eq_append_iff.mp e with ⟨u, hu1, hu2⟩ | ⟨u, hu1, hu2⟩
    · -- the leaf lies in the right part
      subst hu1
      have := OT.node h1 (ih2 u b x y hu2)
      rw [hu2]
      have e1 : r1 ++ (u ++ x :: y :: b) = r1 ++ u ++ x :: y :: b := by simp
      rw [e1] at this
      have e2 : c + (d + x + y) + (r1 ++ u ++ x :: y :: b).sum = c + d + (r1 ++ (u ++ (x + y) :: b)).sum + x + y := by simp; omega
      rw [e2] at this
      exact this
    · cases u with
      | nil =>
        simp at hu1 hu2
        subst hu1
        have := OT.node h1 (ih2 [] b x y (by simpa using hu2.symm))
        simp only [List.nil_append] at this
        have e2 : c + (d + x + y) + (r1 ++ x :: y :: b).sum = c + d + (r1 ++ r2).sum + x + y := by rw [← hu2]; simp; omega
        rw [e2] at this
        exact this
      | cons z u =>
        simp at hu2
        obtain ⟨rfl, hb⟩ := hu2
        have := OT.node (ih1 a u x y hu1) h2
        have e1 : (a ++ x :: y :: u) ++ r2 = a ++ x :: y :: b := by rw [hb]; simp
        rw [e1] at this
        have e2 : c + x + y + d + (a ++ x :: y :: b).sum = c + d + (r1 ++ r2).sum + x + y := by rw [hu1, hb]; simp; omega
        rw [e2] at this
        exact this

/-- falling depths that fill one are some way's -/
theorem realise : ∀ (n : Nat) (ps : List (Int × Nat)), ps.length = n → ps ≠ [] → (ps.map (·.2)).Pairwise (fun a b => b ≤ a) → Kraft (ps.map (·.2)) → OT (ps.map (·.1)) (cost ps) := by
  intro n
  induction n using Nat.strongRecOn with
  | ind n ih =>
    intro ps hl hne hs hk
    match ps, hl, hne, hs, hk with
    | [(x, d)], _, _, _, hk =>
      have : d = 0 := Kraft.single hk
      subst this
      have := OT.leaf x
      simpa [cost] using this
    | (x, d) :: (y, e) :: r, hl, _, hs, hk =>
      have pc := List.pairwise_cons.mp hs
      have pc2 := List.pairwise_cons.mp pc.2
      obtain ⟨ed, d1⟩ := Kraft.two hk (fun z hz => pc.1 z hz) (fun z hz => pc2.1 z hz)
      simp only at ed d1
      subst ed
      -- the last two of the deepest
      obtain ⟨a, x', y', b, hsplit, hb⟩ : ∃ (a : List (Int × Nat)) (x' y' : Int) (b : List (Int × Nat)), (x, e) :: (y, e) :: r = a ++ (x', e) :: (y', e) :: b ∧ (∀ z ∈ b, z.2 + 1 ≤ e) := by
        have key : ∀ (l : List (Int × Nat)) (x y : Int), (∀ z ∈ l, z.2 ≤ e) → (l.map (·.2)).Pairwise (fun a b => b ≤ a) → ∃ (a : List (Int × Nat)) (x' y' : Int) (b : List (Int × Nat)), (x, e) :: (y, e) :: l = a ++ (x', e) :: (y', e) :: b ∧ (∀ z ∈ b, z.2 + 1 ≤ e) := by
          intro l
          induction l with
          | nil => intro x y _ _; exact ⟨[], x, y, [], rfl, by simp⟩
          | cons z t iht =>
            intro x y hz hp
            obtain ⟨zw, zd⟩ := z
            have hzd := hz (zw, zd) (by simp)
            simp only at hzd
            by_cases q : zd = e
            · subst q
              obtain ⟨a, x', y', b, h1, h2⟩ := iht y zw (fun u hu => hz u (by simp [hu])) (List.pairwise_cons.mp hp).2
              exact ⟨(x, zd) :: a, x', y', b, by rw [h1]; rfl, h2⟩
            · refine ⟨[], x, y, (zw, zd) :: t, rfl, fun u hu => ?_⟩
              rcases List.mem_cons.mp hu with rfl | hu
              · simp only; omega
              · have := (List.pairwise_cons.mp hp).1 u.2 (List.mem_map_of_mem hu)
                simp only at this; omega
        exact key r x y (fun z hz => pc2.1 z.2 (List.mem_map_of_mem hz)) pc2.2
      obtain ⟨e', rfl⟩ : ∃ e', e = e' + 1 := ⟨e - 1, by omega⟩
      rw [hsplit] at hl hs hk ⊢
      have hlen : (a ++ (x' + y', e') :: b).length < n := by simp at hl ⊢; omega
      have hk' : Kraft ((a ++ (x' + y', e') :: b).map (·.2)) := by
        have p1 : ((a ++ (x', e' + 1) :: (y', e' + 1) :: b).map (·.2)).Perm ((e' + 1) :: (e' + 1) :: (a ++ b).map (·.2)) := by
          simp only [List.map_append, List.map_cons]
          exact List.perm_middle.trans (.cons _ List.perm_middle)
        have p2 : (e' :: (a ++ b).map (·.2)).Perm ((a ++ (x' + y', e') :: b).map (·.2)) := by
          simp only [List.map_append, List.map_cons]
          exact List.perm_middle.symm
        exact (Kraft.join (hk.perm p1)).perm p2
      have hs' : ((a ++ (x' + y', e') :: b).map (·.2)).Pairwise (fun a b => b ≤ a) := by
        simp only [List.map_append, List.map_cons] at hs ⊢
        rw [List.pairwise_append] at hs ⊢
        obtain ⟨s1, s2, s3⟩ := hs
        have s2' := (List.pairwise_cons.mp (List.pairwise_cons.mp s2).2).2
        refine ⟨s1, List.pairwise_cons.mpr ⟨fun z hz => ?_, s2'⟩, fun u hu v hv => ?_⟩
        · obtain ⟨p, hp, rfl⟩ := List.mem_map.mp hz
          have := hb p hp; omega
        · rcases List.mem_cons.mp hv with rfl | hv
          · have := s3 u hu (v + 1) (by simp); omega
          · exact s3 u hu v (by simp [hv])
      have IH := ih _ hlen (a ++ (x' + y', e') :: b) rfl (by simp) hs' hk'
      have := IH.opened (a.map (·.1)) (b.map (·.1)) x' y' (by simp)
      have ec : cost (a ++ (x' + y', e') :: b) + x' + y' = cost (a ++ (x', e' + 1) :: (y', e' + 1) :: b) := by
        rw [cost_append, cost_append, cost_cons, cost_cons, cost_cons]
        simp only
        have e1 : (x' + y') * (e' : Int) = x' * e' + y' * e' := Int.add_mul ..
        have e2 : x' * ((e' + 1 : Nat) : Int) = x' * e' + x' := by rw [Int.natCast_add, Int.mul_add]; simp
        have e3 : y' * ((e' + 1 : Nat) : Int) = y' * e' + y' := by rw [Int.natCast_add, Int.mul_add]; simp
        omega
      rw [ec] at this
      simpa using this

/-- the least that any way costs -/
def Best (r : List Int) (v : Int) : Prop := OT r v ∧ ∀ c, OT r c → v ≤ c

theorem Best.one (x : Int) : Best [x] 0 := ⟨.leaf x, fun c h => by
  have : ∀ (r : List Int) (c : Int), OT r c → r = [x] → 0 ≤ c := by
    intro r c h
    cases h with
    | leaf => intro _; exact Int.le_refl _
    | node h1 h2 =>
      intro e
      rename_i a b _ _
      have n1 := h1.ne
      have n2 := h2.ne
      cases a with
      | nil => exact absurd rfl n1
      | cons _ t =>
        simp at e
        obtain ⟨_, e1, e2⟩ := e
        exact absurd e2 n2
  exact this _ c h rfl⟩

/-- one step of the table -/
theorem Best.step {r : List Int} {n : Nat} {f : Nat → Int} {mn : Int} (hn : r.length = n) (h2 : 2 ≤ n) (hf : ∀ k, 1 ≤ k → k < n → ∃ u v, Best (r.take k) u ∧ Best (r.drop k) v ∧ f k = u + v)
    (hmem : ∃ k, 1 ≤ k ∧ k < n ∧ mn = f k) (hmin : ∀ k, 1 ≤ k → k < n → mn ≤ f k) : Best r (mn + r.sum) := by
  constructor
  · obtain ⟨k, k1, k2, rfl⟩ := hmem
    obtain ⟨u, v, hu, hv, e⟩ := hf k k1 k2
    have := OT.node hu.1 hv.1
    rw [List.take_append_drop] at this
    rw [e]; exact this
  · intro c h
    have key : ∀ (r' : List Int) (c : Int), OT r' c → r' = r → mn + r.sum ≤ c := by
      intro r' c h
      cases h with
      | leaf x => intro e; rw [← e] at hn; simp at hn; omega
      | node h1 h2' =>
        intro e
        rename_i a b c1 c2
        have n1 := h1.ne
        have n2 := h2'.ne
        have la : 1 ≤ a.length := by cases a with | nil => exact absurd rfl n1 | cons _ _ => simp
        have lb : 1 ≤ b.length := by cases b with | nil => exact absurd rfl n2 | cons _ _ => simp
        have ll : a.length + b.length = n := by rw [← hn, ← e]; simp
        obtain ⟨u, v, hu, hv, e2⟩ := hf a.length la (by omega)
        have ea : r.take a.length = a := by rw [← e]; simp
        have eb : r.drop a.length = b := by rw [← e]; simp
        rw [ea] at hu
        rw [eb] at hv
        have h3 := hmin a.length la (by omega)
        have h4 := hu.2 _ h1
        have h5 := hv.2 _ h2'
        rw [← e]
        omega
    exact key r c h rfl
theorem Best.unique {r : List Int} {u v : Int} (h : Best r u) (g : Best r v) : u = v := Int.le_antisymm (h.2 _ g.1) (g.2 _ h.1)
end Mine

namespace Mine
open PySem

def lookD (cs : Cs) (k : Str) : Int := (look cs k).getD 0

theorem lookD_addC {t s : Cs} (hs : (keys s).Nodup) (k : Str) : lookD (addC t s) k = lookD t k + lookD s k := by
  unfold lookD
  rw [look_addC hs k]
  cases look t k <;> cases look s k <;> simp

/-- sums over items with their depths -/
def dsum (f : Ent → Int) (ps : List ((Int × Ent) × Nat)) : Int := (ps.map fun p => f p.1.2 * (p.2 : Int)).sum
def esum (f : Ent → Int) (ps : List ((Int × Ent) × Nat)) : Int := (ps.map fun p => f p.1.2).sum
theorem dsum_cons (f : Ent → Int) (p : (Int × Ent) × Nat) (ps) : dsum f (p :: ps) = f p.1.2 * (p.2 : Int) + dsum f ps := by simp [dsum]
theorem esum_cons (f : Ent → Int) (p : (Int × Ent) × Nat) (ps) : esum f (p :: ps) = f p.1.2 + esum f ps := by simp [esum]
theorem sum_perm_int {a b : List Int} (p : a.Perm b) : a.sum = b.sum := by
  induction p with
  | nil => rfl
  | cons x _ ih => simp only [List.sum_cons, ih]
  | swap x y l => simp only [List.sum_cons]; omega
  | trans _ _ h1 h2 => exact h1.trans h2
theorem dsum_perm (f : Ent → Int) {a b : List ((Int × Ent) × Nat)} (p : a.Perm b) : dsum f a = dsum f b := sum_perm_int (p.map _)
theorem esum_perm (f : Ent → Int) {a b : List ((Int × Ent) × Nat)} (p : a.Perm b) : esum f a = esum f b := sum_perm_int (p.map _)

/-- a function of entries that adds up -/
def Adds (f : Ent → Int) : Prop := ∀ a b : Ent, (keys a.cs).Nodup → (keys b.cs).Nodup → f (a.add b) = f a + f b

structure Told (its : List (Int × Ent)) (log wh fin : Ent) (ps : List ((Int × Ent) × Nat)) : Prop where
  perm : (ps.map (·.1)).Perm its
  kraft : Kraft (ps.map (·.2))
  deep : ∀ p ∈ ps, p.2 < its.length
  logS : ∀ f, Adds f → f fin = f log + dsum f ps
  whole : ∀ f, Adds f → f wh = esum f ps
  keysW : ∀ k, k ∈ keys wh.cs ↔ ∃ p ∈ ps, k ∈ keys p.1.2.cs
  keysL : ∀ k, k ∈ keys fin.cs ↔ k ∈ keys log.cs ∨ ∃ p ∈ ps, 1 ≤ p.2 ∧ k ∈ keys p.1.2.cs
  nodW : (keys wh.cs).Nodup
  nodL : (keys fin.cs).Nodup

theorem mul_succ' (x : Int) (d : Nat) : x * ((d + 1 : Nat) : Int) = x * (d : Int) + x := by rw [Int.natCast_add, Int.mul_add]; simp

theorem told {its : List (Int × Ent)} {log wh fin : Ent} (h : Merge its log wh fin) : (∀ p ∈ its, (keys p.2.cs).Nodup) → (keys log.cs).Nodup → ∃ ps, Told its log wh fin ps := by
  induction h with
  | done wt e log =>
    intro hi hl
    refine ⟨[((wt, e), 0)], .refl _, Kraft.one, by simp, fun f _ => by simp [dsum], fun f _ => by simp [esum], fun k => by simp, fun k => by simp, hi (wt, e) (by simp), hl⟩
  | @step its rest w1 w2 e1 e2 log whole fin p hw hr _ ih =>
    intro hi hl
    have n1 : (keys e1.cs).Nodup := hi (w1, e1) (p.mem_iff.mpr (by simp))
    have n2 : (keys e2.cs).Nodup := hi (w2, e2) (p.mem_iff.mpr (by simp))
    have nb : (keys (e1.add e2).cs).Nodup := nodup_addC n1
    have nl : (keys (log.add (e1.add e2)).cs).Nodup := nodup_addC hl
    obtain ⟨ps, T⟩ := ih (fun q hq => by
      rcases List.mem_cons.mp hq with rfl | hq
      · exact nb
      · exact hi q (p.mem_iff.mpr (by simp [hq]))) nl
    -- the sum's own place
    obtain ⟨⟨q, d⟩, hq, eq⟩ := List.mem_map.mp (T.perm.mem_iff.mpr (List.mem_cons_self ..))
    simp only at eq
    subst eq
    obtain ⟨qs, hqs⟩ := perm_of_mem hq
    have hrest : (qs.map (·.1)).Perm rest := List.Perm.cons_inv ((hqs.map (fun z : (Int × Ent) × Nat => z.1)).symm.trans T.perm)
    have hlen : its.length = rest.length + 2 := by have := p.length_eq; simpa using this
    have dlt : d < rest.length + 1 := by have := T.deep _ hq; simpa using this
    refine ⟨((w1, e1), d + 1) :: ((w2, e2), d + 1) :: qs, ?_, ?_, ?_, ?_, ?_, ?_, ?_, T.nodW, T.nodL⟩
    · exact ((List.Perm.cons _ (List.Perm.cons _ hrest))).trans p.symm
    · exact Kraft.split (T.kraft.perm (hqs.map _))
    · intro z hz
      rcases List.mem_cons.mp hz with rfl | hz
      · simp only; omega
      · rcases List.mem_cons.mp hz with rfl | hz
        · simp only; omega
        · have := T.deep z (hqs.mem_iff.mpr (by simp [hz]))
          simp at this; omega
    · intro f hf
      rw [T.logS f hf, hf _ _ hl nb, dsum_perm f hqs, dsum_cons, dsum_cons, dsum_cons]
      simp only
      rw [hf _ _ n1 n2, mul_succ', mul_succ', Int.add_mul]
      omega
    · intro f hf
      rw [T.whole f hf, esum_perm f hqs, esum_cons, esum_cons, esum_cons]
      simp only
      rw [hf _ _ n1 n2]
      omega
    · intro k
      rw [T.keysW k]
      have hb : k ∈ keys (e1.add e2).cs ↔ k ∈ keys e1.cs ∨ k ∈ keys e2.cs := mem_keys_addC n2
      constructor
      · rintro ⟨z, hz, hk⟩
        rcases List.mem_cons.mp (hqs.mem_iff.mp hz) with rfl | hz
        · rcases hb.mp hk with q | q
          · exact ⟨((w1, e1), d + 1), by simp, q⟩
          · exact ⟨((w2, e2), d + 1), by simp, q⟩
        · exact ⟨z, by simp [hz], hk⟩
      · rintro ⟨z, hz, hk⟩
        rcases List.mem_cons.mp hz with rfl | hz
        · exact ⟨_, hq, hb.mpr (.inl hk)⟩
        · rcases List.mem_cons.mp hz with rfl | hz
          · exact ⟨_, hq, hb.mpr (.inr hk)⟩
          · exact ⟨z, hqs.mem_iff.mpr (by simp [hz]), hk⟩
    · intro k
      rw [T.keysL k]
      have hb : k ∈ keys (e1.add e2).cs ↔ k ∈ keys e1.cs ∨ k ∈ keys e2.cs := mem_keys_addC n2
      have hlb : k ∈ keys (log.add (e1.add e2)).cs ↔ k ∈ keys log.cs ∨ k ∈ keys (e1.add e2).cs := mem_keys_addC nb
      rw [hlb, hb]
      constructor
      · rintro ((h | h | h) | ⟨z, hz, h1, hk⟩)
        · exact .inl h
        · exact .inr ⟨((w1, e1), d + 1), by simp, by simp, h⟩
        · exact .inr ⟨((w2, e2), d + 1), by simp, by simp, h⟩
        · rcases List.mem_cons.mp (hqs.mem_iff.mp hz) with rfl | hz
          · rcases hb.mp hk with q | q
            · exact .inr ⟨((w1, e1), d + 1), by simp, by simp, q⟩
            · exact .inr ⟨((w2, e2), d + 1), by simp, by simp, q⟩
          · exact .inr ⟨z, by simp [hz], h1, hk⟩
      · rintro (h | ⟨z, hz, h1, hk⟩)
        · exact .inl (.inl h)
        · rcases List.mem_cons.mp hz with rfl | hz
          · exact .inl (.inr (.inl hk))
          · rcases List.mem_cons.mp hz with rfl | hz
            · exact .inl (.inr (.inr hk))
            · exact .inr ⟨z, hqs.mem_iff.mpr (by simp [hz]), h1, hk⟩

theorem merge_huff {its : List (Int × Ent)} {log wh fin : Ent} (h : Merge its log wh fin) : (∀ p ∈ its, p.1 = p.2.tt) → HuffW (its.map (·.1)) (fin.tt - log.tt) := by
  induction h with
  | done wt e log => intro _; rw [Int.sub_self]; exact .done wt
  | @step its rest w1 w2 e1 e2 log whole fin p hw hr _ ih =>
    intro hi
    have h1 : w1 = e1.tt := hi (w1, e1) (p.mem_iff.mpr (by simp))
    have h2 : w2 = e2.tt := hi (w2, e2) (p.mem_iff.mpr (by simp))
    have hb : (e1.add e2).tt = w1 + w2 := by show e2.tt + e1.tt = _; omega
    have IH := ih (fun q hq => by
      rcases List.mem_cons.mp hq with rfl | hq
      · rfl
      · exact hi q (p.mem_iff.mpr (by simp [hq])))
    have e : fin.tt - log.tt = w1 + w2 + (fin.tt - (log.add (e1.add e2)).tt) := by
      have : (log.add (e1.add e2)).tt = (e1.add e2).tt + log.tt := rfl
      omega
    rw [e]
    refine .step (rest := rest.map (·.1)) (p.map _) hw (fun x hx => ?_) ?_
    · obtain ⟨q, hq, rfl⟩ := List.mem_map.mp hx
      exact hr q hq
    · have := IH
      rw [List.map_cons] at this
      simp only [hb] at this
      exact this
end Mine

namespace Mine
open PySem

theorem nm_inj : ∀ j, j < 10 → ∀ k, k < 10 → nm j = nm k → j = k := by decide

def names (n : Nat) : List Str := (List.range n).map nm

theorem reorder {α β : Type} (f : α → β) : ∀ (l : List β) (ps : List α), (ps.map f).Perm l → ∃ qs : List α, ps.Perm qs ∧ qs.map f = l := by
  intro l
  induction l with
  | nil =>
    intro ps h
    have h0 : ps = [] := by have := h.eq_nil; simpa using this
    exact ⟨[], by rw [h0], rfl⟩
  | cons x r ih =>
    intro ps h
    obtain ⟨p, hp, e⟩ := List.mem_map.mp (h.mem_iff.mpr (List.mem_cons_self ..))
    obtain ⟨t, ht⟩ := perm_of_mem hp
    have h2 : (x :: t.map f).Perm (x :: r) := by have := (ht.map f).symm.trans h; rw [List.map_cons, e] at this; exact this
    obtain ⟨qs, q1, q2⟩ := ih t (List.Perm.cons_inv h2)
    exact ⟨p :: qs, ht.trans (.cons _ q1), by rw [List.map_cons, e, q2]⟩

theorem Told.perm' {its : List (Int × Ent)} {log wh fin : Ent} {ps qs : List ((Int × Ent) × Nat)} (T : Told its log wh fin ps) (p : ps.Perm qs) : Told its log wh fin qs where
  perm := (p.map _).symm.trans T.perm
  kraft := T.kraft.perm (p.map _)
  deep z hz := T.deep z (p.mem_iff.mpr hz)
  logS f hf := by rw [T.logS f hf, dsum_perm f p]
  whole f hf := by rw [T.whole f hf, esum_perm f p]
  keysW k := by rw [T.keysW k]; exact ⟨fun ⟨z, h, q⟩ => ⟨z, p.mem_iff.mp h, q⟩, fun ⟨z, h, q⟩ => ⟨z, p.mem_iff.mpr h, q⟩⟩
  keysL k := by rw [T.keysL k]; exact or_congr Iff.rfl ⟨fun ⟨z, h, q⟩ => ⟨z, p.mem_iff.mp h, q⟩, fun ⟨z, h, q⟩ => ⟨z, p.mem_iff.mpr h, q⟩⟩
  nodW := T.nodW
  nodL := T.nodL

theorem sum_const {α : Type} (c : Int) (f : α → Int) (g : α → Int) : ∀ (l : List α), (∀ p ∈ l, f p = c) → (l.map fun p => f p * g p).sum = c * (l.map g).sum
  | [], _ => by simp
  | p :: r, h => by
    simp only [List.map_cons, List.sum_cons]
    rw [h p (by simp), sum_const c f g r (fun q hq => h q (by simp [hq])), Int.mul_add]
theorem sum_one_at {α : Type} (g : α → Int) : ∀ (l : List α) (k : Nat) (x : α), l[k]? = some x → (∀ i y, l[i]? = some y → i ≠ k → g y = 0) → (l.map g).sum = g x
  | [], k, x, h, _ => by simp at h
  | p :: r, 0, x, h, hz => by
    simp at h
    subst h
    have : ∀ q ∈ r, g q = 0 := fun q hq => by
      obtain ⟨i, hi⟩ := List.getElem?_of_mem hq
      exact hz (i + 1) q (by simpa using hi) (by omega)
    have z : ∀ l : List α, (∀ q ∈ l, g q = 0) → (l.map g).sum = 0 := by
      intro l
      induction l with
      | nil => intro _; rfl
      | cons a t ih => intro h; simp only [List.map_cons, List.sum_cons]; rw [h a (by simp), ih fun q hq => h q (by simp [hq])]; rfl
    simp only [List.map_cons, List.sum_cons]
    rw [z r this]; simp
  | p :: r, k + 1, x, h, hz => by
    simp only [List.map_cons, List.sum_cons]
    rw [hz 0 p (by simp) (by omega), sum_one_at g r k x (by simpa using h) (fun i y hy ne => hz (i + 1) y (by simpa using hy) (by omega))]
    simp

theorem sum_ones {α : Type} (l : List α) : (l.map fun _ => (1 : Int)).sum = l.length := by
  induction l with
  | nil => rfl
  | cons a t ih => simp only [List.map_cons, List.sum_cons, ih, List.length_cons]; omega
theorem zip_maps {α : Type} : ∀ ps : List ((Int × α) × Nat), ps.map (fun p => (p.1.1, p.2)) = (ps.map (fun p => p.1.1)).zip (ps.map (·.2))
  | [] => rfl
  | p :: r => by simp only [List.map_cons, List.zip_cons_cons]; rw [zip_maps r]
theorem natsum_cast (l : List Nat) : ((l.sum : Nat) : Int) = (l.map fun d : Nat => (d : Int)).sum := by
  induction l with
  | nil => rfl
  | cons d r ih => simp only [List.map_cons, List.sum_cons]; omega

theorem kraft_pos {ds : List Nat} (h : Kraft ds) (hl : 2 ≤ ds.length) {d : Nat} (hd : d ∈ ds) : 1 ≤ d := by
  obtain ⟨r, hr⟩ := perm_of_mem hd
  rcases Nat.eq_zero_or_pos d with q | q
  · exfalso
    subst q
    have hk := h.perm hr
    obtain ⟨N, hN⟩ : ∃ N, ∀ x ∈ r, x ≤ N := by
      have : ∀ l : List Nat, ∃ N, ∀ x ∈ l, x ≤ N := by
        intro l
        induction l with
        | nil => exact ⟨0, by simp⟩
        | cons a t ih =>
          obtain ⟨N, hN⟩ := ih
          refine ⟨max N a, fun x hx => ?_⟩
          rcases List.mem_cons.mp hx with rfl | q
          · omega
          · have := hN x q; omega
      exact this r
    have e := hk N (fun x hx => by rcases List.mem_cons.mp hx with rfl | q; omega; exact hN x q)
    rw [kr_cons] at e
    have l2 := hr.length_eq
    cases r with
    | nil => simp at l2; omega
    | cons a t =>
      rw [kr_cons] at e
      have : 0 < 2 ^ (N - a) := Nat.pow_pos (by decide)
      simp only [Nat.sub_zero] at e
      omega
  · exact q

theorem sorted_unique : ∀ {a b : List Int}, a.Perm b → a.Pairwise (· ≤ ·) → b.Pairwise (· ≤ ·) → a = b := by
  intro a
  induction a with
  | nil => intro b p _ _; exact p.symm.eq_nil.symm
  | cons x r ih =>
    intro b p ha hb
    cases b with
    | nil => exact p.eq_nil
    | cons y t =>
      have e : x = y := by
        have h1 : x ≤ y := by
          rcases List.mem_cons.mp (p.mem_iff.mpr (List.mem_cons_self (a := y))) with q | q
          · omega
          · exact (List.pairwise_cons.mp ha).1 y q
        have h2 : y ≤ x := by
          rcases List.mem_cons.mp (p.mem_iff.mp (List.mem_cons_self (a := x))) with q | q
          · omega
          · exact (List.pairwise_cons.mp hb).1 x q
        omega
      subst e
      rw [ih (List.Perm.cons_inv p) (List.pairwise_cons.mp ha).2 (List.pairwise_cons.mp hb).2]

theorem nodup_names {n : Nat} (hn : n ≤ 10) : (names n).Nodup := by
  unfold names
  have : ∀ l : List Nat, l.Nodup → (∀ k ∈ l, k < 10) → (l.map nm).Nodup := by
    intro l
    induction l with
    | nil => intro _ _; exact List.nodup_nil
    | cons a t ih =>
      intro h hl
      rw [List.nodup_cons] at h
      rw [List.map_cons, List.nodup_cons]
      refine ⟨fun q => ?_, ih h.2 fun k hk => hl k (by simp [hk])⟩
      obtain ⟨k, hk, e⟩ := List.mem_map.mp q
      exact h.1 (nm_inj k (hl k (by simp [hk])) a (hl a (by simp)) e ▸ hk)
  exact this _ List.nodup_range fun k hk => by have := List.mem_range.mp hk; omega

theorem perm_of_nodup {α : Type} [DecidableEq α] {a b : List α} (ha : a.Nodup) (hb : b.Nodup) (h : ∀ x, x ∈ a ↔ x ∈ b) : a.Perm b :=
  List.perm_iff_count.mpr fun x => by
    by_cases q : x ∈ a
    · rw [List.Nodup.count ha, List.Nodup.count hb, if_pos q, if_pos ((h x).mp q)]
    · rw [List.Nodup.count ha, List.Nodup.count hb, if_neg q, if_neg fun z => q ((h x).mpr z)]

structure Laws (ws : List Int) (wh lg : Ent) (ds : List Nat) : Prop where
  wcc : wh.cc = 2 * ws.length
  wnc : wh.nc = ws.length
  wtt : wh.tt = ws.sum
  wct : wh.ct = 3 * ws.length
  wkeys : (keys wh.cs).Perm (names ws.length)
  wone : ∀ k, k < ws.length → look wh.cs (nm k) = some 1
  wtotal : total wh.cs = ws.length
  lkeys : (keys lg.cs).Perm (names ws.length)
  len : ds.length = ws.length
  deep : ∀ d ∈ ds, d ≤ ws.length
  ldepth : ∀ (k d : Nat), ds[k]? = some d → look lg.cs (nm k) = some (d : Int)
  kraft : kr ws.length ds = 2 ^ ws.length
  ltt : lg.tt = ((ws.zip ds).map fun p => p.1 * (p.2 : Int)).sum
  lcc : lg.cc = 2 * (ds.sum : Nat)
  lnc : lg.nc = (ds.sum : Nat)
  lct : lg.ct = 3 * (ds.sum : Nat)
  ltotal : total lg.cs = (ds.sum : Nat)
  best : ∀ r v, r.Perm ws → r.Pairwise (· ≤ ·) → Best r v → lg.tt = v

theorem adds_cc : Adds (·.cc) := fun a b _ _ => Int.add_comm ..
theorem adds_nc : Adds (·.nc) := fun a b _ _ => Int.add_comm ..
theorem adds_tt : Adds (·.tt) := fun a b _ _ => Int.add_comm ..
theorem adds_ct : Adds (·.ct) := fun a b _ _ => Int.add_comm ..
theorem adds_total : Adds (fun e => total e.cs) := fun a b ha _ => total_addC ha
theorem adds_look (k : Str) : Adds (fun e => lookD e.cs k) := fun a b _ hb => lookD_addC hb k

theorem laws {ws : List Int} {wh lg : Ent} (h : Merge (its0 ws) log0 wh lg) (h2 : 2 ≤ ws.length) (h10 : ws.length ≤ 10) : ∃ ds, Laws ws wh lg ds := by
  have nod0 : ∀ p ∈ its0 ws, (keys p.2.cs).Nodup := by
    intro p hp
    obtain ⟨i, hi⟩ := List.getElem?_of_mem hp
    unfold its0 at hi
    rw [List.getElem?_mapIdx] at hi
    cases e : ws[i]? with
    | none => rw [e] at hi; cases hi
    | some x => rw [e] at hi; cases hi; simp [ent0, keys]
  have hw0 : ∀ p ∈ its0 ws, p.1 = p.2.tt := by
    intro p hp
    obtain ⟨i, hi⟩ := List.getElem?_of_mem hp
    unfold its0 at hi
    rw [List.getElem?_mapIdx] at hi
    cases e : ws[i]? with
    | none => rw [e] at hi; cases hi
    | some x => rw [e] at hi; cases hi; rfl
  obtain ⟨ps0, T0⟩ := told h nod0 (by simp [log0, keys])
  obtain ⟨ps, hp, hmap⟩ := reorder (fun z : (Int × Ent) × Nat => z.1) _ _ T0.perm
  have T := T0.perm' hp
  clear T0
  have hits : (its0 ws).length = ws.length := by simp [its0]
  have hlen : ps.length = ws.length := by rw [← hits, ← hmap, List.length_map]
  have at_ : ∀ i p, ps[i]? = some p → ∃ x, ws[i]? = some x ∧ p.1 = (x, ent0 i x) := by
    intro i p hi
    have : (its0 ws)[i]? = some p.1 := by rw [← hmap, List.getElem?_map, hi]; rfl
    unfold its0 at this
    rw [List.getElem?_mapIdx] at this
    cases e : ws[i]? with
    | none => rw [e] at this; cases this
    | some x => rw [e] at this; exact ⟨x, rfl, (Option.some.inj this).symm⟩
  have mem_ : ∀ p ∈ ps, ∃ i x, i < ws.length ∧ ps[i]? = some p ∧ ws[i]? = some x ∧ p.1 = (x, ent0 i x) := by
    intro p hp
    obtain ⟨i, hi⟩ := List.getElem?_of_mem hp
    obtain ⟨x, hx, e⟩ := at_ i p hi
    exact ⟨i, x, (List.getElem?_eq_some_iff.mp hx).1, hi, hx, e⟩
  have pos : ∀ p ∈ ps, 1 ≤ p.2 := fun p hp => kraft_pos T.kraft (by rw [List.length_map]; omega) (List.mem_map_of_mem hp)
  have dconst : ∀ (f : Ent → Int) (c : Int), (∀ i x, f (ent0 i x) = c) → dsum f ps = c * ((ps.map (·.2)).sum : Nat) := by
    intro f c hf
    unfold dsum
    rw [sum_const c (fun p => f p.1.2) (fun p => (p.2 : Int)) ps (fun p hp => by obtain ⟨i, x, _, _, _, e⟩ := mem_ p hp; rw [e]; exact hf i x), natsum_cast, List.map_map]
    rfl
  have econst : ∀ (f : Ent → Int) (c : Int), (∀ i x, f (ent0 i x) = c) → esum f ps = c * ws.length := by
    intro f c hf
    have := sum_const c (fun p : (Int × Ent) × Nat => f p.1.2) (fun _ => 1) ps (fun p hp => by obtain ⟨i, x, _, _, _, e⟩ := mem_ p hp; rw [e]; exact hf i x)
    simp only [Int.mul_one] at this
    unfold esum
    rw [this]
    rw [sum_ones, hlen]
  have lk0 : ∀ i k x, i < 10 → k < 10 → lookD (ent0 i x).cs (nm k) = if i = k then 1 else 0 := by
    intro i k x hi hk
    unfold lookD look ent0
    by_cases e : i = k
    · subst e; simp
    · have : ¬ nm i = nm k := fun q => e (nm_inj i hi k hk q)
      simp [this, e]
  have wsum : esum (·.tt) ps = ws.sum := by
    have e1 : ps.map (fun p => p.1.2.tt) = (ps.map (fun z : (Int × Ent) × Nat => z.1)).map (fun q => q.1) := by
      rw [List.map_map]
      exact List.map_congr_left fun p hp => by obtain ⟨i, x, _, _, _, e⟩ := mem_ p hp; simp only [Function.comp, e]; rfl
    unfold esum
    rw [e1, hmap]
    congr 1
    apply List.ext_getElem?
    intro i
    unfold its0
    rw [List.getElem?_map, List.getElem?_mapIdx]
    cases ws[i]? <;> rfl
  have hzip : ps.map (fun p => (p.1.1, p.2)) = ws.zip (ps.map (·.2)) := by
    have : ws = ps.map (fun p => p.1.1) := by
      apply List.ext_getElem?
      intro i
      have : (its0 ws)[i]? = (ps[i]?).map (fun p => p.1) := by rw [← hmap, List.getElem?_map]
      unfold its0 at this
      rw [List.getElem?_mapIdx] at this
      rw [List.getElem?_map]
      cases e : ws[i]? <;> cases e' : ps[i]? <;> rw [e, e'] at this <;> simp at this ⊢
      rw [← this]
    rw [this]
    exact zip_maps ps
  have lkL : ∀ k p, ps[k]? = some p → look lg.cs (nm k) = some (p.2 : Int) := by
    intro k p hk
    obtain ⟨x, hx, e⟩ := at_ k p hk
    have hk10 : k < ws.length := (List.getElem?_eq_some_iff.mp hx).1
    have h1 : lookD lg.cs (nm k) = (p.2 : Int) := by
      rw [T.logS _ (adds_look (nm k))]
      unfold dsum
      rw [sum_one_at _ ps k p hk (fun i y hi ne => by
        obtain ⟨x', hx', e'⟩ := at_ i y hi
        have : i < ws.length := (List.getElem?_eq_some_iff.mp hx').1
        simp only
        rw [e']
        simp only
        rw [lk0 i k x' (by omega) (by omega), if_neg ne]
        simp)]
      rw [e]
      simp only
      rw [lk0 k k x (by omega) (by omega), if_pos rfl]
      simp [log0, lookD, look]
    have h2 : nm k ∈ keys lg.cs := by
      rw [T.keysL]
      exact .inr ⟨p, List.mem_of_getElem? hk, pos p (List.mem_of_getElem? hk), by rw [e]; simp [ent0, keys]⟩
    unfold lookD at h1
    cases q : look lg.cs (nm k) with
    | none => exact absurd h2 (look_none.mp q)
    | some z => rw [q] at h1; simp at h1; rw [h1]
  have lkW : ∀ k, k < ws.length → look wh.cs (nm k) = some 1 := by
    intro k hk
    have hk' : k < ps.length := by omega
    have hp : ps[k]? = some ps[k] := List.getElem?_eq_getElem hk'
    obtain ⟨x, hx, e⟩ := at_ k _ hp
    have h1 : lookD wh.cs (nm k) = 1 := by
      rw [T.whole _ (adds_look (nm k))]
      unfold esum
      rw [sum_one_at _ ps k _ hp (fun i y hi ne => by
        obtain ⟨x', hx', e'⟩ := at_ i y hi
        have : i < ws.length := (List.getElem?_eq_some_iff.mp hx').1
        simp only
        rw [e']
        simp only
        rw [lk0 i k x' (by omega) (by omega), if_neg ne])]
      rw [e]
      simp only
      rw [lk0 k k x (by omega) (by omega), if_pos rfl]
    have h2 : nm k ∈ keys wh.cs := by
      rw [T.keysW]
      exact ⟨_, List.mem_of_getElem? hp, by rw [e]; simp [ent0, keys]⟩
    unfold lookD at h1
    cases q : look wh.cs (nm k) with
    | none => exact absurd h2 (look_none.mp q)
    | some z => rw [q] at h1; simp at h1; rw [h1]
  have memN : ∀ q, q ∈ names ws.length ↔ ∃ k, k < ws.length ∧ q = nm k := by
    intro q
    unfold names
    simp only [List.mem_map, List.mem_range]
    exact ⟨fun ⟨k, h, e⟩ => ⟨k, h, e.symm⟩, fun ⟨k, h, e⟩ => ⟨k, h, e.symm⟩⟩
  have kW : (keys wh.cs).Perm (names ws.length) := perm_of_nodup T.nodW (nodup_names h10) fun q => by
    rw [memN, T.keysW]
    constructor
    · rintro ⟨p, hp, hq⟩
      obtain ⟨i, x, hi, _, _, e⟩ := mem_ p hp
      rw [e] at hq
      exact ⟨i, hi, by simpa [ent0, keys] using hq⟩
    · rintro ⟨k, hk, rfl⟩
      have hk' : k < ps.length := by omega
      have hp : ps[k]? = some ps[k] := List.getElem?_eq_getElem hk'
      obtain ⟨x, hx, e⟩ := at_ k _ hp
      exact ⟨_, List.mem_of_getElem? hp, by rw [e]; simp [ent0, keys]⟩
  have kL : (keys lg.cs).Perm (names ws.length) := perm_of_nodup T.nodL (nodup_names h10) fun q => by
    rw [memN, T.keysL]
    constructor
    · rintro (hq | ⟨p, hp, _, hq⟩)
      · simp [log0, keys] at hq
      · obtain ⟨i, x, hi, _, _, e⟩ := mem_ p hp
        rw [e] at hq
        exact ⟨i, hi, by simpa [ent0, keys] using hq⟩
    · rintro ⟨k, hk, rfl⟩
      have hk' : k < ps.length := by omega
      have hp : ps[k]? = some ps[k] := List.getElem?_eq_getElem hk'
      obtain ⟨x, hx, e⟩ := at_ k _ hp
      exact .inr ⟨_, List.mem_of_getElem? hp, pos _ (List.mem_of_getElem? hp), by rw [e]; simp [ent0, keys]⟩
  have htt : lg.tt = cost (ps.map fun p => (p.1.1, p.2)) := by
    have := T.logS _ adds_tt
    rw [this]
    unfold cost dsum
    rw [List.map_map]
    have : log0.tt = 0 := rfl
    rw [this, Int.zero_add]
    congr 1
    exact List.map_congr_left fun p hp => by obtain ⟨i, x, _, _, _, e⟩ := mem_ p hp; simp only [Function.comp, e]; rfl
  have pmap : ∀ qs : List (Int × Nat), qs = ps.map (fun p => (p.1.1, p.2)) → (qs.map (·.1)).Perm ws ∧ qs.map (·.2) = ps.map (·.2) := by
    rintro qs rfl
    constructor
    · rw [hzip, List.map_fst_zip (by rw [List.length_map]; omega)]
    · rw [List.map_map]; rfl
  refine ⟨ps.map (·.2), ?_, ?_, ?_, ?_, kW, lkW, ?_, kL, ?_, ?_, ?_, ?_, ?_, ?_, ?_, ?_, ?_, ?_⟩
  · rw [T.whole _ adds_cc, econst _ 2 fun _ _ => rfl]
  · rw [T.whole _ adds_nc, econst _ 1 fun _ _ => rfl]; simp
  · rw [T.whole _ adds_tt, wsum]
  · rw [T.whole _ adds_ct, econst _ 3 fun _ _ => rfl]
  · have := T.whole _ adds_total
    rw [this, econst _ 1 fun _ _ => rfl]; simp
  · rw [List.length_map, hlen]
  · intro d hd
    obtain ⟨p, hp, rfl⟩ := List.mem_map.mp hd
    have := T.deep p hp
    omega
  · intro k d hd
    rw [List.getElem?_map] at hd
    cases e : ps[k]? with
    | none => rw [e] at hd; cases hd
    | some p => rw [e] at hd; cases hd; exact lkL k p e
  · exact T.kraft _ fun d hd => by
      obtain ⟨p, hp, rfl⟩ := List.mem_map.mp hd
      have := T.deep p hp
      omega
  · rw [htt, hzip]; rfl
  · rw [T.logS _ adds_cc, dconst _ 2 fun _ _ => rfl]; simp [log0]
  · rw [T.logS _ adds_nc, dconst _ 1 fun _ _ => rfl]; simp [log0]
  · rw [T.logS _ adds_ct, dconst _ 3 fun _ _ => rfl]; simp [log0]
  · have := T.logS _ adds_total
    rw [this, dconst _ 1 fun _ _ => rfl]; simp [log0, total]
  · intro r v hr hs hb
    have H := merge_huff h hw0
    have e0 : (its0 ws).map (·.1) = ws := by
      apply List.ext_getElem?
      intro i
      unfold its0
      rw [List.getElem?_map, List.getElem?_mapIdx]
      cases ws[i]? <;> rfl
    rw [e0, show log0.tt = 0 from rfl, Int.sub_zero] at H
    apply Int.le_antisymm
    · obtain ⟨qs, q1, q2, q3⟩ := hb.1.depths
      rw [← q3]
      exact huff_least H qs (by rw [q1]; exact hr) q2
    · obtain ⟨pm1, pm2⟩ := pmap _ rfl
      obtain ⟨qs, q1, q2, q3, q4⟩ := rearrange _ (ps.map fun p => (p.1.1, p.2)) rfl
      rw [← htt] at q4
      have s1 : (qs.map (·.1)).Pairwise (· ≤ ·) := List.pairwise_map.mpr (q3.imp fun h => h.1)
      have s2 : (qs.map (·.2)).Pairwise (fun a b => b ≤ a) := List.pairwise_map.mpr (q3.imp fun h => h.2)
      have er : qs.map (·.1) = r := sorted_unique ((q1.trans pm1).trans hr.symm) s1 hs
      have hk : Kraft (qs.map (·.2)) := Kraft.perm (by rw [pm2]; exact T.kraft) q2.symm
      have hne : qs ≠ [] := fun q => by
        have := q1.length_eq
        rw [q] at this
        simp at this
        omega
      have O := realise _ qs rfl hne s2 hk
      rw [er] at O
      exact Int.le_trans (hb.2 _ O) q4
end Mine

namespace Mine
open PySem PySem.W PyProof.Rows PySem.Calls

section
variable {prog : Program} {w : World} {base h₀ hp : Heap} {F G : Addr → Option AO} {L a d l I : Addr} {m : Str → Option Value} {A : Around} {E : Value → Shared → Prop} {s : Shared} {env : Env} {tk : Nat}

theorem minL {xs : List Value} {ns : List Int} {Q : Value → Shared → Prop} (hh : A.handled = none) (hl : LL hp l xs) (hi : IntsAre xs ns) (hne : 0 < ns.length)
    (h : ∀ M t h' tk', Sub hp h' → M ∈ ns → (∀ a ∈ ns, M ≤ a) → Q (.int M t) (At s h' tk')) : wpAny (model prog w) A (call (.builtin "min") [.ref l]) Q E (At s hp tk) := by
  obtain ⟨ys, e⟩ := hi.allInts.items
  have en : ys.toList.map (·.1) = ns := by rw [← nums_intItems, ← e]; exact hi.numsOf
  have hsz : ys.size = ns.length := by rw [← en]; simp
  have hl' : (At s hp tk).heap.IsList l (intItems ys) := e ▸ hl.isList
  refine min_intList hh hl' (by omega) fun v h' tk' hv hk => ?_
  obtain ⟨t, rfl⟩ := intItems_at hv
  obtain ⟨h1, h2⟩ := argBest_lt (numAt ys) (ys.size - 1)
  refine h _ t h' tk' hk ?_ fun a ha => ?_
  · rw [numAt_eq, en]; exact getD_mem (by omega)
  · rw [← en] at ha
    obtain ⟨j, hj, rfl⟩ := mem_getD ha
    rw [List.length_map, Array.length_toList] at hj
    rw [← numAt_eq]; exact h2 j (by omega)

theorem sumL {xs : List Value} {ns : List Int} {Q : Value → Shared → Prop} (hh : A.handled = none) (hl : LL hp l xs) (hi : IntsAre xs ns) (hfit : PySem.SumFits ns)
    (h : ∀ t h' tk', Sub hp h' → Q (.int ns.sum t) (At s h' tk')) : wpAny (model prog w) A (call (.builtin "sum") [.ref l]) Q E (At s hp tk) := by
  obtain ⟨ys, e⟩ := hi.allInts.items
  have en : ys.toList.map (·.1) = ns := by rw [← nums_intItems, ← e]; exact hi.numsOf
  have hsz : ys.size = ns.length := by rw [← en]; simp
  have hl' : (At s hp tk).heap.IsList l (intItems ys) := e ▸ hl.isList
  refine sum_intList hh hl' (fun j hj => ?_) fun h' tk' t' hk => ?_
  · rw [numAt_eq, preSum_eq, en]; exact hfit j (by omega)
  · have := h t' h' tk' hk
    rw [preSum_eq, en, List.take_of_length_le (by omega)]; exact this

theorem sum_between : ∀ (l : List Int) (b : Int), (∀ x ∈ l, 0 ≤ x ∧ x ≤ b) → 0 ≤ l.sum ∧ l.sum ≤ b * l.length
  | [], b, _ => by simp
  | a :: r, b, h => by
    have ih := sum_between r b fun x hx => h x (by simp [hx])
    have ha := h a (by simp)
    simp only [List.sum_cons, List.length_cons]
    rw [Int.natCast_add, Int.mul_add]
    simp
    omega
theorem sumFits {ns : List Int} (h : ∀ x ∈ ns, 0 ≤ x ∧ x ≤ 2 ^ 40) (hn : ns.length ≤ 2 ^ 10) : PySem.SumFits ns := by
  intro j hj
  constructor
  · have := h _ (getD_mem hj)
    unfold InLong; omega
  · have := sum_between (ns.take (j + 1)) (2 ^ 40) fun x hx => h x (List.mem_of_mem_take hx)
    have hl : (ns.take (j + 1)).length ≤ 2 ^ 10 := by rw [List.length_take]; omega
    unfold InLong
    have : (2 ^ 40 : Int) * ((ns.take (j + 1)).length : Int) ≤ 2 ^ 40 * 2 ^ 10 := Int.mul_le_mul_of_nonneg_left (by omega) (by decide)
    omega

/-- a call of a builtin function with one argument -/
theorem callB1 {x : Str} {b : String} {ps pos : Pos} {e : Expr} {Q : Value → Shared → Prop} (B : Bs w base) (S : St prog w base h₀ F L hp m) (en : nsIn (hd.heap_39 w.params) mainGlobals x = some none) (hv : bootBuiltins x = some (.builtin b)) (hn : x ≠ "__name__")
    (h : wpAny (model prog w) A (eval e env) (fun v s₁ => wpAny (model prog w) A (call (.builtin b) [v]) Q E s₁) E (At s hp tk))
    (he : starEach [e] env = (false, eval e env) :: starEach [] env := by rfl)
    (hg : env.globals = mainGlobals := by rfl) (hb : env.builtins = builtinsNs := by rfl) (hk : env.scope.kind = .function := by rfl) (hx : env.kindOf x = some .globalImplicit := by rfl) (hd : (x == ("__debug__" : Str)) = false := by decide)
    (he' : eval (.Call (.Name x ps) [e] [] pos) env = (do callWith pos (← eval (.Name x ps) env) [] (backTo pos (starEach [e] env)) (backToKw pos (keywordEach [] env))) := by rfl) :
    wpAny (model prog w) A (eval (.Call (.Name x ps) [e] [] pos) env) Q E (At s hp tk) :=
  Call_ (nameB B S en hv hn (callWith_builtin1 (args_cons (wpAny_mono h (fun v s₁ h₁ => args_nil h₁) fun _ _ x => x) he) he) hg hb hk hx hd) he'

theorem sliceL {value : Expr} {lower upper : Option Expr} {p pos : Pos} {xs : List Value} {Q : Value → Shared → Prop}
    (h : wpAny (model prog w) A (eval value env) (fun o s₁ => wpAny (model prog w) A (evalPart lower env) (fun vl s₂ => wpAny (model prog w) A (evalPart upper env) (fun vu s₃ => ∃ lo hi tk', o = .ref l ∧ s₃ = At s hp tk' ∧ LL hp l xs ∧ xs.length < 2 ^ 20 ∧ IsPart vl lo ∧ IsPart vu hi ∧
      ∀ D h', Sub hp h' → hp.get? D = none → LL h' D (slicePick xs.toArray lo hi none).toList → Q (.ref D) (At s h' tk')) E s₂) E s₁) E (At s hp tk))
    (ht : ∀ o r, letTemporaryGo value o r = pure () := by intro _ _; rfl) :
    wpAny (model prog w) A (eval (.Subscript value (.Slice lower upper none p) pos) env) Q E (At s hp tk) := by
  refine wpAny_Subscript_Slice slot_list_getitem.lookup (wpAny_mono h (fun o s₁ h₁ => wpAny_Slice (wpAny_mono h₁ (fun vl s₂ h₂ => wpAny_mono h₂ (fun vu s₃ h₃ => ?_) fun _ _ e => e) fun _ _ e => e)) fun _ _ e => e) ht
  obtain ⟨lo, hi, tk', rfl, rfl, hl, hn, pl, pu, hQ⟩ := h₃
  rw [evalPart_none]
  refine wpAny_pure ?_
  have s1 : Sub hp (hp.push { cls := .type "slice", data := .fields #[vl, vu, .none] }) := fun _ _ e => Heap.get?_push_of_some _ e
  have hl1 : LL (hp.push { cls := .type "slice", data := .fields #[vl, vu, .none] }) l xs := by obtain ⟨n, q⟩ := hl; exact ⟨n, s1 _ _ q⟩
  refine ⟨hl1.isList.typeIs, ?_⟩
  refine wpAny_getItem_list_slice (st := none) hl1.isList (Heap.IsSliceOf.new _ _ _ _) pl pu .none (by simp) ?_ (by rw [sizeLine_eq]; simp; omega)
  refine hQ _ _ (s1.trans fun _ _ e => Heap.get?_push_of_some _ e) (none_of_sub s1 (get_none_size _)) ⟨0, ?_⟩
  exact PySem.IsL.new _ _

/-- cells -/
theorem ldc {x : Str} {pos : Pos} {c : Addr} {v : Value} {Q : Value → Shared → Prop} (hv : hp.IsCell c (some v)) (h : Q v (At s hp tk))
    (hc : env.cells.lookup x = some c := by rfl) (hk : env.scope.kind = .function := by rfl) (hl : env.kindOf x = some .cell := by rfl) (hd : (x == ("__debug__" : Str)) = false := by decide) :
    wpAny (model prog w) A (eval (.Name x pos) env) Q E (At s hp tk) := wpAny_Name (wpAny_loadName_cell hk hl hc hv h) hd
theorem St.cell {c : Addr} {v : Option Value} {h : Heap} (S : St prog w base h₀ F L h m) (hf : F c = some (.cell v)) : h.IsCell c v := S.own c _ hf
theorem stc {x : Str} {c : Addr} {v : Value} {v₀ : Option Value} {Q : Unit → Shared → Prop} (S : St prog w base h₀ F L hp m) (hf : F c = some (.cell v₀)) (hb : base.get? c = none)
    (h : ∀ h' tk', St prog w base h₀ (upd F c (.cell (some v))) L h' m → Q () (At s h' tk'))
    (hc : env.cells.lookup x = some c := by rfl) (hk : env.scope.kind = .function := by rfl) (hl : env.kindOf x = some .cell := by rfl) :
    wpAny (model prog w) A (storeName env x v) Q E (At s hp tk) :=
  wpAny_storeName_cell (s := At s hp tk) hk hl hc (S.cell hf) fun h' hc' hs => h h' _ (S.change (x := .cell (some v)) hs.extBut hc' (fun q => by rw [← q, S.nF] at hf; cases hf) hb)

/-- what is known of a new object is let go -/
theorem St.forget {h : Heap} {x : AO} (S : St prog w base h₀ (upd G a x) L h m) (n0 : h₀.get? a = none) (nb : base.get? a = none) (nG : G a = none) : St prog w base h₀ G L h m := S.drop n0 nb nG fun _ _ _ e => e

/-- a for loop over any walk; the turn stores the target itself -/
theorem loop_walkG {R : Result → Shared → Prop} {target : Expr} {body : List Stmt} {fp : List Addr} {n : Nat} {P : Nat → Value → Prop} {Wst : Nat → Heap → Prop} {o₀ : Obj}
    (W : Walks prog w A I fp [I] n P Wst) (hI : ∀ i h, Wst i h → ∃ o, h.get? I = some o)
    (S : St prog w base h₀ (upd G I (.raw o₀)) L hp m) (n0 : h₀.get? I = none) (nb : base.get? I = none) (hst : Wst 0 hp)
    (hfp : ∀ b ∈ fp, b ≠ I → b ≠ L ∧ ∃ o, h₀.get? b = some o)
    (J : Nat → (Addr → Option AO) → (Str → Option Value) → Prop) (j0 : J 0 G m) (hJ : ∀ i G m, J i G m → G I = none ∧ ∀ b ∈ fp, b ≠ I → G b = none)
    (turn : ∀ i v G m h tk o, i < n → P i v → J i G m → St prog w base h₀ (upd G I (.raw o)) L h m →
      wpAny (model prog w) A (assign target env v) (fun _ s₂ => wpAny (model prog w) A (execs body env) (fun f s₃ => f = .next ∧ ∃ G' m' h' tk', s₃ = At s h' tk' ∧ J (i + 1) G' m' ∧ St prog w base h₀ (upd G' I (.raw o)) L h' m') FF s₂) FF (At s h tk))
    (fin : ∀ G m h tk, J n G m → St prog w base h₀ G L h m → R (.ok .next) (At s h tk))
    (hlt : ∀ v, letOwnedTupleGo target (.ref I) v = pure () := by intro _; rfl) :
    codeAny (model prog w) A (.forLoop target (.ref I) body [] env) R (At s hp tk) := by
  refine codeAny_forLoop_any (fun k s' => ∃ i G m h tk o, k = n - i ∧ i ≤ n ∧ s' = At s h tk ∧ J i G m ∧ Wst i h ∧ St prog w base h₀ (upd G I (.raw o)) L h m) ?_ n ⟨0, G, m, hp, tk, o₀, by omega, by omega, rfl, j0, hst, S⟩
  rintro k s' ⟨i, G, m, h, tk, o, rfl, hi, rfl, jG, st, S⟩
  obtain ⟨nG, nfp⟩ := hJ i G m jG
  have hLI : L ≠ I := fun q => by have := S.nF; rw [q, upd_self] at this; cases this
  by_cases hin : i < n
  · refine W.item i (At s h tk) _ _ hin st (fun v h' tk' hP st' hk' => ?_)
    obtain ⟨o', ho'⟩ := hI _ _ st'
    have S' : St prog w base h₀ (upd G I (.raw o')) L h' m := by
      have := S.change (a := I) (x := .raw o') (h' := h') (fun b o hb e => hk' b o (by simpa using hb) e) ho' hLI nb
      rwa [upd_upd] at this
    show wpAny _ _ (letOwnedTupleGo target (.ref I) v) _ _ _
    refine wpAny_of_eq (hlt v) ?_
    refine wpAny_mono (turn i v G m h' tk' o' hin hP jG S') (fun _ s₂ h₂ => wpAny_mono h₂ (fun f s₃ hf => ?_) fun _ _ x => x.elim) fun _ _ x => x.elim
    obtain ⟨rfl, G', m', h₃, tk₃, rfl, jG', S₃⟩ := hf
    obtain ⟨nG', nfp'⟩ := hJ _ _ _ jG'
    refine ⟨n - (i + 1), by omega, i + 1, G', m', h₃, tk₃, o', rfl, hin, rfl, jG', ?_, S₃⟩
    refine W.frame (i + 1) h' h₃ st' (fun b hb ob eb => ?_)
    by_cases hbI : b = I
    · subst hbI
      have e1 : h₃.get? b = some o' := S₃.own b _ (upd_self _ _ _)
      rw [ho'] at eb; cases eb; exact e1
    · obtain ⟨hbL, o1, e1⟩ := hfp b hb hbI
      have e2 := S'.ext b o1 (by rw [upd_ne hbI]; exact nfp b hb hbI) hbL e1
      have e3 := S₃.ext b o1 (by rw [upd_ne hbI]; exact nfp' b hb hbI) hbL e1
      rw [e2] at eb; cases eb; exact e3
  · have e : i = n := by omega
    subst e
    refine W.done (At s h tk) _ _ st (fun h' tk' hk' => ?_)
    refine wpAny_execs_nil (fin G m h' tk' jG (S.drop n0 nb nG fun b o hb e => hk' b o (by simpa using hb) e))

/-- into a def with cells; all its parameters are plain -/
theorem enterC {R : Result → Shared → Prop} {f : Addr} {oc : Value} {od : Option Addr} {osl : Array (Option Value)} {name qual : Str} {params : Arguments} {body : List Stmt} {scope : Scope} {dV kV doc pm cdv ct : Value} {an : Option Addr} {vals : List Value} {n : Nat} (binds : List (Str × Value))
    (B : Bs w base) (hk : Sub base s.heap) (ok : Ok A (n + 1))
    (hl : (hd.heap_39 w.params).lookup f = some ⟨oc, od, .func (fnOf name qual params body scope dV kV doc pm an cdv ct), osl⟩) (hcd : codeIn (hd.heap_39 w.params) cdv qual = true)
    (hbind : bindArgs (fnOf name qual params body scope dV kV doc pm an cdv ct) ⟨vals, []⟩ = pure binds)
    (hloc : (binds.all fun x => decide (scope.names.lookup x.1 = some .local)) = true)
    (h : ∀ L h₁ tk A', s.heap.objs.size = L → Ok A' n → St prog w base s.heap none' L h₁ (bindL (envOfC qual scope L f cdv).kindOf binds fun _ => none) → (∀ x c, (cellsFrom (L + 1) scope.names []).lookup x = some c → ∃ v, h₁.IsCell c v) →
      wpAny (model prog w) A' (execs body (envOfC qual scope L f cdv)) (fun f s' => R (.ok (.ret (match f with | .ret v => v | _ => .none))) s') FF
        (At s h₁ tk))
    (hco : scope.isCoroutine = false := by rfl) (hgen : scope.isGenerator = false := by rfl) (hk' : scope.kind = .function := by rfl) :
    codeAny (model prog w) A (.call (.ref f) ⟨vals, []⟩) R s := by
  have X := B.K.keeps hk
  refine codeAny_call_cells (fd := fnOf name qual params body scope dV kV doc pm an cdv ct) ok.room (X _ _ hl) rfl (B.lim.keeps hk) (codeRec_of X hcd) rfl hbind rfl ?_ (fun s₁ x => ?_) hco hgen hk'
  · intro x hx
    left
    have := List.all_eq_true.mp hloc x hx
    simpa using this
  · obtain ⟨h₁, tk, rfl⟩ := x.toInCall.same
    refine wpAny_mono (h _ h₁ tk _ rfl (ok.deeper _) ?_ ?_) (fun _ _ y => y) fun _ _ y => y.elim
    · exact St.init hk x.toInCall.ns x.toInCall.keep
    · intro y c hc
      exact ⟨_, x.cell y c hc⟩
end
end Mine

namespace Mine
open PySem PySem.W PyProof.Rows PySem.Calls

theorem valueAt_stored {K : Type} [DecidableEq K] (cs : List (K × Value)) (k : K) (n : Value) (q : K) : valueAt (stored cs k n) q = if q = k then some n else valueAt cs q := by
  unfold stored valueAt
  by_cases h : cs.any (fun p => decide (p.1 = k)) = true
  · rw [if_pos h]
    induction cs with
    | nil => simp at h
    | cons p r ih =>
      simp only [List.map_cons, List.find?_cons]
      by_cases e : p.1 = k
      · simp only [e, if_true]
        by_cases e2 : q = k
        · subst e2; simp
        · have e3 : ¬ k = q := fun x => e2 x.symm
          simp only [e3, decide_false, e2, if_false]
          by_cases hr : (r.any fun p => decide (p.1 = k)) = true
          · rw [ih hr]; simp [e2]
          · have : (r.map fun p => if p.1 = k then (p.1, n) else p) = r := by
              have hr' : ∀ x ∈ r, ¬ x.1 = k := fun x hx e => hr (List.any_eq_true.mpr ⟨x, hx, by simpa using e⟩)
              conv => rhs; rw [← List.map_id r]
              exact List.map_congr_left fun x hx => by rw [if_neg (hr' x hx)]; rfl
            rw [this]
      · have hr : (r.any fun p => decide (p.1 = k)) = true := by simpa [e] using h
        simp only [e, if_false]
        by_cases e2 : p.1 = q
        · have : ¬ q = k := fun x => e (e2.trans x)
          simp [e2, this]
        · simp only [e2, decide_false]; exact ih hr
  · rw [if_neg h]
    have hn : ∀ x ∈ cs, ¬ x.1 = k := fun x hx e => h (List.any_eq_true.mpr ⟨x, hx, by simpa using e⟩)
    rw [List.find?_append]
    by_cases e2 : q = k
    · subst e2
      have : cs.find? (fun p => decide (p.1 = q)) = none := by rw [List.find?_eq_none]; intro x hx; simpa using hn x hx
      rw [this]; simp
    · have e3 : ¬ k = q := fun x => e2 x.symm
      simp only [e2, if_false]
      simp [e3]

theorem upd_comm {F : Addr → Option AO} {a b : Addr} {x y : AO} (h : a ≠ b) : upd (upd F a x) b y = upd (upd F b y) a x := by
  funext c; unfold upd; by_cases q : c = a
  · subst q; rw [if_neg h, if_pos rfl, if_pos rfl]
  · rw [if_neg q, if_neg q]

section
variable {prog : Program} {w : World} {base h₀ hp : Heap} {F G : Addr → Option AO} {L a d l I : Addr} {m : Str → Option Value} {A : Around} {E : Value → Shared → Prop} {s : Shared} {env : Env} {tk : Nat}

theorem callT2 {x : Str} {T : String} {ps pos : Pos} {e e2 : Expr} {Q : Value → Shared → Prop} (B : Bs w base) (S : St prog w base h₀ F L hp m) (en : nsIn (hd.heap_39 w.params) mainGlobals x = some none) (hv : bootBuiltins x = some (.type T)) (hn : x ≠ "__name__")
    (h : wpAny (model prog w) A (eval e env) (fun v s₁ => wpAny (model prog w) A (eval e2 env) (fun v2 s₂ => wpAny (model prog w) A (call (.type T) [v, v2]) Q E s₂) E s₁) E (At s hp tk))
    (he : starEach [e, e2] env = (false, eval e env) :: starEach [e2] env := by rfl) (he2 : starEach [e2] env = (false, eval e2 env) :: starEach [] env := by rfl)
    (hg : env.globals = mainGlobals := by rfl) (hb : env.builtins = builtinsNs := by rfl) (hk : env.scope.kind = .function := by rfl) (hx : env.kindOf x = some .globalImplicit := by rfl) (hd : (x == ("__debug__" : Str)) = false := by decide)
    (he' : eval (.Call (.Name x ps) [e, e2] [] pos) env = (do callWith pos (← eval (.Name x ps) env) [] (backTo pos (starEach [e, e2] env)) (backToKw pos (keywordEach [] env))) := by rfl) :
    wpAny (model prog w) A (eval (.Call (.Name x ps) [e, e2] [] pos) env) Q E (At s hp tk) :=
  Call_ (nameB B S en hv hn (callWith_type1 (args_cons (wpAny_mono h (fun v s₁ h₁ => args_cons (wpAny_mono h₁ (fun v2 s₂ h₂ => args_nil h₂) fun _ _ x => x) he2) fun _ _ x => x) he) he (plain2 he2)) hg hb hk hx hd) he'

/-- range's iterator, from a range of n from a on -/
theorem rangeIt {r : Addr} {x b : Int} {n : Nat} {t u v : Tok} {Q : Value → Shared → Prop} (hr : IsRange hp r x b 1 t u v) (h0 : 0 ≤ x) (hx : x < 2 ^ 20) (hn : n < 2 ^ 20) (hb : b = x + n)
    (h : Q (.ref hp.objs.size) (At s (hp.push (ritObj x n 1)) tk)) : wpAny (model prog w) A (pyIter (.ref r)) Q E (At s hp tk) := by
  refine wpAny_pyIter_range (s := At s hp tk) hr ?_ ?_
  · unfold Builtin.Range.small
    have e : Builtin.Range.rangeSize x b 1 = n := by rw [rangeSize_one]; split <;> omega
    rw [e]
    have f : ∀ i : Int, -5 ≤ i → i < 2 ^ 30 → Builtin.Range.rangeFitsLong i = true := fun i h1 h2 => by
      simp only [Builtin.Range.rangeFitsLong, Bool.and_eq_true, decide_eq_true_eq]; omega
    rw [f x (by omega) (by omega), f b (by omega) (by omega), f 1 (by omega) (by omega), f n (by omega) (by omega), if_pos (by decide), f (b + (1 - 1)) (by omega) (by omega)]
    simp
  · have e : Builtin.Range.rangeSize x b 1 = n := by rw [rangeSize_one]; split <;> omega
    rw [e]; exact h

theorem mkRange2 {x y : Int} {t u : Tok} {Q : Value → Shared → Prop} (h : ∀ tk', Q (.ref hp.objs.size) (At s (hp.push { cls := .type "range", data := .fields #[.int x t, .int y u, .int 1 tk] }) tk')) : wpAny (model prog w) A (call (.type "range") [.int x t, .int y u]) Q E (At s hp tk) :=
  call_range_2 (s := At s hp tk) (h _)

theorem mkDictI {pos : Pos} {Q : Value → Shared → Prop} (S : St prog w base h₀ F L hp m)
    (h : ∀ d h', hp.objs.size = d → L < d → F d = none → base.get? d = none → St prog w base h₀ (upd F d (.dI [])) L h' m → Q (.ref d) (At s h' tk)) : wpAny (model prog w) A (eval (.Dict [] [] pos) env) Q E (At s hp tk) :=
  wpAny_Dict_empty (h _ _ rfl S.ltL S.freshF S.freshB (S.push (x := .dI []) (Heap.DictOf.new _)))
theorem setI {kvs : List (Int × Value)} {k : Int} {t : Tok} {v : Value} {Q : Unit → Shared → Prop} (S : St prog w base h₀ F L hp m) (hf : F d = some (.dI kvs)) (hb : base.get? d = none) (hn : kvs.length < 2 ^ 20)
    (h : ∀ h' tk', St prog w base h₀ (upd F d (.dI (stored kvs k v))) L h' m → Q () (At s h' tk')) : wpAny (model prog w) A (setItem (.ref d) (.int k t) v) Q E (At s hp tk) :=
  wpAny_setItem_pairs (s := At s hp tk) (intKind_is prog w k t) (S.own d _ hf) (fun h' hm hs => h h' _ (S.change (x := .dI _) hs.extBut hm (fun q => by rw [← q, S.nF] at hf; cases hf) hb)) (by rw [sizeLine_eq]; omega)
theorem getI {value slice : Expr} {kvs : List (Int × Value)} {k : Int} {t : Tok} {v : Value} {Q : Value → Shared → Prop} (hd : hp.DictOf (intKind prog w) d kvs) (hv : valueAt kvs k = some v)
    (h : ∀ tk', Q v (At s hp tk'))
    (hs : subscripted slice false (.ref d) (.int k t) = operate [.ref d, .int k t] (getItem (.ref d) (.int k t)) := by with_unfolding_all rfl) : wpAny (model prog w) A (subscriptTail value slice (.ref d) (.int k t)) Q E (At s hp tk) :=
  have hd' : (At s hp tk).heap.DictOf (intKind prog w) d kvs := hd
  tail_any (Heap.MapOf.typeIs (Heap.DictOf.mapOf hd')) slot_dict_getitem.lookup (wpAny_getItem_of (s := At s hp tk) (intKind_is prog w k t) (Heap.DictOf.mapOf hd) hv (h _)) hs
theorem getSt {value slice : Expr} {kvs : List (Str × Value)} {k : Str} {t : Tok} {v : Value} {Q : Value → Shared → Prop} (hd : hp.DictOf (strKind prog w) d kvs) (hv : valueAt kvs k = some v)
    (h : ∀ tk', Q v (At s hp tk'))
    (hs : subscripted slice false (.ref d) (.str k t) = operate [.ref d, .str k t] (getItem (.ref d) (.str k t)) := by with_unfolding_all rfl) : wpAny (model prog w) A (subscriptTail value slice (.ref d) (.str k t)) Q E (At s hp tk) :=
  have hd' : (At s hp tk).heap.DictOf (strKind prog w) d kvs := hd
  tail_any (Heap.MapOf.typeIs (Heap.DictOf.mapOf hd')) slot_dict_getitem.lookup (getS hd hv h) hs
end

/-- the table so far: all parts shorter than len, and of length len those left of lf -/
def Tab (row : List Int) (kvs : List (Int × Value)) (len lf : Nat) : Prop :=
  ∀ a b : Nat, 1 ≤ b → a + b ≤ row.length → (b < len ∨ (b = len ∧ a < lf)) → ∃ v t, valueAt kvs ((a : Int) * 99 + b) = some (.int v t) ∧ Best ((row.drop a).take b) v

theorem Tab.step {row : List Int} {kvs : List (Int × Value)} {len lf : Nat} {v : Int} {t : Tok} (T : Tab row kvs len lf) (h1 : 1 ≤ len) (hl : lf + len ≤ row.length) (h10 : row.length ≤ 10) (hv : Best ((row.drop lf).take len) v) :
    Tab row (stored kvs ((lf : Int) * 99 + len) (.int v t)) len (lf + 1) := by
  intro a b hb hab hc
  rw [valueAt_stored]
  by_cases e : ((a : Int) * 99 + b) = (lf : Int) * 99 + len
  · have e1 : a = lf := by omega
    have e2 : b = len := by omega
    subst e1 e2
    rw [if_pos rfl]
    exact ⟨v, t, rfl, hv⟩
  · rw [if_neg e]
    refine T a b hb hab ?_
    rcases hc with q | ⟨q1, q2⟩
    · exact .inl q
    · right
      refine ⟨q1, ?_⟩
      rcases Nat.lt_or_ge a lf with z | z
      · exact z
      · exfalso
        have : a = lf := by omega
        subst this q1
        exact e rfl
theorem Tab.next {row : List Int} {kvs : List (Int × Value)} {len lf : Nat} (T : Tab row kvs len lf) (h : row.length < lf + len) : Tab row kvs (len + 1) 0 := by
  intro a b hb hab hc
  refine T a b hb hab ?_
  omega

theorem part_take (row : List Int) (a len k : Nat) (hk : k ≤ len) : ((row.drop a).take len).take k = (row.drop a).take k := by
  rw [List.take_take, Nat.min_eq_left hk]
theorem part_drop (row : List Int) (a len k : Nat) : ((row.drop a).take len).drop k = (row.drop (a + k)).take (len - k) := by
  rw [List.drop_take, List.drop_drop]

theorem Paired.get {α β : Type} {F : α → β → Prop} : ∀ {a : List α} {b : List β}, Paired F a b → ∀ (j : Nat) (x : α), a[j]? = some x → ∃ y, b[j]? = some y ∧ F x y
  | _, _, .nil, j, x, h => by simp at h
  | _, _, .cons h0 hr, 0, x, h => by simp at h; subst h; exact ⟨_, rfl, h0⟩
  | _, _, .cons h0 hr, j + 1, x, h => by
    obtain ⟨y, hy, hF⟩ := Paired.get hr j x (by simpa using h)
    exact ⟨y, by simpa using hy, hF⟩
theorem Paired.get' {α β : Type} {F : α → β → Prop} : ∀ {a : List α} {b : List β}, Paired F a b → ∀ (j : Nat) (y : β), b[j]? = some y → ∃ x, a[j]? = some x ∧ F x y
  | _, _, .nil, j, y, h => by simp at h
  | _, _, .cons h0 hr, 0, y, h => by simp at h; subst h; exact ⟨_, rfl, h0⟩
  | _, _, .cons h0 hr, j + 1, y, h => by
    obtain ⟨x, hx, hF⟩ := Paired.get' hr j y (by simpa using h)
    exact ⟨x, by simpa using hx, hF⟩

theorem intsAre_of {ys : List Value} {P : Nat → Int → Prop} : (∀ j y, ys[j]? = some y → ∃ n t, y = .int n t ∧ P j n) → ∃ ns, IntsAre ys ns ∧ ∀ (j : Nat) (n : Int), ns[j]? = some n → P j n := by
  induction ys generalizing P with
  | nil => intro _; exact ⟨[], .nil, by simp⟩
  | cons y r ih =>
    intro h
    obtain ⟨n, t, rfl, hn⟩ := h 0 y rfl
    obtain ⟨ns, h1, h2⟩ := ih (P := fun j n => P (j + 1) n) (fun j y hy => h (j + 1) y (by simpa using hy))
    refine ⟨n :: ns, .cons n t h1, fun j z hz => ?_⟩
    cases j with
    | zero => simp at hz; subst hz; exact hn
    | succ j => exact h2 j z (by simpa using hz)

/-- one entry of the table from the ways -/
theorem best_ways {row ns : List Int} {a len : Nat} {mn : Int} (h2 : 2 ≤ len) (hl : a + len ≤ row.length) (hn : ns.length = len - 1)
    (hw : ∀ (j : Nat) (n : Int), ns[j]? = some n → ∃ u v, n = u + v ∧ Best ((row.drop a).take (j + 1)) u ∧ Best ((row.drop (a + (j + 1))).take (len - (j + 1))) v)
    (hm : mn ∈ ns) (hmin : ∀ x ∈ ns, mn ≤ x) : Best ((row.drop a).take len) (mn + ((row.drop a).take len).sum) := by
  have hlen : ((row.drop a).take len).length = len := by rw [List.length_take, List.length_drop]; omega
  refine Best.step (f := fun k => ns.getD (k - 1) 0) hlen h2 (fun k k1 k2 => ?_) ?_ (fun k k1 k2 => ?_)
  · have hk : k - 1 < ns.length := by omega
    have e := List.getElem?_eq_getElem hk
    obtain ⟨u, v, h1, h2, h3⟩ := hw _ _ e
    rw [show k - 1 + 1 = k from by omega] at h2 h3
    rw [part_take _ _ _ _ (by omega), part_drop]
    refine ⟨u, v, h2, h3, ?_⟩
    show ns.getD (k - 1) 0 = u + v
    rw [List.getD_eq_getElem?_getD, e, ← h1]; rfl
  · obtain ⟨j, hj⟩ := List.getElem?_of_mem hm
    have := (List.getElem?_eq_some_iff.mp hj).1
    refine ⟨j + 1, by omega, by omega, ?_⟩
    show mn = ns.getD (j + 1 - 1) 0
    rw [List.getD_eq_getElem?_getD, show j + 1 - 1 = j from by omega, hj]; rfl
  · have hk : k - 1 < ns.length := by omega
    show mn ≤ ns.getD (k - 1) 0
    rw [getD_at hk]
    exact hmin _ (List.getElem_mem hk)
end Mine

namespace Mine
open PySem PySem.W PyProof.Rows PySem.Calls

theorem neN' {a b : Nat} (h : a ≠ b) : a ≠ b := h

structure LI (G : Addr → Option AO) (L d : Nat) (v1 v2 : Option Value) (kvs : List (Int × Value)) : Prop where
  c0 : G (L + 1) = some (.cell (some (.ref d)))
  c1 : G (L + 1 + 1) = some (.cell v1)
  c2 : G (L + 1 + 1 + 1) = some (.cell v2)
  dd : G d = some (.dI kvs)
  low : ∀ b : Nat, b ≤ L → G b = none
  hd : L + 3 < d

section
variable {G : Addr → Option AO} {L d : Nat} {v1 v2 : Option Value} {kvs : List (Int × Value)}
theorem LI.len (x : LI G L d v1 v2 kvs) (v : Option Value) : LI (upd G (L + 1 + 1) (.cell v)) L d v v2 kvs :=
  have := x.hd
  ⟨by rw [upd_ne (neN' (by omega))]; exact x.c0, upd_self _ _ _, by rw [upd_ne (neN' (by omega))]; exact x.c2, by rw [upd_ne (neN' (by omega))]; exact x.dd, fun b hb => by rw [upd_ne (neN' (by omega))]; exact x.low b hb, x.hd⟩
theorem LI.left (x : LI G L d v1 v2 kvs) (v : Option Value) : LI (upd G (L + 1 + 1 + 1) (.cell v)) L d v1 v kvs :=
  have := x.hd
  ⟨by rw [upd_ne (neN' (by omega))]; exact x.c0, by rw [upd_ne (neN' (by omega))]; exact x.c1, upd_self _ _ _, by rw [upd_ne (neN' (by omega))]; exact x.dd, fun b hb => by rw [upd_ne (neN' (by omega))]; exact x.low b hb, x.hd⟩
theorem LI.tab (x : LI G L d v1 v2 kvs) (kvs' : List (Int × Value)) : LI (upd G d (.dI kvs')) L d v1 v2 kvs' :=
  have := x.hd
  ⟨by rw [upd_ne (neN' (by omega))]; exact x.c0, by rw [upd_ne (neN' (by omega))]; exact x.c1, by rw [upd_ne (neN' (by omega))]; exact x.c2, upd_self _ _ _, fun b hb => by rw [upd_ne (neN' (by omega))]; exact x.low b hb, x.hd⟩
/-- an address at which nothing is known is none of ours -/
theorem LI.off (x : LI G L d v1 v2 kvs) {I : Nat} (hI : G I = none) : I ≠ L + 1 ∧ I ≠ L + 1 + 1 ∧ I ≠ L + 1 + 1 + 1 ∧ I ≠ d := by
  refine ⟨?_, ?_, ?_, ?_⟩ <;> rintro rfl
  · rw [x.c0] at hI; cases hI
  · rw [x.c1] at hI; cases hI
  · rw [x.c2] at hI; cases hI
  · rw [x.dd] at hI; cases hI
end

section
variable {prog : Program} {w : World} {base h₀ hp : Heap} {F G : Addr → Option AO} {L a d l I : Addr} {m : Str → Option Value} {A : Around} {E : Value → Shared → Prop} {s : Shared} {env : Env} {tk : Nat}

theorem walks_bound {fp wr : List Addr} {n : Nat} {P : Nat → Value → Prop} {Wst : Nat → Heap → Prop} (W : Walks prog w A I fp wr n P Wst) : Walks prog w A I fp wr n (fun i v => i < n ∧ P i v) Wst :=
  { W with item := fun i s Q E hi st hQ => W.item i s Q E hi st (fun v h' tk hP => hQ v h' tk ⟨hi, hP⟩) }
theorem LL.of_ext {h h' : Heap} {xs : List Value} (x : LL h l xs) (k : ∀ o, h.get? l = some o → h'.get? l = some o) : LL h' l xs := let ⟨n, q⟩ := x; ⟨n, k _ q⟩

theorem lawLeast {R : Result → Shared → Prop} {lr : Addr} {xs : List Value} {row : List Int}
    (B : Bs w base) (hk : Sub base s.heap) (ok : Ok A 2) (hl : LL s.heap lr xs) (hint : IntsAre xs row) (h1 : 1 ≤ row.length) (h10 : row.length ≤ 10) (hpos : ∀ x ∈ row, 0 ≤ x ∧ x ≤ 2 ^ 40)
    (h : ∀ h' tk v t, Sub s.heap h' → Best row v → R (.ok (.ret (.int v t))) (At s h' tk)) :
    codeAny (model prog w) A (.call (.ref 80) ⟨[.ref lr], []⟩) R s := by
  refine enterC [("row", .ref lr)] B hk ok rfl rfl rfl rfl (fun L h₁ tk A' eL ok' S₀ hc => ?_)
  have S₁ : St prog w base s.heap none' L h₁ (fun y => if y = "row" then some (.ref lr) else none) := S₀
  clear S₀
  obtain ⟨v0, k0⟩ := hc "cost" (L + 1) rfl
  obtain ⟨v1, k1⟩ := hc "length" (L + 1 + 1) rfl
  obtain ⟨v2, k2⟩ := hc "left" (L + 1 + 1 + 1) rfl
  have n0 : s.heap.get? L = none := eL ▸ get_none_size _
  have sn : ∀ b : Nat, (L : Nat) ≤ b → s.heap.get? b = none := fun b hb => Heap.get?_none_of_le (eL ▸ hb)
  have bn : ∀ b : Nat, (L : Nat) ≤ b → base.get? b = none := fun b hb => none_of_sub hk (sn b hb)
  have hxl : xs.length = row.length := hint.length
  have lowF : ∀ {F : Addr → Option AO} {h : Heap} {m}, St prog w base s.heap F L h m → (∀ (b : Nat) o, s.heap.get? b = some o → b < (L : Nat) → F b = none) → Sub s.heap h := fun S lo b o e => S.ext' n0 b o (lo b o e (by have q := Heap.lt_size e; rw [eL] at q; exact q)) e
  have rowK : ∀ {F : Addr → Option AO} {h : Heap} {m}, St prog w base s.heap F L h m → (∀ (b : Nat) o, s.heap.get? b = some o → b < (L : Nat) → F b = none) → LL h lr xs := fun S lo => hl.of_ext fun o e => lowF S lo _ _ e
  have S := ((S₁.know (x := .cell v0) (a := L + 1) k0 (neN' (by omega)) (bn _ (by omega))).know (x := .cell v1) (a := L + 1 + 1) k1 (neN' (by omega)) (bn _ (by omega))).know (x := .cell v2) (a := L + 1 + 1 + 1) k2 (neN' (by omega)) (bn _ (by omega))
  have lo0 : ∀ (b : Nat) o, s.heap.get? b = some o → b < (L : Nat) → upd (upd (upd none' (L + 1) (.cell v0)) (L + 1 + 1) (.cell v1)) (L + 1 + 1 + 1) (.cell v2) b = none := fun b _ _ hb => by
    rw [upd_ne (neN' (by omega)), upd_ne (neN' (by omega)), upd_ne (neN' (by omega))]; rfl
  refine wpAny_execs_cons (wpAny_Assign_Name (lenL (xs := xs) B S (ldv S rfl ⟨_, rfl, rfl, rowK S lo0, by omega, fun tm tk₂ => stv S fun h₂ tk₂ S => ?_⟩)))
  refine wpAny_execs_cons (wpAny_Assign_Name (mkDictI S fun d h₃ ed Ld fd bd S' => ?_))
  have e3 : (L : Nat) + 1 + 1 + 1 < d := by
    have q := S.lt (upd_self _ _ _)
    rw [ed] at q
    exact q
  refine stc (x := "cost") (c := L + 1) (v₀ := v0) S' (by rw [upd_ne (neN' (by omega)), upd_ne (neN' (by omega)), upd_ne (neN' (by omega)), upd_self]) (bn _ (by omega)) (fun h₄ tk₄ S => ?_)
  clear S'
  have li0 : LI (upd (upd (upd (upd (upd none' (L + 1) (.cell v0)) (L + 1 + 1) (.cell v1)) (L + 1 + 1 + 1) (.cell v2)) d (.dI [])) (L + 1) (.cell (some (.ref d)))) L d v1 v2 [] := by
    refine ⟨upd_self _ _ _, ?_, ?_, ?_, fun b hb => ?_, by omega⟩
    · rw [upd_ne (neN' (by omega)), upd_ne (neN' (by omega)), upd_ne (neN' (by omega)), upd_self]
    · rw [upd_ne (neN' (by omega)), upd_ne (neN' (by omega)), upd_self]
    · rw [upd_ne (neN' (by omega)), upd_self]
    · rw [upd_ne (neN' (by omega)), upd_ne (neN' (by omega)), upd_ne (neN' (by omega)), upd_ne (neN' (by omega)), upd_ne (neN' (by omega))]; rfl
  revert S li0
  generalize (upd (upd (upd (upd (upd none' (L + 1) (.cell v0)) (L + 1 + 1) (.cell v1)) (L + 1 + 1 + 1) (.cell v2)) d (.dI [])) (L + 1) (.cell (some (.ref d)))) = G0
  intro S li0
  rw [hxl] at S
  -- the outer loop
  refine wpAny_execs_cons (wpAny_For ?_)
  refine callT2 (T := "range") B S rfl rfl (by decide) (cI fun t1 _ => wpAny_BinOp (ldv S rfl (cI fun _ _ => addI fun t2 tk₅ => mkRange2 fun tk₆ => ?_)))
  have S5 := S.more { cls := .type "range", data := .fields #[.int 1 t1, .int ((row.length : Int) + 1) t2, .int 1 tk₅] }
  refine rangeIt (n := row.length) (IsRange.new _ _ _ _ _ _ _) (by omega) (by omega) (by omega) (by omega) ?_
  revert S5
  generalize h₄.push { cls := .type "range", data := .fields #[.int 1 t1, .int ((row.length : Int) + 1) t2, .int 1 tk₅] } = h₅
  intro S5
  have S6 := S5.push (x := .raw (ritObj 1 row.length 1)) (o := ritObj 1 row.length 1) (Heap.get?_push_size _ rfl)
  have LIo : (L : Nat) < h₅.objs.size := S5.ltL
  have gIo0 := S5.freshF
  have st0 : IsRangeIter (h₅.push (ritObj 1 row.length 1)) h₅.objs.size (1 + ((0 : Nat) : Int) * 1) ((row.length : Int) - ((0 : Nat) : Int)) 1 := by
    rw [show (1 : Int) + ((0 : Nat) : Int) * 1 = 1 from by omega, show (row.length : Int) - ((0 : Nat) : Int) = row.length from by omega]
    exact Heap.get?_push_size _ rfl
  revert S6 LIo gIo0 st0
  generalize h₅.objs.size = Io
  generalize h₅.push (ritObj 1 row.length 1) = h₆
  intro S6 LIo gIo0 st0
  clear S S5
  refine loop_walkG (Walks.range ok'.hh Io 1 1 row.length) (fun i h st => ⟨_, st⟩) S6 (sn Io (by omega)) (bn Io (by omega)) st0 (fun b hb hne => absurd (by simpa using hb) hne)
    (fun i G m => ∃ v1 v2 kvs, LI G L d v1 v2 kvs ∧ G Io = none ∧ Tab row kvs (i + 1) 0 ∧ kvs.length ≤ 20 * i ∧ m "row" = some (.ref lr) ∧ m "many" = some (.int row.length tm))
    ⟨v1, v2, [], li0, gIo0, fun a b hb _ hc => by omega, by simp, rfl, rfl⟩ ?_ ?_ ?_
  · rintro i G m ⟨v1, v2, kvs, li, gI, _⟩
    exact ⟨gI, fun b hb hne => absurd (by simpa using hb) hne⟩
  · rintro i v G m h₇ tk₇ o hi ⟨t3, rfl⟩ ⟨v1, v2, kvs, li, gI, tab, kl, m1, m2⟩ S
    have off := li.off gI
    rw [show (1 : Int) + (i : Int) * 1 = ((i + 1 : Nat) : Int) from by omega]
    refine wpAny_assign_Name (stc (x := "length") (c := L + 1 + 1) (v₀ := v1) S (by rw [upd_ne off.2.1.symm]; exact li.c1) (bn _ (by omega)) fun h₈ tk₈ S => ?_)
    rw [upd_comm off.2.1] at S
    have li2 := li.len (some (.int ((i + 1 : Nat) : Int) t3))
    have gI2 : upd G (L + 1 + 1) (.cell (some (.int ((i + 1 : Nat) : Int) t3))) Io = none := by rw [upd_ne off.2.1]; exact gI
    revert S li2 gI2
    generalize upd G (L + 1 + 1) (.cell (some (.int ((i + 1 : Nat) : Int) t3))) = G1
    intro S li gI
    have off := li.off gI
    refine wpAny_execs_cons (wpAny_For ?_)
    refine callT1 (T := "range") B S rfl rfl (by decide) (wpAny_BinOp (wpAny_BinOp (ldv S m2 (ldc (c := L + 1 + 1) (v := .int ((i + 1 : Nat) : Int) t3) (S.cell (by rw [upd_ne off.2.1.symm]; exact li.c1)) (subI fun _ _ => cI fun _ _ => addI fun t4 tk₉ => mkRange1 S (fun r h₉ tk₉ S1 _ hr => ?_))))))
    obtain ⟨u1, u2, u3, hr⟩ := hr
    refine rangeIt (n := row.length - i) hr (by omega) (by omega) (by omega) (by omega) ?_
    have S2 := S1.push (x := .raw (ritObj 0 (row.length - i : Nat) 1)) (o := ritObj 0 (row.length - i : Nat) 1) (Heap.get?_push_size _ rfl)
    have LIi : (L : Nat) < h₉.objs.size := S1.ltL
    have gIi0 := S1.freshF
    have st1 : IsRangeIter (h₉.push (ritObj 0 (row.length - i : Nat) 1)) h₉.objs.size (0 + ((0 : Nat) : Int) * 1) (((row.length - i : Nat) : Int) - ((0 : Nat) : Int)) 1 := by
      rw [show (0 : Int) + ((0 : Nat) : Int) * 1 = 0 from by omega, show ((row.length - i : Nat) : Int) - ((0 : Nat) : Int) = (row.length - i : Nat) from by omega]
      exact Heap.get?_push_size _ rfl
    revert S2 LIi gIi0 st1
    generalize h₉.objs.size = Ii
    generalize h₉.push (ritObj 0 (row.length - i : Nat) 1) = h₁₀
    intro S2 LIi gIi0 st1
    have Iio : Ii ≠ Io := fun q => by rw [q, upd_self] at gIi0; cases gIi0
    rw [upd_ne Iio] at gIi0
    refine loop_walkG (Walks.range ok'.hh Ii 0 1 (row.length - i)) (fun i h st => ⟨_, st⟩) S2 (sn Ii (by omega)) (bn Ii (by omega)) st1 (fun b hb hne => absurd (by simpa using hb) hne)
      (fun j G m => ∃ G1 v2 kvs, G = upd G1 Io (.raw o) ∧ G1 Io = none ∧ G1 Ii = none ∧ LI G1 L d (some (.int ((i + 1 : Nat) : Int) t3)) v2 kvs ∧ Tab row kvs (i + 1) j ∧ kvs.length ≤ 20 * i + j ∧ m "row" = some (.ref lr) ∧ m "many" = some (.int row.length tm))
      ⟨G1, v2, kvs, rfl, gI, gIi0, li, tab, by omega, m1, m2⟩ ?_ ?_ ?_
    · rintro j G m ⟨G1, v2, kvs, rfl, gIo, gIi, _⟩
      exact ⟨by rw [upd_ne Iio]; exact gIi, fun b hb hne => absurd (by simpa using hb) hne⟩
    · rintro j v G m h₁₁ tk₁₁ o2 hj ⟨t5, rfl⟩ ⟨G1, v2, kvs, rfl, gIo, gIi, li, tab, kl, m1, m2⟩ S
      rw [show (0 : Int) + (j : Int) * 1 = (j : Int) from by omega]
      have offo := li.off gIo
      have offi := li.off gIi
      refine wpAny_assign_Name (stc (x := "left") (c := L + 1 + 1 + 1) (v₀ := v2) S (by rw [upd_ne offi.2.2.1.symm, upd_ne offo.2.2.1.symm]; exact li.c2) (bn _ (by omega)) fun h₁₂ tk₁₂ S => ?_)
      rw [upd_comm offi.2.2.1, upd_comm offo.2.2.1] at S
      have li2 := li.left (some (.int (j : Int) t5))
      have gIo2 : upd G1 (L + 1 + 1 + 1) (.cell (some (.int (j : Int) t5))) Io = none := by rw [upd_ne offo.2.2.1]; exact gIo
      have gIi2 : upd G1 (L + 1 + 1 + 1) (.cell (some (.int (j : Int) t5))) Ii = none := by rw [upd_ne offi.2.2.1]; exact gIi
      clear li gIo gIi
      revert S li2 gIo2 gIi2
      generalize upd G1 (L + 1 + 1 + 1) (.cell (some (.int (j : Int) t5))) = G2
      intro S li gIo gIi
      have offo := li.off gIo
      have offi := li.off gIi
      have lk : ∀ {c : Nat} {x : AO}, G2 c = some x → upd (upd G2 Io (.raw o)) Ii (.raw o2) c = some x := fun {c x} e => by
        rw [upd_ne (fun q => by rw [q, gIi] at e; cases e), upd_ne (fun q => by rw [q, gIo] at e; cases e)]; exact e
      have lo : ∀ (b : Nat) ob, s.heap.get? b = some ob → b < (L : Nat) → upd (upd G2 Io (.raw o)) Ii (.raw o2) b = none := fun b _ _ hb => by
        rw [upd_ne (neN' (by omega)), upd_ne (neN' (by omega))]; exact li.low b (by omega)
      have D0 : h₁₂.DictOf (intKind prog w) d kvs := S.own d _ (lk li.dd)
      have C0 : h₁₂.IsCell (L + 1) (some (.ref d)) := S.cell (lk li.c0)
      have C1 := S.cell (lk li.c1)
      have C2 := S.cell (lk li.c2)
      refine wpAny_execs_cons (compA (cl := [("length", L + 1 + 1), ("left", L + 1 + 1 + 1), ("cost", L + 1)]) (fun v y => ∃ k : Nat, 1 ≤ k ∧ k < i + 1 ∧ (∃ t, v = .int k t) ∧ ∃ t' u1 u2, y = .int (u1 + u2) t' ∧ Best ((row.drop j).take k) u1 ∧ Best ((row.drop (j + k)).take (i + 1 - k)) u2) S ?_)
      refine callT2 (T := "range") B S rfl rfl (by decide) (cI fun t6 _ => ldc (c := L + 1 + 1) C1 (mkRange2 fun tk₁₃ => ?_))
      refine rangeIt (n := i) (IsRange.new _ _ _ _ _ _ _) (by omega) (by omega) (by omega) (by omega) ?_
      refine ⟨_, _, _, _, i, _, _, rfl, rfl, ?_, ?_, walks_bound (Walks.range ok'.hh _ 1 1 i), by omega, ?_, ?_, ?_, ?_⟩
      · exact fun _ _ e => Heap.get?_push_of_some _ (Heap.get?_push_of_some _ e)
      · exact Heap.get?_none_of_le (by rw [Heap.size_push]; omega)
      · show IsRangeIter _ _ _ _ _
        rw [show (1 : Int) + ((0 : Nat) : Int) * 1 = 1 from by omega, show (i : Int) - ((0 : Nat) : Int) = i from by omega]
        exact Heap.get?_push_size _ rfl
      · intro b hb
        rw [List.mem_singleton.mp hb]
        exact Heap.lt_size (Heap.get?_push_size _ rfl)
      · intro s' C k' v h₁₄ tk₁₄ m₁₄ hP hm nC S14
        obtain ⟨hki, t7, hv⟩ := hP
        have ek : (1 : Int) + (k' : Int) * 1 = ((1 + k' : Nat) : Int) := by omega
        rw [ek] at hv
        subst hv
        have kp : Sub h₁₂ h₁₄ := fun b o e => S14.ext' nC b o rfl e
        have D14 := D0.keep kp
        have C014 := C0.keeps kp
        have C114 := C1.keeps kp
        have C214 := C2.keeps kp
        obtain ⟨u1, tu1, hu1, bu1⟩ := tab j (1 + k') (by omega) (by omega) (.inl (by omega))
        obtain ⟨u2, tu2, hu2, bu2⟩ := tab (j + (1 + k')) (i + 1 - (1 + k')) (by omega) (by omega) (.inl (by omega))
        have hu2' : valueAt kvs (((j : Int) + ((1 + k' : Nat) : Int)) * 99 + ((i + 1 : Nat) : Int) - ((1 + k' : Nat) : Int)) = some (.int u2 tu2) := by
          rw [← hu2]; congr 1; omega
        refine wpAny_BinOp (Subscript_ (ldc (c := L + 1) C014 ?_))
        refine wpAny_BinOp (wpAny_BinOp (ldc (c := L + 1 + 1 + 1) C214 (cI fun _ _ => mulI (.of_right (by decide)) fun _ _ => ldv S14 hm (addI fun _ _ => getI D14 hu1 fun tk => ?_))))
        refine Subscript_ (ldc (c := L + 1) C014 ?_)
        refine wpAny_BinOp (wpAny_BinOp (wpAny_BinOp (wpAny_BinOp (ldc (c := L + 1 + 1 + 1) C214 (ldv S14 hm (addI fun _ _ => cI fun _ _ => mulI (.of_right (by decide)) fun _ _ => ldc (c := L + 1 + 1) C114 (addI fun _ _ => ldv S14 hm (subI fun _ _ => getI D14 hu2' fun tk => ?_))))))))
        exact addI fun t8 tk => ⟨⟨1 + k', by omega, by omega, ⟨t7, rfl⟩, t8, u1, u2, rfl, bu1, bu2⟩, h₁₄, tk, rfl, Sub.refl _⟩
      · intro D h₁₅ tk₁₅ ys vs nD hD S15 hlen hP hF
        obtain ⟨ns, hns, hw⟩ := intsAre_of (P := fun jj n => ∃ u v, n = u + v ∧ Best ((row.drop j).take (jj + 1)) u ∧ Best ((row.drop (j + (jj + 1))).take (i + 1 - (jj + 1))) v) (fun jj y hy => by
          obtain ⟨x, hx, k, k1, k2, ⟨t, e⟩, t', u1, u2, rfl, b1, b2⟩ := Paired.get' hF jj y hy
          obtain ⟨hjj, t'', e'⟩ := hP jj x hx
          rw [e] at e'
          injection e' with e1 e2
          have : k = jj + 1 := by omega
          subst this
          exact ⟨_, _, rfl, u1, u2, rfl, b1, b2⟩)
        have hnl : ns.length = i := by rw [← hns.length, ← hF.length, hlen]
        have hyl : ys.length = i := by rw [← hF.length, hlen]
        have Dd : D ≠ d := fun q => by obtain ⟨_, _, _, ho, _⟩ := D0; rw [← q, nD] at ho; cases ho
        have lk15 : ∀ {c : Nat} {x : AO}, G2 c = some x → upd (upd (upd G2 Io (.raw o)) Ii (.raw o2)) D (.lst ys) c = some x := fun {c x} e => by
          rw [upd_ne (fun q => by obtain ⟨ob, ho⟩ := AO.Sat.some (S.own c x (lk e)); rw [q, nD] at ho; cases ho)]; exact lk e
        have sD : s.heap.get? D = none := none_of_sub (lowF S lo) nD
        have lo15 : ∀ (b : Nat) ob, s.heap.get? b = some ob → b < (L : Nat) → upd (upd (upd G2 Io (.raw o)) Ii (.raw o2)) D (.lst ys) b = none := fun b ob e hb => by
          rw [upd_ne (fun q => by rw [q, sD] at e; cases e)]; exact lo b ob e hb
        refine wpAny_execs_cons (wpAny_Assign_Subscript (wpAny_mono (Q := fun v s₁ => ∃ vv t h tk', v = .int vv t ∧ s₁ = At s h tk' ∧ Sub h₁₅ h ∧ Best ((row.drop j).take (i + 1)) vv) ?_ (fun v s₁ hv => ?_) fun _ _ e => e))
        · refine IfExp_ (isTrue_plain (ldv S15 rfl (truthyL hD (by omega) fun tk₁₆ => ?_)))
          by_cases hi0 : i = 0
          · have : ys = [] := List.length_eq_zero_iff.mp (by omega)
            subst this hi0
            rw [if_neg (by decide)]
            refine cI fun t tk => ⟨0, t, h₁₅, tk, rfl, rfl, Sub.refl _, ?_⟩
            have hjl : j < row.length := by omega
            have e1 : (row.drop j).take (0 + 1) = [row[j]] := by
              rw [List.drop_eq_getElem_cons hjl]; rfl
            rw [e1]
            exact Best.one _
          · have hne : (!ys.isEmpty) = true := by
              cases ys with
              | nil => simp at hyl; omega
              | cons _ _ => rfl
            rw [if_pos hne]
            refine wpAny_BinOp (callB1 (b := "min") B S15 rfl boot_min (by decide) (ldv S15 rfl (minL ok'.hh hD hns (by omega) fun mn t h₁₆ tk₁₆ sub16 hm hmin => ?_)))
            have S16 := S15.keep sub16
            refine callB1 (b := "sum") B S16 rfl boot_sum (by decide) ?_
            refine sliceL (l := lr) (xs := xs) (ldv S16 m1 ?_)
            refine ldc (c := L + 1 + 1 + 1) (S16.cell (lk15 li.c2)) ?_
            refine wpAny_BinOp (ldc (c := L + 1 + 1 + 1) (S16.cell (lk15 li.c2)) (ldc (c := L + 1 + 1) (S16.cell (lk15 li.c1)) (addI fun t9 tk₁₇ => ?_)))
            refine ⟨_, _, tk₁₇, rfl, rfl, rowK S16 lo15, by omega, .int _ _, .int _ _, fun D2 h₁₇ sub17 nD2 lD2 => ?_⟩
            have hints := kmk_run (x := (j : Int)) (y := (j : Int) + ((i + 1 : Nat) : Int)) hint (by omega) (by omega)
            rw [show min ((j : Int) + ((i + 1 : Nat) : Int)).toNat row.length - ((j : Int)).toNat = i + 1 from by omega, show ((j : Int)).toNat = j from by omega] at hints
            refine sumL ok'.hh lD2 hints (sumFits (fun x hx => hpos x (List.mem_of_mem_drop (List.mem_of_mem_take hx))) (by rw [List.length_take]; omega)) fun t10 h₁₈ tk₁₈ sub18 => addI fun t11 tk₁₉ => ?_
            exact ⟨_, t11, h₁₈, tk₁₉, rfl, rfl, sub16.trans (sub17.trans sub18), best_ways (by omega) (by omega) (by omega) hw hm hmin⟩
        · obtain ⟨vv, t, h₂₀, tk₂₀, rfl, rfl, sub20, bb⟩ := hv
          have S20 := S15.keep sub20
          refine ldc (c := L + 1) (S20.cell (lk15 li.c0)) (wpAny_BinOp (wpAny_BinOp (ldc (c := L + 1 + 1 + 1) (S20.cell (lk15 li.c2)) (cI fun _ _ => mulI (.of_right (by decide)) fun _ _ => ldc (c := L + 1 + 1) (S20.cell (lk15 li.c1)) (addI fun t12 _ => setI S20 (lk15 li.dd) (bn d (by omega)) (by omega) fun h₂₁ tk₂₁ S21 => ?_)))))
          rw [upd_comm Dd] at S21
          have fD : upd (upd (upd G2 Io (.raw o)) Ii (.raw o2)) d (.dI (stored kvs ((j : Int) * 99 + ((i + 1 : Nat) : Int)) (.int vv t))) D = none := by
            rw [upd_ne Dd]
            cases q : upd (upd G2 Io (.raw o)) Ii (.raw o2) D with
            | none => rfl
            | some x => obtain ⟨ob, ho⟩ := AO.Sat.some (S.own D x q); rw [nD] at ho; cases ho
          have S22 := S21.forget sD (none_of_sub S.bk nD) fD
          rw [upd_comm offi.2.2.2, upd_comm offo.2.2.2] at S22
          have slen := stored_length_le kvs ((j : Int) * 99 + ((i + 1 : Nat) : Int)) (Value.int vv t)
          refine wpAny_execs_nil ⟨rfl, upd (upd G2 d (.dI (stored kvs ((j : Int) * 99 + ((i + 1 : Nat) : Int)) (.int vv t)))) Io (.raw o), _, h₂₁, tk₂₁, rfl, ?_, S22⟩
          exact ⟨upd G2 d (.dI (stored kvs ((j : Int) * 99 + ((i + 1 : Nat) : Int)) (.int vv t))), some (.int (j : Int) t5), _, rfl, by rw [upd_ne offo.2.2.2]; exact gIo, by rw [upd_ne offi.2.2.2]; exact gIi, li.tab _, tab.step (by omega) (by omega) h10 bb, by omega, m1, m2⟩
    · rintro G m h₁₁ tk₁₁ ⟨G1, v2, kvs, rfl, gIo, gIi, li, tab, kl, m1, m2⟩ S
      exact wpAny_execs_nil ⟨rfl, G1, m, h₁₁, tk₁₁, rfl, ⟨_, v2, kvs, li, gIo, tab.next (by omega), by omega, m1, m2⟩, S⟩
  · rintro G m h₇ tk₇ ⟨v1, v2, kvs, li, gI, tab, kl, m1, m2⟩ S
    obtain ⟨v, t, hv, hb⟩ := tab 0 row.length h1 (by omega) (.inl (by omega))
    rw [show ((0 : Nat) : Int) * 99 + (row.length : Int) = row.length from by omega] at hv
    rw [List.drop_zero, List.take_length] at hb
    refine wpAny_execs_cons (wpAny_Return_some (Subscript_ (ldc (c := L + 1) (S.cell li.c0) (ldv S m2 (getI (S.own d _ li.dd) hv fun tk₈ => ?_)))))
    exact h h₇ tk₈ v t (lowF S fun b _ _ hb => li.low b (by omega)) hb
end
end Mine

namespace Mine
open PySem PySem.W PyProof.Rows PySem.Calls

section
variable {prog : Program} {w : World} {base h₀ hp : Heap} {F G : Addr → Option AO} {L a b d l I : Addr} {m : Str → Option Value} {A : Around} {E : Value → Shared → Prop} {s : Shared} {env : Env} {tk : Nat}

/-- the iterator of a list -/
theorem iterL {xs : List Value} {Q : Value → Shared → Prop} (hh : A.handled = none) (hl : hp.IsList l xs.toArray)
    (h : ∀ I h₂ tk₂ fp Wst, Sub hp h₂ → hp.get? I = none → Walks prog w A I fp [I] xs.length (fun i v => xs[i]? = some v) Wst → Wst 0 h₂ → (∀ b ∈ fp, b < h₂.objs.size) → Q (.ref I) (At s h₂ tk₂)) : wpAny (model prog w) A (pyIter (.ref l)) Q E (At s hp tk) := by
  have hlt : l < hp.objs.size := by obtain ⟨_, e, _⟩ := hl; exact Heap.lt_size e
  refine wpAny_pyIter_list (s := At s hp tk) hl ?_
  have W := Walks.list (prog := prog) (w := w) (A := A) hh hp.objs.size l (Nat.ne_of_lt hlt) xs.toArray
  rw [List.size_toArray] at W
  have W' : Walks prog w A hp.objs.size [hp.objs.size, l] [hp.objs.size] xs.length (fun i v => xs[i]? = some v) _ := { W with item := fun i s Q E hi st hQ => W.item i s Q E hi st (fun v h' tk hP => hQ v h' tk (by simpa using hP)) }
  refine h _ _ _ _ _ (fun _ _ e => Heap.get?_push_of_some _ e) (get_none_size _) W' ⟨⟨_, Heap.get?_push_size _ rfl, rfl, rfl⟩, hl.push _⟩ (fun b hb => ?_)
  show b < (hp.push _).objs.size
  rw [Heap.size_push]
  rcases List.mem_cons.mp hb with rfl | hb
  · exact Nat.lt_succ_self _
  · rcases List.mem_cons.mp hb with rfl | hb
    · exact Nat.lt_succ_of_lt hlt
    · cases hb

/-- a slice of any list -/
theorem sliceLI {value : Expr} {lower upper : Option Expr} {p pos : Pos} {xs : List Value} {Q : Value → Shared → Prop}
    (h : wpAny (model prog w) A (eval value env) (fun o s₁ => wpAny (model prog w) A (evalPart lower env) (fun vl s₂ => wpAny (model prog w) A (evalPart upper env) (fun vu s₃ => ∃ lo hi tk', o = .ref l ∧ s₃ = At s hp tk' ∧ hp.IsList l xs.toArray ∧ xs.length < 2 ^ 20 ∧ IsPart vl lo ∧ IsPart vu hi ∧
      ∀ D h', Sub hp h' → hp.get? D = none → LL h' D (slicePick xs.toArray lo hi none).toList → Q (.ref D) (At s h' tk')) E s₂) E s₁) E (At s hp tk))
    (ht : ∀ o r, letTemporaryGo value o r = pure () := by intro _ _; rfl) :
    wpAny (model prog w) A (eval (.Subscript value (.Slice lower upper none p) pos) env) Q E (At s hp tk) := by
  refine wpAny_Subscript_Slice slot_list_getitem.lookup (wpAny_mono h (fun o s₁ h₁ => wpAny_Slice (wpAny_mono h₁ (fun vl s₂ h₂ => wpAny_mono h₂ (fun vu s₃ h₃ => ?_) fun _ _ e => e) fun _ _ e => e)) fun _ _ e => e) ht
  obtain ⟨lo, hi, tk', rfl, rfl, hl, hn, pl, pu, hQ⟩ := h₃
  rw [evalPart_none]
  refine wpAny_pure ?_
  have s1 : Sub hp (hp.push { cls := .type "slice", data := .fields #[vl, vu, .none] }) := fun _ _ e => Heap.get?_push_of_some _ e
  have hl1 := hl.push { cls := .type "slice", data := .fields #[vl, vu, .none] }
  refine ⟨hl1.typeIs, ?_⟩
  refine wpAny_getItem_list_slice (st := none) hl1 (Heap.IsSliceOf.new _ _ _ _) pl pu .none (by simp) ?_ (by rw [sizeLine_eq]; simp; omega)
  exact hQ _ _ (s1.trans fun _ _ e => Heap.get?_push_of_some _ e) (none_of_sub s1 (get_none_size _)) ⟨0, PySem.IsL.new _ _⟩

theorem addL {xs ys : List Value} {Q : Value → Shared → Prop} (hl : LL hp a xs) (hb : LL hp b ys) (hn : xs.length + ys.length < 2 ^ 20)
    (h : ∀ D h', Sub hp h' → hp.get? D = none → LL h' D (xs ++ ys) → Q (.ref D) (At s h' tk)) : wpAny (model prog w) A (binaryOp .Add (.ref a) (.ref b)) Q E (At s hp tk) := by
  obtain ⟨n, hl⟩ := hl
  obtain ⟨k, hb⟩ := hb
  refine PySem.P.add_list (s := At s hp tk) hl hb (h _ _ (fun _ _ e => Heap.get?_push_of_some _ e) (get_none_size _) ⟨0, ?_⟩) (by rw [sizeLine_eq]; simp; omega)
  have : xs.toArray ++ ys.toArray = (xs ++ ys).toArray := by simp
  show (hp.push { cls := .type "list", data := .seq (xs.toArray ++ ys.toArray) }).get? hp.objs.size = some _
  rw [this]
  exact PySem.IsL.new _ _

theorem sortI {xs : List Value} {ns : List Int} {Q : Value → Shared → Prop} (hl : LL hp l xs) (hi : IntsAre xs ns) (h64 : xs.length < 64)
    (h : ∀ D h' ys ms, Sub hp h' → hp.get? D = none → LL h' D ys → IntsAre ys ms → ms.Perm ns → ms.Pairwise (· ≤ ·) → Q (.ref D) (At s h' tk)) : wpAny (model prog w) A (call (.builtin "sorted") [.ref l]) Q E (At s hp tk) := by
  refine sorted_ints (s := At s hp tk) hl.isList hi h64 fun out ns' a1 a2 a3 => ?_
  obtain ⟨e, he⟩ := sortedAll_at hp xs out
  exact h _ _ out.toList ns' (fun _ _ => sortedAll_old) (Heap.get?_none_of_le (Nat.le_succ _)) ⟨e, he⟩ a1 a2 a3
theorem sortS {xs : List Value} {ns : List Str} {Q : Value → Shared → Prop} (hl : LL hp l xs) (hi : StrsAre xs ns) (h64 : xs.length < 64)
    (h : ∀ D h' ys ms, Sub hp h' → hp.get? D = none → LL h' D ys → StrsAre ys ms → ms.Perm ns → sortedS ms = true → Q (.ref D) (At s h' tk)) : wpAny (model prog w) A (call (.builtin "sorted") [.ref l]) Q E (At s hp tk) := by
  refine sorted_strs (s := At s hp tk) hl.isList hi h64 fun out ns' a1 a2 a3 => ?_
  obtain ⟨e, he⟩ := sortedAll_at hp xs out
  exact h _ _ out.toList ns' (fun _ _ => sortedAll_old) (Heap.get?_none_of_le (Nat.le_succ _)) ⟨e, he⟩ a1 a2 a3

theorem strsAre_of {ys : List Value} {ss : List Str} (hl : ys.length = ss.length) (h : ∀ (j : Nat) y, ys[j]? = some y → ∃ k t, y = .str k t ∧ ss[j]? = some k) : StrsAre ys ss := by
  induction ys generalizing ss with
  | nil =>
    have : ss = [] := List.length_eq_zero_iff.mp hl.symm
    subst this
    exact .nil
  | cons y r ih =>
    cases ss with
    | nil => simp at hl
    | cons z rs =>
      obtain ⟨k, t, rfl, hk⟩ := h 0 y rfl
      simp at hk
      subst hk
      exact .cons _ t (ih (by simpa using hl) fun j v hv => by simpa using h (j + 1) v (by simpa using hv))

theorem sortD {kvs : List (Str × Value)} {Q : Value → Shared → Prop} (hh : A.handled = none) (hd : hp.DictOf (strKind prog w) d kvs) (d1 : d ≠ 1) (h64 : kvs.length < 64)
    (h : ∀ D h' tk' ys ms, Sub hp h' → hp.get? D = none → LL h' D ys → StrsAre ys ms → ms.Perm (kvs.map (·.1)) → sortedS ms = true → Q (.ref D) (At s h' tk')) : wpAny (model prog w) A (call (.builtin "sorted") [.ref d]) Q E (At s hp tk) := by
  obtain ⟨ep, hat⟩ := hd.dictAt
  refine call_function_entry kind_sorted plain_sorted entry_sorted (args_sorted1 _) ?_
  unfold Builtin.«sorted»
  refine wpAny_bind (m := checkCount "sorted" 1 1 _) (wpAny_pure ?_)
  refine wpAny_bind (kdu_collect (A := A.in1) (s := At s hp tk) (kdl_dict (knd := strKind prog w) (kvs := kvs) (ep := ep) (by simpa [sysModules] using d1)) hh hat (by rw [sizeLine_eq]; omega) fun h' tk' acc hk hacc => ?_)
  have hl : acc.toList.length = kvs.length := by rw [Array.length_toList]; exact hacc.1
  refine wpAny_bind (wpAny_newList ?_ (by rw [hl, sizeLine_eq]; omega))
  have hS : StrsAre acc.toList (kvs.map (·.1)) := strsAre_of (by rw [hl, List.length_map]) fun j y hy => by
    obtain ⟨k, x, hx, hk'⟩ := hacc.2 j y (by rw [← Array.getElem?_toList]; exact hy)
    obtain ⟨t, rfl⟩ := Value.isStrOf_shape hk'
    exact ⟨k, t, rfl, by rw [List.getElem?_map, hx]; rfl⟩
  have hoL : (h'.push (seqObj "list" acc.toList.toArray 0)).get? h'.objs.size = some (seqObj "list" acc.toList.toArray 0) := Heap.get?_push_size _ rfl
  refine wpAny_bind (wpAny_holding (wpAny_call_entry slot_list_sort ⟨_, hoL, rfl⟩ entry_list_sort (list_sort_treeK strKind_oneLt hoL hS.keysOf (fun v₁ v₂ rest e => keyKind_strs (by rw [← e]; exact hS)) (by rw [hl]; exact h64) fun st' hp' hs' => ⟨_, rfl, ?_⟩) (args_list_sort _)))
  refine wpAny_pure ⟨_, rfl, ?_⟩
  obtain ⟨ss', h1, h2, h3⟩ := sorted_out_str hS hp' hs'
  obtain ⟨e, he⟩ := sortedHeap_at (out := (arrOf st').map (·.2)) hoL
  have nD : hp.get? h'.objs.size = none := none_of_sub hk (get_none_size _)
  refine h _ _ _ _ ss' (fun b o eb => ?_) nD ⟨e, he⟩ h1 h2 h3
  have lt : b < h'.objs.size := Heap.lt_size (hk b o eb)
  rw [sortedHeap_old (Nat.ne_of_lt lt) (by rw [size_push']; exact Nat.lt_succ_of_lt lt), Heap.get?_push_ne _ _ _ (Nat.ne_of_lt lt)]
  exact hk b o eb
end

theorem pairwise_of_rising : ∀ (p : Str) (l : List Str), risingS p l = true → (p :: l).Pairwise (fun a b => ¬ b.cps.toList < a.cps.toList)
  | p, [], _ => by simp
  | p, x :: r, h => by
    have h' : (!PySem.Spec.ltCps x.cps.toList p.cps.toList && risingS x r) = true := h
    rw [Bool.and_eq_true] at h'
    have h1 : ¬ x.cps.toList < p.cps.toList := by
      have := h'.1
      rw [ltCps_eq] at this
      simpa using this
    have ih := pairwise_of_rising x r h'.2
    refine List.pairwise_cons.mpr ⟨fun y hy => ?_, ih⟩
    rcases List.mem_cons.mp hy with rfl | hy
    · exact h1
    · have h2 := (List.pairwise_cons.mp ih).1 y hy
      exact fun q => by
        -- y < p, not y < x, so x ≤ y < p
        have hxy : x.cps.toList ≤ y.cps.toList := h2
        exact h1 (List.lt_of_le_of_lt hxy q)
theorem str_sorted_unique : ∀ {a b : List Str}, a.Perm b → sortedS a = true → sortedS b = true → a = b := by
  have pw : ∀ l : List Str, sortedS l = true → l.Pairwise (fun a b => ¬ b.cps.toList < a.cps.toList) := fun l h => by
    cases l with
    | nil => exact .nil
    | cons x r => exact pairwise_of_rising x r h
  have ext : ∀ x y : Str, x.cps.toList = y.cps.toList → x = y := fun x y h => by
    cases x; cases y
    simp only [Str.mk.injEq]
    exact Array.toList_inj.mp h
  have main : ∀ (a b : List Str), a.Perm b → a.Pairwise (fun a b => ¬ b.cps.toList < a.cps.toList) → b.Pairwise (fun a b => ¬ b.cps.toList < a.cps.toList) → a = b := by
    intro a
    induction a with
    | nil => intro b p _ _; exact p.symm.eq_nil.symm
    | cons x r ih =>
      intro b p ha hb
      cases b with
      | nil => exact p.eq_nil
      | cons y t =>
        have e : x = y := by
          have h1 : ¬ y.cps.toList < x.cps.toList := by
            rcases List.mem_cons.mp (p.mem_iff.mpr (List.mem_cons_self (a := y))) with q | q
            · rw [q]; exact List.lt_irrefl _
            · exact (List.pairwise_cons.mp ha).1 y q
          have h2 : ¬ x.cps.toList < y.cps.toList := by
            rcases List.mem_cons.mp (p.mem_iff.mp (List.mem_cons_self (a := x))) with q | q
            · rw [q]; exact List.lt_irrefl _
            · exact (List.pairwise_cons.mp hb).1 x q
          exact ext x y (List.le_antisymm h1 h2)
        subst e
        rw [ih t (List.Perm.cons_inv p) (List.pairwise_cons.mp ha).2 (List.pairwise_cons.mp hb).2]
  exact fun {a b} p ha hb => main a b p (pw _ ha) (pw _ hb)
end Mine

namespace Mine
open PySem PySem.W PyProof.Rows PySem.Calls

section
variable {prog : Program} {w : World} {base h₀ hp : Heap} {F G : Addr → Option AO} {L a b d l I : Addr} {m : Str → Option Value} {A : Around} {E : Value → Shared → Prop} {s : Shared} {env : Env} {tk : Nat}

/-- two entries alike: != says no -/
theorem ne_tree {x y d1 d2 : Addr} {a1 a2 a3 a4 : Int} {t1 t2 t3 t4 u1 u2 u3 u4 : Tok} {P : PySem.Fin → Shared → Prop} (hx : IsTup s.heap x [.int a1 t1, .int a2 t2, .int a3 t3, .int a4 t4, .ref d1].toArray) (hy : IsTup s.heap y [.int a1 u1, .int a2 u2, .int a3 u3, .int a4 u4, .ref d2].toArray)
    (hd : ∀ Q : Bool → Shared → Prop, Q true s → wpAny (model prog w) A (eqBool (.ref d1) (.ref d2)) Q E s) (h : P (.done (.ret (.bool false))) s) : wpAny (model prog w) A (Builtin.«tuple.__ne__» ⟨[.ref x, .ref y], []⟩) P E s := by
  have hTb := hy.typeIs
  show wpAny _ _ (isInstance (.ref y) (.type "tuple") >>= _) _ _ s
  refine wpAny_bind (wpAny_isInstance hTb isSubtype_tuple_tuple ?_)
  simp only [Bool.not_true, Bool.false_eq_true, if_false]
  refine wpAny_bind (tupleItemsOf_ hx ?_)
  refine wpAny_bind (tupleItemsOf_ hy ?_)
  refine wpAny_bind ?_
  simp only [List.zip_cons_cons, List.zip_nil_right]
  rw [List.forIn_cons]
  refine wpAny_bind (wpAny_bind (wpAny_eqBool_int ?_))
  simp only [beq_self_eq_true, Bool.not_true, Bool.false_eq_true, if_false]
  refine wpAny_pure ?_
  simp only
  rw [List.forIn_cons]
  refine wpAny_bind (wpAny_bind (wpAny_eqBool_int ?_))
  simp only [beq_self_eq_true, Bool.not_true, Bool.false_eq_true, if_false]
  refine wpAny_pure ?_
  simp only
  rw [List.forIn_cons]
  refine wpAny_bind (wpAny_bind (wpAny_eqBool_int ?_))
  simp only [beq_self_eq_true, Bool.not_true, Bool.false_eq_true, if_false]
  refine wpAny_pure ?_
  simp only
  rw [List.forIn_cons]
  refine wpAny_bind (wpAny_bind (wpAny_eqBool_int ?_))
  simp only [beq_self_eq_true, Bool.not_true, Bool.false_eq_true, if_false]
  refine wpAny_pure ?_
  simp only
  rw [List.forIn_cons]
  refine wpAny_bind (wpAny_bind (hd _ ?_))
  simp only [Bool.not_true, Bool.false_eq_true, if_false]
  refine wpAny_pure ?_
  simp only
  rw [List.forIn_nil]
  refine wpAny_pure ?_
  exact wpAny_pure (by simpa [Builtin.Tuple.tupleCompareSizes] using h)

theorem neTup {x y d1 d2 : Addr} {a1 a2 a3 a4 : Int} {t1 t2 t3 t4 u1 u2 u3 u4 : Tok} {ka kb : List (Str × Value)} {Q : Value → Shared → Prop} (hx : IsTup hp x [.int a1 t1, .int a2 t2, .int a3 t3, .int a4 t4, .ref d1].toArray) (hy : IsTup hp y [.int a1 u1, .int a2 u2, .int a3 u3, .int a4 u4, .ref d2].toArray)
    (D1 : hp.DictOf (strKind prog w) d1 ka) (D2 : hp.DictOf (strKind prog w) d2 kb) (n1 : d1 ≠ 1) (n2 : d2 ≠ 1) (n12 : d1 ≠ d2) (hlen : ka.length = kb.length) (hits : ∀ A, KeqHits A (At s hp tk) kb ka true)
    (hu : A.units + 64 < cLine) (h : Q (.bool false) (At s hp tk)) : wpAny (model prog w) A (compareOp .NotEq (.ref x) (.ref y)) Q E (At s hp tk) := by
  have hx' : IsTup (At s hp tk).heap x [.int a1 t1, .int a2 t2, .int a3 t3, .int a4 t4, .ref d1].toArray := hx
  have hy' : IsTup (At s hp tk).heap y [.int a1 u1, .int a2 u2, .int a3 u3, .int a4 u4, .ref d2].toArray := hy
  show wpAny _ _ (richCompare .NotEq (.ref x) (.ref y)) _ _ _
  refine wpAny_richCompare_same_room hx'.typeIs hy'.typeIs PySem.F.slot_tuple_ne ?_ (by omega)
  refine wpAny_call_entry PySem.F.slot_tuple_ne hx'.typeIs PySem.F.entry_tuple_ne ?_ (PySem.F.args_tuple_ne_2 _ _)
  refine ne_tree hx' hy' (fun Q' hq => ?_) ⟨_, rfl, ⟨fun q => (by cases q), h⟩⟩
  unfold eqBool
  refine wpAny_holding ?_
  refine wpAny_ite_split (fun hab => absurd (by have := eq_of_beq hab; injection this) n12) (fun _ => ?_)
  refine wpAny_bind ?_
  have hu' : A.in1.units < cLine := by show A.units + 1 < cLine; omega
  refine keq_eq (A := A.in1) (s := At s hp tk) (knd := strKind prog w) (by simpa [sysModules] using n1) (by simpa [sysModules] using n2) D1 D2 hu' (fun _ => hits _) ?_
  rw [hlen]
  simp only [beq_self_eq_true, Bool.and_self]
  exact wpAny_truthy_bool hq

/-- two lists of the same words: != says no -/
theorem neStrs {x y : Addr} {xs ys : List Value} {ss : List Str} {Q : Value → Shared → Prop} (hx : LL hp x xs) (hy : LL hp y ys) (sx : StrsAre xs ss) (sy : StrsAre ys ss) (hu : A.units < cLine) (h : Q (.bool false) (At s hp tk)) :
    wpAny (model prog w) A (compareOp .NotEq (.ref x) (.ref y)) Q E (At s hp tk) := by
  have lx := sx.length
  have ly := sy.length
  have hx' : (At s hp tk).heap.IsList x xs.toArray := hx.isList
  have hy' : (At s hp tk).heap.IsList y ys.toArray := hy.isList
  have R := SeqAt.RcNeAt.lists (A := A) (e := fun _ => true) hx' hy' (by simp; omega) hu (fun j h1 h2 => by
    have j1 : j < xs.length := by simpa using h1
    have j2 : j < ys.length := by simpa using h2
    obtain ⟨k1, t1, e1, q1⟩ := StrsAre.item sx j xs[j] (List.getElem?_eq_getElem j1)
    obtain ⟨k2, t2, e2, q2⟩ := StrsAre.item sy j ys[j] (List.getElem?_eq_getElem j2)
    rw [q1] at q2
    cases q2
    simp only [List.getElem_toArray]
    rw [e1, e2]
    have := SeqAt.EqAt.str_str (A := A.in1) (s := At s hp tk) k1 t1 k1 t2
    simpa using this) prog w E Q
  refine R ?_
  have : (!(List.range xs.toArray.size).all fun _ => true) = false := by simp
  rw [this]
  exact h

/-- two ints alike: != says no -/
theorem neI {x y : Int} {t u : Tok} {Q : Value → Shared → Prop} (e : x = y) (h : Q (.bool false) (At s hp tk)) : wpAny (model prog w) A (compareOp .NotEq (.int x t) (.int y u)) Q E (At s hp tk) := by
  subst e
  exact PyProof.Rows.ne_int (by simpa using h)

/-- a dict comprehension with one name, as a value: words to ones -/
theorem compD {iter : Expr} {x : Str} {px pk pos : Pos} {vx : Expr} {scope : Scope} {xs : List Value} {ss : List Str} {Q : Value → Shared → Prop} (S : St prog w base h₀ F L hp m) (hh : A.handled = none) (hl : LL hp l xs) (hS : StrsAre xs ss) (hn : ss.length < 2 ^ 20) (nd : ss.Nodup)
    (hit : ∀ Q' : Value → Shared → Prop, Q' (.ref l) (At s hp tk) → wpAny (model prog w) A (eval iter env) Q' FF (At s hp tk))
    (hk : ∀ D h' tk' kvs, L < D → hp.get? D = none → Sub hp h' → h'.DictOf (strKind prog w) D kvs → kvs.map (·.1) = ss → (∀ p ∈ kvs, ∃ t, p.2 = .int 1 t) → Q (.ref D) (At s h' tk'))
    (hv : ∀ (C : Addr) (s₃ : Shared) (Q' : Value → Shared → Prop) (E' : Value → Shared → Prop), (∀ t tk', Q' (.int 1 t) { s₃ with toks := tk' }) → wpAny (model prog w) A (eval vx (compEnvC scope [] C env)) Q' E' s₃)
    (hclos : closureFor scope env = pure [] := by rfl) (hcell : ∀ y ∈ scope.names, y.2 ≠ .cell := by decide) (hkind : scope.kind = .function := by rfl)
    (hnames : ∀ y ∈ scope.names, y.2 = .local → scope.names.lookup y.1 = some .local := by decide) (hx : scope.names.lookup x = some .local := by rfl) (hs : ∀ x, foldedSetIterable iter env x = pure x := by intro _; rfl) (hd : (x == ("__debug__" : Str)) = false := by decide) :
    wpAny (model prog w) A (eval (.DictComp (.Name x pk) vx [⟨.Name x px, iter, [], 0⟩] scope pos) env) Q FF (At s hp tk) := by
  rw [arm_eval_DictComp]
  refine wpAny_comprehension_free (use := none) rfl hs hclos hkind hnames (hit _ (iterL hh hl.isList fun I h₂ tk₂ fp Wst sub nI W st hfp => ?_))
  refine wpAny_newObj_type (s := At s h₂ tk₂) (wpAny_newFunctionEnv hcell (by intro y hy; simp at hy) (fun h₃ hns sb => ?_) hkind)
  dsimp only at hns sb ⊢
  have hnew : (h₂.push { cls := .type "dict", dict := none, data := .dict #[] }).DictOf (strKind prog w) h₂.objs.size [] := Heap.DictOf.new h₂
  have hps : Sub h₂ (h₂.push { cls := .type "dict", dict := none, data := .dict #[] }) := fun _ _ e => Heap.get?_push_of_some _ e
  have hC : (h₂.push { cls := .type "dict", dict := none, data := .dict #[] }).objs.size = h₂.objs.size + 1 := Heap.size_push ..
  revert hns sb hnew hps hC
  generalize h₂.push { cls := .type "dict", dict := none, data := .dict #[] } = H2
  intro hns sb hnew hps hC
  have hDC : h₂.objs.size ≠ H2.objs.size := by rw [hC]; exact Nat.ne_of_lt (Nat.lt_succ_self _)
  have hDf : h₂.objs.size ∉ fp := fun q => Nat.lt_irrefl _ (hfp _ q)
  have hCf : H2.objs.size ∉ fp := fun q => by have := hfp _ q; rw [hC] at this; exact Nat.lt_irrefl _ (Nat.lt_of_succ_lt this)
  have ltb : ∀ b o, h₂.get? b = some o → b ≠ h₂.objs.size ∧ b ≠ H2.objs.size := fun b o e => ⟨Nat.ne_of_lt (Heap.lt_size e), by rw [hC]; exact Nat.ne_of_lt (Nat.lt_succ_of_lt (Heap.lt_size e))⟩
  have sub3 : Sub h₂ h₃ := fun b o e => sb.extBut b o (ltb b o e).2 (Heap.get?_push_of_some _ (hps b o e))
  have acc3 : h₃.DictOf (strKind prog w) h₂.objs.size [] := hnew.at fun o e => sb.extBut _ _ hDC (Heap.get?_push_of_some _ e)
  have st3 : Wst 0 h₃ := W.frame _ _ _ st fun b _ o e => sub3 b o e
  have LD : L < h₂.objs.size := (S.keep sub).ltL
  have loop : ∀ s₃ : Shared, s₃ = At s h₃ (tk₂ + ([] : List (Str × Value)).length) → codeAny (model prog w) A (.compLoop (.DictComp (.Name x pk) vx [⟨.Name x px, iter, [], 0⟩] scope pos) 0 (.ref I) (.ref h₂.objs.size) (compEnvC scope [] H2.objs.size env))
      (compPost (model prog w) A FF none Q (.ref h₂.objs.size) H2.objs.size) s₃ := ?loop
  · exact codeAny_compStart_dict (loop _ rfl) (W.self 0 _ _ _ st3 (loop _ rfl))
  rintro s₃ rfl
  refine codeAny_compLoop_walkD (s := At s h₃ _) (knd := strKind prog w) (cenv := compEnvC scope [] H2.objs.size env) W (fun _ => true) (fun v k => ∃ t, v = .str k t) (fun _ y => ∃ t, y = .int 1 t) (lookup_relabel_local hx) (by simp [compEnvC, relabel, hkind]) hDC hDf hCf st3 acc3 hns
    (fun i v s₃ m₃ hP hn hm hk => wpAny_pure ⟨rfl, s₃.heap, s₃.toks, rfl, fun _ _ e => e⟩) (fun i v s₃ m₃ hP _ hn hm hk => ?_) (fun i v s₃ m₃ hP _ hn hm hk => ?_) ?_ (by rw [sizeLine_eq, hS.length]; omega)
  · obtain ⟨k, t, rfl, _⟩ := StrsAre.item hS i v hP
    refine wpAny_Name (wpAny_loadName_local (by simp [compEnvC, relabel, hkind]) (lookup_relabel_local hx) hn hm ?_) hd
    exact ⟨⟨k, strKind_is prog w k t, t, rfl⟩, s₃.heap, s₃.toks, rfl, fun _ _ e => e⟩
  · exact hv _ s₃ _ _ fun t tk' => ⟨⟨t, rfl⟩, s₃.heap, tk', rfl, fun _ _ e => e⟩
  · intro h' tk' m' kvs vs hns' hD hlen hP hF hkeep
    rw [filter_true] at hF
    refine ⟨m', hns', fun h'' hs'' => ?_⟩
    replace hs'' : Heap.SameBut H2.objs.size h' h'' := hs''
    have hD'' : h''.DictOf (strKind prog w) h₂.objs.size kvs := hD.extBut hs''.extBut hDC
    have keep'' : Sub hp h'' := fun b o e => hs''.extBut b o (ltb b o (sub _ _ e)).2 (hkeep b o (ltb b o (sub _ _ e)).2 (by simp; rintro rfl; rw [nI] at e; cases e) (ltb b o (sub _ _ e)).1 (sub3 _ _ (sub _ _ e)))
    have ev : vs = xs := by
      apply List.ext_getElem?
      intro j
      cases e : vs[j]? with
      | some v => exact (hP j v e).symm
      | none =>
        have : xs.length ≤ j := by rw [← hlen]; exact List.getElem?_eq_none_iff.mp e
        exact (List.getElem?_eq_none_iff.mpr this).symm
    subst ev
    have key : ∀ (l : List Value) (kvs : List (Str × Value)), StoredAll (fun v k => ∃ t, v = .str k t) (fun _ y => ∃ t, y = .int 1 t) l kvs → ∀ ss : List Str, StrsAre l ss → ss.Nodup → kvs.map (·.1) = ss ∧ ∀ p ∈ kvs, ∃ t, p.2 = .int 1 t := by
      intro l kvs hA
      induction hA with
      | nil => intro ss hs _; cases hs; exact ⟨rfl, by simp⟩
      | @snoc l kvs v k y _ hk hy ih =>
        intro ss hs hnd
        obtain ⟨t, rfl⟩ := hk
        have hl2 : (l ++ [Value.str k t]).length = ss.length := hs.length
        have hsplit : ∃ s0, ss = s0 ++ [k] ∧ StrsAre l s0 := by
          have hne : l.length < ss.length := by simp at hl2; omega
          refine ⟨ss.take l.length, ?_, ?_⟩
          · obtain ⟨k', t', e1, e2⟩ := StrsAre.item hs l.length (.str k t) (by simp)
            cases e1
            have : ss = ss.take (l.length + 1) := by rw [List.take_of_length_le]; simp at hl2; omega
            conv => lhs; rw [this, List.take_add_one, e2]
            rfl
          · refine strsAre_of (by rw [List.length_take]; omega) fun j z hz => ?_
            have hj : j < l.length := (List.getElem?_eq_some_iff.mp hz).1
            obtain ⟨k', t', e1, e2⟩ := StrsAre.item hs j z (by rw [List.getElem?_append_left hj]; exact hz)
            exact ⟨k', t', e1, by rw [List.getElem?_take_of_lt hj]; exact e2⟩
        obtain ⟨s0, rfl, hs0⟩ := hsplit
        rw [List.nodup_append] at hnd
        obtain ⟨i1, i2⟩ := ih s0 hs0 hnd.1
        have knot : k ∉ kvs.map (·.1) := by rw [i1]; exact fun q => hnd.2.2 k q k (by simp) rfl
        have est : stored kvs k y = kvs ++ [(k, y)] := by
          unfold stored
          rw [if_neg]
          simp only [List.any_eq_true, decide_eq_true_eq, not_exists, not_and]
          intro p hp e
          exact knot (by rw [← e]; exact List.mem_map_of_mem hp)
        rw [est]
        refine ⟨by rw [List.map_append, i1]; rfl, fun p hp => ?_⟩
        rcases List.mem_append.mp hp with q | q
        · exact i2 p q
        · rw [List.mem_singleton.mp q]; exact hy
    obtain ⟨k1, k2⟩ := key _ _ hF ss hS nd
    exact hk _ h'' tk' kvs LD (none_of_sub sub (get_none_size _)) keep'' hD'' k1 k2
end
end Mine

namespace Mine
open PySem PySem.W PyProof.Rows PySem.Calls

section
variable {prog : Program} {w : World} {base h₀ hp : Heap} {F G : Addr → Option AO} {L a b d l I D : Addr} {m : Str → Option Value} {A : Around} {E : Value → Shared → Prop} {s : Shared} {env : Env} {tk : Nat} {x y : AO}

theorem St.know' {h : Heap} (S : St prog w base h₀ F L h m) (hx : x.Sat prog w h a) (hL : L ≠ a) : St prog w base h₀ (upd F a x) L h m where
  ns := S.ns
  bk := S.bk
  ext := fun b o f g e => by
    by_cases q : b = a
    · subst q; rw [upd_self] at f; cases f
    · rw [upd_ne q] at f; exact S.ext b o f g e
  own := fun b y f => by
    by_cases q : b = a
    · subst q; rw [upd_self] at f; cases f; exact hx
    · rw [upd_ne q] at f; exact S.own b y f
  nF := by rw [upd_ne hL]; exact S.nF
  nb := S.nb

/-- what was known stays known when a new object comes -/
theorem keepF {h : Heap} (S : St prog w base h₀ F L h m) (nD : h.get? D = none) {c : Addr} (e : F c = some y) : upd F D x c = some y := by
  rw [upd_ne (fun q => by obtain ⟨o, ho⟩ := (S.own c y e).some; rw [q, nD] at ho; cases ho)]; exact e

/-- a store by unpacking a list -/
theorem unpackL {elts : List Expr} {x1 : Nat} {pos : Pos} {t : Addr} {xs : List Value} {Q : Unit → Shared → Prop} (hh : A.handled = none) (S : St prog w base h₀ F L hp m) (ht : LL hp t xs)
    (hn : (assignEach elts env).length = xs.length) (hstar : (assignEach elts env).findIdx? (·.1) = none)
    (h : ∀ h', St prog w base h₀ F L h' m → wpAny (model prog w) A (assignInOrder ((assignEach elts env).map (·.2)) xs) Q E (At s h' tk)) :
    wpAny (model prog w) A (assign (.Tuple elts x1 pos) env (.ref t)) Q E (At s hp tk) := by
  rw [assign_Tuple]
  refine wpAny_bind (wpAny_standAt ?_)
  unfold unpack
  rw [show (assignEach elts env).length = xs.toArray.size from by simpa using hn, hstar]
  refine wpAny_bind (wpAny_holding (kun_itemsOf (s := At s hp tk) hh ht.isList fun h' hx => ?_))
  exact h h' (S.keep fun b o e => hx b o (Nat.ne_of_lt (Heap.lt_size e)) e)

theorem nm_len (k : Nat) (hk : k < 2 ^ 20) : (Str.ofString "work ").length + (Str.ofString (toString (k : Int))).length ≤ 2 ^ 21 := by
  have := dig_len k hk
  have e2 : (Str.ofString "work ").length = 5 := by decide
  omega

/-- what law keeps in the heap -/
structure Wld (prog : Program) (w : World) (h : Heap) (W D aw al dw dl : Addr) (wv : List Value) (tw tl : List Value) (kw kl : List (Str × Value)) : Prop where
  lW : LL h W wv
  lD : LL h D [.ref aw, .ref al]
  tw : IsTup h aw tw.toArray
  tl : IsTup h al tl.toArray
  dw : h.DictOf (strKind prog w) dw kw
  dl : h.DictOf (strKind prog w) dl kl

theorem tup_ne_cell {h : Heap} {c : Addr} {v : Option Value} {xs : List Value} (t : IsTup h a xs.toArray) (k : h.IsCell c v) : a ≠ c := by
  rintro rfl
  obtain ⟨o, ho, hc, n, hd⟩ := t
  obtain ⟨o', ho', hd'⟩ := k
  rw [ho] at ho'; cases ho'
  rw [hd] at hd'; cases hd'

theorem mkRange1s {n : Int} {t : Tok} {Q : Value → Shared → Prop} (h : ∀ r h' tk', Sub hp h' → (∃ t u v, IsRange h' r 0 n 1 t u v) → Q (.ref r) (At s h' tk')) : wpAny (model prog w) A (call (.type "range") [.int n t]) Q E (At s hp tk) :=
  call_range_1 (s := At s hp tk) (h _ _ _ (fun _ _ e => Heap.get?_push_of_some _ e) ⟨_, _, _, IsRange.new _ _ _ _ _ _ _⟩)

theorem fo_new {h₁ h : Heap} {c1 c2 : Addr} (S : St prog w base h₁ F L h m) (fo : ∀ b o, h₁.get? b = some o → b ≠ c1 → b ≠ c2 → F b = none) (nD : h.get? D = none) : ∀ b o, h₁.get? b = some o → b ≠ c1 → b ≠ c2 → upd F D x b = none := by
  intro b o e q1 q2
  rw [upd_ne]
  · exact fo b o e q1 q2
  · intro q
    by_cases hL : b = L
    · obtain ⟨ol, _, _, e2, _⟩ := S.ns; rw [← hL, q, nD] at e2; cases e2
    · have := S.ext b o (fo b o e q1 q2) hL e
      rw [q, nD] at this; cases this

theorem look_of_mem : ∀ {cs : Cs}, (keys cs).Nodup → ∀ p ∈ cs, look cs p.1 = some p.2
  | [], _, p, hp => by simp at hp
  | q :: r, hn, p, hp => by
    unfold keys at hn
    rw [List.map_cons, List.nodup_cons] at hn
    rcases List.mem_cons.mp hp with rfl | hp
    · simp [look]
    · have : ¬ q.1 = p.1 := fun e => hn.1 (by rw [e]; exact List.mem_map_of_mem hp)
      have ih := look_of_mem (cs := r) hn.2 p hp
      unfold look at ih ⊢
      simp only [List.find?_cons, this, decide_false]
      exact ih

theorem valueAt_one {kb : List (Str × Value)} (h : ∀ p ∈ kb, ∃ t, p.2 = Value.int 1 t) {k : Str} (hk : k ∈ kb.map (·.1)) : ∃ t, valueAt kb k = some (.int 1 t) := by
  unfold valueAt
  cases e : kb.find? (fun kv => decide (kv.1 = k)) with
  | none =>
    obtain ⟨p, hp, rfl⟩ := List.mem_map.mp hk
    have := List.find?_eq_none.mp e p hp
    simp at this
  | some q =>
    obtain ⟨t, ht⟩ := h q (List.mem_of_find?_eq_some e)
    exact ⟨t, by rw [← ht]; rfl⟩

theorem hits_of {ka kb : List (Str × Value)} {cs : Cs} (cv : CV ka cs) : (∀ p ∈ cs, p.2 = 1) → (∀ k ∈ keys cs, ∃ t, valueAt kb k = some (.int 1 t)) → ∀ (A : Around) (s : Shared), KeqHits A s kb ka true := by
  induction cv with
  | nil => intro _ _ A s; exact .nil
  | cons k n t _ ih =>
    intro h1 h2 A s
    have e : n = 1 := h1 (k, n) (by simp)
    subst e
    obtain ⟨u, hu⟩ := h2 k (by simp [keys])
    have := KeqHits.hit (A := A) (s := s) (v := .int 1 t) hu (SeqAt.EqAt.int_int 1 t 1 u) (ih (fun p hp => h1 p (by simp [hp])) (fun q hq => h2 q (by unfold keys at hq ⊢; simp at hq ⊢; exact .inr hq)) A s)
    exact this

theorem intsAre_eq {ys : List Value} {ns : List Int} (hl : ys.length = ns.length) (h : ∀ (j : Nat) y, ys[j]? = some y → ∃ n t, y = .int n t ∧ ns[j]? = some n) : IntsAre ys ns := by
  induction ys generalizing ns with
  | nil =>
    have : ns = [] := List.length_eq_zero_iff.mp hl.symm
    subst this
    exact .nil
  | cons y r ih =>
    cases ns with
    | nil => simp at hl
    | cons z rs =>
      obtain ⟨k, t, rfl, hk⟩ := h 0 y rfl
      simp at hk
      subst hk
      exact .cons _ t (ih (by simpa using hl) fun j v hv => by simpa using h (j + 1) v (by simpa using hv))

theorem sumFits' {ps : List (Int × Nat)} (h : ∀ p ∈ ps, 0 ≤ p.1 ∧ p.1 ≤ 2 ^ 30 ∧ p.2 ≤ 10) (hn : ps.length ≤ 2 ^ 10) : PySem.SumFits (ps.map fun p => p.1 * (p.2 : Int)) :=
  sumFits (fun x hx => by
    obtain ⟨p, hp, rfl⟩ := List.mem_map.mp hx
    obtain ⟨a, b, c⟩ := h p hp
    refine ⟨Int.mul_nonneg a (by omega), ?_⟩
    have : p.1 * (p.2 : Int) ≤ 2 ^ 30 * 10 := Int.mul_le_mul b (by omega) (by omega) (by decide)
    omega) (by rw [List.length_map]; exact hn)
theorem zipApart {n l1 l2 : Nat} (h1 : l1 < n) (h2 : l2 < n) : ZipApart (n + 4) (n + 2) (n + 3) n (n + 1) l1 l2 := by
  constructor <;> (refine neN' ?_; omega)
theorem small_bits : ∀ d : Nat, d < 11 → Builtin.Int.intBits (d : Int) ≤ 64 := by decide
theorem pow_small : ∀ d : Nat, d < 11 → (2 : Int) ^ d ≤ 2 ^ 40 := by decide
theorem kr_int (n : Nat) : ∀ ds : List Nat, (∀ d ∈ ds, d ≤ n) → (ds.map fun d : Nat => (2 : Int) ^ ((n : Int) - (d : Int)).toNat).sum = ((kr n ds : Nat) : Int)
  | [], _ => rfl
  | d :: r, h => by
    rw [kr_cons, List.map_cons, List.sum_cons, kr_int n r (fun x hx => h x (by simp [hx]))]
    have hd := h d (by simp)
    rw [show ((n : Int) - (d : Int)).toNat = n - d from by omega, Int.natCast_add]
    congr 1

theorem lawCall {R : Result → Shared → Prop} {ls : Addr} {xs : List Value} {script : List Int}
    (B : Bs w base) (hk : Sub base s.heap) (hbs : base.objs.size ≤ s.heap.objs.size) (ok : Ok A 7) (hl : s.heap.IsList ls xs.toArray) (hint : IntsAre xs script) (hn : script.length < 2 ^ 20)
    (h : ∀ h' tk, Sub s.heap h' → R (.ok (.ret (.bool true))) (At s h' tk)) :
    codeAny (model prog w) A (.call (.ref 85) ⟨[.ref ls], []⟩) R s := by
  refine enterC [("script", .ref ls)] B hk ok rfl rfl rfl rfl (fun L h₁ tk A' eL ok' S₀ hc => ?_)
  have S₁ : St prog w base s.heap none' L h₁ (fun y => if y = "script" then some (.ref ls) else none) := S₀
  clear S₀
  obtain ⟨v0, k0⟩ := hc "many" (L + 1) rfl
  obtain ⟨v1, k1⟩ := hc "log" (L + 1 + 1) rfl
  have n0 : s.heap.get? L = none := eL ▸ get_none_size _
  have sn : ∀ b : Nat, (L : Nat) ≤ b → s.heap.get? b = none := fun b hb => Heap.get?_none_of_le (eL ▸ hb)
  have bn : ∀ b : Nat, (L : Nat) ≤ b → base.get? b = none := fun b hb => none_of_sub hk (sn b hb)
  have hxl : xs.length = script.length := hint.length
  have hs1 : h₁.IsList ls xs.toArray := by
    obtain ⟨o, ho, r⟩ := hl
    exact ⟨o, S₁.ext' n0 _ _ rfl ho, r⟩
  -- weights
  refine wpAny_execs_cons (wpAny_Assign_Name (wpAny_BinOp ?_))
  refine compN (cl := []) (fun v y => ∃ n t u, v = .int n t ∧ y = .int (n.fmod 30) u) S₁ ?_
  refine sliceLI (l := ls) (xs := xs) (ldv S₁ rfl ?_)
  rw [evalPart_none]
  refine wpAny_pure ?_
  rw [evalPart_some]
  refine cI fun t1 tk1 => ⟨none, some 7, tk1, rfl, rfl, hs1, by omega, .none, .int _ _, fun D1 h₂ sub2 nD1 lD1 => ?_⟩
  have hpick := kmk_upto (y := 7) hint (by omega)
  refine iterL ok'.hh lD1.isList fun I h₃ tk3 fp Wst sub3 nI W st hfp => ?_
  refine ⟨I, h₃, tk3, fp, _, _, Wst, rfl, rfl, sub2.trans sub3, none_of_sub sub2 nI, W, ?_, st, hfp, ?_, ?_⟩
  · rw [hpick.length, List.length_take]; omega
  · intro s' C i v h₄ tk4 m₄ hP hm nC S4
    obtain ⟨n, t, rfl, _⟩ := hpick.at i v hP
    exact wpAny_BinOp (ldv S4 hm (cI fun _ _ => fmodI (by decide) fun u tk5 => ⟨⟨n, t, u, rfl, rfl⟩, h₄, tk5, rfl, Sub.refl _⟩))
  intro D2 h₅ tk5 ys vs nD2 sub5 lD2 S5 hlen hP hF
  obtain ⟨w7, hw7, b7⟩ := intsAre_of (ys := ys) (P := fun _ n => 0 ≤ n ∧ n ≤ 2 ^ 30) (fun j y hy => by
    obtain ⟨x, hx, n, t, u, rfl, rfl⟩ := Paired.get' hF j y hy
    exact ⟨_, _, rfl, by have := Int.fmod_nonneg_of_pos n (show (0 : Int) < 30 by decide); have := Int.fmod_lt_of_pos n (show (0 : Int) < 30 by decide); omega⟩)
  have l7 : w7.length ≤ 7 := by rw [← hw7.length, ← hF.length, hlen, hpick.length, List.length_take]; omega
  refine List_ (args_cons (cI fun u1 _ => args_cons (cI fun u2 _ => args_cons (cI fun u3 tk6 => args_nil (mkList S5 (by simp) fun t h₆ Lt Ft bt sub6 nt lt S6 => ?_)))))
  refine addL (s := s) (lD2.of_ext fun o e => sub6 _ _ e) lt (by have := hw7.length; simp; omega) fun W h₇ sub7 nW lW => ?_
  have hws : IntsAre (ys ++ [.int 5 u1, .int 2 u2, .int 9 u3]) (w7 ++ [5, 2, 9]) := hw7.append (.cons _ _ (.cons _ _ (.cons _ _ .nil)))
  have bws0 : ∀ x ∈ w7 ++ [5, 2, 9], 0 ≤ x ∧ x ≤ 2 ^ 30 := by
    intro x hx
    rcases List.mem_append.mp hx with q | q
    · obtain ⟨j, hj⟩ := List.getElem?_of_mem q
      exact b7 j x hj
    · simp at q; omega
  have lws : 3 ≤ (w7 ++ [5, 2, 9]).length ∧ (w7 ++ [5, 2, 9]).length ≤ 10 := by simp; omega
  revert hws bws0 lws lW
  generalize ys ++ [.int 5 u1, .int 2 u2, .int 9 u3] = wv
  generalize w7 ++ [5, 2, 9] = ws
  intro lW hws bws0 lws
  have bws : ∀ x ∈ ws, 0 ≤ x ∧ x ≤ 2 ^ 40 := fun x hx => by have := bws0 x hx; omega
  have sub17 : Sub h₁ h₇ := sub5.trans (sub6.trans sub7)
  have nW1 : h₁.get? W = none := none_of_sub (sub5.trans sub6) nW
  have LW : L ≠ W := fun q => by obtain ⟨o, _, _, e, _⟩ := S₁.ns; rw [q, nW1] at e; cases e
  have S7 := (((S₁.keep sub17).know' (x := .cell v0) (a := L + 1) (k0.keeps sub17) (neN' (by omega))).know' (x := .cell v1) (a := L + 1 + 1) (k1.keeps sub17) (neN' (by omega))).know' (x := .lst wv) (a := W) lW LW
  have W1 : L + 1 ≠ W := fun q => by obtain ⟨o, ho, _⟩ := k0; rw [q, nW1] at ho; cases ho
  have W2 : L + 1 + 1 ≠ W := fun q => by obtain ⟨o, ho, _⟩ := k1; rw [q, nW1] at ho; cases ho
  have fm : upd (upd (upd none' (L + 1) (.cell v0)) (L + 1 + 1) (.cell v1)) W (.lst wv) (L + 1) = some (.cell v0) := by rw [upd_ne W1, upd_ne (neN' (by omega)), upd_self]
  have fl : upd (upd (upd none' (L + 1) (.cell v0)) (L + 1 + 1) (.cell v1)) W (.lst wv) (L + 1 + 1) = some (.cell v1) := by rw [upd_ne W2, upd_self]
  have fW : upd (upd (upd none' (L + 1) (.cell v0)) (L + 1 + 1) (.cell v1)) W (.lst wv) W = some (.lst wv) := upd_self _ _ _
  have fo : ∀ b o, s.heap.get? b = some o → upd (upd (upd none' (L + 1) (.cell v0)) (L + 1 + 1) (.cell v1)) W (.lst wv) b = none := fun b o e => by
    rw [upd_ne (fun q => by have := S₁.ext' n0 b o rfl e; rw [q, nW1] at this; cases this), upd_ne (fun q => by rw [q, sn _ (by omega)] at e; cases e), upd_ne (fun q => by rw [q, sn _ (by omega)] at e; cases e)]; rfl
  revert S7 fm fl fW fo
  generalize upd (upd (upd none' (L + 1) (.cell v0)) (L + 1 + 1) (.cell v1)) W (.lst wv) = F0
  intro S7 fm fl fW fo
  refine stv S7 fun h₈ tk8 S8 => ?_
  -- many
  have wl : wv.length = ws.length := hws.length
  refine wpAny_execs_cons (wpAny_Assign_Name (lenL (xs := wv) B S8 (ldv S8 rfl ⟨_, rfl, rfl, S8.lst fW, by omega, fun tm tk9 => stc (x := "many") (c := L + 1) S8 fm (bn _ (by omega)) fun h₉ tk9 S9 => ?_⟩)))
  rw [wl] at S9
  have W1' : W ≠ L + 1 := Ne.symm W1
  have fW9 : upd F0 (L + 1) (.cell (some (.int ws.length tm))) W = some (.lst wv) := by rw [upd_ne W1']; exact fW
  have fl9 : upd F0 (L + 1) (.cell (some (.int ws.length tm))) (L + 1 + 1) = some (.cell v1) := by rw [upd_ne (neN' (by omega))]; exact fl
  have fo9 : ∀ b o, s.heap.get? b = some o → upd F0 (L + 1) (.cell (some (.int ws.length tm))) b = none := fun b o e => by
    rw [upd_ne (fun q => by rw [q, sn _ (by omega)] at e; cases e)]; exact fo b o e
  -- told
  refine wpAny_execs_cons (wpAny_Assign_Name (callD B S9 rfl rfl (args_cons (ldv S9 rfl (args_nil ⟨S9.bk, ?_⟩)))))
  have Llt9 : (L : Nat) < h₉.objs.size := S9.ltL
  refine lawAdded (s := At s h₉ tk9) (ws := ws) B S9.bk (Nat.le_trans hbs (by rw [eL]; exact Nat.le_of_lt Llt9)) (ok'.le (by omega)) (S9.lst fW9) hws (by omega) (by omega) (fun x hx => (bws x hx).1) (fun h₁₀ tk10 D aw al ew el sub10 nD lD iw il mrg => ?_)
  obtain ⟨a1, a2, a3, a4, dw, tw10, ⟨kw, dw10, cvw⟩, ldw⟩ := iw
  obtain ⟨b1, b2, b3, b4, dl, tl10, ⟨kl, dl10, cvl⟩, ldl⟩ := il
  replace nD : h₉.get? D = none := nD
  replace sub10 : Sub h₉ h₁₀ := sub10
  replace ldw : h₉.objs.size ≤ dw := ldw
  replace ldl : h₉.objs.size ≤ dl := ldl
  obtain ⟨ds, LA⟩ := laws mrg (by omega) (by omega)
  have c1 : h₁₀.IsCell (L + 1) (some (.int ws.length tm)) := (S9.cell (upd_self _ _ _)).keeps sub10
  have c2 : h₁₀.IsCell (L + 1 + 1) v1 := (S9.cell fl9).keeps sub10
  have c19 := Heap.IsCell.lt (S9.cell (upd_self _ _ _))
  have c29 := Heap.IsCell.lt (S9.cell fl9)
  have sh9 : Sub s.heap h₉ := fun b o e => S9.ext' n0 b o (fo9 b o e) e
  have sh10 : Sub s.heap h₁₀ := sh9.trans sub10
  have S10 := (((S9.keep sub10).rebase.know' (x := .cell (some (.int ws.length tm))) (a := L + 1) c1 (neN' (by omega))).know' (x := .cell v1) (a := L + 1 + 1) c2 (neN' (by omega)))
  have lW10 : LL h₁₀ W wv := (S9.lst fW9).of_ext fun o e => sub10 _ _ e
  have Dne : L ≠ D ∧ L + 1 ≠ D ∧ L + 1 + 1 ≠ D := by
    refine ⟨fun q => ?_, fun q => ?_, fun q => ?_⟩
    · obtain ⟨o, _, _, e, _⟩ := S9.ns; rw [q, nD] at e; cases e
    · obtain ⟨o, ho, _⟩ := S9.cell (upd_self _ _ _); rw [q, nD] at ho; cases ho
    · obtain ⟨o, ho, _⟩ := S9.cell fl9; rw [q, nD] at ho; cases ho
  have wk : ∀ {F : Addr → Option AO} {h : Heap} {m}, St prog w base h₁₀ F L h m → (∀ b o, h₁₀.get? b = some o → b ≠ L + 1 → b ≠ L + 1 + 1 → F b = none) →
      Wld prog w h W D aw al dw dl wv [.int ew.cc a1, .int ew.nc a2, .int ew.tt a3, .int ew.ct a4, .ref dw] [.int el.cc b1, .int el.nc b2, .int el.tt b3, .int el.ct b4, .ref dl] kw kl := by
    intro F h m S fo
    have kp : ∀ b, b ≠ L → b ≠ L + 1 → b ≠ L + 1 + 1 → ∀ o, h₁₀.get? b = some o → h.get? b = some o := fun b q0 q1 q2 o e => S.ext b o (fo b o e q1 q2) q0 e
    have big : ∀ b : Nat, h₉.objs.size ≤ b → b ≠ L ∧ b ≠ L + 1 ∧ b ≠ L + 1 + 1 := by
      intro b hb
      refine ⟨fun q => ?_, fun q => ?_, fun q => ?_⟩
      · rw [q] at hb; exact absurd Llt9 (Nat.not_lt.mpr hb)
      · rw [q] at hb; exact absurd c19 (Nat.not_lt.mpr hb)
      · rw [q] at hb; exact absurd c29 (Nat.not_lt.mpr hb)
    exact ⟨lW10.of_ext (kp W (Ne.symm LW) W1' (Ne.symm W2)), lD.of_ext (kp D (Ne.symm Dne.1) (Ne.symm Dne.2.1) (Ne.symm Dne.2.2)),
      tup_restrict tw10 (kp aw (tup_ne_L tw10 S10.ns) (tup_ne_cell tw10 c1) (tup_ne_cell tw10 c2)), tup_restrict tl10 (kp al (tup_ne_L tl10 S10.ns) (tup_ne_cell tl10 c1) (tup_ne_cell tl10 c2)),
      DictOf.restrict dw10 (kp dw (big _ ldw).1 (big _ ldw).2.1 (big _ ldw).2.2), DictOf.restrict dl10 (kp dl (big _ ldl).1 (big _ ldl).2.1 (big _ ldl).2.2)⟩
  have fm10 : upd (upd none' (L + 1) (.cell (some (.int ws.length tm)))) (L + 1 + 1) (.cell v1) (L + 1) = some (.cell (some (.int ws.length tm))) := by rw [upd_ne (neN' (by omega)), upd_self]
  have fl10 : upd (upd none' (L + 1) (.cell (some (.int ws.length tm)))) (L + 1 + 1) (.cell v1) (L + 1 + 1) = some (.cell v1) := upd_self _ _ _
  have fo10 : ∀ b o, h₁₀.get? b = some o → b ≠ L + 1 → b ≠ L + 1 + 1 → upd (upd none' (L + 1) (.cell (some (.int ws.length tm)))) (L + 1 + 1) (.cell v1) b = none := fun b o _ q1 q2 => by rw [upd_ne q2, upd_ne q1]; rfl
  revert S10 fm10 fl10 fo10
  generalize upd (upd none' (L + 1) (.cell (some (.int ws.length tm)))) (L + 1 + 1) (.cell v1) = F1
  intro S10 fm fl fo
  refine stv S10 fun h₁₁ tk11 S11 => ?_
  -- len(told) != 2
  refine wpAny_execs_cons (wpAny_If (wpAny_isTrue_Compare1 (lenL (xs := [.ref aw, .ref al]) B S11 (ldv S11 rfl ⟨_, rfl, rfl, (wk S11 fo).lD, by simp, fun _ _ => cI fun _ _ => neI rfl (wpAny_truthy_bool ?_)⟩))))
  rw [if_neg (by decide)]
  refine wpAny_execs_nil ?_
  -- whole, log = told
  refine wpAny_execs_cons (Assign_Tuple (ldv S11 rfl (unpackL ok'.hh S11 (wk S11 fo).lD rfl rfl (fun h₁₂ S12 => ?_))))
  refine inOrder_cons (stn S12 fun h₁₃ tk13 S13 => inOrder_cons (wpAny_assign_Name (stc (x := "log") (c := L + 1 + 1) S13 fl (bn _ (by omega)) fun h₁₄ tk14 S14 => inOrder_nil ?_)))
  have fm14 : upd F1 (L + 1 + 1) (.cell (some (.ref al))) (L + 1) = some (.cell (some (.int ws.length tm))) := by rw [upd_ne (neN' (by omega))]; exact fm
  have fl14 : upd F1 (L + 1 + 1) (.cell (some (.ref al))) (L + 1 + 1) = some (.cell (some (.ref al))) := upd_self _ _ _
  have fo14 : ∀ b o, h₁₀.get? b = some o → b ≠ L + 1 → b ≠ L + 1 + 1 → upd F1 (L + 1 + 1) (.cell (some (.ref al))) b = none := fun b o e q1 q2 => by rw [upd_ne q2]; exact fo b o e q1 q2
  clear fm fl fo
  revert S14 fm14 fl14 fo14
  generalize upd F1 (L + 1 + 1) (.cell (some (.ref al))) = F2
  intro S14 fm fl fo
  -- names
  refine wpAny_execs_cons (compA (cl := []) (fun v y => ∃ k : Nat, ∃ t u, k < ws.length ∧ v = .int k t ∧ y = .str (nm k) u) S14 ?_)
  refine callT1 (T := "range") B S14 rfl rfl (by decide) (ldc (c := L + 1) (S14.cell fm) (mkRange1s fun r h₁₅ tk15 sub15 hr => ?_))
  obtain ⟨_, _, _, hr⟩ := hr
  refine rangeIt (n := ws.length) hr (by omega) (by omega) (by omega) (by omega) ?_
  refine ⟨_, _, _, _, ws.length, _, _, rfl, rfl, ?_, ?_, walks_bound (Walks.range ok'.hh _ 0 1 ws.length), by omega, ?_, ?_, ?_, ?_⟩
  · exact fun _ _ e => Heap.get?_push_of_some _ (sub15 _ _ e)
  · exact none_of_sub sub15 (get_none_size _)
  · show IsRangeIter _ _ _ _ _
    rw [show (0 : Int) + ((0 : Nat) : Int) * 1 = 0 from by omega, show (ws.length : Int) - ((0 : Nat) : Int) = ws.length from by omega]
    exact Heap.get?_push_size _ rfl
  · intro b hb
    rw [List.mem_singleton.mp hb]
    exact Heap.lt_size (Heap.get?_push_size _ rfl)
  · intro s' C k' v h₁₆ tk16 m₁₆ hP hm nC S16
    obtain ⟨hki, t7, hv⟩ := hP
    rw [show (0 : Int) + (k' : Int) * 1 = (k' : Int) from by omega] at hv
    subst hv
    exact wpAny_BinOp (cS fun _ _ => callT1 (T := "str") B S16 rfl rfl (by decide) (ldv S16 hm (strI (by omega) fun _ _ => addS (nm_len k' (by omega)) fun u tk => ⟨⟨k', t7, u, hki, rfl, rfl⟩, h₁₆, tk, rfl, Sub.refl _⟩)))
  intro N h₁₇ tk17 nv vs17 nN lN S17 hlen17 hP17 hF17
  have nvl : nv.length = ws.length := by rw [← hF17.length, hlen17]
  have sN : StrsAre nv (names ws.length) := strsAre_of (by rw [nvl]; simp [names]) fun j y hy => by
    obtain ⟨x, hx, k, t, u, hk, e1, rfl⟩ := Paired.get' hF17 j y hy
    obtain ⟨hj, t', e2⟩ := hP17 j x hx
    rw [e1] at e2
    injection e2 with e3 e4
    have : k = j := by omega
    subst this
    exact ⟨_, _, rfl, by unfold names; rw [List.getElem?_map, List.getElem?_range hk]; rfl⟩
  have fm17 := keepF (x := .lst nv) S14 nN fm
  have fl17 := keepF (x := .lst nv) S14 nN fl
  have fN17 : upd F2 N (.lst nv) N = some (.lst nv) := upd_self _ _ _
  have fo17 := fo_new (x := .lst nv) S14 fo nN
  clear fm fl fo
  revert S17 fm17 fl17 fo17 fN17
  generalize upd F2 N (.lst nv) = F3
  intro S17 fm fl fN fo
  have K17 := wk S17 fo
  have big : 86 ≤ (L : Nat) := by rw [← eL]; exact Nat.le_trans B.big hbs
  have dw1 : dw ≠ 1 := ne_one big (Nat.le_trans (Nat.le_of_lt Llt9) ldw)
  have dl1 : dl ≠ 1 := ne_one big (Nat.le_trans (Nat.le_of_lt Llt9) ldl)
  have fits : PySem.SumFits ws := sumFits bws (by omega)
  -- whole != (...)
  refine wpAny_execs_cons (wpAny_If (isTrue_or (wpAny_isTrue_Compare1 (ldv S17 rfl (Tuple_ ?_)))))
  refine args_cons (wpAny_BinOp (cI fun _ _ => ldc (c := L + 1) (S17.cell fm) (mulI (.of_left (by decide)) fun q1 _ => ?_)))
  refine args_cons (ldc (c := L + 1) (S17.cell fm) (args_cons (callB1 (b := "sum") B S17 rfl boot_sum (by decide) (ldv S17 rfl (sumL ok'.hh K17.lW hws fits fun q3 h₁₈ tk18 sub18 => ?_)))))
  have S18 := S17.keep sub18
  refine args_cons (wpAny_BinOp (cI fun _ _ => ldc (c := L + 1) (S18.cell fm) (mulI (.of_left (by decide)) fun q4 tk18 => ?_)))
  refine args_cons (compD (l := N) (xs := nv) (ss := names ws.length) S18 ok'.hh (S18.lst fN) sN (by simp [names]; omega) (nodup_names (by omega)) (fun Q' q => ldv S18 rfl q) (fun D3 h₁₉ tk19 kb LD3 nD3 sub19 dD3 kb1 kb2 => ?_) (fun C s₃ Q' E' hq => wpAny_Constant_int (hq _ _)))
  have S19 := S18.keep sub19
  refine args_nil (mkTup S19 (by simp) fun t h₂₀ Lt Ft bt sub20 lt20 tup20 S20' => ?_)
  have S20 := S19.keep sub20
  have K20 := wk S20 fo
  have dwD : dw ≠ D3 := fun q => by obtain ⟨_, _, _, ho, _⟩ := (wk S18 fo).dw; rw [q, nD3] at ho; cases ho
  have tup20' : IsTup h₂₀ t [.int ew.cc q1, .int ew.nc tm, .int ew.tt q3, .int ew.ct q4, .ref D3].toArray := by rw [LA.wcc, LA.wnc, LA.wtt, LA.wct]; exact tup20
  have ndw : (keys ew.cs).Nodup := LA.wkeys.nodup_iff.mpr (nodup_names (by omega))
  have lnames : (names ws.length).length = ws.length := by simp [names]
  have lkw : kw.length = ws.length := by rw [cvw.length, ← lnames, ← LA.wkeys.length_eq]; simp [keys]
  have lkb : kb.length = ws.length := by rw [← lnames, ← kb1, List.length_map]
  have inN : ∀ q, q ∈ names ws.length → ∃ k, k < ws.length ∧ q = nm k := fun q hq => by
    unfold names at hq
    obtain ⟨k, hk, e⟩ := List.mem_map.mp hq
    exact ⟨k, List.mem_range.mp hk, e.symm⟩
  refine neTup K20.tw tup20' K20.dw (dD3.keep sub20) dw1 (ne_one' big LD3) dwD (by omega) (fun A => hits_of cvw (fun p hp => ?_) (fun k hk => valueAt_one kb2 (by rw [kb1]; exact LA.wkeys.mem_iff.mp hk)) A _) ok'.units64 (wpAny_truthy_bool ?_)
  · have h1 := look_of_mem ndw p hp
    obtain ⟨k, hk, e⟩ := inN p.1 (LA.wkeys.mem_iff.mp (List.mem_map_of_mem hp))
    rw [e, LA.wone k hk] at h1
    exact (Option.some.inj h1).symm
  rw [if_neg (by decide)]
  have bdw : base.objs.size ≤ dw := Nat.le_trans hbs (by rw [eL]; exact Nat.le_trans (Nat.le_of_lt Llt9) ldw)
  have bdl : base.objs.size ≤ dl := Nat.le_trans hbs (by rw [eL]; exact Nat.le_trans (Nat.le_of_lt Llt9) ldl)
  refine isTrue_or (wpAny_isTrue_Compare1 (callD B S20 rfl rfl (args_cons (Subscript_ (ldv S20 rfl (cI fun _ tk20 => itemT (k := 4) K20.tw (by omega) rfl (args_nil ⟨S20.bk, ?_⟩)))))))
  refine countCalls (s := At s h₂₀ tk20) (cs := ew.cs) B S20.bk (ok'.le (by omega)) ⟨kw, K20.dw, cvw⟩ bdw (fun h₂₁ tk21 t21 sub21 => ?_)
  have S21 := S20.keep sub21
  refine ldc (c := L + 1) (S21.cell fm) (neI LA.wtotal (wpAny_truthy_bool ?_))
  rw [if_neg (by decide)]
  refine isTrue_or_nil ?_
  rw [if_neg (by decide)]
  refine wpAny_execs_nil ?_
  -- sorted(log[4]) != sorted(names)
  have K21 := wk S21 fo
  have lkl : kl.length = ws.length := by rw [cvl.length, ← lnames, ← LA.lkeys.length_eq]; simp [keys]
  refine wpAny_execs_cons (wpAny_If (wpAny_isTrue_Compare1 (callB1 (b := "sorted") B S21 rfl boot_sorted (by decide) (Subscript_ (ldc (c := L + 1 + 1) (S21.cell fl) (cI fun _ _ => itemT (k := 4) K21.tl (by omega) rfl (sortD ok'.hh K21.dl dl1 (by omega) fun D4 h₂₂ tk22 ys4 ms4 sub22 nD4 lD4 s4 p4 o4 => ?_)))))))
  have S22 := S21.keep sub22
  refine callB1 (b := "sorted") B S22 rfl boot_sorted (by decide) (ldv S22 rfl (sortS (S22.lst fN) sN (by omega) fun D5 h₂₃ ys5 ms5 sub23 nD5 lD5 s5 p5 o5 => ?_))
  have em : ms4 = ms5 := str_sorted_unique (p4.trans ((by rw [cvl.keys]; exact LA.lkeys : (kl.map (·.1)).Perm (names ws.length)).trans p5.symm)) o4 o5
  subst em
  refine neStrs (lD4.of_ext fun o e => sub23 _ _ e) lD5 s4 s5 ok'.units (wpAny_truthy_bool ?_)
  rw [if_neg (by decide)]
  refine wpAny_execs_nil ?_
  have S23 := S22.keep sub23
  have K23 := wk S23 fo
  -- depths
  refine wpAny_execs_cons (compA (cl := [("log", L + 1 + 1)]) (fun v y => ∃ k : Nat, ∃ d : Nat, ∃ t u, k < ws.length ∧ v = .str (nm k) t ∧ ds[k]? = some d ∧ y = .int d u) S23 ?_)
  refine ldv S23 rfl (iterL ok'.hh (S23.lst fN).isList fun I h₂₄ tk24 fp Wst sub24 nI Wk st hfp => ?_)
  refine ⟨I, h₂₄, tk24, fp, _, _, Wst, rfl, rfl, sub24, nI, Wk, by omega, st, hfp, ?_, ?_⟩
  · intro s' C i v h₂₅ tk25 m₂₅ hP hm nC S25
    obtain ⟨y, t, rfl, hy⟩ := StrsAre.item sN i v hP
    have il : i < ws.length := by rw [← lnames]; exact (List.getElem?_eq_some_iff.mp hy).1
    have ey : y = nm i := by unfold names at hy; rw [List.getElem?_map, List.getElem?_range il] at hy; exact (Option.some.inj hy).symm
    subst ey
    have kp : Sub h₂₃ h₂₅ := fun b o e => S25.ext' nC b o rfl e
    have il' : i < ds.length := by rw [LA.len]; exact il
    have hd := List.getElem?_eq_getElem il'
    have hld := LA.ldepth i _ hd
    obtain ⟨u, hv⟩ : ∃ u, valueAt kl (nm i) = some (.int (ds[i] : Nat) u) := by
      rcases cvl.value (nm i) with ⟨_, e2⟩ | ⟨n, u, e1, e2⟩
      · rw [hld] at e2; cases e2
      · rw [hld] at e2; cases e2; exact ⟨u, e1⟩
    refine Subscript_ (Subscript_ (ldc (c := L + 1 + 1) ((S23.cell fl).keeps kp) (cI fun _ _ => itemT (k := 4) (tup_restrict K23.tl fun o e => kp _ _ e) (by omega) rfl (ldv S25 hm (getSt (K23.dl.keep kp) hv fun tk26 => ?_)))))
    exact ⟨⟨i, ds[i], t, u, il, rfl, hd, rfl⟩, h₂₅, tk26, rfl, Sub.refl _⟩
  intro N2 h₂₆ tk26 dv vs26 nN2 lN2 S26 hlen26 hP26 hF26
  have dvl : dv.length = ws.length := by rw [← hF26.length, hlen26, nvl]
  have hdv : IntsAre dv (ds.map fun d : Nat => (d : Int)) := intsAre_eq (by rw [dvl, List.length_map, LA.len]) fun j y hy => by
    obtain ⟨x, hx, k, d, t, u, hk, e1, hd, rfl⟩ := Paired.get' hF26 j y hy
    obtain ⟨z, t', e2, hz⟩ := StrsAre.item sN j x (hP26 j x hx)
    rw [e1] at e2
    injection e2 with e3 _
    have jl : j < ws.length := by rw [← lnames]; exact (List.getElem?_eq_some_iff.mp hz).1
    have ez : z = nm j := by unfold names at hz; rw [List.getElem?_map, List.getElem?_range jl] at hz; exact (Option.some.inj hz).symm
    have : k = j := nm_inj k (by omega) j (by omega) (by rw [e3, ez])
    subst this
    exact ⟨_, u, rfl, by rw [List.getElem?_map, hd]; rfl⟩
  have fm26 := keepF (x := .lst dv) S23 nN2 fm
  have fl26 := keepF (x := .lst dv) S23 nN2 fl
  have fD26 : upd F3 N2 (.lst dv) N2 = some (.lst dv) := upd_self _ _ _
  have fo26 := fo_new (x := .lst dv) S23 fo nN2
  clear fm fl fo fN
  revert S26 fm26 fl26 fD26 fo26
  generalize upd F3 N2 (.lst dv) = F4
  intro S26 fm fl fD fo
  have dsd : ∀ d ∈ ds, d ≤ ws.length := LA.deep
  -- the sum of the powers
  refine wpAny_execs_cons (wpAny_If (wpAny_isTrue_Compare1 (callB1 (b := "sum") B S26 rfl boot_sum (by decide) (compN (cl := [("many", L + 1)]) (fun v y => ∃ d : Nat, ∃ t u, v = .int d t ∧ y = .int ((2 : Int) ^ ((ws.length : Int) - (d : Int)).toNat) u) S26 ?_))))
  refine ldv S26 rfl (iterL ok'.hh (S26.lst fD).isList fun I h₂₇ tk27 fp Wst sub27 nI Wk st hfp => ?_)
  refine ⟨I, h₂₇, tk27, fp, _, _, Wst, rfl, rfl, sub27, nI, Wk, by omega, st, hfp, ?_, ?_⟩
  · intro s' C i v h₂₈ tk28 m₂₈ hP hm nC S28
    obtain ⟨n', t, rfl, hn'⟩ := hdv.at i v hP
    rw [List.getElem?_map] at hn'
    obtain ⟨d, hd, rfl⟩ := Option.map_eq_some_iff.mp hn'
    have hdn := dsd d (List.mem_of_getElem? hd)
    have kp : Sub h₂₆ h₂₈ := fun b o e => S28.ext' nC b o rfl e
    exact wpAny_BinOp (cI fun _ _ => wpAny_BinOp (ldc (c := L + 1) ((S26.cell fm).keeps kp) (ldv S28 hm (subI fun _ _ => powI (by omega) (by omega) (by decide) fun u tk => ⟨⟨d, t, u, rfl, rfl⟩, h₂₈, tk, rfl, Sub.refl _⟩))))
  intro D6 h₂₉ tk29 pv vs29 nD6 sub29 lD6 S29' hlen29 hP29 hF29
  have hpv : IntsAre pv (ds.map fun d : Nat => (2 : Int) ^ ((ws.length : Int) - (d : Int)).toNat) := intsAre_eq (by rw [← hF29.length, hlen29, dvl, List.length_map, LA.len]) fun j y hy => by
    obtain ⟨x, hx, d, t, u, e1, rfl⟩ := Paired.get' hF29 j y hy
    obtain ⟨n', t', e2, hn'⟩ := hdv.at j x (hP29 j x hx)
    rw [e1] at e2
    injection e2 with e3 _
    rw [List.getElem?_map] at hn'
    obtain ⟨d', hd', e4⟩ := Option.map_eq_some_iff.mp hn'
    have : d = d' := by omega
    subst this
    exact ⟨_, u, rfl, by rw [List.getElem?_map, hd']; rfl⟩
  have S29 := S26.keep sub29
  refine sumL ok'.hh lD6 hpv (sumFits (fun x hx => ?_) (by rw [List.length_map, LA.len]; omega)) fun t30 h₃₀ tk30 sub30 => ?_
  · obtain ⟨d, hd, rfl⟩ := List.mem_map.mp hx
    have hdn := dsd d hd
    rw [show ((ws.length : Int) - (d : Int)).toNat = ws.length - d from by omega]
    exact ⟨Int.le_of_lt (Int.pow_pos (by decide)), pow_small _ (by omega)⟩
  have S30 := S29.keep sub30
  refine wpAny_BinOp (cI fun _ _ => ldc (c := L + 1) (S30.cell fm) (powI (by omega) (by omega) (by decide) fun _ _ => neI ?_ (wpAny_truthy_bool ?_)))
  · rw [kr_int _ _ dsd, LA.kraft, show ((ws.length : Int)).toNat = ws.length from by omega]
    simp
  rw [if_neg (by decide)]
  refine wpAny_execs_nil ?_
  -- log[2]
  have K30 := wk S30 fo
  have lN30 := S30.lst fD
  refine wpAny_execs_cons (wpAny_If (isTrue_or (wpAny_isTrue_Compare1 (Subscript_ (ldc (c := L + 1 + 1) (S30.cell fl) (cI fun _ _ => itemT (k := 2) K30.tl (by omega) rfl (callB1 (b := "sum") B S30 rfl boot_sum (by decide) ?_)))))))
  have Wlt : (W : Nat) < h₃₀.objs.size := by obtain ⟨_, e⟩ := K30.lW; exact Heap.lt_size e
  have Nlt : (N2 : Nat) < h₃₀.objs.size := by obtain ⟨_, e⟩ := lN30; exact Heap.lt_size e
  refine compTN (cl := []) (n := min wv.toArray.size dv.toArray.size) (fun j y g => ∃ x : Int, ∃ d : Nat, ∃ u, ws[j]? = some x ∧ ds[j]? = some d ∧ y = .int (x * (d : Int)) u) (fun i y h h' _ e => e) ok'.hh (by simp; omega) S30 (callT2 (T := "zip") B S30 rfl rfl (by decide) (ldv S30 rfl (ldv S30 rfl ?_))) ?_
  · refine call_zip_2 (s := At s h₃₀ _) K30.lW.isList lN30.isList (fun h₃₁ hz hp1 hp2 hi1 hi2 hsz hk31 => wpAny_pyIter_zip hz ?_)
    replace hk31 : Sub h₃₀ h₃₁ := hk31
    replace hsz : h₃₁.objs.size = h₃₀.objs.size + 5 := hsz
    have ap : ZipApart (h₃₀.objs.size + 4) (h₃₀.objs.size + 2) (h₃₀.objs.size + 3) h₃₀.objs.size (h₃₀.objs.size + 1) W N2 := zipApart Wlt Nlt
    refine ⟨h₃₀.objs.size + 4, h₃₁, _, _, _, _, _, _, rfl, rfl, hk31, ?_, WalksT.zip2 ok'.hh (h₃₀.objs.size + 4) (h₃₀.objs.size + 2) (h₃₀.objs.size + 3) h₃₀.objs.size (h₃₀.objs.size + 1) W N2 ap wv.toArray dv.toArray, ?_, ?_, ⟨hz, hp1, ⟨_, _, hp2⟩, hi1, hi2, (K30.lW.of_ext fun o e => hk31 _ _ e).isList, (lN30.of_ext fun o e => hk31 _ _ e).isList⟩, ?_⟩
    · intro b hb
      simp only [List.mem_cons, List.mem_nil_iff, or_false] at hb
      rcases hb with rfl | rfl | rfl | rfl
      · exact Heap.get?_none_of_le (Nat.le_add_right _ _)
      · exact Heap.get?_none_of_le (Nat.le_add_right _ _)
      · exact get_none_size _
      · exact Heap.get?_none_of_le (Nat.le_add_right _ _)
    · rintro i vals ⟨x, y, _, _, rfl⟩; exact ⟨_, _, rfl⟩
    · intro b hb
      simp only [List.mem_cons, List.mem_nil_iff, or_false] at hb
      rw [hsz]
      rcases hb with rfl | rfl | rfl | rfl | rfl | rfl | rfl
      · exact Nat.add_lt_add_left (by decide) _
      · exact Nat.add_lt_add_left (by decide) _
      · exact Nat.add_lt_add_left (by decide) _
      · exact Nat.lt_add_of_pos_right (by decide)
      · exact Nat.add_lt_add_left (by decide) _
      · exact Nat.lt_add_right _ Wlt
      · exact Nat.lt_add_right _ Nlt
    · intro s' C i va vb h₃₂ tk32 m₃₂ hP S32
      obtain ⟨x, y, hx, hy, ev⟩ := hP
      have e1 : va = x ∧ vb = y := by simpa using ev
      obtain ⟨rfl, rfl⟩ := e1
      obtain ⟨x', t1, rfl, hx'⟩ := hws.at i _ (by simpa using hx)
      obtain ⟨y', t2, rfl, hy'⟩ := hdv.at i _ (by simpa using hy)
      rw [List.getElem?_map] at hy'
      obtain ⟨d, hd, rfl⟩ := Option.map_eq_some_iff.mp hy'
      have hdn := dsd d (List.mem_of_getElem? hd)
      exact wpAny_BinOp (ldv S32 rfl (ldv S32 rfl (mulI (.of_right (small_bits d (by omega))) fun u tk => ⟨h₃₂, tk, rfl, Sub.refl _, fun g _ => ⟨x', d, u, hx', hd, rfl⟩⟩)))
  intro D7 h₃₃ tk33 zv nD7 sub33 lD7 S33' hlen33 hE33
  have S33 := S30.keep sub33
  have zl : zv.length = ws.length := by rw [hlen33]; simp; omega
  have hzv : IntsAre zv ((ws.zip ds).map fun p => p.1 * (p.2 : Int)) := intsAre_eq (by rw [zl, List.length_map, List.length_zip, LA.len]; omega) fun j y hy => by
    obtain ⟨x, d, u, hx, hd, rfl⟩ := hE33 j y hy
    refine ⟨_, u, rfl, ?_⟩
    have hz : (ws.zip ds)[j]? = some (x, d) := List.getElem?_zip_eq_some.mpr ⟨hx, hd⟩
    rw [List.getElem?_map, hz]
    rfl
  refine sumL ok'.hh lD7 hzv (sumFits' (fun p hp => ?_) (by rw [List.length_zip, LA.len]; omega)) fun t34 h₃₄ tk34 sub34 => neI LA.ltt (wpAny_truthy_bool ?_)
  · have h1 := bws0 p.1 (List.of_mem_zip hp).1
    have h2 := dsd p.2 (List.of_mem_zip hp).2
    exact ⟨h1.1, h1.2, by omega⟩
  have S34 := S33.keep sub34
  have K34 := wk S34 fo
  rw [if_neg (by decide)]
  refine isTrue_or (wpAny_isTrue_Compare1 (Subscript_ (ldc (c := L + 1 + 1) (S34.cell fl) (cI fun _ _ => itemT (k := 2) K34.tl (by omega) rfl (callD B S34 rfl rfl (args_cons (callB1 (b := "sorted") B S34 rfl boot_sorted (by decide) (ldv S34 rfl (sortI K34.lW hws (by omega) fun D8 h₃₅ ys8 row sub35 nD8 lD8 i8 p8 o8 => args_nil ⟨(S34.keep sub35).bk, ?_⟩)))))))))
  have S35 := S34.keep sub35
  refine lawLeast (s := At s h₃₅ _) (row := row) B S35.bk (ok'.le (by omega)) lD8 i8 (by rw [p8.length_eq]; omega) (by rw [p8.length_eq]; omega) (fun x hx => bws x (p8.mem_iff.mp hx)) (fun h₃₆ tk36 v t36 sub36 best => neI (LA.best row v p8 o8 best) (wpAny_truthy_bool ?_))
  have S36 := S35.keep sub36
  have K36 := wk S36 fo
  rw [if_neg (by decide)]
  refine isTrue_or_nil ?_
  rw [if_neg (by decide)]
  refine wpAny_execs_nil ?_
  -- the answer
  refine wpAny_execs_cons (wpAny_Return_some (wpAny_Compare1 (List_ ?_)))
  refine args_cons (Subscript_ (ldc (c := L + 1 + 1) (S36.cell fl) (cI fun _ _ => itemT (k := 0) K36.tl (by omega) rfl ?_)))
  refine args_cons (Subscript_ (ldc (c := L + 1 + 1) (S36.cell fl) (cI fun _ _ => itemT (k := 1) K36.tl (by omega) rfl ?_)))
  refine args_cons (Subscript_ (ldc (c := L + 1 + 1) (S36.cell fl) (cI fun _ _ => itemT (k := 3) K36.tl (by omega) rfl ?_)))
  refine args_cons (callD B S36 rfl rfl (args_cons (Subscript_ (ldc (c := L + 1 + 1) (S36.cell fl) (cI fun _ tk37 => itemT (k := 4) K36.tl (by omega) rfl (args_nil ⟨S36.bk, ?_⟩))))))
  refine countCalls (s := At s h₃₆ tk37) (cs := el.cs) B S36.bk (ok'.le (by omega)) ⟨kl, K36.dl, cvl⟩ bdl (fun h₃₇ tk38 t37 sub37 => ?_)
  have S37 := S36.keep sub37
  refine args_nil (mkList S37 (by simp) fun r1 h₃₈ _ _ _ sub38 nr1 lr1 S38' => ?_)
  have S38 := S37.keep sub38
  have fitd : PySem.SumFits (ds.map fun d : Nat => (d : Int)) := sumFits (fun x hx => by obtain ⟨d, hd, rfl⟩ := List.mem_map.mp hx; have := dsd d hd; omega) (by rw [List.length_map, LA.len]; omega)
  have hsum : (ds.map fun d : Nat => (d : Int)).sum = (ds.sum : Nat) := (natsum_cast ds).symm
  have bits : ∀ (a : Int), (0 : Int) ≤ a → IntMulOk 2 a ∧ IntMulOk 3 a := fun a _ => ⟨.of_left (by decide), .of_left (by decide)⟩
  refine List_ ?_
  refine args_cons (wpAny_BinOp (cI fun _ _ => callB1 (b := "sum") B S38 rfl boot_sum (by decide) (ldv S38 rfl (sumL ok'.hh (S38.lst fD) hdv fitd fun _ h₃₉ tk39 sub39 => mulI (.of_left (by decide)) fun g1 tk40 => ?_))))
  have S39 := S38.keep sub39
  refine args_cons (callB1 (b := "sum") B S39 rfl boot_sum (by decide) (ldv S39 rfl (sumL ok'.hh (S39.lst fD) hdv fitd fun g2 h₄₀ tk41 sub40 => ?_)))
  have S40 := S39.keep sub40
  refine args_cons (wpAny_BinOp (cI fun _ _ => callB1 (b := "sum") B S40 rfl boot_sum (by decide) (ldv S40 rfl (sumL ok'.hh (S40.lst fD) hdv fitd fun _ h₄₁ tk42 sub41 => mulI (.of_left (by decide)) fun g3 tk43 => ?_))))
  have S41 := S40.keep sub41
  refine args_cons (callB1 (b := "sum") B S41 rfl boot_sum (by decide) (ldv S41 rfl (sumL ok'.hh (S41.lst fD) hdv fitd fun g4 h₄₂ tk44 sub42 => ?_)))
  have S42 := S41.keep sub42
  refine args_nil (mkList S42 (by simp) fun r2 h₄₃ _ _ _ sub43 nr2 lr2 S43' => ?_)
  have S43 := S42.keep sub43
  refine ke_eq_ints (s := At s h₄₃ _) (lr1.of_ext fun o e => sub43 _ _ (sub42 _ _ (sub41 _ _ (sub40 _ _ (sub39 _ _ e))))).isList lr2.isList (.cons _ _ (.cons _ _ (.cons _ _ (.cons _ _ .nil)))) (.cons _ _ (.cons _ _ (.cons _ _ (.cons _ _ .nil)))) ok'.units64 ?_
  have eqs : decide ([el.cc, el.nc, el.ct, total el.cs] = [2 * (ds.map fun d : Nat => (d : Int)).sum, (ds.map fun d : Nat => (d : Int)).sum, 3 * (ds.map fun d : Nat => (d : Int)).sum, (ds.map fun d : Nat => (d : Int)).sum]) = true := by
    rw [hsum, LA.lcc, LA.lnc, LA.lct, LA.ltotal]
    simp
  rw [eqs]
  refine h h₄₃ _ (fun b o e => ?_)
  have b0 : b ≠ L := fun q => by rw [q, n0] at e; cases e
  have b1 : b ≠ L + 1 := fun q => by rw [q, sn _ (by omega)] at e; cases e
  have b2 : b ≠ L + 1 + 1 := fun q => by rw [q, sn _ (by omega)] at e; cases e
  exact S43.ext b o (fo b o (sh10 b o e) b1 b2) b0 (sh10 b o e)
end
end Mine

open PySem PySem.W PyProof.Rows
theorem PySem.Challenge.cw_nb0110_01_holds : PySem.Challenge.rw_nb0110_01.Holds := by
  refine Mine.hd ?_
  w_strict (
   k_fill
   intro w s₀ s₁ mg mb G Y fa o pm cd doc dV kV ho hd hcd hD hmg hg args vals as hpre hlay hrd hwl hlo
   have KX := kIn_of Y
   refine Ground.open G ?_
   intro T B D TE TW
   try (refine guard_noD D (by decide +kernel) ?_; clear D)
   wrow_args hpre hlay hrd hwl hlo
   rename_i ns _ _ _ _ _ _ _ l vs _ hL _ _ _ hI _ hc _
   refine enter_call ?_
   have hB : Mine.Bs w s₁.heap := ⟨KX, ⟨mg, T.g⟩, ⟨mb, T.b, T.builtins⟩, T.nolimit, T.nodigits⟩
   have e85 : mg (Str.ofString "law") = some (.ref 85) := mg_of KX T.g (by rfl)
   have efa : fa = 85 := by
     have := hmg.symm.trans e85
     cases this; rfl
   subst efa
   clear ho hd hcd hD hmg
   refine Mine.lawCall hB (Mine.Sub.refl _) (Nat.le_refl _) ⟨rfl, by decide, by decide⟩ hL hI (by omega) (fun h' tk sub => ?_)
   refine GoodW.toG ⟨.inl ⟨.bool true, .bool true, [], rfl, fun _ => rfl, ?_, ?_, ?_⟩, sub, rfl, hg⟩
   · first | exact .bool _ _ | exact .bool | constructor
   · first | with_unfolding_all rfl | kernel_rfl | (unfold PySem.Challenge.rw_nb0110_01; rfl)
   · exact fun _ => ⟨.nil, fun _ h => nomatch h⟩)
