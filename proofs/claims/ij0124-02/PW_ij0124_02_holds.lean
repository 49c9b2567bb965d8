import PyProof.Rows.All
import Wide.All
import OpenK.AllK
import Wide.FinOn
import Lean
import PySem.Challenge.RW_ij0124_02
open PySem PySem.Spec PySem.Calls PyProof.Rows PySem.W PySem.W.X
set_option Elab.async false
set_option maxRecDepth 100000
set_option maxHeartbeats 4000000
set_option linter.unusedVariables false
set_option genInjectivity false
set_option genSizeOf false
namespace Mine
noncomputable section
def den : Code → Sem Fin := PySem.W.Fast.tw11892475500146522536 PySem.W.Fast.tw14364793385576792824
theorem den_eq : denote table = den := by
  unfold den
  rw [← PySem.W.Fast.te11892475500146522536, ← PySem.W.Fast.te14364793385576792824, ← PySem.table_eq_tree]
abbrev Led := List (Addr × Obj)
abbrev GL := List (Nat × GenState)
inductive Ent where
  | o (a : Addr) (x : Obj)
  | m (n : Nat) (ad : Nat → Addr) (ob : Nat → Obj)
  | f (F : Led) (G : GL)
  | g (i : Nat) (x : GenState)
def Ent.led : Ent → Led
  | .o a x => [(a, x)]
  | .m n ad ob => (List.range n).map fun i => (ad i, ob i)
  | .f F _ => F
  | .g _ _ => []
def Ent.gl : Ent → GL
  | .g i x => [(i, x)]
  | .f _ G => G
  | .o .. => []
  | .m .. => []
def flat (L : List Ent) : Led := L.flatMap Ent.led
def flatG (L : List Ent) : GL := L.flatMap Ent.gl
def ents (L : Led) : List Ent := L.map fun p => .o p.1 p.2
structure Sup where
  n : Nat
  t : Nat
  g : Nat
  a : Nat
  b : Nat
  p : Pos
  w : List (Code × Pos)
  v : List Value
  x : Nat → Array (Option Value)
  o : Nat → Obj
  k : Nat → Nat → Nat
  z : Nat → Nat → Int
  xs : Nat → Array Value
  li : Nat → List Int
  pr : List (Int × Int)
  tx : Nat → List Str
  tp : List (Int × Str)
  s : Nat → GenState
  ds : Nat → Array DictEntry
  vv : Nat → Value
def noS : Sup := ⟨0, 0, 0, 0, 0, default, [], [], fun _ => #[], fun _ => default, fun _ _ => 0, fun _ _ => 0, fun _ => #[], fun _ => [], [], fun _ => [], [], fun _ => .finished, fun _ => #[], fun _ => .none⟩
set_option genInjectivity true in
inductive Ob where
  | a (x : Nat)
  | v (x : Value)
  | t (x : Sem Fin)
  | c (x : Code)
  | l (x : Led)
  | es (x : List Env)
  | en (x : List Ent)
  | r (x : Result)
  | cu (c : Code) (md : Option (List Frame)) (κ : Kont) (t : Sem Fin)
  | go (x : Sup → Result × List Ent × Prop)
  | kk (x : List (Code × Pos) → Sem Fin)
abbrev Obs := List (Ob × Ob)
def nth {α : Type} : List α → Nat → Option α
  | [], _ => none
  | p :: _, 0 => some p
  | _ :: l, n + 1 => nth l n
def setN {α : Type} : List α → Nat → α → List α
  | [], _, _ => []
  | _ :: l, 0, x => x :: l
  | p :: l, n + 1, x => p :: setN l n x
def remN {α : Type} : List α → Nat → Option (α × List α)
  | [], _ => none
  | p :: l, 0 => some (p, l)
  | p :: l, n + 1 => (remN l n).map fun q => (q.1, p :: q.2)
structure Gd where
  T : KT
  K : Heap
  Tb : List Addr
  d : Drawn
  os : OsState
structure Hp (Γ : Gd) (L : Led) (G : GL) (s : Shared) : Prop where
  top : ∀ j o, Γ.T.get j = some o → s.heap.get? j = some o
  led : ∀ p ∈ L, s.heap.get? p.1 = some p.2
  nd : (L.map Prod.fst).Nodup
  off : ∀ p ∈ L, Γ.T.get p.1 = none
  keep : ∀ b o, Γ.K.get? b = some o → b ∉ Γ.Tb → s.heap.get? b = some o
  kin : ∀ b o, Γ.K.get? b = some o → ∃ o', s.heap.get? b = some o'
  own : ∀ p ∈ L, ∀ o, Γ.K.get? p.1 = some o → p.1 ∈ Γ.Tb
  big : 3 ≤ s.heap.objs.size
  hi : ∀ p ∈ L, 3 ≤ p.1
  gens : ∀ p ∈ G, s.gens[p.1]? = some p.2
  gnd : (G.map Prod.fst).Nodup
  bare : AllBare s.gens
  dr : s.drawn = Γ.d
  os : s.os = Γ.os
abbrev Hx (Γ : Gd) (L : List Ent) (s : Shared) : Prop := Hp Γ (flat L) (flatG L) s
theorem nth_split {α : Type} : ∀ {L : List α} {i : Nat} {e : α}, nth L i = some e → ∃ A B, L = A ++ e :: B ∧ ∀ x, setN L i x = A ++ x :: B
  | _ :: l, 0, _, h => ⟨[], l, by cases h; rfl, fun _ => rfl⟩
  | p :: l, _ + 1, _, h => by
    obtain ⟨A, B, e1, e2⟩ := nth_split (L := l) h
    exact ⟨p :: A, B, by rw [e1]; rfl, fun x => by rw [setN, e2]; rfl⟩
theorem nth_mem {α : Type} {L : List α} {i : Nat} {p : α} (h : nth L i = some p) : p ∈ L := by
  obtain ⟨A, B, e, _⟩ := nth_split h
  rw [e]; exact List.mem_append_right _ List.mem_cons_self
theorem remN_perm {α : Type} : ∀ {L : List α} {i : Nat} {q}, remN L i = some q → L.Perm (q.1 :: q.2)
  | p :: l, 0, _, h => by cases h; exact List.Perm.refl _
  | p :: l, i + 1, _, h => by
    obtain ⟨q, h1, rfl⟩ := Option.map_eq_some_iff.mp (show (remN l i).map _ = some _ from h)
    exact ((remN_perm h1).cons p).trans (List.Perm.swap ..)
section
variable {Γ : Gd} {L : Led} {G : GL} {s : Shared}
theorem Hp.same (H : Hp Γ L G s) {s' : Shared} (hh : s'.heap = s.heap) (hg : s'.gens = s.gens) (hd : s'.drawn = s.drawn) (ho : s'.os = s.os) : Hp Γ L G s' :=
  ⟨hh ▸ H.top, hh ▸ H.led, H.nd, H.off, hh ▸ H.keep, hh ▸ H.kin, H.own, hh ▸ H.big, H.hi, hg ▸ H.gens, H.gnd, hg ▸ H.bare, hd.trans H.dr, ho.trans H.os⟩
theorem Hp.sub (H : Hp Γ L G s) {L' : Led} {G' : GL} (h : ∀ p ∈ L', p ∈ L) (n : (L'.map Prod.fst).Nodup) (hg : ∀ p ∈ G', p ∈ G) (gn : (G'.map Prod.fst).Nodup) : Hp Γ L' G' s :=
  ⟨H.top, fun p hp => H.led p (h p hp), n, fun p hp => H.off p (h p hp), H.keep, H.kin, fun p hp => H.own p (h p hp), H.big, fun p hp => H.hi p (h p hp), fun p hp => H.gens p (hg p hp), gn, H.bare, H.dr, H.os⟩
theorem Hp.perm (H : Hp Γ L G s) {L' : Led} {G' : GL} (h : L.Perm L') (g : G.Perm G') : Hp Γ L' G' s :=
  H.sub (fun _ => h.mem_iff.mpr) ((h.map Prod.fst).nodup_iff.mp H.nd) (fun _ => g.mem_iff.mpr) ((g.map Prod.fst).nodup_iff.mp H.gnd)
theorem Hp.alloc (H : Hp Γ L G s) {o : Obj} (hf : o.isFreed = false) : Hp Γ ((s.heap.objs.size, o) :: L) G { s with heap := s.heap.push o } := by
  have new : ∀ x, s.heap.get? s.heap.objs.size = some x → False := fun x e => Nat.lt_irrefl _ (Heap.lt_size e)
  refine ⟨fun j o' e => Heap.get?_push_of_some _ (H.top j o' e), List.forall_mem_cons.mpr ⟨Heap.get?_push_size _ hf, fun p hp => Heap.get?_push_of_some _ (H.led p hp)⟩, ?_, ?_, fun b o' e hb => Heap.get?_push_of_some _ (H.keep b o' e hb),
    fun b o' e => let ⟨o2, h2⟩ := H.kin b o' e; ⟨o2, Heap.get?_push_of_some _ h2⟩, ?_, ?_, List.forall_mem_cons.mpr ⟨H.big, H.hi⟩, H.gens, H.gnd, H.bare, H.dr, H.os⟩
  · refine List.nodup_cons.mpr ⟨fun hm => ?_, H.nd⟩
    obtain ⟨p, hp, e⟩ := List.mem_map.mp hm
    have := H.led p hp
    rw [show p.1 = s.heap.objs.size from e] at this
    exact new _ this
  · refine List.forall_mem_cons.mpr ⟨?_, H.off⟩
    cases q : Γ.T.get s.heap.objs.size with
    | none => rfl
    | some o' => exact (new _ (H.top _ _ q)).elim
  · refine List.forall_mem_cons.mpr ⟨fun o e => ?_, H.own⟩
    obtain ⟨o2, h2⟩ := H.kin _ _ e
    exact (new _ h2).elim
  · show 3 ≤ (s.heap.push o).objs.size
    rw [Heap.size_push]; exact Nat.le_succ_of_le H.big
theorem Hp.chg (H : Hp Γ L G s) {L' : Led} {a : Addr} {h' : Heap} (hk : L'.map Prod.fst = L.map Prod.fst) (ha : a ∈ L.map Prod.fst) (hs : Heap.SameBut a s.heap h') (hx : ∃ x, h'.get? a = some x) (hl : ∀ p ∈ L', h'.get? p.1 = some p.2) : Hp Γ L' G { s with heap := h' } := by
  obtain ⟨⟨a', o⟩, hm, e0⟩ := List.mem_map.mp ha
  have e0 : a' = a := e0
  subst e0
  have mem : ∀ p ∈ L', ∃ q ∈ L, q.1 = p.1 := fun p hp => List.mem_map.mp (hk ▸ List.mem_map_of_mem hp)
  refine ⟨fun j o' e => ?_, hl, hk ▸ H.nd, fun p hp => ?_, fun b o' e hb => ?_, fun b o' e => ?_, fun p hp => ?_, ?_, fun p hp => ?_, H.gens, H.gnd, H.bare, H.dr, H.os⟩
  · refine (hs.2 _ fun z => ?_).trans (H.top j o' e)
    subst z
    rw [H.off _ hm] at e; cases e
  · obtain ⟨q, hq, e⟩ := mem p hp; exact e ▸ H.off q hq
  · refine (hs.2 _ fun z => ?_).trans (H.keep b o' e hb)
    subst z; exact hb (H.own _ hm o' e)
  · obtain ⟨o2, h2⟩ := H.kin b o' e
    by_cases z : b = a'
    · exact z ▸ hx
    · exact ⟨o2, (hs.2 _ z).trans h2⟩
  · obtain ⟨q, hq, e⟩ := mem p hp; exact e ▸ H.own q hq
  · show 3 ≤ h'.objs.size
    rw [hs.1]; exact H.big
  · obtain ⟨q, hq, e⟩ := mem p hp; exact e ▸ H.hi q hq
theorem Hp.one (H : Hp Γ L G s) {a : Addr} {o o' : Obj} (h : (a, o) ∈ L) (h' : (a, o') ∈ L) : o = o' := Option.some.inj ((H.led _ h).symm.trans (H.led _ h'))
def setAt (L : Led) (a : Addr) (x : Obj) : Led := L.map fun p => if p.1 = a then (a, x) else p
theorem setAt_keys (L : Led) (a : Addr) (x : Obj) : (setAt L a x).map Prod.fst = L.map Prod.fst := by
  unfold setAt
  rw [List.map_map]
  refine List.map_congr_left fun p _ => ?_
  show (if p.1 = a then (a, x) else p).1 = p.1
  split
  · rename_i e; exact e.symm
  · rfl
theorem Hp.set (H : Hp Γ L G s) {a : Addr} {o x : Obj} {h' : Heap} (hm : (a, o) ∈ L) (hs : Heap.SameBut a s.heap h') (ge : h'.get? a = some x) : Hp Γ (setAt L a x) G { s with heap := h' } := by
  refine H.chg (setAt_keys ..) (List.mem_map_of_mem (f := Prod.fst) hm) hs ⟨_, ge⟩ fun p hp => ?_
  obtain ⟨q, hq, e⟩ := List.mem_map.mp hp
  split at e
  · subst e; exact ge
  · rename_i n; subst e; exact (hs.2 _ n).trans (H.led _ hq)
theorem Hp.setF (H : Hp Γ L G s) {a : Addr} {o x : Obj} {f : Obj → Obj} (hm : (a, o) ∈ L) (hf : (f o).isFreed = false) (e : f o = x) : Hp Γ (setAt L a x) G { s with heap := s.heap.update a f } :=
  H.set hm (Heap.SameBut.update ..) (by rw [← e]; first | exact Heap.get?_update_self f (H.led _ hm) hf | exact Heap.get?_update_self _ (H.led _ hm) hf)
theorem Hp.newGen (H : Hp Γ L G s) (c : Code) : Hp Γ L ((s.gens.size, .fresh c) :: G) { s with gens := s.gens.push (.fresh c) } := by
  have lt : ∀ p ∈ G, p.1 < s.gens.size := fun p hp => (Array.getElem?_eq_some_iff.mp (H.gens p hp)).1
  refine ⟨H.top, H.led, H.nd, H.off, H.keep, H.kin, H.own, H.big, H.hi, List.forall_mem_cons.mpr ⟨by simp, fun p hp => ?_⟩, ?_, H.bare.push rfl, H.dr, H.os⟩
  · show (s.gens.push _)[p.1]? = _
    rw [Array.getElem?_push_lt (lt p hp), ← H.gens p hp, Array.getElem?_eq_getElem (lt p hp)]
  · refine List.nodup_cons.mpr ⟨fun hm => ?_, H.gnd⟩
    obtain ⟨p, hp, e⟩ := List.mem_map.mp hm
    exact Nat.lt_irrefl _ (e ▸ lt p hp)
theorem Hp.setGen {A B : GL} {g : Nat} {x y : GenState} (H : Hp Γ L (A ++ (g, x) :: B) s) (hb : y.bare = true) : Hp Γ L (A ++ (g, y) :: B) (s.setGen g y) := by
  have hg := H.gens (g, x) (List.mem_append_right _ List.mem_cons_self)
  have hlt : g < s.gens.size := (Array.getElem?_eq_some_iff.mp hg).1
  have nd := H.gnd
  rw [List.map_append, List.map_cons] at nd
  have n2 := List.nodup_append.mp nd
  have n3 := List.nodup_cons.mp n2.2.1
  have oth : ∀ p, p ∈ A ++ (g, x) :: B → p.1 ≠ g → (s.gens.setIfInBounds g y)[p.1]? = some p.2 := fun p hp e => by
    rw [Array.getElem?_setIfInBounds_ne (Ne.symm e)]; exact H.gens p hp
  refine ⟨H.top, H.led, H.nd, H.off, H.keep, H.kin, H.own, H.big, H.hi, fun p hp => ?_, by rw [List.map_append, List.map_cons]; exact nd, fun z hz => ?_, H.dr, H.os⟩
  · rcases List.mem_append.mp hp with h | h
    · exact oth p (List.mem_append_left _ h) (n2.2.2 _ (List.mem_map_of_mem h) _ List.mem_cons_self)
    · rcases List.mem_cons.mp h with rfl | h
      · show (s.gens.setIfInBounds g y)[g]? = some y
        simp [hlt]
      · exact oth p (List.mem_append_right _ (.tail _ h)) fun e => n3.1 (List.mem_map.mpr ⟨p, h, e⟩)
  · rcases Array.mem_or_eq_of_mem_setIfInBounds (show z ∈ s.gens.setIfInBounds g y from hz) with h | h
    · exact H.bare z h
    · subst h; exact hb
end
section
variable {Γ : Gd} {L M : List Ent} {s : Shared}
theorem flat_app (A B : List Ent) : flat (A ++ B) = flat A ++ flat B := List.flatMap_append
theorem flatG_app (A B : List Ent) : flatG (A ++ B) = flatG A ++ flatG B := List.flatMap_append
theorem flat_cons (e : Ent) (B : List Ent) : flat (e :: B) = e.led ++ flat B := List.flatMap_cons
theorem flatG_cons (e : Ent) (B : List Ent) : flatG (e :: B) = e.gl ++ flatG B := List.flatMap_cons
theorem flat_ents (L : Led) : flat (ents L) = L := by
  induction L with
  | nil => rfl
  | cons p l ih => show flat (Ent.o p.1 p.2 :: ents l) = _; rw [flat_cons, ih]; rfl
theorem flatG_ents (L : Led) : flatG (ents L) = [] := by
  induction L with
  | nil => rfl
  | cons p l ih => show flatG (Ent.o p.1 p.2 :: ents l) = _; rw [flatG_cons, ih]; rfl
theorem Hx.perm (H : Hx Γ L s) (h : L.Perm M) : Hx Γ M s := Hp.perm H (h.flatMap_right _) (h.flatMap_right _)
theorem mem_flat {e : Ent} {p : Addr × Obj} (h : e ∈ L) (hp : p ∈ e.led) : p ∈ flat L := List.mem_flatMap.mpr ⟨e, h, hp⟩
end
end
noncomputable section
def cRoomT : String → Sem Unit := PySem.W.Fast.tw10648789137845014744
def enterT : Sem Unit := @PySem.W.Fast.tw15066281185411960212 0
def wakeT : Sem Unit := PySem.W.Fast.tw3139746846981162851
theorem cRoomT_eq : cRoomT = cRoom := PySem.W.Fast.te10648789137845014744.symm
theorem enterT_eq : enterT = enterFrame := (congrFun PySem.W.Fast.te15066281185411960212 0).symm
theorem wakeT_eq : wakeT = roomToWake := PySem.W.Fast.te3139746846981162851.symm
def weightT : Code → Nat := PySem.W.ZFast.zw1243936422450756474
theorem weightT_eq : weightT = Code.weight := PySem.W.ZFast.ze1243936422450756474.symm
def unitsT : Code → Nat := PySem.W.Fast.tw165980757501359005
theorem unitsT_eq : unitsT = Code.cUnits := PySem.W.Fast.te165980757501359005.symm
def quietT : Code → Bool := PySem.W.ZFast.zw17772548960776305114
theorem quietT_eq : quietT = Code.quiet := PySem.W.ZFast.ze17772548960776305114.symm
def exK (wt : Code → Nat) (d : Nat) : Bool → Kont → Nat
  | true, .ret c _ _ κ => exK wt d true κ + wt c
  | false, .gen _ c _ κ => exK wt d true κ + wt c
  | false, .genS _ c fs _ κ => exK wt d false κ + (fs.map fun f => wt f.where_.1).sum + wt c
  | _, _ => d
def exM (wt : Code → Nat) (d : Nat) (c : Code) (md : Option (List Frame)) (κ : Kont) : Nat := match md with
  | none => exK wt d true κ + wt c
  | some fs => exK wt d false κ + (fs.map fun f => wt f.where_.1).sum + wt c
def hdK : Bool → Kont → Option Value
  | true, .ret _ hd _ κ => hd.or (hdK true κ)
  | false, .gen _ _ _ κ => hdK true κ
  | false, .genS _ _ fs _ κ => (marksOver fs (hdK false κ, hdK false κ)).1
  | _, _ => none
def hdM (md : Option (List Frame)) (κ : Kont) : Option Value := match md with
  | none => hdK true κ
  | some fs => (marksOver fs (hdK false κ, hdK false κ)).1
def frK : Kont → Option (List Env)
  | .base => some []
  | .ret c _ _ κ => (frK κ).map fun l => c.envs ++ l
  | _ => none
def aroundM (V : XV) (c : Code) (md : Option (List Frame)) (κ : Kont) : Around := match md with
  | none => (aroundOf V true κ).under c
  | some fs => (aroundOf V false κ).over c fs
section
variable {V : XV} (wt : Code → Nat) (fA : Around → Nat) (hu : ∀ A c, fA (A.under c) = fA A + wt c) (ho : ∀ A c fs, fA (A.over c fs) = fA A + (fs.map fun f => wt f.where_.1).sum + wt c) (hm : ∀ (A : Around) hd, fA (A.mark hd) = fA A) {d : Nat} (h0 : fA V.A₀ ≤ d)
include hu ho hm h0
theorem exK_le : ∀ (b : Bool) (κ : Kont), fA (aroundOf V b κ) ≤ exK wt d b κ
  | true, .base => h0
  | true, .ret c hd k κ => ((hm _ _).trans (hu _ _)).symm ▸ Nat.add_le_add_right (exK_le true κ) _
  | true, .gen .. => h0
  | true, .genS .. => h0
  | false, .gen g c k κ => (hu _ _).symm ▸ Nat.add_le_add_right (exK_le true κ) _
  | false, .genS g c fs k κ => (ho _ _ _).symm ▸ Nat.add_le_add_right (Nat.add_le_add_right (exK_le false κ) _) _
  | false, .base => h0
  | false, .ret .. => h0
theorem exM_le (c : Code) (md : Option (List Frame)) (κ : Kont) : fA (aroundM V c md κ) ≤ exM wt d c md κ := by
  cases md with
  | none => exact (hu _ _).symm ▸ Nat.add_le_add_right (exK_le wt fA hu ho hm h0 true κ) _
  | some fs => exact (ho _ _ _).symm ▸ Nat.add_le_add_right (Nat.add_le_add_right (exK_le wt fA hu ho hm h0 false κ) _) _
end
section
variable {V : XV}
theorem depth_le {d : Nat} (h : V.A₀.depth ≤ d) (c : Code) (md : Option (List Frame)) (κ : Kont) : (aroundM V c md κ).depth ≤ exM weightT d c md κ :=
  exM_le weightT Around.depth (fun _ _ => by rw [weightT_eq]; rfl) (fun A c fs => by rw [weightT_eq]; show A.depth + frameCount _ + _ = _; unfold frameCount; rw [List.map_map]; rfl) (fun _ _ => rfl) h c md κ
theorem units_le {d : Nat} (h : V.A₀.units ≤ d) (c : Code) (md : Option (List Frame)) (κ : Kont) : (aroundM V c md κ).units ≤ exM unitsT d c md κ :=
  exM_le unitsT Around.units (fun _ _ => by rw [unitsT_eq]; rfl) (fun A c fs => by rw [unitsT_eq]; show A.units + unitsOf _ + _ = _; unfold unitsOf; rw [List.map_map]; rfl) (fun _ _ => rfl) h c md κ
theorem depthK_le {d : Nat} (h : V.A₀.depth ≤ d) (κ : Kont) : (aroundOf V true κ).depth ≤ exK weightT d true κ :=
  exK_le weightT Around.depth (fun _ _ => by rw [weightT_eq]; rfl) (fun A c fs => by rw [weightT_eq]; show A.depth + frameCount _ + _ = _; unfold frameCount; rw [List.map_map]; rfl) (fun _ _ => rfl) h true κ
theorem unitsK_le {d : Nat} (h : V.A₀.units ≤ d) (κ : Kont) : (aroundOf V true κ).units ≤ exK unitsT d true κ :=
  exK_le unitsT Around.units (fun _ _ => by rw [unitsT_eq]; rfl) (fun A c fs => by rw [unitsT_eq]; show A.units + unitsOf _ + _ = _; unfold unitsOf; rw [List.map_map]; rfl) (fun _ _ => rfl) h true κ
theorem marks_or (z : Option Value) : ∀ (fs : List Frame) (x y : Option Value), ((marksOver fs (x.or z, y.or z)).1 = (marksOver fs (x, y)).1.or z) ∧ ((marksOver fs (x.or z, y.or z)).2 = (marksOver fs (x, y)).2.or z)
  | [], _, _ => ⟨rfl, rfl⟩
  | f :: fs, x, y => by
    obtain ⟨h1, h2⟩ := marks_or z fs x y
    have e : marksOver fs (x.or z, y.or z) = ((marksOver fs (x, y)).1.or z, (marksOver fs (x, y)).2.or z) := Prod.ext h1 h2
    show (Frame.marks f (marksOver fs _)).1 = (Frame.marks f (marksOver fs _)).1.or z ∧ (Frame.marks f (marksOver fs _)).2 = (Frame.marks f (marksOver fs _)).2.or z
    rw [e]
    cases f with
    | gen g k l c p => exact ⟨rfl, rfl⟩
    | ret k h g l c p kp =>
      refine ⟨?_, rfl⟩
      show markOver h _ _ = (markOver h _ _).or z
      cases h with
      | none => rfl
      | some e => unfold markOver; dsimp only; split <;> rfl
theorem hdK_is : ∀ (b : Bool) (κ : Kont), (aroundOf V b κ).handled = (hdK b κ).or V.A₀.handled
  | true, .base => rfl
  | true, .ret c hd k κ => (congrArg (fun x => hd.or x) (hdK_is true κ)).trans (by show _ = (hd.or _).or _; rw [Option.or_assoc])
  | true, .gen .. => rfl
  | true, .genS .. => rfl
  | false, .gen g c k κ => hdK_is true κ
  | false, .genS g c fs k κ => (congrArg (fun x => (marksOver fs (x, x)).1) (hdK_is false κ)).trans (marks_or _ fs _ _).1
  | false, .base => rfl
  | false, .ret .. => rfl
theorem hdM_is (c : Code) (md : Option (List Frame)) (κ : Kont) : (aroundM V c md κ).handled = (hdM md κ).or V.A₀.handled := by
  cases md with
  | none => exact hdK_is true κ
  | some fs => exact (congrArg (fun x => (marksOver fs (x, x)).1) (hdK_is false κ)).trans (marks_or _ fs _ _).1
end
theorem frK_is {V : XV} {fr : List Env} (h : V.A₀.frames = some fr) {κ : Kont} : ∀ {l : List Env}, frK κ = some l → (aroundOf V true κ).frames = some (l ++ fr) := by
  induction κ with
  | base => intro l e; cases e; exact h
  | ret c hd k κ ih =>
    intro l e
    obtain ⟨l, e1, rfl⟩ := Option.map_eq_some_iff.mp (show (frK κ).map _ = some _ from e)
    show pushEnvs c.envs (aroundOf V true κ).frames = _
    rw [ih e1, pushEnvs_eq, List.append_assoc]
    rfl
  | gen => intro l e; cases e
  | genS => intro l e; cases e
theorem frM_is {V : XV} {fr : List Env} (h : V.A₀.frames = some fr) {c : Code} {κ : Kont} {l : List Env} (e : frK κ = some l) : (aroundM V c none κ).frames = some (c.envs ++ (l ++ fr)) := by
  show pushEnvs c.envs (aroundOf V true κ).frames = _
  rw [frK_is h e, pushEnvs_eq]
  rfl
def stackOp (h : Nat) (w : String) : Sem Unit := match h with
  | 1 => cRoomT w
  | 2 => enterT
  | _ => wakeT
def tightT (st : List (Code × Pos)) : Prop := PySem.W.Fast.tw3755427657022040156 (PySem.W.R.mapR (fun x => PySem.W.Fast.tw165980757501359005 x.fst) st) ≥ cLine
theorem tightT_is (st : List (Code × Pos)) : tightT st ↔ (st.map (·.1.cUnits)).sum ≥ cLine := by
  unfold tightT
  rw [← PySem.W.Fast.te3755427657022040156, ← PySem.W.Fast.te165980757501359005, PySem.W.R.mapR_eq]
def RoomF (f : List (Code × Pos) → Sem Value) : Prop := ∀ st, ¬ tightT st → f st = f []
end
noncomputable section
def altExt (same : Bool) (self it result : Value) : Sem PySem.Fin :=
  letI : Monad Sem := PySem.W.Fast.tw12456147031677567982
  letI : BEq Value := @instBEqOfDecidableEq Value PySem.W.Fast.tw7966671052430208091
  letI : Append (Array Value) := @PySem.W.Fast.tw494991955013373658 Value
  do
  let t ← PySem.W.Fast.tw14684505520029207082 it
  if (same || t == Value.type PySem.W.SL.s9222952809800978799x4 || t == Value.type PySem.W.SL.s2766695959194262286x5) = true then do
      let xs ← PySem.W.Fast.tw10557518346328741659 it
      let mine ← PySem.W.Fast.tw10557518346328741659 self
      have jp : Unit → Sem PySem.Fin := fun __r => do
        PySem.W.Fast.tw2060155186595164805 self fun x => x ++ xs
        PySem.W.Fast.tw6905046200447255374 result
      if (!mine.isEmpty && Builtin.List.listTooLong (mine.size + xs.size)) = true then do
          let __r ← unsupported "list.extend:memory"
          jp __r
        else jp ()
    else do
      let iter ← PySem.W.Fast.tw8711993805878244202 it
      let room ← PySem.W.Fast.tw17359229931016689406 [iter] (PySem.W.Fast.tw15112759502256325868 it)
      have jp : Unit → Sem PySem.Fin := fun __r =>
        PySem.W.Fast.tw12377390311714414960 (Code.builtin PySem.W.SL.s9316426964554523096x16 { pos := [self, iter, result] })
      if (room || PySem.W.R.anyR PySem.W.Fast.tw16271295295120926622 fun x => t == Value.type x) = true then do
          rule "list.extend.makes-room"
          let __r ← PySem.W.Fast.tw922294955767894045 self
          jp __r
        else jp ()
def altInit (same : Bool) (self it : Value) : Sem PySem.Fin :=
  letI : Monad Sem := PySem.W.Fast.tw12456147031677567982
  do
  let old ← PySem.W.Fast.tw10557518346328741659 self
  PySem.W.Fast.tw2060155186595164805 self fun _ => #[]
  PySem.W.Fast.tw3461954006293484611 old.toList.reverse
  altExt same self it .none
def altTwo : List Value → Option (Addr × Addr)
  | x :: l => match l with
    | y :: l => match l with
      | [] => match x with
        | .ref a => match y with
          | .ref b => some (a, b)
          | _ => none
        | _ => none
      | _ => none
    | _ => none
  | _ => none
def altPair (c : Code) : Option (Addr × Addr) := match c with
  | .builtin _ args => altTwo args.pos
  | _ => none
def entAt (l : List Ent) (k : Nat) : Obj := match nth l k with
  | some e => match e with
    | .o _ x => x
    | _ => default
  | none => default
def initC (a b : Addr) : Code := .builtin "list.__init__" ⟨[.ref a, .ref b], []⟩
def AllP : List Prop → Prop
  | [] => True
  | c :: cs => c ∧ AllP cs
structure Cu where
  c : Code
  md : Option (List Frame)
  κ : Kont
  tr : Sem Fin
def cu0 (c : Code) : Cu := ⟨c, none, .base, den c⟩
structure Inst where
  cu : Cu
  fr : List Env
  dep : Nat
  un : Nat
  pre : List Ent
  post : Sup → Result × List Ent × Prop
inductive Aux where
  | n (x : Nat)
  | z (x : Int)
  | v (x : Value)
  | s (x : Str)
  | w (x : String)
  | vs (x : List Value)
  | b (x : Bool)
  | p (x : Prop)
  | ob (x : Nat → Obj)
  | u (x : Sup)
  | i (x : Inst)
  | iw (x : Inst)
  | cv (x y : List Ent)
  | ap (x y : Ent)
  | cut (x : Inst)
  | rm (x : Sem Value → Sem Fin) (f : List (Code × Pos) → Sem Value)
inductive Hs where
  | h (n : Nat)
inductive XS where
  | nil
  | a (x : Aux) (r : XS)
  | sp (Q : Prop) (h1 : Hs) (x1 : XS) (h2 : Hs) (x2 : XS)
  | k (f : Sup → Sup → XS)
def XS.go (x : XS) (u v : Sup) : XS := match x with
  | .k f => f u v
  | x => x
def ExcAt (Γ : Gd) (v : Value) : Prop := ∃ a o vs, v = .ref a ∧ Γ.K.get? a = some o ∧ a ∉ Γ.Tb ∧ o.data = .fields vs ∧ vs[2]? = some .none
def HOk (Γ : Gd) (h : Option Value) : Prop := ∀ v, h = some v → ExcAt Γ v
theorem HOk.none {Γ : Gd} {h : Option Value} (e : h = none) : HOk Γ h := fun v hv => by rw [e] at hv; cases hv
def HB (lo : Bool) (Γ : Gd) (h : Option Value) : Prop := match lo with
  | true => HOk Γ h
  | false => h = none
theorem HB.ok {lo : Bool} {Γ : Gd} {h : Option Value} (H : HB lo Γ h) : HOk Γ h := by
  cases lo with
  | true => exact H
  | false => exact .none H
def erH (e : Option Bool) (Γ : Gd) (h : Option Value) : Prop := match e with
  | none => h = none
  | some b => b = true → HOk Γ h
def erB (lo : Bool) (e : Option Bool) (h : Option Value) : Bool := match e with
  | none => lo || h.isSome
  | some b => b && h.isSome
theorem erB_ok {lo : Bool} {e : Option Bool} {Γ : Gd} {x h : Option Value} (H : HB lo Γ h) (hb : erB lo e x = false) : erH e Γ (x.or h) := by
  cases x with
  | none =>
    cases e with
    | none =>
      cases lo with
      | true => exact Bool.noConfusion (show true = false from hb)
      | false => exact H
    | some b => exact fun _ => H.ok
  | some v =>
    cases e with
    | none => cases lo <;> exact Bool.noConfusion (show true = false from hb)
    | some b =>
      cases b with
      | true => exact Bool.noConfusion (show true = false from hb)
      | false => exact fun z => Bool.noConfusion z
structure BI where
  c : Code
  vs : Led
  cs : List Prop
  er : Option Bool
  r : Sup → Result
  up : Sup → Option Obj
  nw : Sup → Led
  fs : Sup → Option Prop
def rawCall (c : Code) : Sem Result := .call c none false [] .pure
def NoLim (T : KT) : Prop := ∀ h : Heap, (∀ j o, T.get j = some o → h.get? j = some o) → h.NoLimit
def BI.L' (I : BI) (u : Sup) (L : Led) : Led := I.nw u ++ (match I.up u with | none => L | some x => match I.vs with | [] => L | v :: _ => setAt L v.1 x)
def optP : Option Prop → Prop
  | none => True
  | some p => p
def SatB (prog : Program) (w : World) (I : BI) : Prop := ∀ ⦃Γ : Gd⦄ ⦃L : Led⦄ ⦃G : GL⦄ ⦃A : Around⦄ ⦃s : Shared⦄ ⦃R : Result → Shared → Prop⦄, NoLim Γ.T → erH I.er Γ A.handled → A.depth < 900 → A.units < 9000 → AllP I.cs → Hp Γ L G s → (∀ p ∈ I.vs, p ∈ L) →
  (∀ u s', optP (I.fs u) → Hp Γ (I.L' u L) G s' → s'.gens = s.gens → R (I.r u) s') → wpAny (model prog w) A (rawCall I.c) R (fun _ _ => False) s
structure Rule (prog : Program) (w : World) where
  nv : Nat
  dec : Code → Led → XS → BI × XS
  ok : ∀ c vs xs, SatB prog w (dec c vs xs).1
structure TI where
  tr : Sem Fin
  nx : Sem Fin
  pre : List Ent
  post : Sup → List Ent
  ob : Obs
def SatT (M : Model) (es : List Env) (I : TI) : Prop := ∀ ⦃Γ : Gd⦄ ⦃X : Led⦄ ⦃G : GL⦄ ⦃A : Around⦄ ⦃s : Shared⦄ ⦃P : Shared → Prop⦄, (∀ p ∈ I.ob, p.1 = p.2) → A.frames = some es → A.depth < 900 → A.units < 9000 → Hp Γ (flat I.pre ++ X) (flatG I.pre ++ G) s →
  (∀ u s', Hp Γ (flat (I.post u) ++ X) (flatG (I.post u) ++ G) s' → s'.gens = s.gens → P s') →
  ∃ m : Sem Unit, wpAny M A m (fun _ s' => P s') (fun _ _ => False) s ∧ ∀ (Γ : PySem.Ctx) Q E p s, Sem.wp M Γ m (fun _ p' s' => Sem.wp M Γ I.nx Q E p' s') (fun _ _ _ => False) p s → Sem.wp M Γ I.tr Q E p s
structure TRule (prog : Program) (w : World) where
  dec : Code → List Env → List Ent → Nat → XS → TI × XS
  ok : ∀ c es ps nm xs, SatT (model prog w) es (dec c es ps nm xs).1
structure Wd where
  prog : Program
  w : World
  T : KT
  RU : List (Rule prog w)
  TR : List (TRule prog w)
  WS : List String
  lo : Bool
structure Base (E : Wd) (Γ : Gd) (A : Around) (fr : List Env) (dep un : Nat) : Prop where
  hT : Γ.T = E.T
  hN : NoLim Γ.T
  hh : HB E.lo Γ A.handled
  hd : A.depth ≤ dep
  hu : A.units ≤ un
  hf : A.frames = some fr
def mkV (prog : Program) (w : World) (A : Around) (R : Result → Shared → Prop) : XV := ⟨prog, w, {}, 0, .nil, [], A, R, {}, 0, {}⟩
def MeansC (V : XV) (cu : Cu) (s : Shared) : Prop := Means V cu.c cu.md cu.κ cu.tr s
def Sat (E : Wd) (I : Inst) : Prop := ∀ ⦃Γ : Gd⦄ ⦃A : Around⦄ ⦃X : Led⦄ ⦃Y : GL⦄ ⦃s : Shared⦄ ⦃R : Result → Shared → Prop⦄, Base E Γ A I.fr I.dep I.un → Hx Γ (I.pre ++ [.f X Y]) s →
  (∀ u s', (I.post u).2.2 → Hx Γ ((I.post u).2.1 ++ [.f X Y]) s' → R (I.post u).1 s') → MeansC (mkV E.prog E.w A R) I.cu s
def SatH (E : Wd) (v : Value) (I : Inst) : Prop := ∀ ⦃Γ : Gd⦄ ⦃A : Around⦄ ⦃X : Led⦄ ⦃Y : GL⦄ ⦃s : Shared⦄ ⦃R : Result → Shared → Prop⦄, Γ.T = E.T → NoLim Γ.T → A.handled = some v → A.depth ≤ I.dep → A.units ≤ I.un → A.frames = some I.fr → Hx Γ (I.pre ++ [.f X Y]) s →
  (∀ u s', (I.post u).2.2 → Hx Γ ((I.post u).2.1 ++ [.f X Y]) s' → R (I.post u).1 s') → MeansC (mkV E.prog E.w A R) I.cu s
def SatW (E : Wd) (I : Inst) : Prop := ∀ ⦃Γ : Gd⦄ ⦃A : Around⦄ ⦃X : Led⦄ ⦃Y : GL⦄ ⦃s : Shared⦄ ⦃R : Result → Shared → Prop⦄, Base E Γ A I.fr I.dep I.un → Hx Γ (I.pre ++ [.f X Y]) s →
  (∀ u s', (I.post u).2.2 → Hx Γ ((I.post u).2.1 ++ [.f X Y]) s' → R (I.post u).1 s') → wpAny (model E.prog E.w) A (rawCall I.cu.c) R (fun _ _ => False) s
structure Cfg where
  E : Wd
  fr : List Env
  dep : Nat
  un : Nat
  X : Led
  Y : GL
  goal : Sup → Result × List Ent × Prop
inductive Kind where
  | bad (n a : Nat)
  | uns (w : String)
  | fin
  | here (σ : Nat → Sup) (xs : XS) (c : Code) (md : Option (List Frame)) (κ : Kont) (tr : Sem Fin) (n m t i g j : Nat) (L : List Ent)
structure Out where
  k : Kind
  obs : Obs
  vc : Prop
def stop (k : Kind) : Out := ⟨k, [], False⟩
def bad (n a : Nat) : Out := stop (.bad n a)
def obsO (o : Obs) (x : Out) : Out := ⟨x.k, o ++ x.obs, x.vc⟩
def obO (a b : Ob) (x : Out) : Out := ⟨x.k, (a, b) :: x.obs, x.vc⟩
def cndO (p : Prop) (x : Out) : Out := ⟨x.k, x.obs, p ∧ x.vc⟩
def cndsO : List Prop → Out → Out
  | [], x => x
  | p :: ps, x => cndO p (cndsO ps x)
def fctO (p : Prop) (x : Out) : Out := ⟨x.k, x.obs, p → x.vc⟩
def optO (p : Option Prop) (x : Out) : Out := match p with
  | none => x
  | some p => fctO p x
def takeN : Nat → Nat → List Ent → Option (List Ent × List Ent)
  | 0, _, L => some ([], L)
  | n + 1, hs, L => match Nat.mod hs 256 with
    | 0 => none
    | p + 1 => (remN L p).bind fun q => (takeN n (Nat.div hs 256) q.2).map fun r => (q.1 :: r.1, r.2)
def shN : Nat → Nat → Nat
  | 0, hs => hs
  | n + 1, hs => shN n (Nat.div hs 256)
structure GE where
  p : Nat
  i : Nat
  a : Addr
  x : Obj
  xs : XS
  cs : List Prop
def popX : XS → XS
  | .a _ r => r
  | x => x
def skipN : XS → XS
  | .a x r => match x with
    | .n _ => skipN r
    | x => .a x r
  | x => x
def getM (md : Nat) (L : List Ent) (p : Nat) (xs : XS) : Option GE := (nth L p).bind fun e => match e with
  | .o a x => some ⟨p, 0, a, x, xs, []⟩
  | .m n ad ob => match xs with
    | .a x r => match x with
      | .n i => some ⟨p, i, ad i, ob i, (match md with | 0 => r | _ => xs), [i < n]⟩
      | _ => none
    | _ => none
  | _ => none
def getE (L : List Ent) (p : Nat) (xs : XS) : Option GE := match Nat.div p 80 with
  | 0 => getM 0 L p xs
  | 1 => getM 1 L (Nat.mod p 80) xs
  | _ => getM 1 L (Nat.mod p 80) (popX xs)
def PutC (n i : Nat) (ob ob' : Nat → Obj) (x : Obj) : Prop := ∀ j, j < n → ob' j = if j = i then x else ob j
structure PE where
  L : List Ent
  xs : XS
  cs : List Prop
def putE (L : List Ent) (p i : Nat) (x : Obj) (xs : XS) : Option PE := (nth L p).bind fun e => match e with
  | .o a _ => some ⟨setN L p (.o a x), xs, []⟩
  | .m n ad ob => match xs with
    | .a y r => match y with
      | .ob ob' => some ⟨setN L p (.m n ad ob'), r, [PutC n i ob ob' x]⟩
      | _ => none
    | _ => none
  | _ => none
def famX (L : List Ent) (p : Nat) (xs : XS) : XS := (nth L p).elim xs fun e => match e with
  | .m _ _ _ => skipN xs
  | _ => xs
def views : Nat → Nat → XS → List Ent → Option (XS × List GE)
  | 0, _, xs, _ => some (xs, [])
  | n + 1, hs, xs, L => match Nat.mod hs 256 with
    | 0 => none
    | p + 1 => (getE L p xs).bind fun q => (views n (Nat.div hs 256) q.xs L).map fun r => (r.1, q :: r.2)
def getG (L : List Ent) (hs : Nat) : Option (Nat × Nat × GenState) := match Nat.mod hs 256 with
  | 0 => none
  | p + 1 => (nth L p).bind fun e => match e with
    | .g i x => some (p, i, x)
    | _ => none
def Conv (x y : List Ent) : Prop := (flat x).Perm (flat y) ∧ flatG x = flatG y
def Apart (x y : Ent) : Prop := ∀ p ∈ x.led, ∀ q ∈ y.led, p.1 ≠ q.1
def shσ (σ : Nat → Sup) (n : Nat) : Nat → Sup := fun i => σ (i + n)
def roomy (C : Cfg) (c : Code) (md : Option (List Frame)) (κ : Kont) : Bool := Nat.ble (exM weightT C.dep c md κ) 899 && Nat.ble (exM unitsT C.un c md κ) 8999
abbrev RX := (Nat → Sup) → Nat → XS → Code → Option (List Frame) → Kont → Sem Fin → Nat → Nat → Nat → Nat → Nat → Nat → List Ent → Out
def wakeR (ih : RX) (e : End) (κ : Kont) (σ : Nat → Sup) (hs : Nat) (xs : XS) (n m t i g j : Nat) (L : List Ent) : Out := match κ with
  | .gen id c k κ => (getG L hs).elim (bad 20 0) fun q => obO (.a id) (.a q.2.1) (ih σ (Nat.div hs 256) xs c none κ (k e.result) n m t i g j (setN L q.1 (.g q.2.1 e.genState)))
  | .genS id c fs k κ => (getG L hs).elim (bad 20 1) fun q => obO (.a id) (.a q.2.1) (ih σ (Nat.div hs 256) xs c (some fs) κ (k e.result) n m t i g j (setN L q.1 (.g q.2.1 e.genState)))
  | _ => bad 22 0
def finR (C : Cfg) (r : Result) (hs : Nat) (xs : XS) (L : List Ent) : Out := match skipN xs with
  | .a x _ => match x with
    | .u u => let q := C.goal u
      let P := q.2.1 ++ [.f C.X C.Y]
      (takeN (Nat.mod hs 256) (Nat.div hs 256) L).elim (bad 23 0) fun z => ⟨.fin, [(.r r, .r q.1), (.en z.1, .en P)], q.2.2⟩
    | _ => bad 23 1
  | _ => bad 23 2
def endR (C : Cfg) (ih : RX) (r : Result) (κ : Kont) (σ : Nat → Sup) (hs : Nat) (xs : XS) (n m t i g j : Nat) (L : List Ent) : Out := match κ with
  | .base => match Nat.mod hs 256 with
    | 0 => stop (.here σ xs (.builtin "" {}) none .base (match r with | .ok f => .pure (.done f) | .error e => .raise e) n m t i g j L)
    | _ => finR C r hs xs L
  | .ret c _ k κ => ih σ hs xs c none κ (k r) n m t i g j L
  | _ => bad 24 0
def retR (C : Cfg) (ih : RX) (r : Result) (md : Option (List Frame)) (κ : Kont) (σ : Nat → Sup) (hs : Nat) (xs : XS) (n m t i g j : Nat) (L : List Ent) : Out := match md with
  | none => endR C ih r κ σ hs xs n m t i g j L
  | some fs => match fs with
    | [] => wakeR ih (.ret r) κ σ hs xs n m t i g j L
    | f :: fs => match f with
      | .ret k _ _ _ c₁ _ _ => ih σ hs xs c₁ (some fs) κ (k r) n m t i g j L
      | .gen .. => bad 26 0
def treeR (C : Cfg) (ih : RX) (σ : Nat → Sup) (hs : Nat) (xs : XS) (c : Code) (md : Option (List Frame)) (κ : Kont) (tr : Sem Fin) (n m t i g j : Nat) (L : List Ent) : Out := match md with
  | none => match frK κ with
    | some l => match roomy C c none κ with
      | true => (nth C.E.TR (Nat.mod hs 256)).elim (bad 40 0) fun R =>
        let h1 := Nat.div hs 256
        (takeN (Nat.mod h1 256) (Nat.div h1 256) L).elim (bad 40 1) fun q =>
        let d := R.dec c (c.envs ++ (l ++ C.fr)) q.1 (n + m) xs
        obsO ((.t tr, .t d.1.tr) :: (.en q.1, .en d.1.pre) :: d.1.ob) (ih (shσ σ 2) (shN (Nat.mod h1 256) (Nat.div h1 256)) (d.2.go (σ 0) (σ 1)) c none κ d.1.nx (σ 1).n 0 (σ 1).t 0 g j (d.1.post (σ 0) ++ q.2))
      | false => bad 40 2
    | none => bad 40 3
  | some _ => bad 40 4
def ruleR (C : Cfg) (ih : RX) (r : Nat) (c' : Code) (hd : Option Value) (k : Result → Sem Fin) (σ : Nat → Sup) (hs : Nat) (xs : XS) (c : Code) (md : Option (List Frame)) (κ : Kont) (g j : Nat) (L : List Ent) : Out := match hd with
  | none => match roomy C c md κ with
    | true => (nth C.E.RU r).elim (bad 41 r) fun R => (views (Nat.mod hs 256) (Nat.div hs 256) xs L).elim (bad 42 r) fun q =>
      let d := R.dec c' (q.2.map fun x => (x.a, x.x)) q.1
      let h1 := shN (Nat.mod hs 256) (Nat.div hs 256)
      match erB C.E.lo d.1.er (hdM md κ) with
      | true => bad 43 r
      | false => obsO [(.c c', .c d.1.c), (.l (q.2.map fun x => (x.a, x.x)), .l d.1.vs)] (cndsO ((q.2.map fun x => x.cs).flatten ++ d.1.cs) (optO (d.1.fs (σ 0)) (match d.1.up (σ 0) with
        | none => ih (shσ σ 2) h1 (d.2.go (σ 0) (σ 1)) c md κ (k (d.1.r (σ 0))) (σ 1).n 0 (σ 1).t 0 g j (ents (d.1.nw (σ 0)) ++ L)
        | some x => match q.2 with
          | [] => bad 44 r
          | v :: _ => (putE L v.p v.i x (d.2.go (σ 0) (σ 1))).elim (bad 45 r) fun y => cndsO y.cs (ih (shσ σ 2) h1 y.xs c md κ (k (d.1.r (σ 0))) (σ 1).n 0 (σ 1).t 0 g j (ents (d.1.nw (σ 0)) ++ y.L)))))
    | false => bad 46 r
  | some _ => bad 47 r
def instB (C : Cfg) (P : Inst → Prop) (k : Inst → (Nat → Sup) → Nat → XS → List Ent → Out) (c' : Code) (es : List Env) (dep un : Nat) (σ : Nat → Sup) (hs : Nat) (xs : XS) (L : List Ent) : Out := match xs with
  | .a x xs => match x with
    | .i I => match Nat.ble dep I.dep && Nat.ble un I.un with
      | true => (takeN (Nat.mod hs 256) (Nat.div hs 256) L).elim (bad 31 1) fun q =>
        obsO [(.cu c' none .base (den c'), .cu I.cu.c I.cu.md I.cu.κ I.cu.tr), (.es es, .es I.fr), (.en q.1, .en I.pre)] (cndO (P I) (fctO (I.post (σ 0)).2.2 (k I σ (shN (Nat.mod hs 256) (Nat.div hs 256)) (xs.go (σ 0) (σ 1)) ((I.post (σ 0)).2.1 ++ q.2))))
      | false => bad 31 2
    | _ => bad 31 3
  | _ => bad 31 4
def instR (C : Cfg) (k : Inst → (Nat → Sup) → Nat → XS → List Ent → Out) (c' : Code) (es : List Env) (dep un : Nat) (hd : Option Value) (σ : Nat → Sup) (hs : Nat) (xs : XS) (L : List Ent) : Out := match hd with
  | some v => instB C (SatH C.E v) k c' es dep un σ hs xs L
  | none => instB C (Sat C.E) k c' es dep un σ hs xs L
def isIw : XS → Bool
  | .a x _ => match x with
    | .iw _ => true
    | _ => false
  | _ => false
def wcalR (C : Cfg) (k : Inst → (Nat → Sup) → Nat → XS → List Ent → Out) (c' : Code) (es : List Env) (dep un : Nat) (hd : Option Value) (σ : Nat → Sup) (hs : Nat) (xs : XS) (L : List Ent) : Out := match hd with
  | some _ => bad 31 0
  | none => match xs with
    | .a x xs => match x with
      | .iw I => match Nat.ble dep I.dep && Nat.ble un I.un with
        | true => (takeN (Nat.mod hs 256) (Nat.div hs 256) L).elim (bad 31 1) fun q =>
          obsO [(.c c', .c I.cu.c), (.es es, .es I.fr), (.en q.1, .en I.pre)] (cndO (SatW C.E I) (fctO (I.post (σ 0)).2.2 (k I σ (shN (Nat.mod hs 256) (Nat.div hs 256)) (xs.go (σ 0) (σ 1)) ((I.post (σ 0)).2.1 ++ q.2))))
        | false => bad 31 2
      | _ => bad 31 3
    | _ => bad 31 4
def sideR (C : Cfg) (ih : RX) (w : Nat) (σ : Nat → Sup) (hs : Nat) (xs : XS) (c : Code) (md : Option (List Frame)) (κ : Kont) (tr : Sem Fin) (n m t i g j : Nat) (L : List Ent) : Out := match w with
  | 0 => match xs with
    | .sp Q h1 x1 h2 x2 => match h1 with
      | .h h1 => match h2 with
        | .h h2 => let a := ih σ h1 x1 c md κ tr n m t i g j L
          let b := ih σ h2 x2 c md κ tr n m t i g j L
          ⟨a.k, a.obs ++ b.obs, (Q → a.vc) ∧ (¬ Q → b.vc)⟩
    | _ => bad 32 0
  | 1 => match xs with
    | .a x xs => match x with
      | .ap x y => (takeN 2 hs L).elim (bad 32 1) fun q => obO (.en q.1) (.en [x, y]) (fctO (Apart x y) (ih σ (shN 2 hs) xs c md κ tr n m t i g j L))
      | _ => bad 32 2
    | _ => bad 32 2
  | 2 => match xs with
    | .a x xs => match x with
      | .cv o e => (takeN (Nat.mod hs 256) (Nat.div hs 256) L).elim (bad 32 3) fun q => obO (.en q.1) (.en o) (cndO (Conv o e) (ih σ (shN (Nat.mod hs 256) (Nat.div hs 256)) xs c md κ tr n m t i g j (e ++ q.2)))
      | _ => bad 32 4
    | _ => bad 32 5
  | 3 => match xs with
    | .a x _ => match x with
      | .cut I => match Nat.ble C.dep I.dep && Nat.ble C.un I.un with
        | true => let P := I.pre ++ [.f C.X C.Y]
          (takeN (Nat.mod hs 256) (Nat.div hs 256) L).elim (bad 32 6) fun q => ⟨.fin, [(.cu c md κ tr, .cu I.cu.c I.cu.md I.cu.κ I.cu.tr), (.es C.fr, .es I.fr), (.en q.1, .en P), (.go I.post, .go C.goal)], Sat C.E I⟩
        | false => bad 32 7
      | _ => bad 32 8
    | _ => bad 32 9
  | _ => ih σ hs (popX xs) c md κ tr n m t i g j L
def stackGo (T : KT) (h : Nat) (k : List (Code × Pos) → Sem Fin) : Option (Sem Fin) := match h with
  | 1 => some (k [])
  | _ => match k [] with
    | .load _ _ k' => (T.get 2).map k'
    | _ => none
def stackR (C : Cfg) (ih : RX) (h : Nat) (k : List (Code × Pos) → Sem Fin) (σ : Nat → Sup) (hs : Nat) (xs : XS) (c : Code) (md : Option (List Frame)) (κ : Kont) (n m t i g j : Nat) (L : List Ent) (w : String) : Out := match roomy C c md κ with
  | true => (stackGo C.E.T h k).elim (bad 14 h) fun y => obO (.t (.stack k)) (.t (PySem.W.R.bindR (stackOp h w) fun _ => y)) (ih σ hs xs c md κ y n m t i g j L)
  | false => bad 15 h
def againS (C : Cfg) (ih : RX) (w : Nat) (c' : Code) (σ : Nat → Sup) (hs : Nat) (xs : XS) (c : Code) (md : Option (List Frame)) (κ : Kont) (n m t i g j : Nat) (L : List Ent) : Out := match w with
  | 0 => stop (.here σ xs c md κ (.pure (.again c')) n m t i g j L)
  | 1 => ih σ hs xs c' md κ (den c') n m t i g j L
  | 2 => match md with
    | some _ => bad 2 1
    | none => (frK κ).elim (bad 2 2) fun l => instR C (fun I σ hs xs L => endR C ih (I.post (σ 0)).1 κ (shσ σ 2) hs xs (σ 1).n 0 (σ 1).t 0 (σ 1).g 0 L) c' (l ++ C.fr) (exK weightT C.dep true κ) (exK unitsT C.un true κ) (hdK true κ) σ hs xs L
  | 9 => (altPair c').elim (bad 2 3) fun p => (takeN 2 hs L).elim (bad 2 4) fun q => obO (.c c') (.c (initC p.1 p.2)) (obO (.en q.1) (.en [.o p.1 (entAt q.1 0), .o p.2 (entAt q.1 1)]) (ih σ (shN 2 hs) xs c' md κ (altInit false (.ref p.1) (.ref p.2)) n m t i g j L))
  | w + 3 => sideR C ih w σ hs xs c md κ (.pure (.again c')) n m t i g j L
def loadS (C : Cfg) (ih : RX) (w : Nat) (a : Addr) (q : Option Value) (k : Obj → Sem Fin) (σ : Nat → Sup) (hs : Nat) (xs : XS) (c : Code) (md : Option (List Frame)) (κ : Kont) (n m t i g j : Nat) (L : List Ent) : Out := match w with
  | 0 => stop (.here σ xs c md κ (.load a q k) n m t i g j L)
  | 1 => (C.E.T.get a).elim (bad 4 a) fun o => ih σ hs xs c md κ (k o) n m t i g j L
  | 2 => treeR C ih σ hs xs c md κ (.load a q k) n m t i g j L
  | p + 3 => (getE L p xs).elim (bad 5 p) fun q => obO (.a a) (.a q.a) (cndsO q.cs (ih σ hs q.xs c md κ (k q.x) n m t i g j L))
def aliveS (C : Cfg) (ih : RX) (w : Nat) (a : Addr) (k : Option Obj → Sem Fin) (σ : Nat → Sup) (hs : Nat) (xs : XS) (c : Code) (md : Option (List Frame)) (κ : Kont) (n m t i g j : Nat) (L : List Ent) : Out := match w with
  | 0 => stop (.here σ xs c md κ (.loadIfAlive a k) n m t i g j L)
  | 1 => (C.E.T.get a).elim (bad 4 a) fun o => ih σ hs xs c md κ (k (some o)) n m t i g j L
  | 2 => bad 6 0
  | p + 3 => (getE L p xs).elim (bad 5 p) fun q => obO (.a a) (.a q.a) (cndsO q.cs (ih σ hs q.xs c md κ (k (some q.x)) n m t i g j L))
def updateS (C : Cfg) (ih : RX) (w : Nat) (a : Addr) (q : Option Value) (f : Obj → Obj) (k : Unit → Sem Fin) (σ : Nat → Sup) (hs : Nat) (xs : XS) (c : Code) (md : Option (List Frame)) (κ : Kont) (n m t i g j : Nat) (L : List Ent) : Out := match w with
  | 0 => stop (.here σ xs c md κ (.update a q f k) n m t i g j L)
  | 1 => bad 7 a
  | 2 => bad 7 1
  | p + 3 => (getE L p xs).elim (bad 5 p) fun q => cond (f q.x).isFreed (bad 8 a) (obO (.a a) (.a q.a) (cndsO q.cs ((putE L q.p q.i (f q.x) (famX L q.p q.xs)).elim (bad 9 p) fun y => cndsO y.cs (ih σ hs y.xs c md κ (k ()) n m t i g j y.L))))
def stackS (C : Cfg) (ih : RX) (w : Nat) (k : List (Code × Pos) → Sem Fin) (σ : Nat → Sup) (hs : Nat) (xs : XS) (c : Code) (md : Option (List Frame)) (κ : Kont) (n m t i g j : Nat) (L : List Ent) : Out := match w with
  | 0 => stop (.here σ xs c md κ (.stack k) n m t i g j L)
  | 1 => (nth C.E.WS (Nat.mod hs 256)).elim (bad 16 1) fun w => stackR C ih 1 k σ (Nat.div hs 256) xs c md κ n m t i g j L w
  | 2 => stackR C ih 2 k σ hs xs c md κ n m t i g j L ""
  | 3 => stackR C ih 3 k σ hs xs c md κ n m t i g j L ""
  | 4 => match md with
    | none => ih (shσ σ 1) hs xs c none κ (k ((c, (σ 0).p) :: (σ 0).w)) n m t i g j L
    | some _ => bad 17 0
  | 5 => match md with
    | none => match skipN xs with
      | .a x xs => match x with
        | .rm y f => cond (roomy C c none κ) (obO (.kk k) (.kk fun st => y (f st)) (cndO (RoomF f) (ih σ hs xs c none κ (k []) n m t i g j L))) (bad 15 5)
        | _ => bad 15 6
      | _ => bad 15 7
    | some _ => bad 17 1
  | _ => treeR C ih σ hs xs c md κ (.stack k) n m t i g j L
def callS (C : Cfg) (ih : RX) (w : Nat) (c' : Code) (hd : Option Value) (gd : Bool) (l : List Value) (k : Result → Sem Fin) (σ : Nat → Sup) (hs : Nat) (xs : XS) (c : Code) (md : Option (List Frame)) (κ : Kont) (n m t i g j : Nat) (L : List Ent) : Out := match w with
  | 0 => stop (.here σ xs c md κ (.call c' hd gd l k) n m t i g j L)
  | 1 => cond (okMark hd) (match md with
      | none => ih σ hs xs c' none (.ret c hd k κ) (den c') n m t i g j L
      | some fs => ih (shσ σ 1) hs (xs.go (σ 0) (σ 0)) c' (some (.ret k hd gd l c (σ 0).p [] :: fs)) κ (den c') n m t i g j L) (bad 18 0)
  | 2 => match md with
    | some _ => bad 18 1
    | none => match hd with
      | some _ => bad 18 4
      | none => (frK κ).elim (bad 18 2) fun l => instR C (fun I σ hs xs L => ih (shσ σ 2) hs xs c none κ (k (I.post (σ 0)).1) (σ 1).n 0 (σ 1).t 0 (σ 1).g 0 L) c' (c.envs ++ (l ++ C.fr)) (exM weightT C.dep c none κ) (exM unitsT C.un c none κ) (hdM none κ) σ hs xs L
  | 3 => sideR C ih 0 σ hs xs c md κ (.call c' hd gd l k) n m t i g j L
  | 4 => sideR C ih 1 σ hs xs c md κ (.call c' hd gd l k) n m t i g j L
  | 5 => sideR C ih 2 σ hs xs c md κ (.call c' hd gd l k) n m t i g j L
  | 6 => sideR C ih 3 σ hs xs c md κ (.call c' hd gd l k) n m t i g j L
  | 7 => match isIw xs with
    | false => sideR C ih 4 σ hs xs c md κ (.call c' hd gd l k) n m t i g j L
    | true => match md with
      | some _ => bad 18 5
      | none => match hd with
        | some _ => bad 18 6
        | none => (frK κ).elim (bad 18 7) fun l => wcalR C (fun I σ hs xs L => ih (shσ σ 2) hs xs c none κ (k (I.post (σ 0)).1) (σ 1).n 0 (σ 1).t 0 (σ 1).g 0 L) c' (c.envs ++ (l ++ C.fr)) (exM weightT C.dep c none κ) (exM unitsT C.un c none κ) (hdM none κ) σ hs xs L
  | r + 8 => ruleR C ih r c' hd k σ hs xs c md κ g j L
def resumeS (C : Cfg) (ih : RX) (a : Nat) (r : Resume) (k : GenResult → Sem Fin) (q : Nat × Nat × GenState) (σ : Nat → Sup) (hs : Nat) (xs : XS) (c : Code) (md : Option (List Frame)) (κ : Kont) (n m t i g j : Nat) (L : List Ent) : Out := match q.2.2 with
  | .fresh c₀ => match r with
    | .send v => match v with
      | .none => obO (.a a) (.a q.2.1) (ih σ hs xs c₀ (some []) (match md with | none => .gen a c k κ | some fs => .genS a c fs k κ) (den c₀) n m t i g j (setN L q.1 (.g q.2.1 .running)))
      | _ => bad 33 0
    | .throw _ => bad 33 1
  | .suspended k₀ _ c₀ _ fs₀ _ => obO (.a a) (.a q.2.1) (ih σ hs xs c₀ (some fs₀) (match md with | none => .gen a c k κ | some fs => .genS a c fs k κ) (k₀ r) n m t i g j (setN L q.1 (.g q.2.1 .running)))
  | .running => bad 33 2
  | .finished => bad 33 3
def yieldS (ih : RX) (v : Value) (gd : Bool) (l : List Value) (k : Resume → Sem Fin) (σ : Nat → Sup) (hs : Nat) (xs : XS) (c : Code) (md : Option (List Frame)) (κ : Kont) (n m t i g j : Nat) (L : List Ent) : Out := match md with
  | none => bad 37 0
  | some fs => match splitAtGen fs with
    | some _ => bad 39 0
    | none => cond (gd || fs.any Frame.guarded) (bad 39 1) (wakeR ih (.susp v false l k c (σ 0).p fs) κ (shσ σ 1) hs (xs.go (σ 0) (σ 0)) n m t i g j L)
def rstep (C : Cfg) (ih : RX) (σ : Nat → Sup) (hs : Nat) (xs : XS) (c : Code) (md : Option (List Frame)) (κ : Kont) (tr : Sem Fin) (n m t i g j : Nat) (L : List Ent) : Out := match tr with
  | .pure fin => match fin with
    | .done f => retR C ih (.ok f) md κ σ hs xs n m t i g j L
    | .again c' => cond (quietT c') (againS C ih (Nat.mod hs 256) c' σ (Nat.div hs 256) xs c md κ n m t i g j L) (bad 2 0)
  | .raise e => retR C ih (.error e) md κ σ hs xs n m t i g j L
  | .rule _ k => ih σ hs xs c md κ (k ()) n m t i g j L
  | .at _ k => ih σ hs xs c md κ (k ()) n m t i g j L
  | .point _ k => ih σ hs xs c md κ (k ()) n m t i g j L
  | .ask k => ih σ hs xs c md κ (k ⟨C.E.prog, C.E.w.params⟩) n m t i g j L
  | .load a q k => loadS C ih (Nat.mod hs 256) a q k σ (Nat.div hs 256) xs c md κ n m t i g j L
  | .loadIfAlive a k => aliveS C ih (Nat.mod hs 256) a k σ (Nat.div hs 256) xs c md κ n m t i g j L
  | .update a q f k => updateS C ih (Nat.mod hs 256) a q f k σ (Nat.div hs 256) xs c md κ n m t i g j L
  | .alloc o k => cond o.isFreed (bad 10 0) (ih σ hs xs c md κ (k (n + m)) n (m + 1) t i g j (.o (n + m) o :: L))
  | .fresh k => ih σ hs xs c md κ (k (t + i)) n m t (i + 1) g j L
  | .handled own k => cond (own || C.E.lo) (bad 11 0) (ih σ hs xs c md κ (k (hdM md κ)) n m t i g j L)
  | .stack k => stackS C ih (Nat.mod hs 256) k σ (Nat.div hs 256) xs c md κ n m t i g j L
  | .call c' hd gd l k => callS C ih (Nat.mod hs 256) c' hd gd l k σ (Nat.div hs 256) xs c md κ n m t i g j L
  | .newGen c' k => ih σ hs xs c md κ (k (g + j)) n m t i g (j + 1) (.g (g + j) (.fresh c') :: L)
  | .genState a k => match Nat.mod hs 256 with
    | 0 => stop (.here σ xs c md κ (.genState a k) n m t i g j L)
    | _ => (getG L hs).elim (bad 30 0) fun q => obO (.a a) (.a q.2.1) (ih σ (Nat.div hs 256) xs c md κ (k q.2.2.seen) n m t i g j L)
  | .resume a r l k => match Nat.mod hs 256 with
    | 0 => stop (.here σ xs c md κ (.resume a r l k) n m t i g j L)
    | _ => (getG L hs).elim (bad 30 1) fun q => resumeS C ih a r k q σ (Nat.div hs 256) xs c md κ n m t i g j L
  | .yield v gd l k => yieldS ih v gd l k σ hs xs c md κ n m t i g j L
  | .unsupported w => stop (.uns w)
  | _ => bad 50 0
def rx (C : Cfg) : Nat → RX
  | 0 => fun _ _ _ _ _ _ _ _ _ _ _ _ _ _ => bad 60 0
  | n + 1 => rstep C (rx C n)
end
def OutOk (o : Out) : Prop := (∀ p ∈ o.obs, p.1 = p.2) ∧ o.vc
theorem bad_no {n a : Nat} {P : Prop} (h : OutOk (bad n a)) : P := h.2.elim
theorem stop_no {k : Kind} {P : Prop} (h : OutOk (stop k)) : P := h.2.elim
theorem obO_ok {a b : Ob} {x : Out} (h : OutOk (obO a b x)) : a = b ∧ OutOk x := ⟨h.1 _ List.mem_cons_self, fun p hp => h.1 p (.tail _ hp), h.2⟩
theorem obsO_ok {l : Obs} {x : Out} (h : OutOk (obsO l x)) : (∀ p ∈ l, p.1 = p.2) ∧ OutOk x := ⟨fun p hp => h.1 p (List.mem_append_left _ hp), fun p hp => h.1 p (List.mem_append_right _ hp), h.2⟩
theorem cndO_ok {p : Prop} {x : Out} (h : OutOk (cndO p x)) : p ∧ OutOk x := ⟨h.2.1, h.1, h.2.2⟩
theorem cndsO_ok : ∀ {l : List Prop} {x : Out}, OutOk (cndsO l x) → AllP l ∧ OutOk x
  | [], _, h => ⟨trivial, h⟩
  | _ :: l, _, h => let q := cndO_ok h; let r := cndsO_ok (l := l) q.2; ⟨⟨q.1, r.1⟩, r.2⟩
theorem fctO_ok {p : Prop} {x : Out} (h : OutOk (fctO p x)) (hp : p) : OutOk x := ⟨h.1, h.2 hp⟩
theorem optO_ok {p : Option Prop} {x : Out} (h : OutOk (optO p x)) (hp : optP p) : OutOk x := by
  cases p with
  | none => exact h
  | some p => exact fctO_ok h hp
abbrev σ0 : Nat → Sup := fun _ => noS
theorem allE.{u} {α : Type u} {o : Option α} {n a : Nat} {f : (Nat → Sup) → α → Out} (h : ∀ σ, OutOk (o.elim (bad n a) (f σ))) : ∃ x, o = some x ∧ ∀ σ, OutOk (f σ x) := by
  cases o with
  | none => exact bad_no (h σ0)
  | some x => exact ⟨x, rfl, h⟩
theorem AllP.app : ∀ {a b : List Prop}, AllP (a ++ b) → AllP a ∧ AllP b
  | [], _, h => ⟨trivial, h⟩
  | _ :: a, _, h => let q := AllP.app (a := a) h.2; ⟨⟨h.1, q.1⟩, q.2⟩
theorem AllP.fl.{u} {α : Type u} {f : α → List Prop} : ∀ {l : List α}, AllP (l.map f).flatten → ∀ x ∈ l, AllP (f x)
  | a :: l, h, x, hx => by
    have q := AllP.app (show AllP (f a ++ (l.map f).flatten) from h)
    rcases List.mem_cons.mp hx with rfl | hx
    · exact q.1
    · exact AllP.fl q.2 x hx
theorem takeN_perm : ∀ {n hs : Nat} {L : List Ent} {r}, takeN n hs L = some r → L.Perm (r.1 ++ r.2)
  | 0, _, _, _, h => by cases h; exact List.Perm.refl _
  | n + 1, hs, L, r, h => by
    unfold takeN at h
    split at h
    · cases h
    · obtain ⟨q, h1, h2⟩ := Option.bind_eq_some_iff.mp h
      obtain ⟨x, h3, rfl⟩ := Option.map_eq_some_iff.mp h2
      exact (remN_perm h1).trans ((takeN_perm h3).cons q.1)
theorem getM_mem {md : Nat} {L : List Ent} {p : Nat} {xs : XS} {q : GE} (h : getM md L p xs = some q) (hc : AllP q.cs) : (q.a, q.x) ∈ flat L := by
  obtain ⟨e, h1, h2⟩ := Option.bind_eq_some_iff.mp h
  refine mem_flat (nth_mem h1) ?_
  cases e with
  | o a x => cases h2; exact List.mem_singleton.mpr rfl
  | m n ad ob =>
    cases xs with
    | a x r =>
      cases x with
      | n i => cases h2; exact List.mem_map.mpr ⟨i, List.mem_range.mpr hc.1, rfl⟩
      | _ => cases h2
    | _ => cases h2
  | f => cases h2
  | g => cases h2
theorem getE_M {L : List Ent} {p : Nat} {xs : XS} {q : GE} (h : getE L p xs = some q) : ∃ md p xs, getM md L p xs = some q := by
  unfold getE at h
  split at h <;> exact ⟨_, _, _, h⟩
theorem getE_mem {L : List Ent} {p : Nat} {xs : XS} {q : GE} (h : getE L p xs = some q) (hc : AllP q.cs) : (q.a, q.x) ∈ flat L := by
  obtain ⟨_, _, _, h⟩ := getE_M h
  exact getM_mem h hc
section
variable {L : Led} {a : Addr} {x : Obj} {q : Addr × Obj}
theorem setAt_mem (h : q ∈ L) (n : q.1 ≠ a) : q ∈ setAt L a x := List.mem_map.mpr ⟨q, h, if_neg n⟩
theorem setAt_at {o : Obj} (h : (a, o) ∈ L) : (a, x) ∈ setAt L a x := List.mem_map.mpr ⟨_, h, if_pos rfl⟩
end
theorem put_mem {A B E E' : Led} {a : Addr} {x : Obj} (nd : ((A ++ (E ++ B)).map Prod.fst).Nodup) (ha : a ∈ E.map Prod.fst) (h : ∀ q ∈ E', q = (a, x) ∨ (q.1 ≠ a ∧ q ∈ E)) : ∀ q ∈ A ++ (E' ++ B), q ∈ setAt (A ++ (E ++ B)) a x := by
  rw [List.map_append, List.map_append] at nd
  have n1 := List.nodup_append.mp nd
  have n2 := List.nodup_append.mp n1.2.1
  obtain ⟨⟨a', o⟩, hm, e0⟩ := List.mem_map.mp ha
  have e0 : a' = a := e0
  subst e0
  intro q hq
  rcases List.mem_append.mp hq with hq | hq
  · exact setAt_mem (List.mem_append_left _ hq) (n1.2.2 _ (List.mem_map_of_mem hq) _ (List.mem_append_left _ ha))
  · rcases List.mem_append.mp hq with hq | hq
    · rcases h q hq with rfl | ⟨h1, h2⟩
      · exact setAt_at (List.mem_append_right _ (List.mem_append_left _ hm))
      · exact setAt_mem (List.mem_append_right _ (List.mem_append_left _ h2)) h1
    · exact setAt_mem (List.mem_append_right _ (List.mem_append_right _ hq)) fun e => n2.2.2 _ ha _ (List.mem_map_of_mem hq) e.symm
theorem putE_is {L : List Ent} {p0 : Nat} {xs0 xs' : XS} {q : GE} {y : PE} {x : Obj} (h : getE L p0 xs0 = some q) (h' : putE L q.p q.i x xs' = some y) (hc : AllP q.cs) (hc' : AllP y.cs) (nd : ((flat L).map Prod.fst).Nodup) :
    (flat y.L).map Prod.fst = (flat L).map Prod.fst ∧ flatG y.L = flatG L ∧ ∀ r ∈ flat y.L, r ∈ setAt (flat L) q.a x := by
  obtain ⟨md, p, xs, h⟩ := getE_M h
  obtain ⟨e, h1, h2⟩ := Option.bind_eq_some_iff.mp h
  obtain ⟨A, B, e1, e2⟩ := nth_split h1
  have sp : ∀ e : Ent, flat (A ++ e :: B) = flat A ++ (e.led ++ flat B) := fun e => by rw [flat_app, flat_cons]
  have sg : ∀ e : Ent, flatG (A ++ e :: B) = flatG A ++ (e.gl ++ flatG B) := fun e => by rw [flatG_app, flatG_cons]
  cases e with
  | o a o =>
    cases h2
    obtain ⟨e', h3, h4⟩ := Option.bind_eq_some_iff.mp h'
    have : e' = .o a o := Option.some.inj (h3.symm.trans h1)
    subst this
    cases h4
    show (flat (setN L p _)).map Prod.fst = _ ∧ flatG (setN L p _) = _ ∧ ∀ r ∈ flat (setN L p _), _
    rw [e2]
    subst e1
    rw [sp, sp, sg, sg]
    rw [sp] at nd
    refine ⟨by rw [List.map_append, List.map_append, List.map_append, List.map_append]; rfl, rfl, put_mem nd (List.mem_singleton.mpr rfl) fun r hr => .inl (List.mem_singleton.mp hr)⟩
  | m n ad ob =>
    cases xs with
    | a x0 r0 =>
      cases x0 with
      | n i =>
        cases h2
        obtain ⟨e', h3, h4⟩ := Option.bind_eq_some_iff.mp h'
        have : e' = .m n ad ob := Option.some.inj (h3.symm.trans h1)
        subst this
        cases xs' with
        | a x1 r1 =>
          cases x1 with
          | ob ob' =>
            cases h4
            show (flat (setN L p _)).map Prod.fst = _ ∧ flatG (setN L p _) = _ ∧ ∀ r ∈ flat (setN L p _), _
            rw [e2]
            subst e1
            rw [sp, sp, sg, sg]
            rw [sp] at nd
            have hi : i < n := hc.1
            have mem : ∀ j, j < n → ad j ∈ (Ent.m n ad ob).led.map Prod.fst := fun j hj => List.mem_map_of_mem (f := Prod.fst) (List.mem_map.mpr ⟨j, List.mem_range.mpr hj, rfl⟩)
            refine ⟨?_, rfl, put_mem nd (mem i hi) fun r hr => ?_⟩
            · have : ∀ ob : Nat → Obj, (Ent.m n ad ob).led.map Prod.fst = (List.range n).map ad := fun ob => List.map_map
              rw [List.map_append, List.map_append, List.map_append, List.map_append, this, this]
            · obtain ⟨j, hj, rfl⟩ := List.mem_map.mp hr
              have hj := List.mem_range.mp hj
              have ej := hc'.1 j hj
              by_cases e : j = i
              · subst e
                rw [ej, if_pos rfl]; exact .inl rfl
              · rw [ej, if_neg e]
                refine .inr ⟨fun h0 => e ?_, List.mem_map.mpr ⟨j, List.mem_range.mpr hj, rfl⟩⟩
                rw [List.map_append, List.map_append] at nd
                have n2 := (List.nodup_append.mp (List.nodup_append.mp nd).2.1).1
                rw [show (Ent.m n ad ob).led.map Prod.fst = (List.range n).map ad from List.map_map] at n2
                have n3 := List.pairwise_iff_getElem.mp n2
                have g : ∀ k (hk : k < ((List.range n).map ad).length), ((List.range n).map ad)[k] = ad k := fun k hk => by simp
                have li : i < ((List.range n).map ad).length := by simp [hi]
                have lj : j < ((List.range n).map ad).length := by simp [hj]
                rcases Nat.lt_trichotomy i j with h | h | h
                · exact absurd (by rw [g, g]; exact h0.symm) (n3 i j li lj h)
                · exact h.symm
                · exact absurd (by rw [g, g]; exact h0) (n3 j i lj li h)
          | _ => cases h4
        | _ => cases h4
      | _ => cases h2
    | _ => cases h2
  | f => cases h2
  | g => cases h2
theorem Hx.put {Γ : Gd} {N : Led} {s : Shared} {L : List Ent} {p : Nat} {xs xs' : XS} {q : GE} {y : PE} {x : Obj} (h : getE L p xs = some q) (h' : putE L q.p q.i x xs' = some y) (hc : AllP q.cs) (hc' : AllP y.cs) (nd : ((flat L).map Prod.fst).Nodup)
    (H : Hp Γ (N ++ setAt (flat L) q.a x) (flatG L) s) : Hx Γ (ents N ++ y.L) s := by
  obtain ⟨h1, h2, h3⟩ := putE_is h h' hc hc' nd
  show Hp Γ (flat _) (flatG _) s
  rw [flat_app, flatG_app, flat_ents, flatG_ents, h2]
  refine H.sub (fun r hr => (List.mem_append.mp hr).elim (fun h => List.mem_append_left _ h) fun h => List.mem_append_right _ (h3 r h)) ?_ (fun _ h => h) H.gnd
  have := H.nd
  rw [List.map_append, setAt_keys] at this
  rw [List.map_append, h1]; exact this
theorem views_mem : ∀ {n hs : Nat} {xs : XS} {L : List Ent} {r}, views n hs xs L = some r → ∀ q ∈ r.2, ∃ p xs0, getE L p xs0 = some q
  | 0, _, _, _, _, h => by cases h; exact fun q hq => absurd hq List.not_mem_nil
  | n + 1, hs, xs, L, r, h => by
    unfold views at h
    split at h
    · cases h
    · rename_i p _
      obtain ⟨q, h1, h2⟩ := Option.bind_eq_some_iff.mp h
      obtain ⟨x, h3, rfl⟩ := Option.map_eq_some_iff.mp h2
      exact List.forall_mem_cons.mpr ⟨⟨p, xs, h1⟩, views_mem h3⟩
theorem getG_is {L : List Ent} {hs : Nat} {q} (h : getG L hs = some q) : ∃ A B, flatG L = A ++ (q.2.1, q.2.2) :: B ∧ ∀ y, flat (setN L q.1 (.g q.2.1 y)) = flat L ∧ flatG (setN L q.1 (.g q.2.1 y)) = A ++ (q.2.1, y) :: B := by
  unfold getG at h
  split at h
  · cases h
  · obtain ⟨e, h1, h2⟩ := Option.bind_eq_some_iff.mp h
    cases e with
    | g i x =>
      cases h2
      obtain ⟨A, B, e1, e2⟩ := nth_split h1
      refine ⟨flatG A, flatG B, by rw [e1, flatG_app, flatG_cons]; rfl, fun y => ⟨?_, ?_⟩⟩
      · rw [e2, e1, flat_app, flat_cons, flat_app, flat_cons]; rfl
      · rw [e2, flatG_app, flatG_cons]; rfl
    | _ => cases h2
structure VOk (C : Cfg) (Γ : Gd) (A : Around) (R : Result → Shared → Prop) : Prop where
  B : Base C.E Γ A C.fr C.dep C.un
  hR : ∀ u s', (C.goal u).2.2 → Hx Γ ((C.goal u).2.1 ++ [.f C.X C.Y]) s' → R (C.goal u).1 s'
structure AtS (Γ : Gd) (n m t i g j : Nat) (L : List Ent) (s : Shared) : Prop where
  H : Hx Γ L s
  hn : s.heap.objs.size = n + m
  ht : s.toks = t + i
  hg : s.gens.size = g + j
abbrev VV (C : Cfg) (A : Around) (R : Result → Shared → Prop) : XV := mkV C.E.prog C.E.w A R
def IHS (C : Cfg) (Γ : Gd) (A : Around) (R : Result → Shared → Prop) (ih : RX) : Prop := ∀ hs xs c md κ tr n m t i g j L s, (∀ σ, OutOk (ih σ hs xs c md κ tr n m t i g j L)) → AtS Γ n m t i g j L s → Means (VV C A R) c md κ tr s
def putσ (u : Sup) (σ : Nat → Sup) : Nat → Sup
  | 0 => u
  | i + 1 => σ i
def numS (s : Shared) : Sup := { noS with n := s.heap.objs.size, t := s.toks, g := s.gens.size }
theorem Hx.setG {Γ : Gd} {L : List Ent} {s : Shared} {hs : Nat} {q : Nat × Nat × GenState} {y : GenState} (H : Hx Γ L s) (h : getG L hs = some q) (hb : y.bare = true) : Hx Γ (setN L q.1 (.g q.2.1 y)) (s.setGen q.2.1 y) := by
  obtain ⟨A, B, e1, e2⟩ := getG_is h
  show Hp Γ (flat _) (flatG _) _
  rw [(e2 y).1, (e2 y).2]
  have H : Hp Γ (flat L) (flatG L) s := H
  rw [e1] at H
  exact H.setGen hb
theorem getG_at {Γ : Gd} {L : List Ent} {s : Shared} {hs : Nat} {q : Nat × Nat × GenState} (H : Hx Γ L s) (h : getG L hs = some q) : s.gens[q.2.1]? = some q.2.2 := by
  obtain ⟨A, B, e1, _⟩ := getG_is h
  exact H.gens (q.2.1, q.2.2) (e1 ▸ List.mem_append_right _ List.mem_cons_self)
theorem setGen_size (s : Shared) (g : Nat) (y : GenState) : (s.setGen g y).gens.size = s.gens.size := Array.size_setIfInBounds
theorem Hx.split {Γ : Gd} {P R : List Ent} {s : Shared} (H : Hx Γ (P ++ R) s) {F : Led} (h : (flat R).Perm F) {P' : List Ent} (hg : flatG P ++ flatG R = flatG P') (hp : flat P ++ F = flat P') : Hx Γ P' s := by
  have H : Hp Γ (flat (P ++ R)) (flatG (P ++ R)) s := H
  rw [flat_app, flatG_app] at H
  show Hp Γ (flat P') (flatG P') s
  rw [← hp, ← hg]
  exact H.perm (h.append_left _) (List.Perm.refl _)
section
variable {C : Cfg} {Γ : Gd} {A : Around} {R : Result → Shared → Prop} (O : VOk C Γ A R) {ih : RX} (I : IHS C Γ A R ih)
  {hs n m t i g j : Nat} {xs : XS} {c : Code} {md : Option (List Frame)} {κ : Kont} {L : List Ent} {s : Shared}
include I
theorem wakeR_ok {e : End} (hb : e.genState.bare = true) (H : ∀ σ, OutOk (wakeR ih e κ σ hs xs n m t i g j L)) (D : AtS Γ n m t i g j L s) : wakeOf (VV C A R) κ e s := by
  cases κ with
  | base => exact bad_no (H σ0)
  | ret => exact bad_no (H σ0)
  | gen id c k κ =>
    obtain ⟨q, hq, H⟩ := allE H
    have e1 : id = q.2.1 := Ob.a.inj (obO_ok (H σ0)).1
    subst e1
    exact I _ _ _ _ _ _ _ _ _ _ _ _ _ (s.setGen q.2.1 e.genState) (fun σ => (obO_ok (H σ)).2) ⟨D.H.setG hq hb, D.hn, D.ht, (setGen_size ..).trans D.hg⟩
  | genS id c fs k κ =>
    obtain ⟨q, hq, H⟩ := allE H
    have e1 : id = q.2.1 := Ob.a.inj (obO_ok (H σ0)).1
    subst e1
    exact I _ _ _ _ _ _ _ _ _ _ _ _ _ (s.setGen q.2.1 e.genState) (fun σ => (obO_ok (H σ)).2) ⟨D.H.setG hq hb, D.hn, D.ht, (setGen_size ..).trans D.hg⟩
include O
theorem finR_ok {r : Result} (H : ∀ σ : Nat → Sup, OutOk (finR C r hs xs L)) (D : AtS Γ n m t i g j L s) : R r s := by
  have H := H σ0
  unfold finR at H
  generalize skipN xs = xs at H
  cases xs with
  | a x xs =>
    cases x with
    | u u =>
      have H : OutOk ((takeN _ _ L).elim _ _) := H
      obtain ⟨z, hz, H⟩ := allE (f := fun _ => _) (fun _ => H)
      have H := H σ0
      have e1 : r = (C.goal u).1 := Ob.r.inj (H.1 _ List.mem_cons_self)
      have e2 : z.1 = (C.goal u).2.1 ++ [.f C.X C.Y] := Ob.en.inj (H.1 _ (.tail _ List.mem_cons_self))
      rw [e1]
      refine O.hR u s H.2 ?_
      rw [← e2]
      have z1 : Hx Γ (z.1 ++ z.2) s := D.H.perm (takeN_perm hz)
      have z1 : Hp Γ (flat (z.1 ++ z.2)) (flatG (z.1 ++ z.2)) s := z1
      rw [flat_app, flatG_app] at z1
      have n1 := z1.nd
      have n2 := z1.gnd
      rw [List.map_append] at n1 n2
      exact z1.sub (fun _ h => List.mem_append_left _ h) (List.nodup_append.mp n1).1 (fun _ h => List.mem_append_left _ h) (List.nodup_append.mp n2).1
    | _ => exact bad_no H
  | _ => exact bad_no H
theorem endR_ok {r : Result} (H : ∀ σ, OutOk (endR C ih r κ σ hs xs n m t i g j L)) (D : AtS Γ n m t i g j L s) : endOf (VV C A R) κ r s := by
  cases κ with
  | base =>
    have H : ∀ σ : Nat → Sup, OutOk (match Nat.mod hs 256 with | 0 => stop _ | _ => finR C r hs xs L) := H
    split at H
    · exact stop_no (H σ0)
    · exact finR_ok O I H D
  | ret c hd k κ => exact I _ _ _ _ _ _ _ _ _ _ _ _ _ _ H D
  | _ => exact bad_no (H σ0)
theorem retR_ok {r : Result} {tr : Sem Fin} (ht : tr = leafOf r) (H : ∀ σ, OutOk (retR C ih r md κ σ hs xs n m t i g j L)) (D : AtS Γ n m t i g j L s) : Means (VV C A R) c md κ tr s := by
  subst ht
  cases md with
  | none =>
    have key := endR_ok O I H D
    cases r with
    | ok f => exact y_pure _ _ _ _ _ _ _ _ _ (y_done _ _ _ _ _ _ key)
    | error e => exact y_raise _ _ _ _ _ _ _ _ _ (y_err _ _ _ key)
  | some fs =>
    cases fs with
    | nil => exact s_end _ _ _ _ _ _ r _ rfl (wakeR_ok I (by cases r <;> rfl) H D)
    | cons f fs =>
      cases f with
      | ret k hd gd l c₁ p₁ kp => exact s_pop _ _ _ _ _ _ _ r _ rfl k hd gd l c₁ p₁ kp (I _ _ _ _ _ _ _ _ _ _ _ _ _ _ H D)
      | gen => exact bad_no (H σ0)
end
section
variable {C : Cfg} {Γ : Gd} {A : Around} {R : Result → Shared → Prop} (O : VOk C Γ A R) {ih : RX} (I : IHS C Γ A R ih)
  {hs n m t i g j : Nat} {xs : XS} {c : Code} {md : Option (List Frame)} {κ : Kont} {L : List Ent} {s : Shared}
theorem roomy_ok (O : VOk C Γ A R) (h : roomy C c md κ = true) : (aroundM (VV C A R) c md κ).depth < 900 ∧ (aroundM (VV C A R) c md κ).units < 9000 := by
  unfold roomy at h
  rw [Bool.and_eq_true, Nat.ble_eq, Nat.ble_eq] at h
  exact ⟨Nat.lt_succ_of_le (Nat.le_trans (depth_le (V := VV C A R) O.B.hd c md κ) h.1), Nat.lt_succ_of_le (Nat.le_trans (units_le (V := VV C A R) O.B.hu c md κ) h.2)⟩
theorem means_cmd {α : Type} {m : Sem α} {k : α → Sem Fin} (h : wpAny (model C.E.prog C.E.w) (aroundM (VV C A R) c md κ) m (fun a s' => Means (VV C A R) c md κ (k a) s') (fun _ _ => False) s) : Means (VV C A R) c md κ (m.bind k) s := by
  cases md with
  | none => exact wpOwn_bind (m := m) (f := k) (wpOwn_of_wpAny (wpAny_mono h (fun _ _ x => x) fun _ _ x => x.elim))
  | some fs =>
    rw [Sem.bind_eq_wrap]
    exact s_cmd _ _ _ _ _ _ (wpAny_mono h (fun _ _ x => x) fun _ _ x => x.elim)
theorem means_skim {tr tr' : Sem Fin} (e : skim ⟨C.E.prog, C.E.w.params⟩ 1 tr = tr') (h : Means (VV C A R) c md κ tr' s) : Means (VV C A R) c md κ tr s := by
  subst e
  cases md with
  | none => exact y_skim _ _ _ _ _ _ _ _ _ 1 h
  | some fs => exact s_skim _ _ _ _ _ _ _ _ 1 h
include O I
theorem instB_ok {k : Inst → (Nat → Sup) → Nat → XS → List Ent → Out} {P : Inst → Prop} {c' : Code} {es : List Env} {dep un : Nat} {A' : Around} {Q : Result → Shared → Prop}
    (H : ∀ σ, OutOk (instB C P k c' es dep un σ hs xs L)) (D : Hx Γ L s) (h1 : A'.frames = some es) (h3 : A'.depth ≤ dep) (h4 : A'.units ≤ un)
    (S : ∀ J, P J → ∀ ⦃X : Led⦄ ⦃Y : GL⦄, A'.depth ≤ J.dep → A'.units ≤ J.un → A'.frames = some J.fr → Hx Γ (J.pre ++ [.f X Y]) s →
      (∀ u s', (J.post u).2.2 → Hx Γ ((J.post u).2.1 ++ [.f X Y]) s' → Q (J.post u).1 s') → MeansC (mkV C.E.prog C.E.w A' Q) J.cu s)
    (K : ∀ J u v hs xs L s', (∀ σ, OutOk (k J (putσ u (putσ v σ)) hs xs L)) → Hx Γ L s' → v = numS s' → Q (J.post u).1 s') : codeAny (model C.E.prog C.E.w) A' c' Q s := by
  cases xs with
  | a x xs =>
    cases x with
    | i J =>
      have H : ∀ σ, OutOk (match Nat.ble dep J.dep && Nat.ble un J.un with | true => (takeN (Nat.mod hs 256) (Nat.div hs 256) L).elim (bad 31 1) fun q => _ | false => bad 31 2) := H
      split at H
      · rename_i hb
        rw [Bool.and_eq_true, Nat.ble_eq, Nat.ble_eq] at hb
        obtain ⟨q, hq, H⟩ := allE H
        obtain ⟨ho, _⟩ := obsO_ok (H σ0)
        have H1 := fun σ => (obsO_ok (H σ)).2
        have hS := (cndO_ok (H1 σ0)).1
        have H2 := fun σ => (cndO_ok (H1 σ)).2
        have e1 : cu0 c' = J.cu := by
          have := ho _ List.mem_cons_self
          injection this with a1 a2 a3 a4
          show Cu.mk c' none .base (den c') = ⟨J.cu.c, J.cu.md, J.cu.κ, J.cu.tr⟩
          rw [← a1, ← a2, ← a3, ← a4]
        have e2 : es = J.fr := Ob.es.inj (ho _ (.tail _ List.mem_cons_self))
        have e3 : q.1 = J.pre := Ob.en.inj (ho _ (.tail _ (.tail _ List.mem_cons_self)))
        have D1 : Hx Γ (J.pre ++ q.2) s := e3 ▸ D.perm (takeN_perm hq)
        have eq : ∀ P s, Hx Γ (P ++ [.f (flat q.2) (flatG q.2)]) s ↔ Hx Γ (P ++ q.2) s := fun P s => by
          show Hp Γ (flat _) (flatG _) s ↔ Hp Γ (flat _) (flatG _) s
          rw [flat_app, flatG_app, flat_app, flatG_app, flat_cons, flatG_cons]
          show Hp Γ (_ ++ (_ ++ [])) (_ ++ (_ ++ [])) s ↔ _
          rw [List.append_nil, List.append_nil]
          exact Iff.rfl
        have z := S J hS (Nat.le_trans h3 hb.1) (Nat.le_trans h4 hb.2) (by rw [← e2]; exact h1) ((eq _ _).mpr D1) fun u s' hf hs' =>
          K J u (numS s') _ (xs.go u (numS s')) _ s' (fun σ => fctO_ok (H2 (putσ u (putσ (numS s') σ))) hf) ((eq _ _).mp hs') rfl
        rw [← e1] at z
        refine y_code _ _ _ _ _ _ ?_
        rw [den_eq]
        exact z
      · exact bad_no (H σ0)
    | _ => exact bad_no (H σ0)
  | _ => exact bad_no (H σ0)
theorem instR_ok {k : Inst → (Nat → Sup) → Nat → XS → List Ent → Out} {c' : Code} {es : List Env} {dep un : Nat} {hd : Option Value} {A' : Around} {Q : Result → Shared → Prop}
    (H : ∀ σ, OutOk (instR C k c' es dep un hd σ hs xs L)) (D : Hx Γ L s) (h1 : A'.frames = some es) (h2 : A'.handled = hd.or A.handled) (h3 : A'.depth ≤ dep) (h4 : A'.units ≤ un)
    (K : ∀ J u v hs xs L s', (∀ σ, OutOk (k J (putσ u (putσ v σ)) hs xs L)) → Hx Γ L s' → v = numS s' → Q (J.post u).1 s') : codeAny (model C.E.prog C.E.w) A' c' Q s := by
  cases hd with
  | some v => exact instB_ok O I H D h1 h3 h4 (fun J hS X Y a b c => hS O.B.hT O.B.hN h2 a b c) K
  | none => exact instB_ok O I H D h1 h3 h4 (fun J hS X Y a b c => hS ⟨O.B.hT, O.B.hN, by rw [h2]; exact O.B.hh, a, b, c⟩) K
theorem wcalR_ok {k : Inst → (Nat → Sup) → Nat → XS → List Ent → Out} {c' : Code} {es : List Env} {dep un : Nat} {hd : Option Value} {A' : Around} {Q : Result → Shared → Prop}
    (H : ∀ σ, OutOk (wcalR C k c' es dep un hd σ hs xs L)) (D : Hx Γ L s) (h1 : A'.frames = some es) (h2 : A'.handled = hd.or A.handled) (h3 : A'.depth ≤ dep) (h4 : A'.units ≤ un)
    (K : ∀ J u v hs xs L s', (∀ σ, OutOk (k J (putσ u (putσ v σ)) hs xs L)) → Hx Γ L s' → v = numS s' → Q (J.post u).1 s') : wpAny (model C.E.prog C.E.w) A' (rawCall c') Q (fun _ _ => False) s := by
  cases hd with
  | some _ => exact bad_no (H σ0)
  | none =>
    cases xs with
    | a x xs =>
      cases x with
      | iw J =>
        have H : ∀ σ, OutOk (match Nat.ble dep J.dep && Nat.ble un J.un with | true => (takeN (Nat.mod hs 256) (Nat.div hs 256) L).elim (bad 31 1) fun q => _ | false => bad 31 2) := H
        split at H
        · rename_i hb
          rw [Bool.and_eq_true, Nat.ble_eq, Nat.ble_eq] at hb
          obtain ⟨q, hq, H⟩ := allE H
          obtain ⟨ho, _⟩ := obsO_ok (H σ0)
          have H1 := fun σ => (obsO_ok (H σ)).2
          have hS := (cndO_ok (H1 σ0)).1
          have H2 := fun σ => (cndO_ok (H1 σ)).2
          have e1 : c' = J.cu.c := Ob.c.inj (ho _ List.mem_cons_self)
          have e2 : es = J.fr := Ob.es.inj (ho _ (.tail _ List.mem_cons_self))
          have e3 : q.1 = J.pre := Ob.en.inj (ho _ (.tail _ (.tail _ List.mem_cons_self)))
          have D1 : Hx Γ (J.pre ++ q.2) s := e3 ▸ D.perm (takeN_perm hq)
          have eq : ∀ P s, Hx Γ (P ++ [.f (flat q.2) (flatG q.2)]) s ↔ Hx Γ (P ++ q.2) s := fun P s => by
            show Hp Γ (flat _) (flatG _) s ↔ Hp Γ (flat _) (flatG _) s
            rw [flat_app, flatG_app, flat_app, flatG_app, flat_cons, flatG_cons]
            show Hp Γ (_ ++ (_ ++ [])) (_ ++ (_ ++ [])) s ↔ _
            rw [List.append_nil, List.append_nil]
            exact Iff.rfl
          have z := hS (A := A') (R := Q) ⟨O.B.hT, O.B.hN, by rw [h2]; exact O.B.hh, Nat.le_trans h3 hb.1, Nat.le_trans h4 hb.2, by rw [← e2]; exact h1⟩ ((eq _ _).mpr D1) fun u s' hf hs' =>
            K J u (numS s') _ (xs.go u (numS s')) _ s' (fun σ => fctO_ok (H2 (putσ u (putσ (numS s') σ))) hf) ((eq _ _).mp hs') rfl
          rw [← e1] at z
          exact z
        · exact bad_no (H σ0)
      | _ => exact bad_no (H σ0)
    | _ => exact bad_no (H σ0)
end
section
variable {C : Cfg} {Γ : Gd} {A : Around} {R : Result → Shared → Prop} (O : VOk C Γ A R) {ih : RX} (I : IHS C Γ A R ih)
  {hs n m t i g j : Nat} {xs : XS} {c : Code} {md : Option (List Frame)} {κ : Kont} {tr : Sem Fin} {L : List Ent} {s : Shared}
theorem raw_means {c' : Code} {gd : Bool} {l : List Value} {k : Result → Sem Fin} (z : wpAny (model C.E.prog C.E.w) (aroundM (VV C A R) c md κ) (rawCall c') (fun r s' => Means (VV C A R) c md κ (k r) s') (fun _ _ => False) s) : Means (VV C A R) c md κ (.call c' none gd l k) s := by
  cases md with
  | none =>
    intro Γ' p' hc' hΓ'
    have z' := z Γ' p' (hc' ▸ hΓ'.in)
    unfold rawCall at z'
    rw [Sem.wp_call] at z' ⊢
    exact wpCode_mono (fun r s' hr => hr Γ' p' hc' hΓ') z'
  | some fs =>
    refine s_cmd _ _ _ _ _ _ (m := Sem.call c' none gd l Sem.pure) (k := k) (fun Γ' p' hΓ' => ?_)
    have z' := z Γ' p' hΓ'
    unfold rawCall at z'
    rw [Sem.wp_call] at z' ⊢
    exact wpCode_mono (fun r s' hr => hr) z'
include I
theorem sideR_ok (O : VOk C Γ A R) {w : Nat} (H : ∀ σ, OutOk (sideR C ih w σ hs xs c md κ tr n m t i g j L)) (D : AtS Γ n m t i g j L s) : Means (VV C A R) c md κ tr s := by
  match w with
  | 0 =>
    cases xs with
    | sp Q h1 x1 h2 x2 =>
      obtain ⟨h1⟩ := h1
      obtain ⟨h2⟩ := h2
      by_cases q : Q
      · exact I _ _ _ _ _ _ _ _ _ _ _ _ _ s (fun σ => ⟨fun p hp => (H σ).1 p (List.mem_append_left _ hp), (H σ).2.1 q⟩) D
      · exact I _ _ _ _ _ _ _ _ _ _ _ _ _ s (fun σ => ⟨fun p hp => (H σ).1 p (List.mem_append_right _ hp), (H σ).2.2 q⟩) D
    | _ => exact bad_no (H σ0)
  | 1 =>
    cases xs with
    | a x xs =>
      cases x with
      | ap x y =>
        obtain ⟨q, hq, H⟩ := allE H
        have hp := takeN_perm hq
        rw [Ob.en.inj (obO_ok (H σ0)).1] at hp
        refine I _ _ _ _ _ _ _ _ _ _ _ _ _ s (fun σ => fctO_ok (obO_ok (H σ)).2 fun p h1 r h2 => ?_) D
        have z : Hp Γ (flat (x :: y :: q.2)) (flatG (x :: y :: q.2)) s := D.H.perm hp
        rw [flat_cons, flat_cons] at z
        have nd := z.nd
        rw [List.map_append] at nd
        exact (List.nodup_append.mp nd).2.2 _ (List.mem_map_of_mem h1) _ (List.mem_map_of_mem (List.mem_append_left _ h2))
      | _ => exact bad_no (H σ0)
    | _ => exact bad_no (H σ0)
  | 2 =>
    cases xs with
    | a x xs =>
      cases x with
      | cv o e =>
        obtain ⟨q, hq, H⟩ := allE H
        have e1 : q.1 = o := Ob.en.inj (obO_ok (H σ0)).1
        have hc := (cndO_ok (obO_ok (H σ0)).2).1
        have z : Hp Γ (flat (o ++ q.2)) (flatG (o ++ q.2)) s := e1 ▸ D.H.perm (takeN_perm hq)
        refine I _ _ _ _ _ _ _ _ _ _ _ _ _ s (fun σ => (cndO_ok (obO_ok (H σ)).2).2) ⟨?_, D.hn, D.ht, D.hg⟩
        show Hp Γ (flat _) (flatG _) s
        rw [flat_app, flatG_app] at z ⊢
        rw [← hc.2]
        exact z.perm (hc.1.append_right _) (List.Perm.refl _)
      | _ => exact bad_no (H σ0)
    | _ => exact bad_no (H σ0)
  | w + 4 => exact I _ _ _ _ _ _ _ _ _ _ _ _ _ s H D
  | 3 =>
    cases xs with
    | a x xs =>
      cases x with
      | cut J =>
        have H : ∀ σ : Nat → Sup, OutOk (match Nat.ble C.dep J.dep && Nat.ble C.un J.un with | true => (takeN _ _ L).elim (bad 32 6) fun q => _ | false => bad 32 7) := H
        split at H
        · rename_i hb
          rw [Bool.and_eq_true, Nat.ble_eq, Nat.ble_eq] at hb
          obtain ⟨q, hq, H⟩ := allE H
          have H := H σ0
          have o1 : Cu.mk c md κ tr = J.cu := by
            have := H.1 _ List.mem_cons_self
            injection this with a1 a2 a3 a4
            show Cu.mk c md κ tr = ⟨J.cu.c, J.cu.md, J.cu.κ, J.cu.tr⟩
            rw [← a1, ← a2, ← a3, ← a4]
          have o2 : C.fr = J.fr := Ob.es.inj (H.1 _ (.tail _ List.mem_cons_self))
          have o3 : q.1 = J.pre ++ [.f C.X C.Y] := Ob.en.inj (H.1 _ (.tail _ (.tail _ List.mem_cons_self)))
          have o4 : J.post = C.goal := Ob.go.inj (H.1 _ (.tail _ (.tail _ (.tail _ List.mem_cons_self))))
          have z1 : Hp Γ (flat (q.1 ++ q.2)) (flatG (q.1 ++ q.2)) s := D.H.perm (takeN_perm hq)
          rw [flat_app, flatG_app, o3] at z1
          have n1 := z1.nd
          have n2 := z1.gnd
          rw [List.map_append] at n1 n2
          have z := H.2 (A := A) (R := R) ⟨O.B.hT, O.B.hN, O.B.hh, Nat.le_trans O.B.hd hb.1, Nat.le_trans O.B.hu hb.2, by rw [← o2]; exact O.B.hf⟩
            (z1.sub (fun _ h => List.mem_append_left _ h) (List.nodup_append.mp n1).1 (fun _ h => List.mem_append_left _ h) (List.nodup_append.mp n2).1) (o4 ▸ O.hR)
          rw [← o1] at z
          exact z
        · exact bad_no (H σ0)
      | _ => exact bad_no (H σ0)
    | _ => exact bad_no (H σ0)
include O
theorem treeR_ok (H : ∀ σ, OutOk (treeR C ih σ hs xs c md κ tr n m t i g j L)) (D : AtS Γ n m t i g j L s) : Means (VV C A R) c md κ tr s := by
  cases md with
  | some _ => exact bad_no (H σ0)
  | none =>
    cases hf : frK κ with
    | none => exact bad_no (n := 40) (a := 3) (by have := H σ0; unfold treeR at this; simp only [hf] at this; exact this)
    | some l =>
      cases hr : roomy C c none κ with
      | false => exact bad_no (n := 40) (a := 2) (by have := H σ0; unfold treeR at this; simp only [hf, hr] at this; exact this)
      | true =>
        unfold treeR at H
        simp only [hf, hr] at H
        obtain ⟨T, hT, H⟩ := allE H
        obtain ⟨q, hq, H⟩ := allE H
        obtain ⟨ho, _⟩ := obsO_ok (H σ0)
        have H := fun σ => (obsO_ok (H σ)).2
        obtain ⟨r1, r2⟩ := roomy_ok O hr
        have hS := T.ok c (c.envs ++ (l ++ C.fr)) q.1 (n + m) xs
        have e1 : tr = _ := Ob.t.inj (ho _ List.mem_cons_self)
        have e2 : q.1 = _ := Ob.en.inj (ho _ (.tail _ List.mem_cons_self))
        have eo := fun p hp => ho p (.tail _ (.tail _ hp))
        generalize T.dec c (c.envs ++ (l ++ C.fr)) q.1 (n + m) xs = d at hS e1 e2 eo H
        have z : Hp Γ (flat (q.1 ++ q.2)) (flatG (q.1 ++ q.2)) s := D.H.perm (takeN_perm hq)
        rw [flat_app, flatG_app, e2] at z
        obtain ⟨cmd, w1, w2⟩ := hS (P := fun s' => Means (VV C A R) c none κ d.1.nx s') eo (frM_is O.B.hf hf) r1 r2 z fun u s' h1 h2 =>
          I _ (d.2.go u (numS s')) c none κ d.1.nx s'.heap.objs.size 0 s'.toks 0 g j (d.1.post u ++ q.2) s' (fun σ => H (putσ u (putσ (numS s') σ))) ⟨by show Hp Γ (flat _) (flatG _) s'; rw [flat_app, flatG_app]; exact h1, rfl, rfl, by rw [h2]; exact D.hg⟩
        have e3 := wpOwn_of_wpAny (c := c) w1
        rw [e1]
        exact fun Γ' p' hc' hΓ' => w2 Γ' _ _ p' s (Sem.wp_mono _ Γ' cmd (fun _ p2 s2 x => x Γ' p2 hc' hΓ') (fun _ _ _ x => x) p' s (e3 Γ' p' hc' hΓ'))
theorem ruleR_ok {r : Nat} {c' : Code} {hd : Option Value} {gd : Bool} {l : List Value} {k : Result → Sem Fin} (hh : ∀ md, (aroundM (VV C A R) c md κ).handled = (hdM md κ).or A.handled) (H : ∀ σ, OutOk (ruleR C ih r c' hd k σ hs xs c md κ g j L)) (D : AtS Γ n m t i g j L s) : Means (VV C A R) c md κ (.call c' hd gd l k) s := by
  cases hd with
  | some _ => exact bad_no (H σ0)
  | none =>
    cases hr : roomy C c md κ with
    | false => exact bad_no (n := 46) (a := r) (by have := H σ0; unfold ruleR at this; simp only [hr] at this; exact this)
    | true =>
      unfold ruleR at H
      simp only [hr] at H
      obtain ⟨T, hT, H⟩ := allE H
      obtain ⟨q, hq, H⟩ := allE H
      have hS := T.ok c' (q.2.map fun x => (x.a, x.x)) q.1
      generalize T.dec c' (q.2.map fun x => (x.a, x.x)) q.1 = d at hS H
      cases hx : erB C.E.lo d.1.er (hdM md κ) with
      | true => exact bad_no (n := 43) (a := r) (by have := H σ0; simp only [hx] at this; exact this)
      | false =>
        simp only [hx] at H
        obtain ⟨ho, _⟩ := obsO_ok (H σ0)
        have H := fun σ => (obsO_ok (H σ)).2
        obtain ⟨hc, _⟩ := cndsO_ok (H σ0)
        have H := fun σ => (cndsO_ok (H σ)).2
        obtain ⟨hc1, hc2⟩ := AllP.app hc
        obtain ⟨r1, r2⟩ := roomy_ok O hr
        have e1 : c' = d.1.c := Ob.c.inj (ho _ List.mem_cons_self)
        have e2 : (q.2.map fun x => (x.a, x.x)) = d.1.vs := Ob.l.inj (ho _ (.tail _ List.mem_cons_self))
        have vm : ∀ p ∈ d.1.vs, p ∈ flat L := fun p hp => by
          rw [← e2] at hp
          obtain ⟨x, hx, rfl⟩ := List.mem_map.mp hp
          obtain ⟨p0, xs0, hg⟩ := views_mem hq x hx
          exact getE_mem hg (AllP.fl (f := GE.cs) hc1 x hx)
        have y : ∀ u s', optP (d.1.fs u) → Hp Γ (d.1.L' u (flat L)) (flatG L) s' → s'.gens = s.gens → Means (VV C A R) c md κ (k (d.1.r u)) s' := fun u s' hf h1 h2 => by
          have H := fun σ => optO_ok (H (putσ u (putσ (numS s') σ))) hf
          have eg : s'.gens.size = g + j := by rw [h2]; exact D.hg
          cases hu : d.1.up u with
          | none =>
            have H : ∀ σ, OutOk (match d.1.up u with | none => ih σ (shN (Nat.mod hs 256) (Nat.div hs 256)) (d.2.go u (numS s')) c md κ (k (d.1.r u)) _ 0 _ 0 g j (ents (d.1.nw u) ++ L) | some x => _) := H
            simp only [hu] at H
            refine I _ _ _ _ _ _ _ _ _ _ _ _ _ s' H ⟨?_, rfl, rfl, eg⟩
            unfold BI.L' at h1
            simp only [hu] at h1
            show Hp Γ (flat _) (flatG _) s'
            rw [flat_app, flatG_app, flat_ents, flatG_ents]
            exact h1
          | some x =>
            have H : ∀ σ, OutOk (match d.1.up u with | none => ih σ (shN (Nat.mod hs 256) (Nat.div hs 256)) (d.2.go u (numS s')) c md κ (k (d.1.r u)) s'.heap.objs.size 0 s'.toks 0 g j (ents (d.1.nw u) ++ L) | some x => (match q.2 with
              | [] => bad 44 r
              | v :: _ => (putE L v.p v.i x (d.2.go u (numS s'))).elim (bad 45 r) fun y => cndsO y.cs (ih σ (shN (Nat.mod hs 256) (Nat.div hs 256)) y.xs c md κ (k (d.1.r u)) s'.heap.objs.size 0 s'.toks 0 g j (ents (d.1.nw u) ++ y.L)))) := H
            simp only [hu] at H
            cases hv : q.2 with
            | nil => exact bad_no (n := 44) (a := r) (by have := H σ0; simp only [hv] at this; exact this)
            | cons v vl =>
              simp only [hv] at H
              obtain ⟨y, hy, H⟩ := allE H
              obtain ⟨hyc, _⟩ := cndsO_ok (H σ0)
              have hm : v ∈ q.2 := by rw [hv]; exact List.mem_cons_self
              obtain ⟨p0, xs0, hg⟩ := views_mem hq v hm
              refine I _ _ _ _ _ _ _ _ _ _ _ _ _ s' (fun σ => (cndsO_ok (H σ)).2) ⟨?_, rfl, rfl, eg⟩
              unfold BI.L' at h1
              rw [← e2, hv] at h1
              simp only [hu, List.map_cons] at h1
              have nd := h1.nd
              rw [List.map_append, setAt_keys] at nd
              exact Hx.put hg hy (AllP.fl (f := GE.cs) hc1 v hm) hyc (List.nodup_append.mp nd).2.1 h1
        have z := hS (R := fun r s' => Means (VV C A R) c md κ (k r) s') O.B.hN (by rw [hh md]; exact erB_ok O.B.hh hx) r1 r2 hc2 D.H vm y
        rw [← e1] at z
        exact raw_means z
omit O
theorem stackR_ok (O : VOk C Γ A R) {h : Nat} {k : List (Code × Pos) → Sem Fin} {w : String} (H : ∀ σ, OutOk (stackR C ih h k σ hs xs c md κ n m t i g j L w)) (D : AtS Γ n m t i g j L s) : Means (VV C A R) c md κ (.stack k) s := by
  cases hr : roomy C c md κ with
  | false => exact bad_no (n := 15) (a := h) (by have := H σ0; unfold stackR at this; simp only [hr] at this; exact this)
  | true =>
    unfold stackR at H
    simp only [hr] at H
    obtain ⟨y, hy, H⟩ := allE H
    have ht : Sem.stack k = (stackOp h w).bind fun _ => y := by rw [Ob.t.inj (obO_ok (H σ0)).1, ← PySem.W.R.bindR_eq]
    obtain ⟨r1, r2⟩ := roomy_ok O hr
    have z := I _ _ _ _ _ _ _ _ _ _ _ _ _ _ (fun σ => (obO_ok (H σ)).2) D
    have hl := O.B.hN s.heap D.H.top
    have d1 : (aroundM (VV C A R) c md κ).depth < recursionLimit := Nat.lt_trans r1 (by decide)
    have u1 : (aroundM (VV C A R) c md κ).units < cLine := Nat.lt_trans r2 (by decide)
    rw [ht]
    refine means_cmd ?_
    unfold stackOp
    split
    · rw [cRoomT_eq]; exact wpAny_cRoom u1 z
    · rw [enterT_eq]; exact wpAny_enterFrame hl d1 z
    · rw [wakeT_eq]; exact wpAny_roomToWake hl d1 z
end
theorem altInit_eq (a b : Addr) (h : a ≠ b) : den (.builtin "list.__init__" ⟨[.ref a, .ref b], []⟩) = altInit false (.ref a) (.ref b) := by
  rw [← den_eq]
  have e1 : denote table (.builtin "list.__init__" ⟨[.ref a, .ref b], []⟩) = Builtin.«list.__init__» ⟨[.ref a, .ref b], []⟩ := by
    unfold denote
    simp only [PySem.F.entry_list_init]
  rw [e1, PySem.W.Fast.te7929263774796372950]
  have h2 : Builtin.List.listSameRef (.ref a) (.ref b) = false := by simp [Builtin.List.listSameRef, h]
  rw [← h2]
  kernel_rfl
theorem condT {b : Bool} {n a : Nat} {f : (Nat → Sup) → Out} (h : ∀ σ, OutOk (cond b (f σ) (bad n a))) : b = true ∧ ∀ σ, OutOk (f σ) := by
  cases b with
  | false => exact bad_no (h σ0)
  | true => exact ⟨rfl, h⟩
theorem condE {b : Bool} {n a : Nat} {f : (Nat → Sup) → Out} (h : ∀ σ, OutOk (cond b (bad n a) (f σ))) : b = false ∧ ∀ σ, OutOk (f σ) := by
  cases b with
  | true => exact bad_no (h σ0)
  | false => exact ⟨rfl, h⟩
theorem nb_of {hd : Option Value} (q : okMark hd = true) : hd ≠ some byPass := by
  intro e
  subst e
  simp [okMark] at q
section
variable {C : Cfg} {Γ : Gd} {A : Around} {R : Result → Shared → Prop} {ih : RX} (O : VOk C Γ A R) (I : IHS C Γ A R ih)
  {hs n m t i g j : Nat} {xs : XS} {c : Code} {md : Option (List Frame)} {κ : Kont} {L : List Ent} {s : Shared}
theorem means_load {a : Addr} {q : Option Value} {k : Obj → Sem Fin} {o : Obj} (h : s.heap.get? a = some o) (z : Means (VV C A R) c md κ (k o) s) : Means (VV C A R) c md κ (.load a q k) s := means_cmd (m := loadPart a q) (k := k) (wpAny_loadPart h z)
theorem means_alive {a : Addr} {k : Option Obj → Sem Fin} {o : Obj} (h : s.heap.get? a = some o) (z : Means (VV C A R) c md κ (k (some o)) s) : Means (VV C A R) c md κ (.loadIfAlive a k) s := by
  cases md with
  | none => exact y_alive _ _ _ _ _ _ _ _ _ _ _ _ _ _ _ h z
  | some fs => exact s_alive _ _ _ _ _ _ _ _ _ _ _ _ _ _ h z
theorem AtS.got (D : AtS Γ n m t i g j L s) {a : Addr} {p : Nat} {q : GE} (h : getE L p xs = some q) (hc : AllP q.cs) (e : a = q.a) : s.heap.get? a = some q.x := by
  rw [e]; exact D.H.led _ (getE_mem h hc)
include O I
theorem again_ok {c' : Code} {w : Nat} (hq : quietT c' = true) (H : ∀ σ, OutOk (againS C ih w c' σ hs xs c md κ n m t i g j L)) (D : AtS Γ n m t i g j L s) : Means (VV C A R) c md κ (.pure (.again c')) s := by
  match w with
  | 0 => exact stop_no (H σ0)
  | 1 =>
    have z := I _ _ _ _ _ _ _ _ _ _ _ _ _ _ H D
    rw [← den_eq] at z
    rw [quietT_eq] at hq
    cases md with
    | none => exact y_pure _ _ _ _ _ _ _ _ _ (y_again _ _ _ _ _ _ hq (y_code _ _ _ _ _ _ z))
    | some fs => exact s_again _ _ _ _ _ _ _ _ hq z
  | 2 =>
    cases md with
    | some _ => exact bad_no (H σ0)
    | none =>
      obtain ⟨l, hl, H⟩ := allE H
      rw [quietT_eq] at hq
      refine y_pure _ _ _ _ _ _ _ _ _ (y_again _ _ _ _ _ _ hq ?_)
      refine instR_ok O I H D.H (frK_is O.B.hf hl) (hdK_is (V := VV C A R) true κ) (depthK_le (V := VV C A R) O.B.hd κ) (unitsK_le (V := VV C A R) O.B.hu κ) fun J u v hs xs L s' H' D' ev => ?_
      subst ev
      exact endR_ok O I (n := s'.heap.objs.size) (m := 0) (t := s'.toks) (i := 0) (g := s'.gens.size) (j := 0) H' ⟨D', rfl, rfl, rfl⟩
  | 9 =>
    obtain ⟨p, _, H⟩ := allE H
    obtain ⟨q, hp, H⟩ := allE H
    have e1 := Ob.c.inj (obO_ok (H σ0)).1
    have hp := takeN_perm hp
    rw [Ob.en.inj (obO_ok (obO_ok (H σ0)).2).1] at hp
    have z0 : Hp Γ (flat (Ent.o p.1 (entAt q.1 0) :: Ent.o p.2 (entAt q.1 1) :: q.2)) (flatG (Ent.o p.1 (entAt q.1 0) :: Ent.o p.2 (entAt q.1 1) :: q.2)) s := D.H.perm hp
    rw [flat_cons, flat_cons] at z0
    have h1 : p.1 ≠ p.2 := fun e => by
      have nd := z0.nd
      rw [show ((Ent.o p.1 (entAt q.1 0)).led ++ ((Ent.o p.2 (entAt q.1 1)).led ++ flat q.2)).map Prod.fst = p.1 :: p.2 :: (flat q.2).map Prod.fst from rfl] at nd
      exact (List.nodup_cons.mp nd).1 (e ▸ List.mem_cons_self)
    have z := I _ _ _ _ _ _ _ _ _ _ _ _ _ _ (fun σ => (obO_ok (obO_ok (H σ)).2).2) D
    rw [← altInit_eq _ _ h1, show (Code.builtin "list.__init__" ⟨[.ref p.1, .ref p.2], []⟩) = c' from e1.symm, ← den_eq] at z
    rw [quietT_eq] at hq
    cases md with
    | none => exact y_pure _ _ _ _ _ _ _ _ _ (y_again _ _ _ _ _ _ hq (y_code _ _ _ _ _ _ z))
    | some fs => exact s_again _ _ _ _ _ _ _ _ hq z
  | 3 => exact sideR_ok I O H D
  | 4 => exact sideR_ok I O H D
  | 5 => exact sideR_ok I O H D
  | 6 => exact sideR_ok I O H D
  | 7 => exact sideR_ok I O H D
  | 8 => exact sideR_ok I O H D
  | w + 10 => exact sideR_ok I O H D
theorem call_ok {c' : Code} {hd : Option Value} {gd : Bool} {l : List Value} {k : Result → Sem Fin} {w : Nat} (H : ∀ σ, OutOk (callS C ih w c' hd gd l k σ hs xs c md κ n m t i g j L)) (D : AtS Γ n m t i g j L s) : Means (VV C A R) c md κ (.call c' hd gd l k) s := by
  match w with
  | 0 => exact stop_no (H σ0)
  | 1 =>
    obtain ⟨q, H⟩ := condT H
    cases md with
    | none =>
        have z := I _ _ _ _ _ _ _ _ _ _ _ _ _ _ H D
        rw [← den_eq] at z
        exact y_call _ _ _ _ _ _ _ _ _ _ _ _ _ (nb_of q) (y_code _ _ _ _ _ _ z)
    | some fs =>
        refine s_call _ _ _ _ _ _ _ _ _ _ _ _ fun p => ?_
        rw [den_eq]
        exact I hs (xs.go { noS with p := p } { noS with p := p }) c' (some (.ret k hd gd l c p [] :: fs)) κ (den c') n m t i g j L s (fun σ => H (putσ { noS with p := p } σ)) D
  | 2 =>
    cases md with
    | some _ => exact bad_no (H σ0)
    | none =>
      cases hd with
      | some _ => exact bad_no (H σ0)
      | none =>
        obtain ⟨l, hl, H⟩ := allE H
        refine y_call _ _ _ _ _ _ _ _ _ _ _ _ _ (fun e => nomatch e) ?_
        refine instR_ok O I (A' := ((aroundOf (VV C A R) true κ).under c).mark none) H D.H (frM_is O.B.hf hl) ?_ (depth_le (V := VV C A R) O.B.hd c none κ) (units_le (V := VV C A R) O.B.hu c none κ) fun J u v hs xs L s' H' D' ev => ?_
        · exact hdM_is (V := VV C A R) c none κ
        · subst ev
          exact I hs xs c none κ (k (J.post u).1) s'.heap.objs.size 0 s'.toks 0 s'.gens.size 0 L s' H' ⟨D', rfl, rfl, rfl⟩
  | 3 => exact sideR_ok I O H D
  | 4 => exact sideR_ok I O H D
  | 5 => exact sideR_ok I O H D
  | 6 => exact sideR_ok I O H D
  | 7 =>
    cases hw : isIw xs with
    | false => exact sideR_ok I O (w := 4) (fun σ => by have := H σ; unfold callS at this; simp only [hw] at this; exact this) D
    | true =>
      have H := fun σ => (show OutOk (match md with
        | some _ => bad 18 5
        | none => match hd with
          | some _ => bad 18 6
          | none => (frK κ).elim (bad 18 7) fun l => wcalR C (fun I σ hs xs L => ih (shσ σ 2) hs xs c none κ (k (I.post (σ 0)).1) (σ 1).n 0 (σ 1).t 0 (σ 1).g 0 L) c' (c.envs ++ (l ++ C.fr)) (exM weightT C.dep c none κ) (exM unitsT C.un c none κ) (hdM none κ) σ hs xs L) from by have := H σ; unfold callS at this; simp only [hw] at this; exact this)
      cases md with
      | some _ => exact bad_no (H σ0)
      | none =>
        cases hd with
        | some _ => exact bad_no (H σ0)
        | none =>
          obtain ⟨l, hl, H⟩ := allE H
          refine raw_means (wcalR_ok O I (A' := aroundM (VV C A R) c none κ) H D.H (frM_is O.B.hf hl) ?_ (depth_le (V := VV C A R) O.B.hd c none κ) (units_le (V := VV C A R) O.B.hu c none κ) fun J u v hs xs L s' H' D' ev => ?_)
          · exact hdM_is (V := VV C A R) c none κ
          · subst ev
            exact I hs xs c none κ (k (J.post u).1) s'.heap.objs.size 0 s'.toks 0 s'.gens.size 0 L s' H' ⟨D', rfl, rfl, rfl⟩
  | r + 8 => exact ruleR_ok O I (fun md => hdM_is (V := VV C A R) c md κ) H D
theorem stack_ok {k : List (Code × Pos) → Sem Fin} {w : Nat} (H : ∀ σ, OutOk (stackS C ih w k σ hs xs c md κ n m t i g j L)) (D : AtS Γ n m t i g j L s) : Means (VV C A R) c md κ (.stack k) s := by
  match w with
  | 0 => exact stop_no (H σ0)
  | 1 =>
    obtain ⟨w, _, H⟩ := allE H
    exact stackR_ok I O H D
  | 2 => exact stackR_ok I O H D
  | 3 => exact stackR_ok I O H D
  | 4 =>
    cases md with
    | some _ => exact bad_no (H σ0)
    | none => exact y_stack _ _ _ _ _ _ _ _ _ fun p below _ => I hs xs c none κ (k ((c, p) :: below)) n m t i g j L s (fun σ => H (putσ { noS with p := p, w := below } σ)) D
  | 5 =>
    cases md with
    | some _ => exact bad_no (H σ0)
    | none =>
      unfold stackS at H
      simp only at H
      generalize skipN xs = xs at H
      cases xs with
      | a x xs =>
        cases x with
        | rm y f =>
          obtain ⟨hr, H⟩ := condT H
          have e1 : k = fun st => y (f st) := Ob.kk.inj (obO_ok (H σ0)).1
          have H := fun σ => (obO_ok (H σ)).2
          have z := I _ _ _ _ _ _ _ _ _ _ _ _ _ _ (fun σ => (cndO_ok (H σ)).2) D
          refine y_stack _ _ _ _ _ _ _ _ _ fun p below hl => ?_
          have ht : ¬ tightT ((c, p) :: below) := fun h => by
            rw [tightT_is] at h
            exact absurd (Nat.lt_of_le_of_lt hl.units (Nat.lt_trans (roomy_ok O hr).2 (by decide : 9000 < cLine))) (Nat.not_lt.mpr h)
          have e2 := (cndO_ok (H σ0)).1 _ ht
          have e3 : k ((c, p) :: below) = k [] := by rw [e1]; exact congrArg y e2
          rw [e3]
          exact z
        | _ => exact bad_no (H σ0)
      | _ => exact bad_no (H σ0)
  | w + 6 => exact treeR_ok O I H D
theorem load_ok {a : Addr} {q : Option Value} {k : Obj → Sem Fin} {w : Nat} (H : ∀ σ, OutOk (loadS C ih w a q k σ hs xs c md κ n m t i g j L)) (D : AtS Γ n m t i g j L s) : Means (VV C A R) c md κ (.load a q k) s := by
  match w with
  | 0 => exact stop_no (H σ0)
  | 1 =>
    obtain ⟨o, ho, H⟩ := allE H
    exact means_load (D.H.top _ _ (O.B.hT ▸ ho)) (I _ _ _ _ _ _ _ _ _ _ _ _ _ _ H D)
  | 2 => exact treeR_ok O I H D
  | p + 3 =>
    obtain ⟨q, hq, H⟩ := allE H
    have hc := (cndsO_ok (obO_ok (H σ0)).2).1
    exact means_load (D.got hq hc (Ob.a.inj (obO_ok (H σ0)).1)) (I _ _ _ _ _ _ _ _ _ _ _ _ _ _ (fun σ => (cndsO_ok (obO_ok (H σ)).2).2) D)
theorem alive_ok {a : Addr} {k : Option Obj → Sem Fin} {w : Nat} (H : ∀ σ, OutOk (aliveS C ih w a k σ hs xs c md κ n m t i g j L)) (D : AtS Γ n m t i g j L s) : Means (VV C A R) c md κ (.loadIfAlive a k) s := by
  match w with
  | 0 => exact stop_no (H σ0)
  | 1 =>
    obtain ⟨o, ho, H⟩ := allE H
    exact means_alive (D.H.top _ _ (O.B.hT ▸ ho)) (I _ _ _ _ _ _ _ _ _ _ _ _ _ _ H D)
  | 2 => exact bad_no (H σ0)
  | p + 3 =>
    obtain ⟨q, hq, H⟩ := allE H
    have hc := (cndsO_ok (obO_ok (H σ0)).2).1
    exact means_alive (D.got hq hc (Ob.a.inj (obO_ok (H σ0)).1)) (I _ _ _ _ _ _ _ _ _ _ _ _ _ _ (fun σ => (cndsO_ok (obO_ok (H σ)).2).2) D)
theorem update_ok {a : Addr} {q : Option Value} {f : Obj → Obj} {k : Unit → Sem Fin} {w : Nat} (H : ∀ σ, OutOk (updateS C ih w a q f k σ hs xs c md κ n m t i g j L)) (D : AtS Γ n m t i g j L s) : Means (VV C A R) c md κ (.update a q f k) s := by
  match w with
  | 0 => exact stop_no (H σ0)
  | 1 => exact bad_no (H σ0)
  | 2 => exact bad_no (H σ0)
  | p + 3 =>
    obtain ⟨e, he, H⟩ := allE H
    · obtain ⟨hf, H⟩ := condE H
      have ha : a = e.a := Ob.a.inj (obO_ok (H σ0)).1
      have H := fun σ => (obO_ok (H σ)).2
      have hc := (cndsO_ok (H σ0)).1
      have H := fun σ => (cndsO_ok (H σ)).2
      obtain ⟨y, hy, H⟩ := allE H
      have hc' := (cndsO_ok (H σ0)).1
      have H := fun σ => (cndsO_ok (H σ)).2
      have hm := getE_mem he hc
      refine means_cmd (m := updatePart a q f) (k := k) (wpAny_updatePart (D.got he hc ha) (I _ _ _ _ _ _ _ _ _ _ _ _ _ _ H ⟨?_, ?_, D.ht, D.hg⟩))
      · subst ha
        exact Hx.put (N := []) he hy hc hc' D.H.nd (D.H.setF hm hf rfl)
      · exact (Heap.SameBut.update ..).1.trans D.hn
theorem resume_ok {a : Nat} {r : Resume} {l : List Value} {k : GenResult → Sem Fin} {h : Nat} {q : Nat × Nat × GenState} (hq : getG L h = some q) (H : ∀ σ, OutOk (resumeS C ih a r k q σ hs xs c md κ n m t i g j L)) (D : AtS Γ n m t i g j L s) : Means (VV C A R) c md κ (.resume a r l k) s := by
  obtain ⟨p, id, gs⟩ := q
  have hx := getG_at D.H hq
  cases gs with
  | fresh c₀ =>
    cases r with
    | throw => exact bad_no (H σ0)
    | send v =>
      cases v with
      | none =>
        have e1 : a = id := Ob.a.inj (obO_ok (H σ0)).1
        subst e1
        have z := I _ _ _ _ _ _ _ _ _ _ _ _ _ (s.setGen a .running) (fun σ => (obO_ok (H σ)).2) ⟨D.H.setG hq rfl, D.hn, D.ht, (setGen_size ..).trans D.hg⟩
        rw [← den_eq] at z
        cases md with
        | none => exact y_resume_f _ _ _ _ _ _ _ _ _ _ _ _ hx z
        | some fs => exact s_resume_f _ _ _ _ _ _ _ _ _ _ _ hx z
      | _ => exact bad_no (n := 33) (a := 0) (H σ0)
  | suspended k₀ l₀ c₀ p₀ fs₀ cl =>
    have e1 : a = id := Ob.a.inj (obO_ok (H σ0)).1
    subst e1
    have z := I _ _ _ _ _ _ _ _ _ _ _ _ _ (s.setGen a .running) (fun σ => (obO_ok (H σ)).2) ⟨D.H.setG hq rfl, D.hn, D.ht, (setGen_size ..).trans D.hg⟩
    cases md with
    | none => exact y_resume_s _ _ _ _ _ _ _ _ _ _ _ _ _ _ _ _ _ _ hx z
    | some fs => exact s_resume_s _ _ _ _ _ _ _ _ _ _ _ _ _ _ _ _ _ hx z
  | running => exact bad_no (H σ0)
  | finished => exact bad_no (H σ0)
theorem yield_ok {v : Value} {gd : Bool} {l : List Value} {k : Resume → Sem Fin} (H : ∀ σ, OutOk (yieldS ih v gd l k σ hs xs c md κ n m t i g j L)) (D : AtS Γ n m t i g j L s) : Means (VV C A R) c md κ (.yield v gd l k) s := by
  cases md with
  | none => exact bad_no (H σ0)
  | some fs =>
    unfold yieldS at H
    cases hfs : splitAtGen fs with
    | some _ => exact bad_no (n := 39) (a := 0) (by have := H σ0; simp only [hfs] at this; exact this)
    | none =>
      simp only [hfs] at H
      obtain ⟨hg, H2⟩ := condE H
      rw [Bool.or_eq_false_iff] at hg
      obtain ⟨rfl, hfg⟩ := hg
      refine s_yield _ _ _ _ _ _ _ _ _ _ hfs hfg fun p => wakeR_ok I (xs := xs.go { noS with p := p } { noS with p := p }) ?_ (fun σ => H2 (putσ { noS with p := p } σ)) D
      show GenState.bare (.suspended k l c p fs (false || fs.any Frame.guarded)) = true
      rw [hfg]; rfl
theorem rstep_ok : IHS C Γ A R (rstep C ih) := by
  intro hs xs c md κ tr n m t i g j L s H D
  cases tr with
  | pure fin =>
    cases fin with
    | done f => exact retR_ok O I rfl H D
    | again c' =>
      obtain ⟨q, H⟩ := condT H
      exact again_ok O I q H D
  | raise e => exact retR_ok O I rfl H D
  | rule tag k => exact means_skim rfl (I _ _ _ _ _ _ _ _ _ _ _ _ _ _ H D)
  | «at» q k => exact means_skim rfl (I _ _ _ _ _ _ _ _ _ _ _ _ _ _ H D)
  | point l k => exact means_skim rfl (I _ _ _ _ _ _ _ _ _ _ _ _ _ _ H D)
  | ask k => exact means_skim rfl (I _ _ _ _ _ _ _ _ _ _ _ _ _ _ H D)
  | load a q k => exact load_ok O I H D
  | loadIfAlive a k => exact alive_ok O I H D
  | update a q f k => exact update_ok O I H D
  | alloc o k =>
      obtain ⟨hf, H⟩ := condE H
      have z := I _ _ _ _ _ _ _ _ _ _ _ _ _ { s with heap := s.heap.push o } H ⟨by rw [← D.hn]; exact D.H.alloc hf, by show (s.heap.push o).objs.size = _; rw [Heap.size_push, D.hn]; rfl, D.ht, D.hg⟩
      rw [← D.hn] at z
      exact means_cmd (m := PySem.alloc o) (k := k) (wpAny_alloc z)
  | fresh k =>
    have z := I _ _ _ _ _ _ _ _ _ _ _ _ _ { s with toks := s.toks + 1 } H ⟨D.H.same rfl rfl rfl rfl, D.hn, by show s.toks + 1 = _; rw [D.ht]; rfl, D.hg⟩
    rw [← D.ht] at z
    cases md with
    | none => exact y_fresh _ _ _ _ _ _ _ _ _ _ _ _ _ z
    | some fs => exact s_fresh _ _ _ _ _ _ _ _ _ _ _ _ z
  | handled own k =>
      obtain ⟨ow, H2⟩ := condE H
      obtain ⟨rfl, lo⟩ := Bool.or_eq_false_iff.mp ow
      have z := I _ _ _ _ _ _ _ _ _ _ _ _ _ _ H2 D
      have hn : A.handled = none := by
        have := O.B.hh
        rw [show C.E.lo = false from lo] at this; exact this
      rw [← Option.or_none (o := hdM md κ), ← hn, show (hdM md κ).or A.handled = (aroundM (VV C A R) c md κ).handled from (hdM_is (V := VV C A R) c md κ).symm] at z
      cases md with
      | none => exact y_handled _ _ _ _ _ _ _ _ _ z
      | some fs => exact s_handled _ _ _ _ _ _ _ _ z
  | stack k => exact stack_ok O I H D
  | call c' hd gd l k => exact call_ok O I H D
  | newGen c' k =>
    have z := I _ _ _ _ _ _ _ _ _ _ _ _ _ { s with gens := s.gens.push (.fresh c') } H ⟨by rw [← D.hg]; exact D.H.newGen c', D.hn, D.ht, by show (s.gens.push _).size = _; rw [Array.size_push, D.hg]; rfl⟩
    rw [← D.hg] at z
    cases md with
    | none => exact y_newGen _ _ _ _ _ _ _ _ _ _ _ _ _ _ z
    | some fs => exact s_newGen _ _ _ _ _ _ _ _ _ _ _ _ _ z
  | genState a k =>
    have H : ∀ σ : Nat → Sup, OutOk (match Nat.mod hs 256 with | 0 => stop _ | _ => (getG L hs).elim (bad 30 0) fun q => obO (.a a) (.a q.2.1) (ih σ (Nat.div hs 256) xs c md κ (k q.2.2.seen) n m t i g j L)) := H
    split at H
    · exact stop_no (H σ0)
    obtain ⟨q, hq, H⟩ := allE H
    have hx := getG_at D.H hq
    rw [← Ob.a.inj (obO_ok (H σ0)).1] at hx
    have z := I _ _ _ _ _ _ _ _ _ _ _ _ _ _ (fun σ => (obO_ok (H σ)).2) D
    cases md with
    | none => exact y_genState _ _ _ _ _ _ _ _ _ _ _ hx z
    | some fs => exact s_genState _ _ _ _ _ _ _ _ _ _ hx z
  | resume a r l k =>
    have H : ∀ σ : Nat → Sup, OutOk (match Nat.mod hs 256 with | 0 => stop _ | _ => (getG L hs).elim (bad 30 1) fun q => resumeS C ih a r k q σ (Nat.div hs 256) xs c md κ n m t i g j L) := H
    split at H
    · exact stop_no (H σ0)
    obtain ⟨q, hq, H⟩ := allE H
    exact resume_ok O I hq H D
  | yield v gd l k => exact yield_ok O I H D
  | unsupported => exact stop_no (H σ0)
  | finish | register | choose | os | fork | thread | await => exact bad_no (n := 50) (a := 0) (H σ0)
end
theorem rx_ok {C : Cfg} {Γ : Gd} {A : Around} {R : Result → Shared → Prop} (O : VOk C Γ A R) : ∀ N, IHS C Γ A R (rx C N)
  | 0 => fun _ _ _ _ _ _ _ _ _ _ _ _ _ _ H _ => bad_no (H σ0)
  | N + 1 => rstep_ok O (rx_ok O N)
noncomputable def Go (E : Wd) (I : Inst) (h : Hs) (xs : XS) (n t g : Nat) (X : Led) (Y : GL) (σ : Nat → Sup) : Out := match h with
  | .h hs => rx ⟨E, I.fr, I.dep, I.un, X, Y, I.post⟩ 1000000 σ hs xs I.cu.c I.cu.md I.cu.κ I.cu.tr n 0 t 0 g 0 (I.pre ++ [.f X Y])
abbrev See (o : Out) (V : Prop) : Prop := (o.vc, o.obs.map Prod.snd) = (V, o.obs.map Prod.fst)
theorem obs_ok {obs : Obs} (h : obs.map Prod.snd = obs.map Prod.fst) : ∀ p ∈ obs, p.1 = p.2 := by
  induction obs with
  | nil => intro p hp; cases hp
  | cons q l ih =>
    rw [List.map_cons, List.map_cons] at h
    injection h with h1 h2
    exact List.forall_mem_cons.mpr ⟨h1.symm, ih h2⟩
theorem sat_of {E : Wd} {I : Inst} {hs : Hs} {xs : Nat → Nat → Nat → Led → GL → XS} {V : Nat → Nat → Nat → Led → GL → (Nat → Sup) → Prop}
    (S : ∀ n t g X Y σ, See (Go E I hs (xs n t g X Y) n t g X Y σ) (V n t g X Y σ)) (hV : ∀ n t g X Y σ, V n t g X Y σ) : Sat E I := by
  intro Γ A X Y s R B H K
  obtain ⟨hs⟩ := hs
  refine rx_ok (C := ⟨E, I.fr, I.dep, I.un, X, Y, I.post⟩) ⟨B, K⟩ 1000000 hs (xs s.heap.objs.size s.toks s.gens.size X Y) I.cu.c I.cu.md I.cu.κ I.cu.tr s.heap.objs.size 0 s.toks 0 s.gens.size 0 (I.pre ++ [.f X Y]) s (fun σ => ?_) ⟨H, rfl, rfl, rfl⟩
  have h := S s.heap.objs.size s.toks s.gens.size X Y σ
  unfold See at h
  rw [Prod.mk.injEq] at h
  have e : _ = V _ _ _ X Y σ := h.1
  exact ⟨obs_ok h.2, by rw [show (rx _ _ _ _ _ _ _ _ _ _ _ _ _ _ _ _).vc = _ from e]; exact hV ..⟩
noncomputable section
def posOf : Code → List Value
  | .call _ a => a.pos
  | .builtin _ a => a.pos
  | _ => []
def fnOf : Code → Value
  | .call f _ => f
  | _ => .none
def arg (c : Code) (i : Nat) : Value := (nth (posOf c) i).getD .none
def refOf : Value → Nat
  | .ref a => a
  | _ => 0
def zOf : Value → Int
  | .int z _ => z
  | _ => 0
def tokOf : Value → Nat
  | .int _ t => t
  | .str _ t => t
  | _ => 0
def sOf : Value → Str
  | .str x _ => x
  | _ => ⟨#[]⟩
def vw (vs : Led) (i : Nat) : Obj := ((nth vs i).getD (0, default)).2
def seqOf (o : Obj) : Array Value := match o.data with
  | .seq xs _ => xs
  | _ => #[]
def epOf (o : Obj) : Nat := match o.data with
  | .seq _ e => e
  | .dict _ e => e
  | _ => 0
def esOf (o : Obj) : Array DictEntry := match o.data with
  | .dict es _ => es
  | _ => #[]
def fldOf (o : Obj) (i : Nat) : Value := match o.data with
  | .fields xs => (nth xs.toList i).getD .none
  | _ => .none
def axOf : XS → Aux
  | .a x _ => x
  | _ => .b false
def tlOf : XS → XS
  | .a _ r => r
  | x => x
def bOf : Aux → Bool
  | .b b => b
  | _ => false
def vOf : Aux → Option Value
  | .v v => some v
  | _ => none
def nOf : Aux → Nat
  | .n n => n
  | _ => 0
def axZ : Aux → Int
  | .z n => n
  | _ => 0
def axS : Aux → Str
  | .s n => n
  | _ => ⟨#[]⟩
def callB (id : String) (pos : List Value) : Code := .call (.builtin id) ⟨pos, []⟩
def lsO (xs : Array Value) (e : Nat) : Obj := ⟨.type "list", none, .seq xs e, #[]⟩
def tpO (xs : Array Value) : Obj := ⟨.type "tuple", none, .seq xs 0, #[]⟩
def dO (es : Array DictEntry) (e : Nat) : Obj := ⟨.type "dict", none, .dict es e, #[]⟩
def rcO (cls : Value) (vs : Array Value) : Obj := ⟨cls, none, .fields vs, #[]⟩
def stopO (a : Nat) : Obj := ⟨.type "StopIteration", none, .fields #[.ref a, .none, .none, .none, .bool false, .none], #[]⟩
end
section
variable {prog : Program} {w : World}
theorem Hp.toks {Γ : Gd} {L : Led} {G : GL} {s : Shared} (H : Hp Γ L G s) (k : Nat) : Hp Γ L G { s with toks := k } := H.same rfl rfl rfl rfl
theorem satB {I : BI} {id : String} {pos : List Value} (hc : I.c = callB id pos)
    (h : ∀ ⦃Γ : Gd⦄ ⦃L : Led⦄ ⦃G : GL⦄ ⦃A : Around⦄ ⦃s : Shared⦄ ⦃R : Result → Shared → Prop⦄, erH I.er Γ A.handled → A.depth < 900 → A.units < 9000 → AllP I.cs → Hp Γ L G s → (∀ p ∈ I.vs, p ∈ L) →
      (∀ u s', optP (I.fs u) → Hp Γ (I.L' u L) G s' → s'.gens = s.gens → R (I.r u) s') → wpAny (model prog w) A (call (.builtin id) pos) (fun v s' => R (.ok (.ret v)) s') (fun e s' => R (.error e) s') s) : SatB prog w I := by
  intro Γ L G A s R _ hA hd hu hcs H hv K Γ' p hΓ
  have z := h hA hd hu hcs H hv K Γ' p hΓ
  unfold call at z
  rw [Sem.wp_runValue] at z
  rw [hc]
  unfold rawCall
  rw [Sem.wp_call]
  refine wpCode_mono (fun r s' hr => ?_) z
  cases r with
  | error e => exact hr
  | ok f => cases f with
    | ret v => exact hr
    | _ => exact hr.elim
theorem satC {I : BI} (h : ∀ ⦃Γ : Gd⦄ ⦃L : Led⦄ ⦃G : GL⦄ ⦃A : Around⦄ ⦃s : Shared⦄ ⦃R : Result → Shared → Prop⦄, erH I.er Γ A.handled → A.depth < 900 → A.units < 9000 → AllP I.cs → Hp Γ L G s → (∀ p ∈ I.vs, p ∈ L) →
      (∀ u s', optP (I.fs u) → Hp Γ (I.L' u L) G s' → s'.gens = s.gens → R (I.r u) s') → codeAny (model prog w) A I.c R s) : SatB prog w I := by
  intro Γ L G A s R _ hA hd hu hcs H hv K Γ' p hΓ
  unfold rawCall
  rw [Sem.wp_call]
  exact h hA hd hu hcs H hv K _ p rfl (hΓ.enter I.c none p (by intro x; cases x))
def cmpId : Nat → String
  | 0 => "int.__eq__"
  | 1 => "int.__ne__"
  | 2 => "int.__lt__"
  | 3 => "int.__le__"
  | 4 => "int.__gt__"
  | _ => "int.__ge__"
def cmpP : Nat → Int → Int → Prop
  | 0, a, b => a = b
  | 1, a, b => a ≠ b
  | 2, a, b => a < b
  | 3, a, b => a ≤ b
  | 4, a, b => a > b
  | _, a, b => a ≥ b
theorem int_cmp {A : Around} {E : Value → Shared → Prop} {s : Shared} {Q : Value → Shared → Prop} (k : Nat) (hk : k < 6) (a b : Int) (t u : Tok) (r : Bool) (h : r = true ↔ cmpP k a b) (hq : Q (.bool r) s) :
    wpAny (model prog w) A (call (.builtin (cmpId k)) [.int a t, .int b u]) Q E s := by
  have e : ∀ {x : Bool}, (x = true ↔ cmpP k a b) → Q (.bool x) s := fun {x} hx => by rw [show x = r from Bool.eq_iff_iff.mpr (hx.trans h.symm)]; exact hq
  match k with
  | 0 => exact call_givesAt (P := fun _ => True) F.slot_int_eq (typeIs_int s a t) F.entry_int_eq (F.args_int_eq_2 _ _) (AutoIntG7.int___eq___int_int_0 a t b u).at trivial (e beq_iff_eq)
  | 1 => exact call_givesAt (P := fun _ => True) F.slot_int_ne (typeIs_int s a t) F.entry_int_ne (F.args_int_ne_2 _ _) (AutoIntG6.int___ne___int_int_0 a t b u).at trivial (e bne_iff_ne)
  | 2 => exact call_givesAt (P := fun _ => True) F.slot_int_lt (typeIs_int s a t) F.entry_int_lt (F.args_int_lt_2 _ _) (AutoIntG1.int___lt___int_int_0 a t b u).at trivial (e decide_eq_true_iff)
  | 3 => exact call_givesAt (P := fun _ => True) F.slot_int_le (typeIs_int s a t) F.entry_int_le (F.args_int_le_2 _ _) (AutoIntG1.int___le___int_int_0 a t b u).at trivial (e decide_eq_true_iff)
  | 4 => exact call_givesAt (P := fun _ => True) F.slot_int_gt (typeIs_int s a t) F.entry_int_gt (F.args_int_gt_2 _ _) (AutoIntG4.int___gt___int_int_0 a t b u).at trivial (e decide_eq_true_iff)
  | 5 => exact call_givesAt (P := fun _ => True) F.slot_int_ge (typeIs_int s a t) F.entry_int_ge (F.args_int_ge_2 _ _) (AutoIntG9.int___ge___int_int_0 a t b u).at trivial (e decide_eq_true_iff)
  | k + 6 => exact absurd hk (Nat.not_lt.mpr (Nat.le_add_left ..))
def yesNo (r : Bool) (p : Prop) : Prop := match r with
  | true => p
  | false => ¬ p
theorem yesNo_iff {r : Bool} {p : Prop} (h : yesNo r p) : r = true ↔ p := by
  cases r with
  | true => exact ⟨fun _ => h, fun _ => rfl⟩
  | false => exact ⟨fun e => Bool.noConfusion e, fun q => absurd q h⟩
noncomputable def biCmp (k : Nat) (a : Int) (t : Nat) (b : Int) (u : Nat) (r : Bool) : BI := ⟨callB (cmpId k) [.int a t, .int b u], [], [yesNo r (cmpP k a b)], false, fun _ => .ok (.ret (.bool r)), fun _ => none, fun _ => [], fun _ => none⟩
noncomputable def rCmp (k : Nat) (hk : k < 6) : Rule prog w where
  nv := 0
  dec c _ xs := (biCmp k (zOf (arg c 0)) (tokOf (arg c 0)) (zOf (arg c 1)) (tokOf (arg c 1)) (bOf (axOf xs)), tlOf xs)
  ok _ _ _ := satB rfl fun _ _ _ _ s _ _ _ _ hc H _ K => int_cmp k hk _ _ _ _ _ (yesNo_iff hc.1) (K noS s trivial H rfl)
structure KI (prog : Program) (w : World) (K : Type) [DecidableEq K] where
  knd : KeyKind prog w K
  val : K → Nat → Value
  of : Value → K
  ok : ∀ k t, knd.is k (val k t) = true
noncomputable def kiStr : KI prog w Str := ⟨strKind prog w, .str, sOf, fun _ _ => beq_self_eq_true _⟩
section
variable {K : Type} [DecidableEq K] (ki : KI prog w K)
variable {Γ : Gd} {L : Led} {G : GL} {s : Shared}
theorem Hp.mapOf (H : Hp Γ L G s) {a : Addr} {es : Array DictEntry} {e : Nat} (h : (a, dO es e) ∈ L) (hk : KeysOf ki.knd es) : s.heap.MapOf ki.knd a (findBy ki.knd.is es) :=
  ⟨_, es, e, H.led _ h, ⟨rfl, rfl, rfl⟩, rfl, hk, fun _ => rfl⟩
theorem Hp.notMods (H : Hp Γ L G s) {a : Addr} {o : Obj} (h : (a, o) ∈ L) : (a == sysModules) = false :=
  beq_eq_false_iff_ne.mpr fun z => absurd (z ▸ H.hi _ h : 3 ≤ sysModules) (by decide)
noncomputable def biGet (a : Addr) (k : K) (t : Nat) (es : Array DictEntry) (e : Nat) (r : Value) : BI := ⟨callB "dict.get" [.ref a, ki.val k t], [(a, dO es e)], [KeysOf ki.knd es, (findBy ki.knd.is es k).getD .none = r], false, fun _ => .ok (.ret r), fun _ => none, fun _ => [], fun _ => none⟩
noncomputable def biItem (a : Addr) (k : K) (t : Nat) (es : Array DictEntry) (e : Nat) (r : Value) : BI := ⟨callB "dict.__getitem__" [.ref a, ki.val k t], [(a, dO es e)], [KeysOf ki.knd es, findBy ki.knd.is es k = some r], false, fun _ => .ok (.ret r), fun _ => none, fun _ => [], fun _ => none⟩
noncomputable def biHas (a : Addr) (k : K) (t : Nat) (es : Array DictEntry) (e : Nat) (r : Bool) : BI := ⟨callB "dict.__contains__" [.ref a, ki.val k t], [(a, dO es e)], [KeysOf ki.knd es, (findBy ki.knd.is es k).isSome = r], false, fun _ => .ok (.ret (.bool r)), fun _ => none, fun _ => [], fun _ => none⟩
noncomputable def rGet : Rule prog w where
  nv := 1
  dec c vs xs := (biGet ki (refOf (arg c 0)) (ki.of (arg c 1)) (tokOf (arg c 1)) (esOf (vw vs 0)) (epOf (vw vs 0)) ((vOf (axOf xs)).getD .none), tlOf xs)
  ok _ _ _ := satB rfl fun _ _ _ _ s _ _ _ _ hc H hv K => by
    have m := hv _ List.mem_cons_self
    refine call_meetsIn PySem.F.slot_dict_get (H.mapOf ki m hc.1).typeIs PySem.F.entry_dict_get (PySem.F.args_dict_get_2 _ _) (meets_dict_get ki.knd _ (ki.ok _ _) (H.notMods m)) ⟨_, H.mapOf ki m hc.1, ?_⟩
    rw [hc.2.1]
    exact K noS _ trivial (H.toks _) rfl
noncomputable def rItem : Rule prog w where
  nv := 1
  dec c vs xs := (biItem ki (refOf (arg c 0)) (ki.of (arg c 1)) (tokOf (arg c 1)) (esOf (vw vs 0)) (epOf (vw vs 0)) ((vOf (axOf xs)).getD .none), tlOf xs)
  ok _ _ _ := satB rfl fun _ _ _ _ s _ _ _ _ hc H hv K => by
    have m := hv _ List.mem_cons_self
    exact call_meetsIn PySem.F.slot_dict_getitem (H.mapOf ki m hc.1).typeIs PySem.F.entry_dict_getitem (PySem.F.args_dict_getitem_2 _ _) (meets_dict_getitem ki.knd _ (ki.ok _ _)) ⟨_, _, H.mapOf ki m hc.1, hc.2.1, K noS _ trivial (H.toks _) rfl⟩
noncomputable def rHas : Rule prog w where
  nv := 1
  dec c vs xs := (biHas ki (refOf (arg c 0)) (ki.of (arg c 1)) (tokOf (arg c 1)) (esOf (vw vs 0)) (epOf (vw vs 0)) (bOf (axOf xs)), tlOf xs)
  ok _ _ _ := satB rfl fun _ _ _ _ s _ _ _ _ hc H hv K => by
    have m := hv _ List.mem_cons_self
    refine call_meetsIn PySem.F.slot_dict_contains (H.mapOf ki m hc.1).typeIs PySem.F.entry_dict_contains (PySem.F.args_dict_contains_2 _ _) (meets_dict_contains ki.knd _ (ki.ok _ _) (H.notMods m)) ⟨_, H.mapOf ki m hc.1, ?_⟩
    rw [hc.2.1]
    exact K noS _ trivial (H.toks _) rfl
noncomputable def biSet (a : Addr) (k : K) (t : Nat) (v : Value) (es : Array DictEntry) (e : Nat) (i : Option Nat) : BI :=
  ⟨callB "dict.__setitem__" [.ref a, ki.val k t, v], [(a, dO es e)], [KeysOf ki.knd es, (es.findIdx? fun e => ki.knd.is k e.key) = i, es.size ≤ 1000000], false, fun _ => .ok (.ret .none),
    fun _ => some (match i with | none => dO (es.push ⟨ki.knd.hash k, ki.val k t, v⟩) (e + 1) | some i => dO (es.modify i fun e => { e with val := v }) e), fun _ => [], fun _ => none⟩
def inOf : Aux → Option Nat
  | .n i => some i
  | _ => none
noncomputable def rSet : Rule prog w where
  nv := 1
  dec c vs xs := (biSet ki (refOf (arg c 0)) (ki.of (arg c 1)) (tokOf (arg c 1)) (arg c 2) (esOf (vw vs 0)) (epOf (vw vs 0)) (inOf (axOf xs)), tlOf xs)
  ok c vs xs := satB rfl fun Γ L G A s R _ _ _ hc H hv K => by
    have m := hv _ List.mem_cons_self
    have hg := H.led _ m
    obtain ⟨c1, c2, c3, _⟩ := hc
    generalize inOf (axOf xs) = i at K c2
    refine wpAny_call_entry PySem.F.slot_dict_setitem (H.mapOf ki m c1).typeIs PySem.F.entry_dict_setitem ?_ (PySem.F.args_dict_setitem_3 _ _ _)
    show wpAny _ _ (Builtin.Dict.notOrdered "__setitem__" _ >>= _) _ _ s
    refine wpAny_bind (wpAny_notOrdered_dict (H.mapOf ki m c1).typeIs ?_)
    show wpAny _ _ (dictSet _ _ _ >>= _) _ _ s
    refine wpAny_bind ?_
    unfold dictSet
    try with_reducible refine wpAny_holding ?_
    refine wpAny_bind (ki.knd.pyHash (ki.ok _ _) ?_)
    unfold dictSetHashed
    try with_reducible refine wpAny_holding ?_
    refine wpAny_bind (wpAny_dictFind_of (s := { s with toks := s.toks + 1 }) (ki.ok _ _) hg rfl c1 ?_)
    rw [c2]
    cases i with
    | some i => exact wpAny_bind (wpAny_rule (wpAny_bind (wpAny_updateDict (s := { s with toks := s.toks + 1 }) hg rfl (wpAny_point (wpAny_pure ⟨_, rfl, K noS _ trivial ((H.toks _).setF m rfl rfl) rfl⟩)))))
    | none => exact wpAny_bind (wpAny_rule (wpAny_updateDictKeys (hz := Nat.le_trans c3 (by decide)) (s := { s with toks := s.toks + 1 }) hg rfl (wpAny_pure ⟨_, rfl, K noS _ trivial ((H.toks _).setF m rfl rfl) rfl⟩)))
noncomputable def biDel (a : Addr) (k : K) (t : Nat) (es : Array DictEntry) (e : Nat) (i : Nat) : BI :=
  ⟨callB "dict.__delitem__" [.ref a, ki.val k t], [(a, dO es e)], [KeysOf ki.knd es, (es.findIdx? fun e => ki.knd.is k e.key) = some i, es.size ≤ 1000000], false, fun _ => .ok (.ret .none), fun _ => some (dO (es.eraseIdxIfInBounds i) (e + 1)), fun _ => [], fun _ => none⟩
theorem erase_le {α : Type} (es : Array α) (i : Nat) : (es.eraseIdxIfInBounds i).size ≤ es.size := by rw [Array.eraseIdxIfInBounds_eq]; split <;> simp
noncomputable def rDel : Rule prog w where
  nv := 1
  dec c vs xs := (biDel ki (refOf (arg c 0)) (ki.of (arg c 1)) (tokOf (arg c 1)) (esOf (vw vs 0)) (epOf (vw vs 0)) (nOf (axOf xs)), tlOf xs)
  ok c vs xs := satB rfl fun Γ L G A s R _ _ _ hc H hv K => by
    have m := hv _ List.mem_cons_self
    have hg := H.led _ m
    obtain ⟨c1, c2, c3, _⟩ := hc
    have hlt := (Array.findIdx?_eq_some_iff_getElem.mp c2).1
    refine wpAny_call_entry PySem.F.slot_dict_delitem (H.mapOf ki m c1).typeIs PySem.F.entry_dict_delitem ?_ (PySem.F.args_dict_delitem_2 _ _)
    show wpAny _ _ (Builtin.Dict.dictSlotArgs "__delitem__" _ >>= _) _ _ s
    refine wpAny_bind ?_
    unfold Builtin.Dict.dictSlotArgs
    refine wpAny_bind (wpAny_notOrdered_dict (H.mapOf ki m c1).typeIs ?_)
    show wpAny _ _ (pure _) _ _ s
    refine wpAny_pure ?_
    show wpAny _ _ (Builtin.Dict.takeOut _ _ >>= _) _ _ s
    refine wpAny_bind ?_
    unfold Builtin.Dict.takeOut
    try with_reducible refine wpAny_holding ?_
    refine wpAny_bind (ki.knd.pyHash (ki.ok _ _) ?_)
    refine wpAny_bind (wpAny_dictFind_of (s := { s with toks := s.toks + 1 }) (ki.ok _ _) hg rfl c1 ?_)
    rw [c2]
    refine wpAny_bind (wpAny_dictEntries (s := { s with toks := s.toks + 1 }) hg rfl ?_)
    rw [Array.getElem?_eq_getElem hlt]
    refine wpAny_bind (wpAny_updateDictKeys (hz := Nat.le_trans c3 (by decide)) (hf := Nat.le_succ_of_le (erase_le _ _)) (s := { s with toks := s.toks + 1 }) hg rfl (wpAny_pure ?_))
    exact wpAny_bind (wpAny_letGo (wpAny_pure ⟨_, rfl, K noS _ trivial ((H.toks _).setF m rfl rfl) rfl⟩))
end
end
section
variable {prog : Program} {w : World}
def stopX (a : Nat) (c : Value) : Obj := ⟨.type "StopIteration", none, .fields #[.ref a, .none, c, .none, .bool false, .none], #[]⟩
theorem entry_unchain : entryFor table "proto.unchain" = some Builtin.«proto.unchain» := entryFor_of_tree (by kernel_rfl)
theorem stop_now {Γ : Gd} {L : Led} {G : GL} {s : Shared} {B : Around} {α : Type} {Q : α → Shared → Prop} {R : Result → Shared → Prop} (hA : HOk Γ B.handled) (H : Hp Γ L G s)
    (K : ∀ (u : Sup) s', Hp Γ ((u.b, stopX u.a (u.vv 0)) :: (u.a, tpO #[]) :: L) G s' → s'.gens = s.gens → R (.error (.ref u.b)) s') :
    wpAny (model prog w) B (newExc (.type "StopIteration") [] >>= fun e => raiseNew e) Q (fun e s' => R (.error e) s') s := by
  refine wpAny_bind ?_
  simp only [newExc, newTuple]
  refine wpAny_bind (wpAny_newObj_type ?_ (by size_fits))
  refine wpAny_bind (m := firstArgMember _ _) (wpAny_of_eq (a := Value.none) (by first | rfl | (simp only [firstArgMember]; rfl)) ?_)
  refine wpAny_newObj_type ?_ (by size_fits)
  simp only [raiseNew]
  refine wpAny_bind (wpAny_handled ?_)
  have H2 := (H.alloc (o := tpO #[]) rfl).alloc (o := stopX s.heap.objs.size .none) rfl
  cases hh : B.handled with
  | none =>
    refine wpAny_bind (wpAny_pure (wpAny_throw ?_))
    exact K { noS with a := s.heap.objs.size, b := (s.heap.push (tpO #[])).objs.size, vv := fun _ => .none } _ H2 rfl
  | some v =>
    obtain ⟨a, o, vs, rfl, ha, hb, hd, h2⟩ := hA v hh
    have Ga := H2.keep a o ha hb
    have ne : a ≠ (s.heap.push (tpO #[])).objs.size := fun e => hb (by rw [e]; exact H2.own _ List.mem_cons_self o (by show Γ.K.get? (s.heap.push (tpO #[])).objs.size = _; rw [← e]; exact ha))
    have ne2 : (Value.ref a != Value.ref (s.heap.push (tpO #[])).objs.size) = true := by
      rw [bne_iff_ne]; intro e; exact ne (Value.ref.inj e)
    show wpAny _ _ (if (Value.ref a != Value.ref (s.heap.push (tpO #[])).objs.size) = true then (holding [Value.ref (s.heap.push (tpO #[])).objs.size] (runValue (.builtin "proto.unchain" ⟨[.ref (s.heap.push (tpO #[])).objs.size, .ref a, .ref a, .bool false], []⟩)) >>= fun _ => updateField (s.heap.push (tpO #[])).objs.size 2 (.ref a) >>= fun _ => throw (Value.ref (s.heap.push (tpO #[])).objs.size)) else throw (Value.ref (s.heap.push (tpO #[])).objs.size)) _ _ _
    rw [if_pos ne2]
    refine wpAny_bind (wpAny_holding (PyProof.Rows.runValue_entry entry_unchain ?_))
    show wpAny _ _ (field (.ref a) 2 >>= _) _ _ _
    refine wpAny_bind (wpAny_field Ga hd h2 ?_)
    refine wpAny_pure ⟨_, rfl, ?_⟩
    refine wpAny_bind ?_
    unfold updateField
    refine wpAny_bind (wpAny_load (H2.led _ List.mem_cons_self) ?_)
    refine wpAny_update (H2.led _ List.mem_cons_self) (wpAny_throw ?_)
    have H3 := H2.setF List.mem_cons_self (f := Obj.mapFields fun vs => vs.setIfInBounds 2 (.ref a)) (x := stopX s.heap.objs.size (.ref a)) rfl rfl
    have e3 : ∀ l : Led, (∀ p ∈ l, p.1 ≠ (s.heap.push (tpO #[])).objs.size) → setAt l (s.heap.push (tpO #[])).objs.size (stopX s.heap.objs.size (.ref a)) = l := fun l hl =>
      (List.map_congr_left fun p hp => by rw [if_neg (hl p hp)]; rfl).trans (List.map_id l)
    refine K { noS with a := s.heap.objs.size, b := (s.heap.push (tpO #[])).objs.size, vv := fun _ => .ref a } _ ?_ rfl
    show Hp Γ ((_, _) :: ((_, _) :: L)) G _
    rw [← e3 ((s.heap.objs.size, tpO #[]) :: L) fun p hp e => (List.nodup_cons.mp H2.nd).1 (List.mem_map.mpr ⟨p, hp, e⟩)]
    have e4 : setAt (((s.heap.push (tpO #[])).objs.size, stopX s.heap.objs.size .none) :: (s.heap.objs.size, tpO #[]) :: L) (s.heap.push (tpO #[])).objs.size (stopX s.heap.objs.size (.ref a)) = ((s.heap.push (tpO #[])).objs.size, stopX s.heap.objs.size (.ref a)) :: setAt ((s.heap.objs.size, tpO #[]) :: L) (s.heap.push (tpO #[])).objs.size (stopX s.heap.objs.size (.ref a)) := by
      show (if _ = _ then _ else _) :: _ = _
      rw [if_pos rfl]; rfl
    rw [← e4]; exact H3
def nxR (x : Option Value) (u : Sup) : Result := match x with
  | some x => .ok (.ret x)
  | none => .error (.ref u.b)
def nxW (x : Option Value) (u : Sup) : Led := match x with
  | some _ => []
  | none => [(u.b, stopX u.a (u.vv 0)), (u.a, tpO #[])]
def itO (cls : Value) (la : Value) (i : Int) (t : Nat) : Obj := rcO cls #[la, .int i t]
def nxO (cls : Value) (la : Nat) (i : Int) (t : Nat) (x : Option Value) : Obj := match x with
  | some _ => itO cls (.ref la) (i + 1) 0
  | none => itO cls .none i t
theorem next_body {Γ : Gd} {L : Led} {G : GL} {s : Shared} {B : Around} {R : Result → Shared → Prop} {a la : Nat} {cls : Value} {i : Int} {t : Nat} {o : Obj} {x : Option Value} (hA : x = none → HOk Γ B.handled) (H : Hp Γ L G s) (hv : (a, itO cls (.ref la) i t) ∈ L) (hl : (la, o) ∈ L) {xs : Array Value} {e : Nat} (ho : o.data = .seq xs e) (hx : xs[i.toNat]? = x)
    (K : ∀ u s', Hp Γ (nxW x u ++ setAt L a (nxO cls la i t x)) G s' → s'.gens = s.gens → R (nxR x u) s') :
    wpAny (model prog w) B (Builtin.«list_iterator.__next__» ⟨[.ref a], []⟩) (fun fin s' => ∃ v, fin = .done (.ret v) ∧ R (.ok (.ret v)) s') (fun e s' => R (.error e) s') s := by
  have G1 := H.led _ hv
  have G2 := H.led _ hl
  show wpAny _ _ (field (.ref a) 0 >>= _) _ _ s
  refine wpAny_bind (wpAny_field G1 rfl (x := .ref la) rfl ?_)
  show wpAny _ _ (if (Value.ref la == Value.none) = true then _ else _) _ _ s
  rw [if_neg (show ¬ ((Value.ref la == Value.none) = true) from Bool.false_ne_true)]
  show wpAny _ _ (field (.ref a) 1 >>= _) _ _ s
  refine wpAny_bind (wpAny_field G1 rfl (x := .int i t) rfl ?_)
  show wpAny _ _ (seqItems? (.ref la) >>= _) _ _ s
  refine wpAny_bind (wpAny_seqItems G2 ho ?_)
  cases x with
  | some x =>
    simp only [hx]
    exact wpAny_bind (wpAny_setField G1 rfl (Nat.lt_succ_self 1) (wpAny_pure ⟨x, rfl, K noS _ (H.setF hv rfl rfl) rfl⟩))
  | none =>
    simp only [hx]
    refine wpAny_bind (wpAny_rule (wpAny_bind (wpAny_setField G1 rfl (Nat.zero_lt_succ 1) ?_)))
    exact stop_now (hA rfl) (H.setF hv rfl rfl) fun u s' H' e => K u s' H' e
theorem next_bodyT {Γ : Gd} {L : Led} {G : GL} {s : Shared} {B : Around} {R : Result → Shared → Prop} {a la : Nat} {cls : Value} {i : Int} {t : Nat} {o : Obj} {x : Option Value} (hA : x = none → HOk Γ B.handled) (H : Hp Γ L G s) (hv : (a, itO cls (.ref la) i t) ∈ L) (hl : (la, o) ∈ L) {xs : Array Value} {e : Nat} (ho : o.data = .seq xs e) (hx : xs[i.toNat]? = x)
    (K : ∀ u s', Hp Γ (nxW x u ++ setAt L a (nxO cls la i t x)) G s' → s'.gens = s.gens → R (nxR x u) s') :
    wpAny (model prog w) B (Builtin.«tuple_iterator.__next__» ⟨[.ref a], []⟩) (fun fin s' => ∃ v, fin = .done (.ret v) ∧ R (.ok (.ret v)) s') (fun e s' => R (.error e) s') s := by
  have G1 := H.led _ hv
  have G2 := H.led _ hl
  show wpAny _ _ (field (.ref a) 0 >>= _) _ _ s
  refine wpAny_bind (wpAny_field G1 rfl (x := .ref la) rfl ?_)
  show wpAny _ _ (if (Value.ref la == Value.none) = true then _ else _) _ _ s
  rw [if_neg (show ¬ ((Value.ref la == Value.none) = true) from Bool.false_ne_true)]
  show wpAny _ _ (field (.ref a) 1 >>= _) _ _ s
  refine wpAny_bind (wpAny_field G1 rfl (x := .int i t) rfl ?_)
  show wpAny _ _ (seqItems? (.ref la) >>= _) _ _ s
  refine wpAny_bind (wpAny_seqItems G2 ho ?_)
  cases x with
  | some x =>
    simp only [hx]
    exact wpAny_bind (wpAny_setField G1 rfl (Nat.lt_succ_self 1) (wpAny_pure ⟨x, rfl, K noS _ (H.setF hv rfl rfl) rfl⟩))
  | none =>
    simp only [hx]
    refine wpAny_bind (wpAny_rule (wpAny_bind (wpAny_setField G1 rfl (Nat.zero_lt_succ 1) ?_)))
    exact stop_now (hA rfl) (H.setF hv rfl rfl) fun u s' H' e => K u s' H' e
noncomputable def biNext (id : String) (icls lcls : String) (a la : Nat) (i : Int) (t : Nat) (xs : Array Value) (e : Nat) (x : Option Value) : BI :=
  ⟨callB id [.ref a], [(a, itO (.type icls) (.ref la) i t), (la, ⟨.type lcls, none, .seq xs e, #[]⟩)], [xs[i.toNat]? = x], x.isNone, nxR x, fun _ => some (nxO (.type icls) la i t x), nxW x, fun _ => none⟩
theorem isN {x : Option Value} {p : Prop} (h : x.isNone = true → p) : x = none → p := fun e => h (by rw [e]; rfl)
noncomputable def rNextL : Rule prog w where
  nv := 2
  dec c vs xs := (biNext "list_iterator.__next__" "list_iterator" "list" (refOf (arg c 0)) (refOf (fldOf (vw vs 0) 0)) (zOf (fldOf (vw vs 0) 1)) (tokOf (fldOf (vw vs 0) 1)) (seqOf (vw vs 1)) (epOf (vw vs 1)) (vOf (axOf xs)), tlOf xs)
  ok _ _ _ := satB rfl fun _ _ _ _ s _ hA _ _ hc H hv K => by
    have m := hv _ List.mem_cons_self
    exact wpAny_call_entry slot_listiter_next ⟨_, H.led _ m, rfl⟩ entry_listiter_next (next_body (isN hA) H m (hv _ (.tail _ List.mem_cons_self)) rfl hc.1 fun u s' H' e => K u s' trivial H' e) (args_listiter_next _)
noncomputable def rNextT : Rule prog w where
  nv := 2
  dec c vs xs := (biNext "tuple_iterator.__next__" "tuple_iterator" "tuple" (refOf (arg c 0)) (refOf (fldOf (vw vs 0) 0)) (zOf (fldOf (vw vs 0) 1)) (tokOf (fldOf (vw vs 0) 1)) (seqOf (vw vs 1)) (epOf (vw vs 1)) (vOf (axOf xs)), tlOf xs)
  ok _ _ _ := satB rfl fun _ _ _ _ s _ hA _ _ hc H hv K => by
    have m := hv _ List.mem_cons_self
    exact wpAny_call_entry slot_tupleiter_next ⟨_, H.led _ m, rfl⟩ entry_tupleiter_next (next_bodyT (B := Around.in1 _) (isN hA) H m (hv _ (.tail _ List.mem_cons_self)) rfl hc.1 fun u s' H' e => K u s' trivial H' e) (args_tupleiter_next _)
noncomputable def biNextM (mw a la : Nat) (i : Int) (t : Nat) (xs : Array Value) (e : Nat) (x : Option Value) : BI :=
  ⟨.call (.ref mw) ⟨[], []⟩, [(a, itO (.type "list_iterator") (.ref la) i t), (la, lsO xs e), (mw, rcO (.type "method-wrapper") #[.builtin "list_iterator.__next__", .ref a])], [xs[i.toNat]? = x], x.isNone, nxR x, fun _ => some (nxO (.type "list_iterator") la i t x), nxW x, fun _ => none⟩
noncomputable def rNextM : Rule prog w where
  nv := 3
  dec c vs xs := (biNextM (refOf (fnOf c)) (refOf (fldOf (vw vs 2) 1)) (refOf (fldOf (vw vs 0) 0)) (zOf (fldOf (vw vs 0) 1)) (tokOf (fldOf (vw vs 0) 1)) (seqOf (vw vs 1)) (epOf (vw vs 1)) (vOf (axOf xs)), tlOf xs)
  ok c vs xs := satC fun Γ L G A s R hA _ _ hc H hv K => by
    have m := hv _ List.mem_cons_self
    have m2 := hv _ (.tail _ List.mem_cons_self)
    have G1 := H.led _ (hv _ (.tail _ (.tail _ List.mem_cons_self)))
    refine codeAny_of_tree ?_
    show wpAny _ _ (callAny (.ref _) ⟨[], []⟩) _ _ s
    unfold callAny
    refine wpAny_bind (wpAny_load G1 ?_)
    dsimp only [rcO]
    simp only [beq_self_eq_true, Bool.or_true, Bool.true_or, if_true, ↓reduceIte]
    show wpAny _ _ (if (Value.type "method-wrapper" != Value.type "method") = true then (checkBoundCall "list_iterator.__next__" ⟨[.ref _], []⟩ >>= fun _ => again (.builtin "list_iterator.__next__" ⟨[.ref _], []⟩)) else _) _ _ s
    rw [if_pos (by decide)]
    refine wpAny_bind (wpAny_of_eq (a := ()) (by kernel_rfl) (wpAny_pure ⟨plainId_quiet slot_listiter_next.plain _, codeAny_builtin entry_listiter_next ?_⟩))
    rw [Around.under_plainId slot_listiter_next.plain _]
    exact wpAny_mono (next_body (isN hA) H m m2 rfl hc.1 fun u s' H' e => K u s' trivial H' e) (fun fin s' h' => by obtain ⟨r, rfl, hq⟩ := h'; exact hq) fun _ _ e => e
def rgO (x n st : Int) : Obj := rcO (.type "range_iterator") #[.int x 0, .int n 0, .int st 0]
noncomputable def biNextR (a : Nat) (x n st : Int) (more : Bool) : BI :=
  ⟨callB "range_iterator.__next__" [.ref a], [(a, rgO x n st)], [yesNo more (¬ n ≤ 0)], !more, fun u => (match more with | true => .ok (.ret (.int x u.a)) | false => .error (.ref u.b)), fun _ => some (match more with | true => rgO (x + st) (n - 1) st | false => rgO x n st), fun u => (match more with | true => [] | false => [(u.b, stopX u.a (u.vv 0)), (u.a, tpO #[])]), fun _ => none⟩
theorem setAt_setAt (L : Led) (a : Addr) (x y : Obj) : setAt (setAt L a x) a y = setAt L a y := by
  unfold setAt
  rw [List.map_map]
  refine List.map_congr_left fun p _ => ?_
  show (if (if p.1 = a then (a, x) else p).1 = a then (a, y) else (if p.1 = a then (a, x) else p)) = _
  by_cases h : p.1 = a
  · rw [if_pos h, if_pos rfl, if_pos h]
  · rw [if_neg h, if_neg h]
theorem setAt_same {Γ : Gd} {L : Led} {G : GL} {s : Shared} (H : Hp Γ L G s) {a : Addr} {x : Obj} (h : (a, x) ∈ L) : setAt L a x = L := by
  unfold setAt
  refine (List.map_congr_left fun p hp => ?_).trans (List.map_id L)
  split
  · rename_i e
    obtain ⟨b, o⟩ := p
    have e : b = a := e
    subst e
    rw [H.one hp h]; rfl
  · rfl
theorem nextR_ok (a : Nat) (x n st : Int) (more : Bool) : SatB prog w (biNextR a x n st more) := satB rfl fun Γ L G A s R hA _ _ hc H hv K => by
  have m := hv _ List.mem_cons_self
  have G1 := H.led _ m
  have hc := hc.1
  cases more with
  | true =>
    refine call_meets PySem.F.slot_range_iterator_next ⟨_, G1, rfl⟩ PySem.F.entry_range_iterator_next (PySem.F.args_range_iterator_next_1 _) (AutoRange.range_iterator___next___range_iterator_1 a x n st hc) ⟨G1, ?_⟩
    have z1 := H.setF m (f := Obj.mapFields fun vs => vs.setIfInBounds 0 (rawInt (x + st))) (x := rgO (x + st) n st) rfl rfl
    have z2 := z1.setF (setAt_at m) (f := Obj.mapFields fun vs => vs.setIfInBounds 1 (rawInt (n - 1))) (x := rgO (x + st) (n - 1) st) rfl rfl
    rw [setAt_setAt] at z2
    exact K { noS with a := s.toks } _ trivial (z2.toks (s.toks + 1)) rfl
  | false =>
    have hn : n ≤ 0 := Decidable.of_not_not hc
    refine wpAny_call_entry PySem.F.slot_range_iterator_next ⟨_, G1, rfl⟩ PySem.F.entry_range_iterator_next ?_ (PySem.F.args_range_iterator_next_1 _)
    show wpAny _ _ (field (.ref a) 0 >>= _) _ _ s
    refine wpAny_bind (wpAny_field G1 rfl (x := .int x 0) rfl ?_)
    show wpAny _ _ (field (.ref a) 1 >>= _) _ _ s
    refine wpAny_bind (wpAny_field G1 rfl (x := .int n 0) rfl ?_)
    show wpAny _ _ (field (.ref a) 2 >>= _) _ _ s
    refine wpAny_bind (wpAny_field G1 rfl (x := .int st 0) rfl ?_)
    simp only [hn, if_true]
    refine wpAny_bind (wpAny_rule (wpAny_bind ?_))
    show wpAny _ _ (newExc (.type "StopIteration") [] >>= _) _ _ _
    exact stop_now (B := Around.in1 A) (hA rfl) H fun u s' H' e => K u s' trivial (by show Hp Γ (_ ++ setAt L _ _) G s'; rw [setAt_same H m]; exact H') e
noncomputable def rNextR : Rule prog w where
  nv := 1
  dec c vs xs := (biNextR (refOf (arg c 0)) (zOf (fldOf (vw vs 0) 0)) (zOf (fldOf (vw vs 0) 1)) (zOf (fldOf (vw vs 0) 2)) (bOf (axOf xs)), tlOf xs)
  ok _ _ _ := nextR_ok ..
def kvO (cls : Value) (d : Value) (i n e : Nat) : Obj := rcO cls #[d, .int (Int.ofNat i) 0, .int (Int.ofNat n) 0, .int (Int.ofNat e) 0]
noncomputable def biNextD (id cls : String) (f : DictEntry → Value) (a d i n e : Nat) (es : Array DictEntry) (x : Option Value) : BI :=
  ⟨callB id [.ref a], [(a, kvO (.type cls) (.ref d) i n e), (d, dO es e)], [es.size = n, es[i]?.map f = x], x.isNone, nxR x, fun _ => some (match x with | some _ => kvO (.type cls) (.ref d) (i + 1) n e | none => kvO (.type cls) .none i n e), nxW x, fun _ => none⟩
theorem nextK_ok (a d i n e : Nat) (es : Array DictEntry) (x : Option Value) : SatB prog w (biNextD "dict_keyiterator.__next__" "dict_keyiterator" DictEntry.key a d i n e es x) := satB rfl fun Γ L G A s R hA _ _ hc H hv K => by
  obtain ⟨rfl, c3, _⟩ := hc
  have m := hv _ List.mem_cons_self
  have m2 := hv _ (.tail _ List.mem_cons_self)
  have G1 := H.led _ m
  have G2 := H.led _ m2
  refine wpAny_call_entry F.slot_dict_keyiterator_next ⟨_, G1, rfl⟩ F.entry_dict_keyiterator_next ?_ (F.args_dict_keyiterator_next_1 _)
  refine wpAny_bind (wpAny_pure ?_)
  refine wpAny_bind ?_
  refine wpAny_bind ?_
  refine wpAny_bind (wpAny_typeNameOfWhole_keyiter ⟨_, G1, rfl⟩ (wpAny_pure ?_))
  refine wpAny_bind (wpAny_fieldsOf G1 rfl ?_)
  have hown : Builtin.Dict_items.ownsTuple "dict_keyiterator" = false := by decide
  simp only [hown, Bool.false_eq_true, if_false]
  show wpAny _ _ (if (Value.ref d == Value.none) = true then _ else _) _ _ s
  rw [if_neg (show ¬ ((Value.ref d == Value.none) = true) from Bool.false_ne_true)]
  refine wpAny_bind (wpAny_pure ?_)
  refine wpAny_bind (wpAny_dictEntries G2 rfl ?_)
  rw [if_neg (by simp)]
  refine wpAny_bind (wpAny_pure ?_)
  refine wpAny_bind (wpAny_dictEpoch G2 rfl ?_)
  rw [if_neg (by simp)]
  refine wpAny_pure ?_
  have h0 : (if Int.ofNat i < 0 then none else es[(Int.ofNat i).toNat]?) = es[i]? := if_neg (Int.not_lt.mpr (Int.natCast_nonneg i))
  simp only [h0]
  cases he : es[i]? with
  | some en =>
    rw [he] at c3
    subst c3
    refine wpAny_bind ?_
    refine wpAny_bind (wpAny_typeNameOfWhole_keyiter ⟨_, G1, rfl⟩ (wpAny_pure ?_))
    refine wpAny_bind (wpAny_isOneOf_keyiter ⟨_, G1, rfl⟩ ?_)
    show wpAny _ _ (setField (.ref a) 1 (rawInt ((i : Int) + 1)) >>= _) _ _ s
    refine wpAny_bind (wpAny_setField G1 rfl (show 1 < 4 by decide) ?_)
    have HU := H.setF m (f := Obj.mapFields (·.setIfInBounds 1 (rawInt ((i : Int) + 1)))) (x := kvO (.type "dict_keyiterator") (.ref d) (i + 1) es.size e) rfl rfl
    refine wpAny_bind (wpAny_holding ?_)
    refine wpAny_bind (wpAny_isOneOf_keyiter ⟨_, HU.led _ (setAt_at m), rfl⟩ ?_)
    exact wpAny_pure (wpAny_pure ⟨_, rfl, K noS _ trivial HU rfl⟩)
  | none =>
    rw [he] at c3
    subst c3
    refine wpAny_bind ?_
    refine wpAny_bind (wpAny_typeNameOfWhole_keyiter ⟨_, G1, rfl⟩ (wpAny_pure ?_))
    show wpAny _ _ (setField (.ref a) 0 .none >>= _) _ _ s
    refine wpAny_bind (wpAny_setField G1 rfl (show 0 < 4 by decide) ?_)
    show wpAny _ _ (newExc (.type "StopIteration") [] >>= _) _ _ _
    exact stop_now (B := Around.in1 A) (hA rfl) (H.setF m (f := Obj.mapFields (·.setIfInBounds 0 .none)) (x := kvO (.type "dict_keyiterator") .none i es.size e) rfl rfl) fun u s' H' e => K u s' trivial H' e
theorem nextV_ok (a d i n e : Nat) (es : Array DictEntry) (x : Option Value) : SatB prog w (biNextD "dict_valueiterator.__next__" "dict_valueiterator" DictEntry.val a d i n e es x) := satB rfl fun Γ L G A s R hA _ _ hc H hv K => by
  obtain ⟨rfl, c3, _⟩ := hc
  have m := hv _ List.mem_cons_self
  have m2 := hv _ (.tail _ List.mem_cons_self)
  have G1 := H.led _ m
  have G2 := H.led _ m2
  refine wpAny_call_entry F.slot_dict_valueiterator_next ⟨_, G1, rfl⟩ F.entry_dict_valueiterator_next ?_ (F.args_dict_valueiterator_next_1 _)
  refine wpAny_bind (wpAny_pure ?_)
  refine wpAny_bind ?_
  refine wpAny_bind ?_
  refine wpAny_bind (wpAny_typeNameOfWhole_valiter ⟨_, G1, rfl⟩ (wpAny_pure ?_))
  refine wpAny_bind (wpAny_fieldsOf G1 rfl ?_)
  have hown : Builtin.Dict_items.ownsTuple "dict_valueiterator" = false := by decide
  simp only [hown, Bool.false_eq_true, if_false]
  show wpAny _ _ (if (Value.ref d == Value.none) = true then _ else _) _ _ s
  rw [if_neg (show ¬ ((Value.ref d == Value.none) = true) from Bool.false_ne_true)]
  refine wpAny_bind (wpAny_pure ?_)
  refine wpAny_bind (wpAny_dictEntries G2 rfl ?_)
  rw [if_neg (by simp)]
  refine wpAny_bind (wpAny_pure ?_)
  refine wpAny_bind (wpAny_dictEpoch G2 rfl ?_)
  rw [if_neg (by simp)]
  refine wpAny_pure ?_
  have h0 : (if Int.ofNat i < 0 then none else es[(Int.ofNat i).toNat]?) = es[i]? := if_neg (Int.not_lt.mpr (Int.natCast_nonneg i))
  simp only [h0]
  cases he : es[i]? with
  | some en =>
    rw [he] at c3
    subst c3
    refine wpAny_bind ?_
    refine wpAny_bind (wpAny_typeNameOfWhole_valiter ⟨_, G1, rfl⟩ (wpAny_pure ?_))
    refine wpAny_bind (wpAny_isOneOf_valiter ⟨_, G1, rfl⟩ ?_)
    show wpAny _ _ (setField (.ref a) 1 (rawInt ((i : Int) + 1)) >>= _) _ _ s
    refine wpAny_bind (wpAny_setField G1 rfl (show 1 < 4 by decide) ?_)
    have HU := H.setF m (f := Obj.mapFields (·.setIfInBounds 1 (rawInt ((i : Int) + 1)))) (x := kvO (.type "dict_valueiterator") (.ref d) (i + 1) es.size e) rfl rfl
    refine wpAny_bind (wpAny_holding ?_)
    refine wpAny_bind (wpAny_isOneOf_valiter ⟨_, HU.led _ (setAt_at m), rfl⟩ ?_)
    show wpAny _ _ (Builtin.Dict_items.isOneOf _ _ >>= _) _ _ _
    refine wpAny_bind (wpAny_isOneOf_valiter ⟨_, HU.led _ (setAt_at m), rfl⟩ ?_)
    exact wpAny_pure (wpAny_pure ⟨_, rfl, K noS _ trivial HU rfl⟩)
  | none =>
    rw [he] at c3
    subst c3
    refine wpAny_bind ?_
    refine wpAny_bind (wpAny_typeNameOfWhole_valiter ⟨_, G1, rfl⟩ (wpAny_pure ?_))
    show wpAny _ _ (setField (.ref a) 0 .none >>= _) _ _ s
    refine wpAny_bind (wpAny_setField G1 rfl (show 0 < 4 by decide) ?_)
    show wpAny _ _ (newExc (.type "StopIteration") [] >>= _) _ _ _
    exact stop_now (B := Around.in1 A) (hA rfl) (H.setF m (f := Obj.mapFields (·.setIfInBounds 0 .none)) (x := kvO (.type "dict_valueiterator") .none i es.size e) rfl rfl) fun u s' H' e => K u s' trivial H' e
noncomputable def rNextK : Rule prog w where
  nv := 2
  dec c vs xs := (biNextD "dict_keyiterator.__next__" "dict_keyiterator" DictEntry.key (refOf (arg c 0)) (refOf (fldOf (vw vs 0) 0)) (zOf (fldOf (vw vs 0) 1)).toNat (zOf (fldOf (vw vs 0) 2)).toNat (epOf (vw vs 1)) (esOf (vw vs 1)) (vOf (axOf xs)), tlOf xs)
  ok _ _ _ := nextK_ok ..
noncomputable def rNextV : Rule prog w where
  nv := 2
  dec c vs xs := (biNextD "dict_valueiterator.__next__" "dict_valueiterator" DictEntry.val (refOf (arg c 0)) (refOf (fldOf (vw vs 0) 0)) (zOf (fldOf (vw vs 0) 1)).toNat (zOf (fldOf (vw vs 0) 2)).toNat (epOf (vw vs 1)) (esOf (vw vs 1)) (vOf (axOf xs)), tlOf xs)
  ok _ _ _ := nextV_ok ..
end
def BIG : Nat := 1000000
theorem big_line {n : Nat} (h : n ≤ BIG) : n ≤ sizeLine := Nat.le_trans h (by decide)
section
variable {prog : Program} {w : World}
theorem Hp.heap' {Γ : Gd} {L : Led} {G : GL} {s : Shared} (H : Hp Γ L G s) (k : Nat) : Hp Γ L G { s with heap := s.heap, toks := k } := H.same rfl rfl rfl rfl
theorem Hp.grow {Γ : Gd} {L : Led} {G : GL} {s : Shared} (H : Hp Γ L G s) {h' : Heap} {tk : Nat} (hk : ∀ b o, s.heap.get? b = some o → h'.get? b = some o) {p : Addr × Obj} (hp : p ∈ L) : Hp Γ L G { s with heap := h', toks := tk } :=
  ⟨fun j o e => hk _ _ (H.top j o e), fun p hp => hk _ _ (H.led p hp), H.nd, H.off, fun b o e hb => hk _ _ (H.keep b o e hb), fun b o e => let ⟨o', h⟩ := H.kin b o e; ⟨o', hk _ _ h⟩, H.own,
    Nat.le_of_lt (Nat.lt_of_le_of_lt (H.hi p hp) (Heap.lt_size (hk _ _ (H.led p hp)))), H.hi, H.gens, H.gnd, H.bare, H.dr, H.os⟩
noncomputable def biAppend (a : Addr) (x : Value) (xs : Array Value) (e : Nat) : BI := ⟨callB "list.append" [.ref a, x], [(a, lsO xs e)], [xs.size ≤ BIG], false, fun _ => .ok (.ret .none), fun _ => some (lsO (xs.push x) (e + 1)), fun _ => [], fun _ => none⟩
theorem append_ok (a : Addr) (x : Value) (xs : Array Value) (e : Nat) : SatB prog w (biAppend a x xs e) := satB rfl fun _ _ _ _ s _ _ _ _ hc H hv K => by
  have m := hv _ List.mem_cons_self
  refine call_meets PySem.F.slot_list_append ⟨_, H.led _ m, rfl⟩ PySem.F.entry_list_append (PySem.F.args_list_append_2 _ _) (AutoListH.list_append_list_val_0 a xs e x (Nat.le_trans hc.1 (by decide))) ⟨H.led _ m, ?_⟩
  exact K noS _ trivial ((H.setF m rfl (Obj.mapSeq_push_plain _ _ _)).heap' _) rfl
noncomputable def rAppend : Rule prog w where
  nv := 1
  dec c vs xs := (biAppend (refOf (arg c 0)) (arg c 1) (seqOf (vw vs 0)) (epOf (vw vs 0)), xs)
  ok _ _ _ := append_ok ..
noncomputable def biClear (a : Addr) (xs : Array Value) (e : Nat) : BI := ⟨callB "list.clear" [.ref a], [(a, lsO xs e)], [xs.size ≤ BIG], false, fun _ => .ok (.ret .none), fun _ => some ((lsO xs e).mapSeq fun _ => #[]), fun _ => [], fun _ => none⟩
theorem clear_ok (a : Addr) (xs : Array Value) (e : Nat) : SatB prog w (biClear a xs e) := satB rfl fun _ _ _ _ s _ _ _ _ hc H hv K => by
  have m := hv _ List.mem_cons_self
  refine call_meets PySem.F.slot_list_clear ⟨_, H.led _ m, rfl⟩ PySem.F.entry_list_clear (PySem.F.args_list_clear_1 _) (AutoSeq1.list_clear_list_0 a xs e (Nat.le_trans hc.1 (by decide))) ⟨H.led _ m, ?_⟩
  exact K noS _ trivial ((H.setF m rfl rfl).heap' _) rfl
noncomputable def rClear : Rule prog w where
  nv := 1
  dec c vs xs := (biClear (refOf (arg c 0)) (seqOf (vw vs 0)) (epOf (vw vs 0)), xs)
  ok _ _ _ := clear_ok ..
noncomputable def biAdd (a b : Addr) (xs ys : Array Value) (e e' : Nat) : BI := ⟨callB "list.__add__" [.ref a, .ref b], [(a, lsO xs e), (b, lsO ys e')], [xs.size + ys.size ≤ BIG], false, fun u => .ok (.ret (.ref u.a)), fun _ => none, fun u => [(u.a, lsO (xs ++ ys) 0)], fun _ => none⟩
theorem add_ok (a b : Addr) (xs ys : Array Value) (e e' : Nat) : SatB prog w (biAdd a b xs ys e e') := satB rfl fun _ _ _ _ s _ _ _ _ hc H hv K => by
  have m := hv _ List.mem_cons_self
  have m2 := hv _ (.tail _ List.mem_cons_self)
  refine call_meets PySem.F.slot_list_add ⟨_, H.led _ m, rfl⟩ PySem.F.entry_list_add (PySem.F.args_list_add_2 _ _) (AutoSeq1.list___add___list_list_0 a xs e b ys e' (Nat.le_trans hc.1 (by decide))) ⟨H.led _ m, H.led _ m2, ?_⟩
  exact K { noS with a := s.heap.objs.size } _ trivial ((H.alloc rfl).heap' _) rfl
noncomputable def rAdd : Rule prog w where
  nv := 2
  dec c vs xs := (biAdd (refOf (arg c 0)) (refOf (arg c 1)) (seqOf (vw vs 0)) (seqOf (vw vs 1)) (epOf (vw vs 0)) (epOf (vw vs 1)), xs)
  ok _ _ _ := add_ok ..
noncomputable def biPop (a : Addr) (xs : Array Value) (e : Nat) (x : Value) : BI := ⟨callB "list.pop" [.ref a], [(a, lsO xs e)], [xs.back? = some x, xs.size ≤ BIG], false, fun _ => .ok (.ret x), fun _ => some (lsO xs.pop (e + 1)), fun _ => [], fun _ => none⟩
theorem pop_ok (a : Addr) (xs : Array Value) (e : Nat) (x : Value) : SatB prog w (biPop a xs e x) := satB rfl fun _ _ _ _ s _ _ _ _ hc H hv K => by
  have m := hv _ List.mem_cons_self
  have G1 := H.led _ m
  obtain ⟨c1, c2, _⟩ := hc
  have c0 : xs[xs.size - 1]? = some x := by rw [← c1, Array.back?_eq_getElem?]
  have hlt : xs.size - 1 < xs.size := (Array.getElem?_eq_some_iff.mp c0).1
  have hp : xs.eraseIdxIfInBounds (xs.size - 1) = xs.pop := by
    rw [Array.eraseIdxIfInBounds_eq, dif_pos hlt]
    apply Array.toList_inj.mp
    simp [List.eraseIdx_eq_take_drop_succ, List.dropLast_eq_take, hlt]
    rw [Nat.sub_add_cancel (by omega)]
    simp
  refine wpAny_call_entry PySem.F.slot_list_pop ⟨_, G1, rfl⟩ PySem.F.entry_list_pop ?_ (PySem.F.args_list_pop_1 _)
  show wpAny _ _ (Builtin.List.listItems (.ref a) >>= _) _ _ s
  refine wpAny_bind (wpAny_listItems G1 rfl ?_)
  have he : xs.isEmpty = false := Array.isEmpty_eq_false_iff.mpr fun z => by rw [z] at hlt; exact Nat.lt_irrefl _ hlt
  have hi : seqIndex? (-1) xs.size = some (xs.size - 1) := by
    rw [seqIndex_neg (by decide) (by omega)]
    exact congrArg some (by omega)
  simp only [he, hi, Option.bind_some, c0, Option.map_some]
  show wpAny _ _ (Builtin.List.listUpdate (.ref a) (·.eraseIdxIfInBounds (xs.size - 1)) >>= _) _ _ s
  refine wpAny_bind (wpAny_updateSeq G1 rfl (hz := Nat.le_trans c2 (by decide)) (_hz' := Nat.le_trans (erase_le _ _) (Nat.le_trans c2 (by decide))) (wpAny_pure ⟨_, rfl, K noS _ trivial (H.setF m rfl ?_) rfl⟩))
  unfold Obj.mapSeq lsO
  simp only [hp]
  have : (xs.pop.size == xs.size) = false := by
    rw [Array.size_pop]
    exact beq_eq_false_iff_ne.mpr (by omega)
  simp [this]
  omega
noncomputable def rPop : Rule prog w where
  nv := 1
  dec c vs xs := (biPop (refOf (arg c 0)) (seqOf (vw vs 0)) (epOf (vw vs 0)) ((vOf (axOf xs)).getD .none), tlOf xs)
  ok _ _ _ := pop_ok ..
def atK (xs : Array Value) (k : Int) : Option Value := if 0 ≤ k then xs[k.toNat]? else xs[(k + xs.size).toNat]?
def axV : Aux → Nat → Value
  | .v v, _ => v
  | .s x, t => .str x t
  | .z x, t => .int x t
  | _, _ => .none
def IdxIs (xs : Array Value) (k : Int) (x : Aux) : Prop := (∃ t, atK xs k = some (axV x t)) ∧ (-(xs.size : Int) ≤ k ∧ k < 1000000) ∧ xs.size ≤ BIG
noncomputable def biIdx (a : Addr) (k : Int) (t : Nat) (xs : Array Value) (e : Nat) (x : Aux) : BI := ⟨callB "list.__getitem__" [.ref a, .int k t], [(a, lsO xs e)], [IdxIs xs k x], false, fun u => .ok (.ret (axV x u.a)), fun _ => none, fun _ => [], fun _ => none⟩
theorem idx_ok (a : Addr) (k : Int) (t : Nat) (xs : Array Value) (e : Nat) (x : Aux) : SatB prog w (biIdx a k t xs e x) := satB rfl fun _ _ _ A s R _ _ _ hc H hv K => by
  have m := hv _ List.mem_cons_self
  have G1 := H.led _ m
  obtain ⟨⟨⟨tk, c1⟩, ⟨c2, c4⟩, c3⟩, _⟩ := hc
  have c3 : xs.size ≤ 1000000 := c3
  refine wpAny_call_entry PySem.F.slot_list_getitem ⟨_, G1, rfl⟩ PySem.F.entry_list_getitem ?_ (PySem.F.args_list_getitem_2 _ _)
  show wpAny _ _ (Builtin.List.listSubscript? (.int k t) >>= _) _ _ s
  have hfit : Builtin.List.listFitsIndex k = true := by
    unfold Builtin.List.listFitsIndex
    rw [Bool.and_eq_true, decide_eq_true_eq, decide_eq_true_eq]
    omega
  refine wpAny_bind (wpAny_listSubscript_int hfit ?_)
  have K1 : R (.ok (.ret (axV x tk))) s := K { noS with a := tk } s trivial H rfl
  unfold atK at c1
  cases k with
  | ofNat n =>
    rw [if_pos (show 0 ≤ Int.ofNat n from Int.natCast_nonneg n)] at c1
    show wpAny _ _ ((seqItemAt a n >>= fun x => pure (x.map (n, ·))) >>= _) _ _ s
    refine wpAny_bind (wpAny_bind (wpAny_seqItemAt G1 rfl (wpAny_pure ?_)))
    rw [show xs[n]? = some (axV x tk) from c1]
    exact wpAny_pure ⟨_, rfl, K1⟩
  | negSucc j =>
    rw [if_neg (show ¬ 0 ≤ Int.negSucc j from Int.not_le.mpr (Int.negSucc_lt_zero j))] at c1
    show wpAny _ _ ((Builtin.List.listItems (.ref a) >>= fun xs => pure ((seqIndex? (Int.negSucc j) xs.size).bind fun i => xs[i]?.map (i, ·))) >>= _) _ _ s
    refine wpAny_bind (wpAny_bind (wpAny_listItems G1 rfl (wpAny_pure ?_)))
    rw [seqIndex_neg (Int.negSucc_lt_zero j) c2]
    simp only [Option.bind_some, c1, Option.map_some]
    exact wpAny_pure ⟨_, rfl, K1⟩
noncomputable def rIdx : Rule prog w where
  nv := 1
  dec c vs xs := (biIdx (refOf (arg c 0)) (zOf (arg c 1)) (tokOf (arg c 1)) (seqOf (vw vs 0)) (epOf (vw vs 0)) (axOf xs), tlOf xs)
  ok _ _ _ := idx_ok ..
noncomputable def biLenM (a : Addr) (xs : Array Value) (e k : Nat) : BI := ⟨callB "list.__len__" [.ref a], [(a, lsO xs e)], [xs.size = k], false, fun u => .ok (.ret (.int (Int.ofNat k) u.a)), fun _ => none, fun _ => [], fun _ => none⟩
theorem lenM_ok (a : Addr) (xs : Array Value) (e k : Nat) : SatB prog w (biLenM a xs e k) := satB rfl fun _ _ _ _ s _ _ _ _ hc H hv K => by
  have m := hv _ List.mem_cons_self
  obtain ⟨rfl, _⟩ := hc
  exact call_meets PySem.F.slot_list_len ⟨_, H.led _ m, rfl⟩ PySem.F.entry_list_len (PySem.F.args_list_len_1 _) (AutoListH.list___len___list_0 a xs e) ⟨H.led _ m, K { noS with a := s.toks } _ trivial (H.heap' _) rfl⟩
noncomputable def rLenM : Rule prog w where
  nv := 1
  dec c vs xs := (biLenM (refOf (arg c 0)) (seqOf (vw vs 0)) (epOf (vw vs 0)) (nOf (axOf xs)), tlOf xs)
  ok _ _ _ := lenM_ok ..
def lenR (k : Nat) (u : Sup) : Result := .ok (.ret (.int (Int.ofNat k) u.a))
noncomputable def biLen (c : Code) (vs : Led) (n k : Nat) : BI := ⟨c, vs, [n = k, k ≤ BIG], false, lenR k, fun _ => none, fun _ => [], fun _ => none⟩
theorem lenL_ok (a : Addr) (xs : Array Value) (e k : Nat) : SatB prog w (biLen (callB "len" [.ref a]) [(a, lsO xs e)] xs.size k) := satB rfl fun _ _ _ _ s _ _ _ _ hc H hv K => by
  have m := hv _ List.mem_cons_self
  obtain ⟨rfl, c2, _⟩ := hc
  exact call_function_entry kind_len plain_len entry_len (args_len1 _) (wpAny_len_body_list ⟨_, H.led _ m, rfl, _, rfl⟩ (by have : xs.size ≤ 1000000 := c2; omega) (K { noS with a := s.toks + 1 } _ trivial (H.heap' _) rfl))
theorem lenC_ok (a : Addr) (xs : Array Value) (e k : Nat) : SatB prog w (biLen (.builtin "len" ⟨[.ref a], []⟩) [(a, lsO xs e)] xs.size k) := satC fun _ _ _ A s R _ _ _ hc H hv K => by
  have m := hv _ List.mem_cons_self
  obtain ⟨rfl, c2, _⟩ := hc
  refine codeAny_builtin entry_len ?_
  rw [Around.under_plainId plain_len _]
  exact wpAny_mono (wpAny_len_body_list (Q := fun r s' => R (.ok (.ret r)) s') ⟨_, H.led _ m, rfl, _, rfl⟩ (by have : xs.size ≤ 1000000 := c2; omega) (K { noS with a := s.toks + 1 } _ trivial (H.heap' _) rfl)) (fun fin s' h' => by obtain ⟨r, rfl, hq⟩ := h'; exact hq) fun _ _ e => e
theorem lenT_ok (a : Addr) (xs : Array Value) (k : Nat) : SatB prog w (biLen (callB "len" [.ref a]) [(a, tpO xs)] xs.size k) := satB rfl fun _ _ _ _ s _ _ _ _ hc H hv K => by
  have m := hv _ List.mem_cons_self
  obtain ⟨rfl, c2, _⟩ := hc
  exact PySem.P.len_tuple (n := 0) (H.led _ m) (by have : xs.size ≤ 1000000 := c2; omega) (K { noS with a := s.toks + 1 } _ trivial (H.toks _) rfl)
theorem lenS_ok (x : Str) (t k : Nat) : SatB prog w (biLen (callB "len" [.str x t]) [] x.length k) := satB rfl fun _ _ _ _ s _ _ _ _ hc H hv K => by
  obtain ⟨rfl, c2, _⟩ := hc
  have c2 : x.length ≤ 1000000 := c2
  exact call_function_entry kind_len plain_len entry_len (args_len1 _) (wpAny_len_body (typeIs_str s x t) PySem.F.slot_str_len PySem.F.entry_str_len (PySem.F.args_str_len_1 _) (PySem.gives_str_len x t) (by omega) (by omega) (K { noS with a := s.toks + 1 } _ trivial (H.toks _) rfl))
theorem lenSC_ok (x : Str) (t k : Nat) : SatB prog w (biLen (.builtin "len" ⟨[.str x t], []⟩) [] x.length k) := satC fun _ _ _ A s R _ _ _ hc H hv K => by
  obtain ⟨rfl, c2, _⟩ := hc
  have c2 : x.length ≤ 1000000 := c2
  refine codeAny_builtin entry_len ?_
  rw [Around.under_plainId plain_len _]
  exact wpAny_mono (wpAny_len_body (Q := fun r s' => R (.ok (.ret r)) s') (typeIs_str s x t) PySem.F.slot_str_len PySem.F.entry_str_len (PySem.F.args_str_len_1 _) (PySem.gives_str_len x t) (by omega) (by omega) (K { noS with a := s.toks + 1 } _ trivial (H.toks _) rfl)) (fun fin s' h' => by obtain ⟨r, rfl, hq⟩ := h'; exact hq) fun _ _ e => e
noncomputable def rLenL : Rule prog w where
  nv := 1
  dec c vs xs := (biLen (callB "len" [.ref (refOf (arg c 0))]) [(refOf (arg c 0), lsO (seqOf (vw vs 0)) (epOf (vw vs 0)))] (seqOf (vw vs 0)).size (nOf (axOf xs)), tlOf xs)
  ok _ _ _ := lenL_ok ..
noncomputable def rLenC : Rule prog w where
  nv := 1
  dec c vs xs := (biLen (.builtin "len" ⟨[.ref (refOf (arg c 0))], []⟩) [(refOf (arg c 0), lsO (seqOf (vw vs 0)) (epOf (vw vs 0)))] (seqOf (vw vs 0)).size (nOf (axOf xs)), tlOf xs)
  ok _ _ _ := lenC_ok ..
noncomputable def rLenT : Rule prog w where
  nv := 1
  dec c vs xs := (biLen (callB "len" [.ref (refOf (arg c 0))]) [(refOf (arg c 0), tpO (seqOf (vw vs 0)))] (seqOf (vw vs 0)).size (nOf (axOf xs)), tlOf xs)
  ok _ _ _ := lenT_ok ..
noncomputable def rLenS : Rule prog w where
  nv := 0
  dec c _ xs := (biLen (callB "len" [.str (sOf (arg c 0)) (tokOf (arg c 0))]) [] (sOf (arg c 0)).length (nOf (axOf xs)), tlOf xs)
  ok _ _ _ := lenS_ok ..
noncomputable def rLenSC : Rule prog w where
  nv := 0
  dec c _ xs := (biLen (.builtin "len" ⟨[.str (sOf (arg c 0)) (tokOf (arg c 0))], []⟩) [] (sOf (arg c 0)).length (nOf (axOf xs)), tlOf xs)
  ok _ _ _ := lenSC_ok ..
end
def ofInt : Value → Option Int
  | .int z _ => some z
  | _ => none
def ofStr : Value → Option Str
  | .str x _ => some x
  | _ => none
def IntsOf (xs : Array Value) (l : List Int) : Prop := xs.toList.map ofInt = l.map some
def StrsOf (xs : Array Value) (l : List Str) : Prop := xs.toList.map ofStr = l.map some
theorem IntsOf.all {xs : Array Value} {l : List Int} (h : IntsOf xs l) : AllInts xs := by
  intro v hv
  have : ofInt v ∈ l.map some := h ▸ List.mem_map_of_mem (Array.mem_toList_iff.mpr hv)
  obtain ⟨k, _, e⟩ := List.mem_map.mp this
  cases v <;> first | exact ⟨_, _, rfl⟩ | cases e
section
variable {prog : Program} {w : World}
theorem anyInt {k : Int} {u : Nat} : ∀ {xs : Array Value} {l : List Int}, IntsOf xs l → xs.any (Value.isInt k) = decide (k ∈ l) ∧ ∀ y ∈ xs, MeetsSeq.EqGives y (.int k u) (Value.isInt k y) := by
  intro ⟨xs⟩ l h
  have h : xs.map ofInt = l.map some := h
  have one : ∀ a t, Value.isInt k (.int a t) = decide (k = a) := fun a t => by
    show (a == k) = decide (k = a)
    rw [Bool.eq_iff_iff, beq_iff_eq, decide_eq_true_iff]
    exact eq_comm
  refine ⟨?_, fun y hy => ?_⟩
  · rw [List.any_toArray]
    induction xs generalizing l with
    | nil => cases l with
      | nil => rfl
      | cons => cases h
    | cons v xs ih =>
      cases l with
      | nil => cases h
      | cons z l =>
        injection h with h1 h2
        cases v <;> cases h1
        rw [List.any_cons, ih h2 h2, one, Bool.eq_iff_iff, Bool.or_eq_true, decide_eq_true_iff, decide_eq_true_iff, decide_eq_true_iff, List.mem_cons]
  · have : ofInt y ∈ l.map some := h ▸ List.mem_map_of_mem (Array.mem_toList_iff.mpr hy)
    obtain ⟨z, _, e⟩ := List.mem_map.mp this
    cases y <;> cases e
    exact MeetsSeq.EqGives.int z k _ u
noncomputable def biIn (a : Addr) (k : Int) (t : Nat) (xs : Array Value) (e : Nat) (r : Bool) : BI := ⟨callB "list.__contains__" [.ref a, .int k t], [(a, lsO xs e)], [∃ l, IntsOf xs l ∧ yesNo r (k ∈ l)], false, fun _ => .ok (.ret (.bool r)), fun _ => none, fun _ => [], fun _ => none⟩
theorem in_ok (a : Addr) (k : Int) (t : Nat) (xs : Array Value) (e : Nat) (r : Bool) : SatB prog w (biIn a k t xs e r) := satB rfl fun _ _ _ _ s _ _ _ _ hc H hv K => by
  have m := hv _ List.mem_cons_self
  obtain ⟨⟨l, hl, hr⟩, _⟩ := hc
  obtain ⟨q1, q2⟩ := anyInt (k := k) (u := t) hl
  refine call_meets PySem.F.slot_list_contains ⟨_, H.led _ m, rfl⟩ PySem.F.entry_list_contains (PySem.F.args_list_contains_2 _ _) (MeetsSeq.list_contains a xs e _ _ q2) ⟨H.led _ m, ?_⟩
  rw [q1, show decide (k ∈ l) = r from Bool.eq_iff_iff.mpr (decide_eq_true_iff.trans (yesNo_iff hr).symm)]
  exact K noS s trivial H rfl
noncomputable def rIn : Rule prog w where
  nv := 1
  dec c vs xs := (biIn (refOf (arg c 0)) (zOf (arg c 1)) (tokOf (arg c 1)) (seqOf (vw vs 0)) (epOf (vw vs 0)) (bOf (axOf xs)), tlOf xs)
  ok _ _ _ := in_ok ..
def partOf : Value → Option Int
  | .int i _ => some i
  | _ => none
def partV : Option Int → Nat → Value
  | none, _ => .none
  | some i, t => .int i t
theorem partV_is (p : Option Int) (t : Nat) : IsPart (partV p t) p := by
  cases p with
  | none => exact .none
  | some i => exact .int _ _
def slcO (lo hi st : Option Int) (t1 t2 t3 : Nat) : Obj := rcO (.type "slice") #[partV lo t1, partV hi t2, partV st t3]
noncomputable def biSlice (a b : Addr) (xs : Array Value) (e : Nat) (lo hi st : Option Int) (t1 t2 t3 : Nat) : BI := ⟨callB "list.__getitem__" [.ref a, .ref b], [(a, lsO xs e), (b, slcO lo hi st t1 t2 t3)], [st ≠ some 0, xs.size ≤ BIG], false, fun u => .ok (.ret (.ref u.a)), fun _ => none, fun u => [(u.a, lsO (slicePick xs lo hi st) 0)], fun _ => none⟩
theorem slice_ok (a b : Addr) (xs : Array Value) (e : Nat) (lo hi st : Option Int) (t1 t2 t3 : Nat) : SatB prog w (biSlice a b xs e lo hi st t1 t2 t3) := satB rfl fun _ _ _ _ s _ _ _ _ hc H hv K => by
  have m := hv _ List.mem_cons_self
  have G1 := H.led _ m
  have G2 := H.led _ (hv _ (.tail _ List.mem_cons_self))
  obtain ⟨h0, hsz, _⟩ := hc
  have hTs : s.TypeIs (.ref b) "slice" := ⟨_, G2, rfl⟩
  refine wpAny_call_entry PySem.F.slot_list_getitem ⟨_, G1, rfl⟩ PySem.F.entry_list_getitem ?_ (PySem.F.args_list_getitem_2 _ _)
  show wpAny _ _ (Builtin.List.listSubscript? (.ref b) >>= _) _ _ s
  refine wpAny_bind ?_
  unfold Builtin.List.listSubscript?
  refine wpAny_bind (wpAny_specialOf hTs slice_no_index ?_)
  simp only [Option.isNone_none, if_true]
  refine wpAny_pure ?_
  show wpAny _ _ (typeOf (.ref b) >>= _) _ _ s
  refine wpAny_bind (wpAny_typeOf hTs ?_)
  rw [if_neg (by decide), listSliceParts_eq]
  have hstep : ¬ ((rawPart st == rawInt 0) = true) := by
    cases st with
    | none => exact Bool.false_ne_true
    | some n =>
      intro hh
      have : n = 0 := by simpa [rawPart, rawInt] using hh
      exact h0 (by rw [this])
  refine wpAny_bind (wpAny_bind (wpAny_field G2 rfl (x := partV st t3) rfl (wpAny_bind (wpAny_listPart (partV_is _ _) ?_))))
  rw [if_neg hstep]
  refine wpAny_bind (wpAny_field G2 rfl (x := partV lo t1) rfl (wpAny_bind (wpAny_listPart (partV_is _ _) ?_)))
  refine wpAny_bind (wpAny_field G2 rfl (x := partV hi t2) rfl (wpAny_bind (wpAny_listPart (partV_is _ _) (wpAny_pure ?_))))
  refine wpAny_bind (wpAny_listItems G1 rfl ?_)
  refine wpAny_bind (wpAny_of_eq (sliceIndices_raw lo hi st xs.size h0) ?_)
  refine wpAny_bind (wpAny_newObj_type (wpAny_pure ⟨_, rfl, ?_⟩) (Nat.le_trans (slicePick_size_le xs lo hi st) (big_line hsz)))
  exact K { noS with a := s.heap.objs.size } _ trivial (H.alloc (o := lsO (slicePick xs lo hi st) 0) rfl) rfl
noncomputable def rSlice : Rule prog w where
  nv := 2
  dec c vs xs := (biSlice (refOf (arg c 0)) (refOf (arg c 1)) (seqOf (vw vs 0)) (epOf (vw vs 0)) (partOf (fldOf (vw vs 1) 0)) (partOf (fldOf (vw vs 1) 1)) (partOf (fldOf (vw vs 1) 2)) (tokOf (fldOf (vw vs 1) 0)) (tokOf (fldOf (vw vs 1) 1)) (tokOf (fldOf (vw vs 1) 2)), xs)
  ok _ _ _ := slice_ok ..
noncomputable def biSum (a : Addr) (xs : Array Value) (e : Nat) : BI := ⟨callB "sum" [.ref a], [(a, lsO xs e)], [AllInts xs], none, fun u => .ok (.ret (.int (u.z 0 0) u.a)), fun _ => none, fun _ => [], fun _ => none⟩
theorem sum_ok (a : Addr) (xs : Array Value) (e : Nat) : SatB prog w (biSum a xs e) := satB rfl fun Γ L G A s R hA _ _ hc H hv K => by
  have m := hv _ List.mem_cons_self
  obtain ⟨ys, rfl⟩ := hc.1.items
  exact sum_intListG hA (xs := ys) ⟨_, H.led _ m, rfl, _, rfl⟩ fun h' tk t' hk => K { noS with a := t', z := fun _ _ => preSum (numAt ys) ys.size } _ trivial (H.grow hk m) rfl
noncomputable def rSum : Rule prog w where
  nv := 1
  dec c vs xs := (biSum (refOf (arg c 0)) (seqOf (vw vs 0)) (epOf (vw vs 0)), xs)
  ok _ _ _ := sum_ok ..
noncomputable def biTuple (a : Addr) (xs : Array Value) (e : Nat) : BI := ⟨.call (.type "tuple") ⟨[.ref a], []⟩, [(a, lsO xs e)], [xs.size ≤ BIG], false, fun u => .ok (.ret (.ref u.a)), fun _ => none, fun u => [(u.a, tpO xs)], fun _ => none⟩
theorem tuple_ok (a : Addr) (xs : Array Value) (e : Nat) : SatB prog w (biTuple a xs e) := fun Γ L G A s R _ _ _ _ hc H hv K Γ' p hΓ => by
  have m := hv _ List.mem_cons_self
  have z := call_tuple_list (A := A) (prog := prog) (w := w) (E := fun e s' => R (.error e) s') ⟨_, H.led _ m, rfl, _, rfl⟩ (Q := fun v s' => R (.ok (.ret v)) s') (fun h' hk => K { noS with a := h'.objs.size } _ trivial ((H.grow (h' := h') (tk := s.toks) hk m).alloc (o := tpO xs) rfl) rfl) (big_line hc.1) Γ' p hΓ
  unfold call at z
  rw [Sem.wp_runValue] at z
  unfold rawCall
  rw [Sem.wp_call]
  refine wpCode_mono (fun r s' hr => ?_) z
  cases r with
  | error e => exact hr
  | ok f => cases f with
    | ret v => exact hr
    | _ => exact hr.elim
noncomputable def rTuple : Rule prog w where
  nv := 1
  dec c vs xs := (biTuple (refOf (arg c 0)) (seqOf (vw vs 0)) (epOf (vw vs 0)), xs)
  ok _ _ _ := tuple_ok ..
noncomputable def biCollect (a : Addr) (xs : Array Value) : BI := ⟨.builtin "proto.collect" ⟨[.ref a], []⟩, [(a, tpO xs)], [xs.size ≤ BIG], false, fun u => .ok (.ret (.ref u.a)), fun _ => none, fun u => [(u.a, lsO xs u.b)], fun _ => none⟩
theorem collect_ok (a : Addr) (xs : Array Value) : SatB prog w (biCollect a xs) := satC fun Γ L G A s R _ _ _ hc H hv K => by
  have G1 := H.led _ (hv _ List.mem_cons_self)
  refine codeAny_builtin PySem.F.entry_proto_collect ?_
  rw [Around.under_plainId PySem.F.plain_proto_collect _]
  show wpAny _ A.in1 (newList [] >>= fun l => again (.builtin "list.__iadd__" ⟨[l, .ref a], []⟩)) _ _ s
  refine wpAny_bind (wpAny_newObj_type ?_)
  refine wpAny_pure ⟨plainId_quiet PySem.F.plain_list_iadd _, codeAny_builtin PySem.F.entry_list_iadd ?_⟩
  rw [Around.under_plainId PySem.F.plain_list_iadd _]
  show wpAny _ A.in1 (Builtin.List.listExtendWith (.ref s.heap.objs.size) (.ref a) (.ref s.heap.objs.size)) _ _ _
  have z1 := H.alloc (o := lsO ([] : List Value).toArray 0) rfl
  have hS : (s.heap.push (lsO ([] : List Value).toArray 0)).get? s.heap.objs.size = some (lsO #[] 0) := Heap.get?_push_size _ rfl
  refine wpAny_extend_seq (hsz := big_line hc.1) (A := A) (s := { s with heap := s.heap.push (lsO ([] : List Value).toArray 0) }) _ a _ 0 (.inr rfl) hS (Heap.get?_push_of_some _ G1) rfl rfl ?_
  have z2 := z1.setF (x := lsO xs (if (#[] ++ xs : Array Value).size == 0 then 0 else 1)) (f := Obj.mapSeq (· ++ xs)) List.mem_cons_self rfl (by
    show (⟨_, _, .seq (#[] ++ xs) _, _⟩ : Obj) = _
    simp [lsO])
  refine K { noS with a := s.heap.objs.size, b := (if (#[] ++ xs : Array Value).size == 0 then 0 else 1) } _ trivial ?_ rfl
  have e : setAt ((s.heap.objs.size, lsO ([] : List Value).toArray 0) :: L) s.heap.objs.size (lsO xs (if (#[] ++ xs : Array Value).size == 0 then 0 else 1)) = (s.heap.objs.size, lsO xs (if (#[] ++ xs : Array Value).size == 0 then 0 else 1)) :: L := by
    show (if _ then _ else _) :: setAt L _ _ = _
    rw [if_pos rfl]
    congr 1
    unfold setAt
    refine (List.map_congr_left fun p hp => ?_).trans (List.map_id L)
    rw [if_neg (fun e => Nat.lt_irrefl _ (e ▸ Heap.lt_size (H.led p hp)))]; rfl
  rw [e] at z2
  exact z2
noncomputable def rCollect : Rule prog w where
  nv := 1
  dec c vs xs := (biCollect (refOf (arg c 0)) (seqOf (vw vs 0)), xs)
  ok _ _ _ := collect_ok ..
end
section
variable {prog : Program} {w : World}
noncomputable def biS (id : String) (pos : List Value) (vs : Led) (cs : List Prop) (r : Nat → Value) : BI := ⟨callB id pos, vs, cs, false, fun u => .ok (.ret (r u.a)), fun _ => none, fun _ => [], fun _ => none⟩
theorem satS {id : String} {pos : List Value} {vs : Led} {cs : List Prop} {r : Nat → Value}
    (h : ∀ ⦃A : Around⦄ ⦃s : Shared⦄ ⦃Q E : Value → Shared → Prop⦄, AllP cs → (∀ p ∈ vs, s.heap.get? p.1 = some p.2) → (∀ t k, Q (r t) { s with toks := k }) → wpAny (model prog w) A (call (.builtin id) pos) Q E s) : SatB prog w (biS id pos vs cs r) :=
  satB rfl fun _ _ _ _ _ _ _ _ _ hc H hv K => h hc (fun p hp => H.led _ (hv p hp)) fun t k => K { noS with a := t } _ trivial (H.toks k) rfl
open PySem.Builtin PySem.Builtin.Str in
def rstripOf (x y : Str) : Str := if stripSame y.cps.contains false true x then x else PySem.stripped y.cps.contains false true x
def Fits (x : Str) : Prop := x.length ≤ BIG
theorem rstrip_ok (x y : Str) (t u : Nat) (r : Str) : SatB prog w (biS "str.rstrip" [.str x t, .str y u] [] [rstripOf x y = r, Fits r] (.str r)) := satS fun A s Q E hc _ K => by
  obtain ⟨hP, hf, _⟩ := hc
  refine call_gives PySem.F.slot_str_rstrip (typeIs_str s x t) PySem.F.entry_str_rstrip (PySem.F.args_str_rstrip_2 _ _) (PySem.gives_str_rstrip_chars x y t u) ?_
  unfold rstripOf at hP
  split at hP
  · rename_i h
    rw [if_pos h, hP]; exact K t s.toks
  · rename_i h
    rw [if_neg h, hP]; exact ⟨big_line hf, K _ _⟩
open PySem.Builtin PySem.Builtin.Str in
def rfindOf (x y : Str) : Int := match lastOccurrence x y 0 x.length with | some i => (i : Int) | none => -1
theorem rfind_ok (x y : Str) (t u : Nat) (r : Int) : SatB prog w (biS "str.rfind" [.str x t, .str y u] [] [rfindOf x y = r] (.int r)) := satS fun A s Q E hc _ K => by
  obtain ⟨rfl, _⟩ := hc
  exact call_gives PySem.F.slot_str_rfind (typeIs_str s x t) PySem.F.entry_str_rfind (PySem.F.args_str_rfind_2 _ _) (PySem.gives_str_rfind x y t u) (K _ _)
theorem cps_ne (x y : Str) : (x.cps.toList != y.cps.toList) = true ↔ x ≠ y := by
  rw [bne_iff_ne]
  refine not_congr ⟨fun e => ?_, fun e => by rw [e]⟩
  obtain ⟨⟨a⟩⟩ := x
  obtain ⟨⟨b⟩⟩ := y
  exact congrArg (fun l => (⟨⟨l⟩⟩ : Str)) e
theorem ne_ok (x y : Str) (t u : Nat) (r : Bool) : SatB prog w (biS "str.__ne__" [.str x t, .str y u] [] [yesNo r (x ≠ y)] fun _ => .bool r) := satS fun A s Q E hc _ K => by
  refine call_gives PySem.F.slot_str_ne (typeIs_str s x t) PySem.F.entry_str_ne (PySem.F.args_str_ne_2 _ _) (PySem.gives_str_ne x y t u) ?_
  rw [show (x.cps.toList != y.cps.toList) = r from Bool.eq_iff_iff.mpr ((cps_ne x y).trans (yesNo_iff hc.1).symm)]
  exact K 0 s.toks
theorem addS_ok (x y : Str) (t u : Nat) (r : Str) : SatB prog w (biS "str.__add__" [.str x t, .str y u] [] [x ++ y = r, Fits r] (.str r)) := satS fun A s Q E hc _ K => by
  obtain ⟨rfl, hf, _⟩ := hc
  refine call_gives PySem.F.slot_str_add (typeIs_str s x t) PySem.F.entry_str_add (PySem.F.args_str_add_2 _ _) (PySem.gives_str_add x y t u) ?_
  have e1 : ∀ {x : Str}, (x.length == 0) = true → x = ⟨#[]⟩ := fun {x} h => by
    obtain ⟨a⟩ := x
    exact congrArg Str.mk (Array.size_eq_zero_iff.mp (beq_iff_eq.mp h))
  split
  · rename_i h
    have : y = x ++ y := by rw [e1 h]; show y = ⟨#[] ++ y.cps⟩; rw [Array.empty_append]
    have k := K u s.toks
    rw [← this] at k
    exact k
  · split
    · rename_i h
      have : x = x ++ y := by rw [e1 h]; show x = ⟨x.cps ++ #[]⟩; rw [Array.append_empty]
      have k := K t s.toks
      rw [← this] at k
      exact k
    · exact ⟨big_line hf, K _ _⟩
open PySem.Builtin PySem.Builtin.Str in
theorem idxS_ok (x : Str) (t : Nat) (i : Int) (u : Nat) (r : Str) : SatB prog w (biS "str.__getitem__" [.str x t, .int i u] [] [0 ≤ i ∧ i < 1000000, ∃ c, x.cps[i.toNat]? = some c ∧ r = ⟨#[c]⟩] (.str r)) := satS fun A s Q E hc _ K => by
  obtain ⟨⟨h0, h1⟩, ⟨c, hc, rfl⟩, _⟩ := hc
  refine call_gives PySem.F.slot_str_getitem (typeIs_str s x t) PySem.F.entry_str_getitem (PySem.F.args_str_getitem_2 _ _) (PySem.gives_str_getitem x i t u c ?_ ?_) ⟨(by decide : 1 ≤ sizeLine), K _ _⟩
  · rw [Bool.or_eq_false_iff, decide_eq_false_iff_not, decide_eq_false_iff_not]; omega
  · have hlt : i.toNat < x.cps.size := (Array.getElem?_eq_some_iff.mp hc).1
    have : seqIndex? i x.length = some i.toNat := by
      unfold seqIndex?
      have h3 : ¬ i < 0 := by omega
      have h4 : i < (x.length : Int) := by show i < (x.cps.size : Int); omega
      simp only [h3, if_false, h0, h4, decide_true, Bool.and_self, if_true]
    rw [this]
    exact hc
def mulOf (x : Str) (n : Int) : Str := ⟨(List.replicate n.toNat x.cps).foldl (· ++ ·) #[]⟩
theorem mulS_ok (x : Str) (t : Nat) (n : Int) (u : Nat) (r : Str) : SatB prog w (biS "str.__mul__" [.str x t, .int n u] [] [0 ≤ n ∧ n ≤ 100000 ∧ x.length ≤ 10, mulOf x n = r, Fits r] (.str r)) := satS fun A s Q E hc _ K => by
  obtain ⟨⟨h0, h1, h2⟩, rfl, hf, _⟩ := hc
  have hlong : x.length * n.toNat ≤ 1000000 := Nat.le_trans (Nat.mul_le_mul h2 (show n.toNat ≤ 100000 by omega)) (by decide)
  refine call_gives PySem.F.slot_str_mul (typeIs_str s x t) PySem.F.entry_str_mul (PySem.F.args_str_mul_2 _ _) (PySem.gives_str_mul x n t u ?_ ?_ ?_) ?_
  · rw [Bool.or_eq_false_iff, decide_eq_false_iff_not, decide_eq_false_iff_not]; omega
  · intro h3 _
    have h4 : (100000 : Int) ≤ (2 ^ 63 - 1) / n := (Int.le_ediv_iff_mul_le (by omega)).mpr (by omega)
    omega
  · intro _ _
    unfold PySem.Builtin.Str.tooLong
    rw [decide_eq_false_iff_not]
    have : (1000000 : Nat) ≤ sizeLine := by decide
    omega
  · have fold : ∀ (k : Nat) (a : Array Nat), (List.replicate k (#[] : Array Nat)).foldl (· ++ ·) a = a := by
      intro k
      induction k with
      | zero => intro a; rfl
      | succ k ih => intro a; rw [List.replicate_succ, List.foldl_cons, Array.append_empty, ih]
    split
    · have e : n.toNat = 0 := by omega
      have k := K s.toks (s.toks + 1)
      unfold mulOf at k
      rw [e] at k
      exact ⟨(by decide), k⟩
    · split
      · rename_i h1 h
        rw [Bool.or_eq_true] at h
        have e : mulOf x n = x := by
          unfold mulOf
          rcases h with h | h
          · rw [show n.toNat = 1 by have : n = 1 := beq_iff_eq.mp h
                                    omega]
            show (⟨#[] ++ x.cps⟩ : Str) = x
            rw [Array.empty_append]
          · obtain ⟨a⟩ := x
            have h : a.size = 0 := beq_iff_eq.mp h
            rw [Array.size_eq_zero_iff.mp h]
            exact congrArg Str.mk (fold _ _)
        have k := K t s.toks
        rw [e] at k
        exact k
      · exact ⟨big_line hf, K _ _⟩
def sliceS (x : Str) (l u : Option Int) : Str :=
  if ((PySem.Builtin.Str.strSliceIndices l u 1 x.length).length == x.length) = true then x else ⟨((PySem.Builtin.Str.strSliceIndices l u 1 x.length).filterMap (x.cps[·]?)).toArray⟩
def optT (p : Option Int) (t : Nat) : Option (Int × Nat) := p.map fun i => (i, t)
theorem optT_v (p : Option Int) (t : Nat) : partValue (optT p t) = partV p t := by cases p <;> rfl
theorem optT_f (p : Option Int) (t : Nat) : (optT p t).map Prod.fst = p := by cases p <;> rfl
theorem sliceS_ok (x : Str) (t b : Nat) (lo hi : Option Int) (t1 t2 : Nat) (r : Str) : SatB prog w (biS "str.__getitem__" [.str x t, .ref b] [(b, slcO lo hi none t1 t2 0)] [sliceS x lo hi = r, Fits r] (.str r)) := satS fun A s Q E hc hv K => by
  obtain ⟨hP, hf, _⟩ := hc
  have G2 := hv _ List.mem_cons_self
  refine call_meets PySem.F.slot_str_getitem (typeIs_str s x t) PySem.F.entry_str_getitem (PySem.F.args_str_getitem_2 _ _) (meets_str_getitem_slice x t b (optT lo t1) (optT hi t2) none rfl) ⟨⟨_, G2, rfl, by show Data.fields #[partV lo t1, partV hi t2, .none] = _; rw [← optT_v, ← optT_v]; rfl⟩, ?_⟩
  unfold sliceMade slicePicked
  rw [optT_f, optT_f]
  unfold sliceS at hP
  have e1 : ∀ b : Bool, (((none : Option (Int × Tok)).map fun x => x.1).getD 1 == 1 && b) = b := fun b => Bool.true_and b
  rw [e1]
  split at hP
  · rename_i h
    have k := K t s.toks
    rw [← hP] at k
    exact (if_pos (c := _ = true) h).symm ▸ k
  · rename_i h
    exact (if_neg (c := _ = true) h).symm ▸ ⟨by have := big_line hf; rw [← hP] at this; exact this, by have k := K s.toks (s.toks + 1); rw [← hP] at k; exact k⟩
noncomputable def rRstrip : Rule prog w where
  nv := 0
  dec c _ xs := (biS "str.rstrip" [.str (sOf (arg c 0)) (tokOf (arg c 0)), .str (sOf (arg c 1)) (tokOf (arg c 1))] [] [rstripOf (sOf (arg c 0)) (sOf (arg c 1)) = axS (axOf xs), Fits (axS (axOf xs))] (.str (axS (axOf xs))), tlOf xs)
  ok _ _ _ := rstrip_ok ..
noncomputable def rRfind : Rule prog w where
  nv := 0
  dec c _ xs := (biS "str.rfind" [.str (sOf (arg c 0)) (tokOf (arg c 0)), .str (sOf (arg c 1)) (tokOf (arg c 1))] [] [rfindOf (sOf (arg c 0)) (sOf (arg c 1)) = axZ (axOf xs)] (.int (axZ (axOf xs))), tlOf xs)
  ok _ _ _ := rfind_ok ..
noncomputable def rNeS : Rule prog w where
  nv := 0
  dec c _ xs := (biS "str.__ne__" [.str (sOf (arg c 0)) (tokOf (arg c 0)), .str (sOf (arg c 1)) (tokOf (arg c 1))] [] [yesNo (bOf (axOf xs)) (sOf (arg c 0) ≠ sOf (arg c 1))] (fun _ => .bool (bOf (axOf xs))), tlOf xs)
  ok _ _ _ := ne_ok ..
noncomputable def rAddS : Rule prog w where
  nv := 0
  dec c _ xs := (biS "str.__add__" [.str (sOf (arg c 0)) (tokOf (arg c 0)), .str (sOf (arg c 1)) (tokOf (arg c 1))] [] [sOf (arg c 0) ++ sOf (arg c 1) = axS (axOf xs), Fits (axS (axOf xs))] (.str (axS (axOf xs))), tlOf xs)
  ok _ _ _ := addS_ok ..
noncomputable def rIdxS : Rule prog w where
  nv := 0
  dec c _ xs := (biS "str.__getitem__" [.str (sOf (arg c 0)) (tokOf (arg c 0)), .int (zOf (arg c 1)) (tokOf (arg c 1))] [] [0 ≤ zOf (arg c 1) ∧ zOf (arg c 1) < 1000000, ∃ c1, (sOf (arg c 0)).cps[(zOf (arg c 1)).toNat]? = some c1 ∧ axS (axOf xs) = ⟨#[c1]⟩] (.str (axS (axOf xs))), tlOf xs)
  ok _ _ _ := idxS_ok ..
noncomputable def rMulS : Rule prog w where
  nv := 0
  dec c _ xs := (biS "str.__mul__" [.str (sOf (arg c 0)) (tokOf (arg c 0)), .int (zOf (arg c 1)) (tokOf (arg c 1))] [] [0 ≤ zOf (arg c 1) ∧ zOf (arg c 1) ≤ 100000 ∧ (sOf (arg c 0)).length ≤ 10, mulOf (sOf (arg c 0)) (zOf (arg c 1)) = axS (axOf xs), Fits (axS (axOf xs))] (.str (axS (axOf xs))), tlOf xs)
  ok _ _ _ := mulS_ok ..
noncomputable def rSliceS : Rule prog w where
  nv := 1
  dec c vs xs := (biS "str.__getitem__" [.str (sOf (arg c 0)) (tokOf (arg c 0)), .ref (refOf (arg c 1))] [(refOf (arg c 1), slcO (partOf (fldOf (vw vs 0) 0)) (partOf (fldOf (vw vs 0) 1)) none (tokOf (fldOf (vw vs 0) 0)) (tokOf (fldOf (vw vs 0) 1)) 0)] [sliceS (sOf (arg c 0)) (partOf (fldOf (vw vs 0) 0)) (partOf (fldOf (vw vs 0) 1)) = axS (axOf xs), Fits (axS (axOf xs))] (.str (axS (axOf xs))), tlOf xs)
  ok _ _ _ := sliceS_ok ..
end
section
variable {prog : Program} {w : World} {K : Type} [DecidableEq K]
def SetIs (knd : KeyKind prog w K) (o : Obj) (S : K → Bool) (n : Nat) : Prop :=
  ∃ es ep t, o.ExactSet ∧ o.data = .set es ep t ∧ ElemsOf knd es.toList ∧ (∀ k, S k = true ↔ ∃ e ∈ es.toList, knd.is k e.2 = true) ∧ es.size < scanBound ∧ t.fits es.size = true ∧ es.size = n
theorem SetIs.of {knd : KeyKind prog w K} {o : Obj} {S : K → Bool} {n : Nat} (h : SetIs knd o S n) {hp : Heap} {a : Addr} (ho : hp.get? a = some o) : hp.SetOf knd a S n := by
  obtain ⟨es, ep, t, h1, h2, h3⟩ := h
  exact ⟨o, es, ep, t, ho, h1, h2, h3⟩
theorem SetIs.from {knd : KeyKind prog w K} {S : K → Bool} {n : Nat} {hp : Heap} {a : Addr} (h : hp.SetOf knd a S n) : ∃ o, hp.get? a = some o ∧ SetIs knd o S n := by
  obtain ⟨o, es, ep, t, ho, h1, h2, h3⟩ := h
  exact ⟨o, ho, es, ep, t, h1, h2, h3⟩
def stO (o : Obj) : Obj := ⟨.type "set", none, o.data, #[]⟩
theorem SetIs.sto {knd : KeyKind prog w K} {o : Obj} {S : K → Bool} {n : Nat} (h : SetIs knd o S n) : stO o = o := by
  obtain ⟨es, ep, t, ⟨h1, h2, h3⟩, _⟩ := h
  obtain ⟨a, b, c, d⟩ := o
  cases h1; cases h2; cases h3
  rfl
def SetL (knd : KeyKind prog w K) (o : Obj) (l : List K) : Prop := ∃ n, n ≤ l.length ∧ SetIs knd o (fun k => decide (k ∈ l)) n
def SetMore (knd : KeyKind prog w K) (o o' : Obj) (k : K) : Prop := ∀ l, SetL knd o l → SetL knd o' (k :: l)
theorem set_has (ki : KI prog w K) {a : Nat} {o : Obj} {k : K} {t : Nat} {r : Bool} {B : Around} {s : Shared} {R : Result → Shared → Prop} {l : List K} (ho : s.heap.get? a = some o) (hl : SetL ki.knd o l) (hr : yesNo r (k ∈ l)) (hsc : (ki.val k t).scannable = true)
    (K : R (.ok (.ret (.bool r))) { s with toks := s.toks + 1 }) :
    wpAny (model prog w) B (Builtin.«frozenset.__contains__» ⟨[.ref a, ki.val k t], []⟩) (fun fin s' => ∃ v, fin = .done (.ret v) ∧ R (.ok (.ret v)) s') (fun e s' => R (.error e) s') s := by
  obtain ⟨n, _, hS0⟩ := hl
  have hS := hS0.of ho
  unfold Builtin.«frozenset.__contains__» Builtin.Frozenset.oneOther
  simp only [List.isEmpty_nil, bind_assoc]
  unfold Builtin.Frozenset.addrOf Builtin.Frozenset.withSetAsKey setContains
  refine wpAny_bind (wpAny_pure ?_)
  try dsimp only
  refine wpAny_bind (wpAny_pure ?_)
  try dsimp only
  refine wpAny_bind (wpAny_tryCatch ?_)
  refine wpAny_holding ?_
  refine wpAny_bind (ki.knd.pyHash (ki.ok k t) ?_)
  refine wpAny_bind (wpAny_setFind_of (s := { s with toks := s.toks + 1 }) (ki.ok k t) hsc hS fun rr hr' => ?_)
  refine wpAny_pure ?_
  show wpAny _ _ (ret (Value.bool rr.isSome)) _ _ _
  rw [hr', show decide (k ∈ l) = r from Bool.eq_iff_iff.mpr (decide_eq_true_iff.trans (yesNo_iff hr).symm)]
  exact wpAny_pure ⟨_, rfl, K⟩
noncomputable def biSetIn (ki : KI prog w K) (a : Nat) (o : Obj) (k : K) (t : Nat) (r : Bool) : BI := ⟨callB "set.__contains__" [.ref a, ki.val k t], [(a, o)], [∃ l, SetL ki.knd o l ∧ yesNo r (k ∈ l), (ki.val k t).scannable = true], false, fun _ => .ok (.ret (.bool r)), fun _ => none, fun _ => [], fun _ => none⟩
theorem SetL.type {knd : KeyKind prog w K} {o : Obj} {l : List K} (h : SetL knd o l) {s : Shared} {a : Addr} (ho : s.heap.get? a = some o) : s.TypeIs (.ref a) "set" := by
  obtain ⟨n, _, hS⟩ := h
  exact (hS.of ho).typeIs
theorem setIn_ok (ki : KI prog w K) (a : Nat) (o : Obj) (k : K) (t : Nat) (r : Bool) : SatB prog w (biSetIn ki a o k t r) := satB rfl fun _ _ _ _ s _ _ _ _ hc H hv K => by
  obtain ⟨⟨l, hl, hr⟩, hsc, _⟩ := hc
  have ho := H.led _ (hv _ List.mem_cons_self)
  exact wpAny_call_entry F.slot_set_contains (hl.type ho) entry_set_contains (set_has ki ho hl hr hsc (K noS _ trivial (H.toks _) rfl)) (F.args_set_contains_2 _ _)
noncomputable def rSetIn (ki : KI prog w K) : Rule prog w where
  nv := 1
  dec c vs xs := (biSetIn ki (refOf (arg c 0)) (vw vs 0) (ki.of (arg c 1)) (tokOf (arg c 1)) (bOf (axOf xs)), tlOf xs)
  ok _ _ _ := setIn_ok ..
noncomputable def biSetAdd (ki : KI prog w K) (a : Nat) (o : Obj) (k : K) (t : Nat) : BI := ⟨callB "set.add" [.ref a, ki.val k t], [(a, o)], [∃ l, SetL ki.knd o l ∧ l.length ≤ 1000, (ki.val k t).scannable = true], false, fun _ => .ok (.ret .none), fun u => some (stO (u.o 0)), fun _ => [], fun u => some (SetMore ki.knd o (stO (u.o 0)) k)⟩
theorem SetIs.uniq {knd : KeyKind prog w K} {o : Obj} {S S' : K → Bool} {n n' : Nat} (h : SetIs knd o S n) (h' : SetIs knd o S' n') : S = S' ∧ n = n' := by
  obtain ⟨es, ep, t, _, h2, _, h4, _, _, h7⟩ := h
  obtain ⟨es', ep', t', _, h2', _, h4', _, _, h7'⟩ := h'
  rw [h2] at h2'
  injection h2' with e1
  subst e1
  exact ⟨funext fun k => Bool.eq_iff_iff.mpr ((h4 k).trans (h4' k).symm), h7.symm.trans h7'⟩
theorem setAdd_ok (ki : KI prog w K) (a : Nat) (o : Obj) (k : K) (t : Nat) : SatB prog w (biSetAdd ki a o k t) := satC fun Γ L G A s R _ _ _ hc H hv K => by
  obtain ⟨⟨l, ⟨n, hn, hS0⟩, hlen⟩, hsc, _⟩ := hc
  have m := hv _ List.mem_cons_self
  have hS := hS0.of (H.led _ m)
  refine codeAny_call_builtin F.slot_set_add.plain F.entry_set_add (F.slot_set_add.check _ _ _ _ _ _ _ _ hS.typeIs (F.args_set_add_2 _ _) ?_)
  unfold Builtin.«set.add» Builtin.Frozenset.oneOther
  simp only [List.isEmpty_nil, bind_assoc]
  unfold Builtin.Frozenset.addrOf setAdd
  refine wpAny_bind (wpAny_pure ?_)
  try dsimp only
  refine wpAny_bind (wpAny_pure ?_)
  try dsimp only
  refine wpAny_bind ?_
  refine wpAny_holding ?_
  refine wpAny_bind (ki.knd.pyHash (ki.ok k t) ?_)
  refine wpAny_setAddHashed_of (s := { s with toks := s.toks + 1 }) (ki.ok k t) hsc hS (Nat.lt_of_le_of_lt (Nat.succ_le_succ (Nat.le_trans hn hlen)) (by decide)) fun h' hsb hS' => ?_
  obtain ⟨o', ho', hI⟩ := SetIs.from hS'
  refine wpAny_pure (K { noS with o := fun _ => o' } _ (fun l' ⟨n', hn', hS1⟩ => ?_) (by have z := (H.toks (s.toks + 1)).set m hsb ho'; rw [← show stO o' = o' from hI.sto] at z; exact z) rfl)
  show SetL ki.knd (stO o') _
  rw [show stO o' = o' from hI.sto]
  obtain ⟨e1, e2⟩ := hS0.uniq hS1
  refine ⟨if decide (k ∈ l) then n else n + 1, ?_, ?_⟩
  · rw [List.length_cons]; subst e2; split <;> omega
  · have e3 : (fun k' => decide (k' ∈ l) || decide (k' = k)) = fun k' => decide (k' ∈ k :: l') := by
      funext k'
      have e4 : decide (k' ∈ l) = decide (k' ∈ l') := congrFun e1 k'
      rw [e4, Bool.eq_iff_iff, Bool.or_eq_true, decide_eq_true_iff, decide_eq_true_iff, decide_eq_true_iff, List.mem_cons, Or.comm]
    rw [← e3]
    exact hI
noncomputable def rSetAdd (ki : KI prog w K) : Rule prog w where
  nv := 1
  dec c vs xs := (biSetAdd ki (refOf (arg c 0)) (vw vs 0) (ki.of (arg c 1)) (tokOf (arg c 1)), xs)
  ok _ _ _ := setAdd_ok ..
theorem isub_set_module : isSubtype (.type "set") (.type "module") = pure false := by rw [isSubtype_type]; kernel_rfl
theorem check_has {M : Model} {A : Around} {a : Nat} {x : Value} {s : Shared} {Q : Unit → Shared → Prop} {E : Value → Shared → Prop} {o : Obj} (ho : s.heap.get? a = some o) (hc : o.cls = .type "set") (hd : ∃ es ep tb, o.data = .set es ep tb) (hq : Q () s) :
    wpAny M A (checkBoundCall "set.__contains__" ⟨[.ref a, x], []⟩) Q E s := by
  obtain ⟨sig, hs⟩ : ∃ sig, Manifest.signature? "set.__contains__" = some sig := Option.isSome_iff_exists.mp (by decide +kernel)
  have hk : builtinKind "set.__contains__" = some .method := by decide +kernel
  have hv : Manifest.varargsMethods.contains "set.__contains__" = false := by decide +kernel
  have hf : ∀ sig, Manifest.signature? "set.__contains__" = some sig → Bind.checkArgs "set.__contains__" { sig with full := s!"{Bind.lastOf "set"}.{Bind.lastOf "set.__contains__"}" } ⟨[.ref a, x], []⟩ = pure () := by
    intro sg h
    have e : sg = (Manifest.signature? "set.__contains__").get (by decide +kernel) := by simp [h]
    rw [e]
    kernel_rfl
  unfold checkBoundCall
  simp only [hs, hk, hv]
  rw [if_neg (by decide)]
  have hT : s.TypeIs (.ref a) "set" := ⟨o, ho, hc⟩
  refine wpAny_bind (wpAny_isInstance (T := "set") (b := false) hT isub_set_module ?_)
  simp only [Bool.or_self, Bool.false_eq_true, if_false]
  obtain ⟨es, ep, tb, hd⟩ := hd
  refine wpAny_bind ?_
  unfold isType
  refine wpAny_bind (wpAny_loadPart ho ?_)
  simp only [hd]
  refine wpAny_pure ?_
  simp only [Bool.false_eq_true, if_false]
  refine wpAny_bind (wpAny_typeOf hT ?_)
  exact wpAny_of_eq (hf sig hs) hq
noncomputable def biSetInM (ki : KI prog w K) (mw a : Nat) (o : Obj) (k : K) (t : Nat) (r : Bool) : BI := ⟨.call (.ref mw) ⟨[ki.val k t], []⟩, [(mw, rcO (.type "builtin_function_or_method") #[.builtin "set.__contains__", .ref a]), (a, o)], [∃ l, SetL ki.knd o l ∧ yesNo r (k ∈ l), (ki.val k t).scannable = true], false, fun _ => .ok (.ret (.bool r)), fun _ => none, fun _ => [], fun _ => none⟩
theorem setInM_ok (ki : KI prog w K) (mw a : Nat) (o : Obj) (k : K) (t : Nat) (r : Bool) : SatB prog w (biSetInM ki mw a o k t r) := satC fun Γ L G A s R _ _ _ hc H hv K => by
  obtain ⟨⟨l, hl, hr⟩, hsc, _⟩ := hc
  have G1 := H.led _ (hv _ List.mem_cons_self)
  have ho := H.led _ (hv _ (.tail _ List.mem_cons_self))
  refine codeAny_of_tree ?_
  show wpAny _ _ (callAny (.ref mw) ⟨[ki.val k t], []⟩) _ _ s
  unfold callAny
  refine wpAny_bind (wpAny_load G1 ?_)
  dsimp only [rcO]
  simp only [beq_self_eq_true, Bool.or_true, Bool.true_or, if_true, ↓reduceIte]
  show wpAny _ _ (if (Value.type "builtin_function_or_method" != Value.type "method") = true then (checkBoundCall "set.__contains__" ⟨[.ref a, ki.val k t], []⟩ >>= fun _ => again (.builtin "set.__contains__" ⟨[.ref a, ki.val k t], []⟩)) else _) _ _ s
  rw [if_pos (by decide)]
  obtain ⟨n0, _, es, ep, tb, ⟨x1, x2, x3⟩, x4, _⟩ := id hl
  refine wpAny_bind (check_has ho x1 ⟨_, _, _, x4⟩ (wpAny_pure ⟨plainId_quiet F.slot_set_contains.plain _, codeAny_builtin entry_set_contains ?_⟩))
  rw [Around.under_plainId F.slot_set_contains.plain _]
  exact wpAny_mono (set_has (B := Around.in1 _) ki ho hl hr hsc (K noS _ trivial (H.toks _) rfl)) (fun fin s' h' => by obtain ⟨r, rfl, hq⟩ := h'; exact hq) fun _ _ e => e
noncomputable def rSetInM (ki : KI prog w K) : Rule prog w where
  nv := 2
  dec c vs xs := (biSetInM ki (refOf (fnOf c)) (refOf (fldOf (vw vs 0) 1)) (vw vs 1) (ki.of (arg c 0)) (tokOf (arg c 0)) (bOf (axOf xs)), tlOf xs)
  ok _ _ _ := setInM_ok ..
end
theorem Hp.head {Γ : Gd} {L : Led} {G : GL} {s : Shared} {a : Addr} {o x : Obj} {f : Obj → Obj} (H : Hp Γ ((a, o) :: L) G s) (hf : (f o).isFreed = false) (e : f o = x) : Hp Γ ((a, x) :: L) G { s with heap := s.heap.update a f } := by
  have z := H.setF List.mem_cons_self hf e
  have nd := (List.nodup_cons.mp H.nd).1
  have : setAt ((a, o) :: L) a x = (a, x) :: L := by
    show (if a = a then (a, x) else (a, o)) :: setAt L a x = _
    rw [if_pos rfl]
    refine congrArg _ ((List.map_congr_left fun p hp => ?_).trans (List.map_id L))
    rw [if_neg (fun h : p.1 = a => nd (List.mem_map.mpr ⟨p, hp, h⟩))]; rfl
  rw [this] at z; exact z
abbrev Fr := Env × Addr × Obj
def slO (o : Obj) (x : Array (Option Value)) : Obj := { o with slots := x }
def slotted : List Fr → (Nat → Array (Option Value)) → Led
  | [], _ => []
  | p :: l, x => (p.2.1, slO p.2.2 (x 0)) :: slotted l fun i => x (i + 1)
def FrOk (p : Fr) : Prop := p.1.scope.kind ≠ .module ∧ p.1.frame = some p.2.1 ∧ p.2.2.isFreed = false
def frS (env : Env) (o : Obj) (v : Value) : Array (Option Value) := #[some env.code, some (.ref env.globals), o.slots.getD 2 none, some v, o.slots.getD 4 none, env.func.map Value.ref, some (.ref env.builtins)] ++ (env.cells.map fun c => some (.ref c.2)).toArray
theorem freed_slots (o : Obj) (x : Array (Option Value)) : (slO o x).isFreed = o.isFreed := by
  obtain ⟨c, d, t, sl⟩ := o
  cases t <;> rfl
section
variable {M : Model} {A : Around} {E : Value → Shared → Prop} {Γ : Gd} {G : GL}
theorem sink {Γ : Gd} {G : GL} {s : Shared} {p : Addr × Obj} {A B : Led} (H : Hp Γ (p :: (A ++ B)) G s) : Hp Γ (A ++ (p :: B)) G s := H.perm List.perm_middle.symm (List.Perm.refl _)
theorem rise {Γ : Gd} {G : GL} {s : Shared} {p : Addr × Obj} {A B : Led} (H : Hp Γ (A ++ (p :: B)) G s) : Hp Γ (p :: (A ++ B)) G s := H.perm List.perm_middle (List.Perm.refl _)
theorem ready_ok : ∀ (l : List Fr) {F : Led} {s : Shared} {Q : Unit → Shared → Prop}, Hp Γ (l.map Prod.snd ++ F) G s → (∀ p ∈ l, FrOk p) →
    (∀ x s', Hp Γ (slotted l x ++ F) G s' → s'.gens = s.gens → s'.heap.objs.size = s.heap.objs.size → Q () s') → wpAny M A (readyFrames (l.map Prod.fst)) Q E s := by
  intro l
  induction l with
  | nil => intro F s Q H _ K; exact wpAny_pure (K (fun _ => #[]) s H rfl rfl)
  | cons p l ih =>
    intro F s Q H h K
    obtain ⟨env, f, o⟩ := p
    obtain ⟨h1, h2, h4⟩ := h _ List.mem_cons_self
    have h2 : env.frame = some f := h2
    have ho : s.heap.get? f = some o := H.led (f, o) List.mem_cons_self
    rw [List.map_cons]
    simp only [readyFrames, h2]
    refine wpAny_bind (wpAny_load ho ?_)
    by_cases hr : ((o.slots.getD 3 none).isSome) = true
    · rw [if_pos hr]
      have all : ∀ l : List Fr, ∃ x, slotted l x = l.map Prod.snd := by
        intro l
        induction l with
        | nil => exact ⟨fun _ => #[], rfl⟩
        | cons p l ih =>
          obtain ⟨x, hx⟩ := ih
          exact ⟨fun j => match j with | 0 => p.2.2.slots | j + 1 => x j, by show (p.2.1, slO p.2.2 p.2.2.slots) :: slotted l x = _; rw [hx]; rfl⟩
      obtain ⟨x, hx⟩ := all ((env, f, o) :: l)
      exact wpAny_pure (K x s (by rw [hx]; exact H) rfl rfl)
    · rw [if_neg hr]
      refine wpAny_bind (wpAny_of_eq (a := false) (by simp [behindIsImport, h1]) ?_)
      have fin : ∀ v, wpAny M A (update f (fun o => slO o (frS env o v)) >>= fun _ => readyFrames (l.map Prod.fst)) Q E s := fun v => by
        refine wpAny_bind (wpAny_update ho ?_)
        have H2 := sink (Hp.head (x := slO o (frS env o v)) (f := fun o => slO o (frS env o v)) H ((freed_slots _ _).trans h4) rfl)
        refine ih H2 (fun q hq => h q (.tail _ hq)) fun x s' H' e1 e2 => ?_
        exact K (fun j => match j with | 0 => _ | j + 1 => x j) s' (rise H') e1 (e2.trans (Heap.SameBut.update ..).1)
      cases hl : l.map Prod.fst with
      | nil =>
        refine wpAny_bind (wpAny_keptBack_nil fun v => ?_)
        have := fin v
        rw [hl] at this
        exact this
      | cons c cs =>
        refine wpAny_bind (m := keptBack env false (c :: cs)) (wpAny_pure ?_)
        have := fin (if env.scope.isGenerator || env.scope.isCoroutine then .none else if false = true then .notImplemented else c.frame.elim .notImplemented Value.ref)
        rw [hl] at this
        exact this
def tbObj (head : Value) (f : Addr) (fl : Value) (pl : List Value) : Obj := ⟨.type "traceback", none, .fields (head :: .ref f :: .none :: fl :: .none :: pl).toArray, #[]⟩
def exO (cls : Value) (dct : Option Addr) (vs : List Value) (sl : Array (Option Value)) : Obj := ⟨cls, dct, .fields vs.toArray, sl⟩
variable {s : Shared} {env : Env} {f e : Nat} {cls : Value} {dct : Option Addr} {v0 v1 : Value} {vs : List Value} {sl : Array (Option Value)} {ls : List Fr} {p0 : Fr} {Q : Unit → Shared → Prop} {F : Led}
theorem note_tail {head : Value} {b : Bool} (H : Hp Γ ((e, exO cls dct (v0 :: v1 :: vs) sl) :: ((p0 :: ls).map Prod.snd ++ F)) G s) (hfr : A.frames = some ((p0 :: ls).map Prod.fst)) (h0 : p0.1.frame = some f) (hf : env.frame = some f) (hok : ∀ p ∈ p0 :: ls, FrOk p)
    (K : ∀ x pl s', Hp Γ ((s.heap.objs.size, tbObj head f (rawInt f) pl) :: (e, exO cls dct (v0 :: .ref s.heap.objs.size :: vs) sl) :: (slotted (p0 :: ls) x ++ F)) G s' → s'.gens = s.gens → Q () s') :
    wpAny M A (do let a ← PySem.frameOf env; let pl ← entryPlaceOf f b; let t ← EntryCells.newEntry head a .none (rawInt f) .none pl; setField (.ref e) 1 t) Q E s := by
  refine wpAny_bind ?_
  unfold PySem.frameOf
  refine wpAny_bind (wpAny_frameEnvs hfr ?_)
  have hdw : (((p0 :: ls).map Prod.fst).dropWhile fun x => x.frame != env.frame) = (p0 :: ls).map Prod.fst := by
    rw [List.map_cons]
    simp [List.dropWhile, h0, hf]
  rw [hdw]
  refine wpAny_bind ?_
  rw [List.map_cons]
  unfold frameObject
  rw [← List.map_cons (f := Prod.fst) (a := p0)]
  refine wpAny_bind (ready_ok (p0 :: ls) (sink H) hok fun x s1 H1 e3 e1 => wpAny_pure ?_)
  rw [h0]
  refine wpAny_pure ?_
  refine wpAny_bind (wpAny_entryPlaceOf fun pl hpl => ?_)
  refine wpAny_bind ?_
  unfold EntryCells.newEntry
  simp only [newFields]
  refine wpAny_newObj_type ?_ (hpl.sizeOk5 _ _ _ _ _)
  have z : Hp Γ ((e, exO cls dct (v0 :: v1 :: vs) sl) :: (s1.heap.objs.size, tbObj head f (rawInt f) (if pl.isEmpty then List.replicate 6 .none else pl)) :: (slotted (p0 :: ls) x ++ F)) G _ := ((rise H1).alloc (o := tbObj head f (rawInt f) (if pl.isEmpty then List.replicate 6 .none else pl)) rfl).perm (List.Perm.swap ..) (List.Perm.refl _)
  refine wpAny_setField (z.led _ List.mem_cons_self) rfl (Nat.succ_lt_succ (Nat.succ_pos _)) ?_
  have y := z.head (x := exO cls dct (v0 :: .ref s1.heap.objs.size :: vs) sl) (f := Obj.mapFields fun vs => vs.setIfInBounds 1 (.ref s1.heap.objs.size)) rfl rfl
  rw [e1] at y
  refine K x (if pl.isEmpty then List.replicate 6 .none else pl) _ ?_ e3
  rw [← e1] at y ⊢
  exact y.perm (List.Perm.swap ..) (List.Perm.refl _)
theorem note_new (H : Hp Γ ((e, exO cls dct (v0 :: .none :: vs) sl) :: ((p0 :: ls).map Prod.snd ++ F)) G s) (hfr : A.frames = some ((p0 :: ls).map Prod.fst)) (h0 : p0.1.frame = some f) (hf : env.frame = some f) (hok : ∀ p ∈ p0 :: ls, FrOk p)
    (K : ∀ x pl s', Hp Γ ((s.heap.objs.size, tbObj .none f (rawInt f) pl) :: (e, exO cls dct (v0 :: .ref s.heap.objs.size :: vs) sl) :: (slotted (p0 :: ls) x ++ F)) G s' → s'.gens = s.gens → Q () s') :
    wpAny M A (noteFrame (.ref e) env) Q E s := by
  unfold noteFrame
  simp only [hf]
  refine wpAny_bind (wpAny_field (H.led _ List.mem_cons_self) rfl (x := .none) rfl ?_)
  rw [if_neg (by decide)]
  exact note_tail H hfr h0 hf hok K
theorem note_again {tb : Nat} {h : Value} {pl : List Value} (H : Hp Γ ((e, exO cls dct (v0 :: .ref tb :: vs) sl) :: (tb, tbObj h f (rawInt f) pl) :: F) G s) (hf : env.frame = some f) (K : Q () s) : wpAny M A (noteFrame (.ref e) env) Q E s := by
  unfold noteFrame
  simp only [hf]
  refine wpAny_bind (wpAny_field (H.led _ List.mem_cons_self) rfl (x := .ref tb) rfl ?_)
  rw [if_pos (show (Value.ref tb != Value.none) = true from by simp)]
  refine wpAny_bind (wpAny_field (H.led _ (.tail _ List.mem_cons_self)) rfl (x := rawInt f) rfl ?_)
  rw [if_pos (by simp)]
  exact wpAny_pure K
theorem note_over {tb g : Nat} {h : Value} {pl : List Value} (H : Hp Γ ((e, exO cls dct (v0 :: .ref tb :: vs) sl) :: (tb, tbObj h g .none pl) :: ((p0 :: ls).map Prod.snd ++ F)) G s) (hfr : A.frames = some ((p0 :: ls).map Prod.fst)) (h0 : p0.1.frame = some f) (hf : env.frame = some f) (hok : ∀ p ∈ p0 :: ls, FrOk p)
    (K : ∀ x pl' s', Hp Γ ((s.heap.objs.size, tbObj (.ref tb) f (rawInt f) pl') :: (e, exO cls dct (v0 :: .ref s.heap.objs.size :: vs) sl) :: (slotted (p0 :: ls) x ++ ((tb, tbObj h g .none pl) :: F))) G s' → s'.gens = s.gens → Q () s') :
    wpAny M A (noteFrame (.ref e) env) Q E s := by
  unfold noteFrame
  simp only [hf]
  refine wpAny_bind (wpAny_field (H.led _ List.mem_cons_self) rfl (x := .ref tb) rfl ?_)
  rw [if_pos (show (Value.ref tb != Value.none) = true from by simp)]
  have H2 : Hp Γ ((tb, tbObj h g .none pl) :: (e, exO cls dct (v0 :: .ref tb :: vs) sl) :: ((p0 :: ls).map Prod.snd ++ F)) G s := H.perm (List.Perm.swap ..) (List.Perm.refl _)
  refine wpAny_bind (wpAny_field (H2.led _ List.mem_cons_self) rfl (x := .none) rfl ?_)
  rw [if_neg (by simp [rawInt])]
  refine wpAny_bind (wpAny_setField (H2.led _ List.mem_cons_self) rfl (show 3 < (h :: Value.ref g :: Value.none :: Value.none :: Value.none :: pl).length from Nat.succ_lt_succ (Nat.succ_lt_succ (Nat.succ_lt_succ (Nat.succ_pos _)))) ?_)
  have y := H2.head (x := tbObj h g .none pl) (f := Obj.mapFields fun vs => vs.setIfInBounds 3 .none) rfl rfl
  have y2 : Hp Γ ((e, exO cls dct (v0 :: .ref tb :: vs) sl) :: ((p0 :: ls).map Prod.snd ++ ((tb, tbObj h g .none pl) :: F))) G _ := y.perm ((List.Perm.swap ..).trans (List.perm_middle.symm.cons _)) (List.Perm.refl _)
  have z := (Heap.SameBut.update s.heap tb (Obj.mapFields fun vs => vs.setIfInBounds 3 .none)).1
  exact note_tail y2 hfr h0 hf hok fun x pl s' H' a3 => K x pl s' (by rw [← z]; exact H') a3
theorem trees_ok {x : Value} (h : Q () s) : wpAny M A (theTreesLotGoes x) Q E s := by
  unfold theTreesLotGoes
  refine wpAny_bind (wpAny_stack fun st _ _ _ => ?_)
  refine wpAny_bind (wpAny_standAt ?_)
  refine wpAny_bind (wpAny_holding (wpAny_point ?_))
  exact wpAny_standAt h
theorem flight_end {tb : Nat} {h fl : Value} {g : Nat} {pl : List Value} (H : Hp Γ ((tb, tbObj h g fl pl) :: (e, exO cls dct (v0 :: .ref tb :: vs) sl) :: F) G s)
    (K : ∀ s', Hp Γ ((tb, tbObj h g .none pl) :: (e, exO cls dct (v0 :: .ref tb :: vs) sl) :: F) G s' → s'.gens = s.gens → Q () s') : wpAny M A (setFlight (.ref e) none) Q E s := by
  unfold setFlight
  refine wpAny_bind (wpAny_field (H.led _ (.tail _ List.mem_cons_self)) rfl (x := .ref tb) rfl ?_)
  rw [if_pos (show (Value.ref tb != Value.none) = true from by simp)]
  refine wpAny_setField (H.led _ List.mem_cons_self) rfl (show 3 < (h :: Value.ref g :: Value.none :: fl :: Value.none :: pl).length from Nat.succ_lt_succ (Nat.succ_lt_succ (Nat.succ_lt_succ (Nat.succ_pos _)))) ?_
  exact K _ (H.head rfl rfl) rfl
end
noncomputable section
def evalT : Expr → Env → Sem Value := PySem.W.Fast.tw14044960220447912780
def execsT : List Stmt → Env → Sem Flow := PySem.W.Fast.tw12563942051412417395
def noteT : Value → Env → Sem Unit := PySem.W.Fast.tw17872113653443481271
def treesT : Value → Sem Unit := PySem.W.Fast.tw1623429502029203251
def leavingT : Env → Value → Sem Unit := PySem.W.Fast.tw9442747609961115081
def setFlightT : Value → Option Addr → Sem Unit := PySem.W.Fast.tw5670386056902412789
def handleByT : Value → Env → List ExceptHandler → Sem Flow := PySem.W.Fast.tw14206642085496868694
theorem noteT_eq : noteT = noteFrame := PySem.W.Fast.te17872113653443481271.symm
theorem treesT_eq : treesT = theTreesLotGoes := PySem.W.Fast.te1623429502029203251.symm
theorem leavingT_eq : leavingT = leaving := PySem.W.Fast.te9442747609961115081.symm
structure NCtx where
  T : Code → Value → Env → Sem Unit → Sem Fin
  ok : ∀ c e env (M : Model) Γ (m : Sem Unit) Q E p s, Sem.wp M Γ m (fun _ p' s' => Sem.wp M Γ (T c e env (.pure ())) Q E p' s') (fun _ _ _ => False) p s → Sem.wp M Γ (T c e env m) Q E p s
inductive Holds1 {α : Type} : (Sem Unit → Sem α) → Prop
  | hole {f : Unit → Sem α} : Holds1 fun m => PySem.W.R.bindR m f
  | bind {β : Type} {C : Sem Unit → Sem β} {f : β → Sem α} : (∀ (M : Model) Γ (m : Sem Unit) Q E p s, Sem.wp M Γ m (fun _ p' s' => Sem.wp M Γ (C (.pure ())) Q E p' s') (fun _ _ _ => False) p s → Sem.wp M Γ (C m) Q E p s) → Holds1 fun m => PySem.W.R.bindR (C m) f
  | onR {C : Sem Unit → Sem α} {f : Value → Sem Unit} : (∀ (M : Model) Γ (m : Sem Unit) Q E p s, Sem.wp M Γ m (fun _ p' s' => Sem.wp M Γ (C (.pure ())) Q E p' s') (fun _ _ _ => False) p s → Sem.wp M Γ (C m) Q E p s) → Holds1 fun m => PySem.W.R.onRaiseR (C m) f
theorem Holds1.wp {α : Type} {C : Sem Unit → Sem α} (h : Holds1 C) (M : Model) (Γ : PySem.Ctx) (m : Sem Unit) (Q : α → Pos → Shared → Prop) (E : Value → Pos → Shared → Prop) (p : Pos) (s : Shared)
    (w : Sem.wp M Γ m (fun _ p' s' => Sem.wp M Γ (C (.pure ())) Q E p' s') (fun _ _ _ => False) p s) : Sem.wp M Γ (C m) Q E p s := by
  cases h with
  | hole =>
    simp only [← PySem.W.R.bindR_eq, Sem.wp_bind] at w ⊢
    exact Sem.wp_mono M Γ m (fun _ _ _ x => x) (fun _ _ _ x => x.elim) p s w
  | bind hC =>
    simp only [← PySem.W.R.bindR_eq, Sem.wp_bind] at w ⊢
    exact hC M Γ m _ _ p s w
  | onR hC =>
    simp only [← PySem.W.R.onRaiseR_eq, Sem.wp_onRaise] at w ⊢
    exact hC M Γ m _ _ p s w
theorem uns_wp (M : Model) (Γ : PySem.Ctx) (m : Sem Unit) (Q : PySem.Fin → Pos → Shared → Prop) (E : Value → Pos → Shared → Prop) (p : Pos) (s : Shared)
    (w : Sem.wp M Γ m (fun _ p' s' => Sem.wp M Γ (PySem.W.R.bindR (.pure ()) fun _ => .unsupported "") Q E p' s') (fun _ _ _ => False) p s) : Sem.wp M Γ (PySem.W.R.bindR m fun _ => .unsupported "") Q E p s :=
  Holds1.hole.wp M Γ m Q E p s w
def tryRest (e : Value) (env : Env) (hs : List ExceptHandler) (rest : List Stmt) (m : Sem Unit) : Sem Flow :=
  PySem.W.R.bindR (PySem.W.R.bindR m fun _ => PySem.W.R.bindR (setFlightT e none) fun _ => handleByT e env hs) fun f => match f with
    | .next => execsT rest env
    | f => .pure f
theorem tryRest_wp (e : Value) (env : Env) (hs : List ExceptHandler) (rest : List Stmt) (M : Model) (Γ : PySem.Ctx) (m : Sem Unit) (Q : Flow → Pos → Shared → Prop) (E : Value → Pos → Shared → Prop) (p : Pos) (s : Shared)
    (w : Sem.wp M Γ m (fun _ p' s' => Sem.wp M Γ (tryRest e env hs rest (.pure ())) Q E p' s') (fun _ _ _ => False) p s) : Sem.wp M Γ (tryRest e env hs rest m) Q E p s :=
  (Holds1.bind fun M Γ m Q E p s w => Holds1.hole.wp M Γ m Q E p s w).wp M Γ m Q E p s w
def funcEnd : Flow → Sem Fin
  | .ret v => .pure (.done (.ret v))
  | _ => .pure (.done (.ret .none))
def wtOf : Code → Option (List ExceptHandler × List Stmt × Env)
  | .whileLoop _ (.Try _ hs _ _ _ :: rest) _ env0 => some (hs, rest, env0)
  | _ => none
def ftOf (k : Nat) : Code → Option (List ExceptHandler × List Stmt × Env)
  | .func body env0 => match body.drop k with
    | .Try _ hs _ _ _ :: rest => some (hs, rest, env0)
    | _ => none
  | _ => none
def whileTry : NCtx where
  T c e env m := (wtOf c).elim (PySem.W.R.bindR m fun _ => .unsupported "") fun q => PySem.W.R.onRaiseR (PySem.W.R.bindR (tryRest e env q.1 q.2.1 m) fun f => match f with
        | .next => .pure (.again c)
        | .cont => .pure (.again c)
        | .brk => .pure (.done .next)
        | .ret v => .pure (.done (.ret v))) fun x => PySem.W.R.bindR (noteT x q.2.2) fun _ => treesT x
  ok c e env M Γ m Q E p s := by
    cases wtOf c with
    | none => exact uns_wp M Γ m Q E p s
    | some q => exact (Holds1.onR fun M Γ m Q E p s w => (Holds1.bind (tryRest_wp e env _ _)).wp M Γ m Q E p s w).wp M Γ m Q E p s
def funcTry (k : Nat) : NCtx where
  T c e env m := (ftOf k c).elim (PySem.W.R.bindR m fun _ => .unsupported "") fun q => PySem.W.R.bindR (PySem.W.R.onRaiseR (tryRest e env q.1 q.2.1 m) fun x => leavingT q.2.2 x) funcEnd
  ok c e env M Γ m Q E p s := by
    cases ftOf k c with
    | none => exact uns_wp M Γ m Q E p s
    | some q => exact (Holds1.bind fun M Γ m Q E p s w => (Holds1.onR (tryRest_wp e env _ _)).wp M Γ m Q E p s w).wp M Γ m Q E p s
def funcLeave : NCtx where
  T _ e _ m := PySem.W.R.bindR (PySem.W.R.bindR (PySem.W.R.bindR m fun _ => setFlightT e none) fun _ => (.raise e : Sem Flow)) funcEnd
  ok c e env M Γ m Q E p s := (Holds1.bind fun M Γ m Q E p s w => (Holds1.bind fun M Γ m Q E p s w => Holds1.hole.wp M Γ m Q E p s w).wp M Γ m Q E p s w).wp M Γ m Q E p s
end
noncomputable section
inductive NF where
  | loop
  | leave
  | ctx (N : NCtx)
def dEnv : Env := ⟨⟨.module, [], false, false, []⟩, 0, 0, [], ⟨#[]⟩, none, .none, none, 0⟩
def envOf (c : Code) : Env := c.env?.getD dEnv
def fa (e : Env) : Addr := e.frame.getD 0
theorem fa_is {e : Env} (h : e.frame.isSome = true) : e.frame = some (fa e) := by
  unfold fa
  cases q : e.frame with
  | none => rw [q] at h; cases h
  | some x => rfl
def NF.tr (F : NF) (c : Code) (e : Value) (env : Env) : Sem Fin := match F with
  | .loop => PySem.W.R.bindR (PySem.W.R.bindR (noteT e env) fun _ => treesT e) fun _ => .raise e
  | .leave => PySem.W.R.bindR (leavingT env e) fun _ => .raise e
  | .ctx N => N.T c e env (noteT e env)
def NF.nx (F : NF) (c : Code) (e : Value) (env : Env) : Sem Fin := match F with
  | .ctx N => N.T c e env (.pure ())
  | _ => .raise e
def NF.op (F : NF) (e : Value) (env : Env) : Sem Unit := match F with
  | .loop => PySem.W.R.bindR (noteT e env) fun _ => treesT e
  | .leave => leavingT env e
  | .ctx _ => noteT e env
def NF.fl (F : NF) (f : Addr) : Value := match F with
  | .leave => .none
  | _ => rawInt f
theorem NF.lift (F : NF) {c : Code} {e : Value} {env : Env} {M : Model} (Γ : PySem.Ctx) (Q : PySem.Fin → Pos → Shared → Prop) (E : Value → Pos → Shared → Prop) (p : Pos) (s : Shared)
    (w : Sem.wp M Γ (F.op e env) (fun _ p' s' => Sem.wp M Γ (F.nx c e env) Q E p' s') (fun _ _ _ => False) p s) : Sem.wp M Γ (F.tr c e env) Q E p s := by
  cases F with
  | ctx N => exact N.ok c e env M Γ _ Q E p s w
  | _ =>
    refine (Holds1.hole (f := fun _ => Sem.raise e)).wp M Γ _ Q E p s (Sem.wp_mono M Γ _ (fun _ _ _ x => ?_) (fun _ _ _ x => x) p s w)
    exact x
section
variable {M : Model} {A : Around} {E : Value → Shared → Prop} {Γ : Gd} {G : GL} {s : Shared} {P : Shared → Prop}
theorem NF.run (F : NF) {e : Nat} {env : Env} {g : Nat} {cls : Value} {dct : Option Addr} {v0 : Value} {vs : List Value} {sl : Array (Option Value)}
    (w : wpAny M A (noteFrame (.ref e) env) (fun _ s' => ∃ tb h pl X, Hp Γ ((tb, tbObj h g (rawInt g) pl) :: (e, exO cls dct (v0 :: .ref tb :: vs) sl) :: X) G s' ∧
      ∀ s2, Hp Γ ((tb, tbObj h g (F.fl g) pl) :: (e, exO cls dct (v0 :: .ref tb :: vs) sl) :: X) G s2 → s2.gens = s'.gens → P s2) E s) : wpAny M A (F.op (.ref e) env) (fun _ s' => P s') E s := by
  cases F with
  | loop =>
    show wpAny M A (PySem.W.R.bindR (noteT (.ref e) env) fun _ => treesT (.ref e)) _ _ s
    rw [← PySem.W.R.bindR_eq, noteT_eq, treesT_eq]
    exact wpAny_bind (wpAny_mono w (fun _ s' ⟨tb, h, pl, X, H, K⟩ => trees_ok (K s' H rfl)) fun _ _ x => x)
  | leave =>
    show wpAny M A (leavingT env (.ref e)) _ _ s
    rw [leavingT_eq]
    unfold leaving
    exact wpAny_bind (wpAny_mono w (fun _ s' ⟨tb, h, pl, X, H, K⟩ => flight_end H fun s2 H2 eg => K s2 H2 eg) fun _ _ x => x)
  | ctx N =>
    show wpAny M A (noteT (.ref e) env) _ _ s
    rw [noteT_eq]
    exact wpAny_mono w (fun _ s' ⟨tb, h, pl, X, H, K⟩ => K s' H rfl) fun _ _ x => x
end
def frOkB (p : Fr) : Bool := (match p.1.scope.kind with | .module => false | _ => true) && p.1.frame.isSome && !p.2.2.isFreed
def frames (es : List Env) (os : List Obj) : List Fr := (es.zip os).map fun p => (p.1, fa p.1, p.2)
theorem frames_ok {es : List Env} {os : List Obj} (h : (frames es os).all frOkB = true) : ∀ p ∈ frames es os, FrOk p := by
  intro p hp
  have h1 := List.all_eq_true.mp h p hp
  obtain ⟨q, _, rfl⟩ := List.mem_map.mp hp
  unfold frOkB at h1
  rw [Bool.and_eq_true, Bool.and_eq_true, Bool.not_eq_true'] at h1
  refine ⟨fun z => ?_, fa_is h1.1.2, h1.2⟩
  have := h1.1.1
  rw [show q.1.scope.kind = .module from z] at this
  cases this
def newTI (F : NF) (c : Code) (es : List Env) (ls : List Fr) (e : Nat) (cls : Value) (dct : Option Addr) (v0 : Value) (vs : List Value) (sl : Array (Option Value)) : TI where
  tr := F.tr c (.ref e) (envOf c)
  nx := F.nx c (.ref e) (envOf c)
  pre := .o e (exO cls dct (v0 :: .none :: vs) sl) :: ents (ls.map Prod.snd)
  post u := .o u.a (tbObj .none (fa (envOf c)) (F.fl (fa (envOf c))) u.v) :: .o e (exO cls dct (v0 :: .ref u.a :: vs) sl) :: ents (slotted ls u.x)
  ob := [(.es es, .es (ls.map Prod.fst)), (.a (fa (envOf c)), .a (fa (es.headD dEnv)))]
def overTI (F : NF) (c : Code) (es : List Env) (ls : List Fr) (e : Nat) (cls : Value) (dct : Option Addr) (v0 : Value) (vs : List Value) (sl : Array (Option Value)) (tb : Nat) (h : Value) (g : Nat) (pl : List Value) : TI where
  tr := F.tr c (.ref e) (envOf c)
  nx := F.nx c (.ref e) (envOf c)
  pre := .o e (exO cls dct (v0 :: .ref tb :: vs) sl) :: .o tb (tbObj h g .none pl) :: ents (ls.map Prod.snd)
  post u := .o u.a (tbObj (.ref tb) (fa (envOf c)) (F.fl (fa (envOf c))) u.v) :: .o e (exO cls dct (v0 :: .ref u.a :: vs) sl) :: ents (slotted ls u.x)
  ob := [(.es es, .es (ls.map Prod.fst)), (.a (fa (envOf c)), .a (fa (es.headD dEnv)))]
def againTI (F : NF) (c : Code) (e : Nat) (cls : Value) (dct : Option Addr) (v0 : Value) (vs : List Value) (sl : Array (Option Value)) (tb : Nat) (h : Value) (pl : List Value) : TI where
  tr := F.tr c (.ref e) (envOf c)
  nx := F.nx c (.ref e) (envOf c)
  pre := [.o e (exO cls dct (v0 :: .ref tb :: vs) sl), .o tb (tbObj h (fa (envOf c)) (rawInt (fa (envOf c))) pl)]
  post _ := [.o e (exO cls dct (v0 :: .ref tb :: vs) sl), .o tb (tbObj h (fa (envOf c)) (F.fl (fa (envOf c))) pl)]
  ob := []
theorem flat2 {Γ : Gd} {G : GL} {s : Shared} {a b : Addr} {x y : Obj} {L X : Led} : Hp Γ (flat (.o a x :: .o b y :: ents L) ++ X) (flatG (.o a x :: .o b y :: ents L) ++ G) s ↔ Hp Γ ((a, x) :: (b, y) :: (L ++ X)) G s := by
  rw [flat_cons, flat_cons, flat_ents, flatG_cons, flatG_cons, flatG_ents]
  exact Iff.rfl
theorem flat1 {Γ : Gd} {G : GL} {s : Shared} {a : Addr} {x : Obj} {L X : Led} : Hp Γ (flat (.o a x :: ents L) ++ X) (flatG (.o a x :: ents L) ++ G) s ↔ Hp Γ ((a, x) :: (L ++ X)) G s := by
  rw [flat_cons, flat_ents, flatG_cons, flatG_ents]
  exact Iff.rfl
theorem new_ok {M : Model} {F : NF} {c : Code} {es : List Env} {ls : List Fr} {e : Nat} {cls : Value} {dct : Option Addr} {v0 : Value} {vs : List Value} {sl : Array (Option Value)} (hl : ls ≠ []) (hc : (envOf c).frame.isSome = true) (hok : ∀ p ∈ ls, FrOk p) : SatT M es (newTI F c es ls e cls dct v0 vs sl) := by
  intro Γ X G A s P ho hfr _ _ H K
  have o1 : es = ls.map Prod.fst := Ob.es.inj (ho _ List.mem_cons_self)
  have o2 : fa (envOf c) = fa (es.headD dEnv) := Ob.a.inj (ho _ (.tail _ List.mem_cons_self))
  refine ⟨F.op (.ref e) (envOf c), ?_, fun Γ Q E p s => F.lift Γ Q E p s⟩
  cases ls with
  | nil => exact absurd rfl hl
  | cons p0 ls =>
    subst o1
    have h0 := (hok p0 List.mem_cons_self).2.1
    have h0 : p0.1.frame = some (fa (envOf c)) := by
      rw [o2]
      show p0.1.frame = some (fa p0.1)
      unfold fa
      rw [h0]; rfl
    refine F.run (note_new (flat1.mp H) hfr h0 (fa_is hc) hok fun x pl s' H' eg => ⟨_, _, _, _, H', fun s2 H2 e2 => ?_⟩)
    exact K { noS with a := s.heap.objs.size, v := pl, x := x } s2 (flat2.mpr H2) (e2.trans eg)
theorem over_ok {M : Model} {F : NF} {c : Code} {es : List Env} {ls : List Fr} {e : Nat} {cls : Value} {dct : Option Addr} {v0 : Value} {vs : List Value} {sl : Array (Option Value)} {tb : Nat} {h : Value} {g : Nat} {pl : List Value} (hl : ls ≠ []) (hc : (envOf c).frame.isSome = true) (hok : ∀ p ∈ ls, FrOk p) : SatT M es (overTI F c es ls e cls dct v0 vs sl tb h g pl) := by
  intro Γ X G A s P ho hfr _ _ H K
  have o1 : es = ls.map Prod.fst := Ob.es.inj (ho _ List.mem_cons_self)
  have o2 : fa (envOf c) = fa (es.headD dEnv) := Ob.a.inj (ho _ (.tail _ List.mem_cons_self))
  refine ⟨F.op (.ref e) (envOf c), ?_, fun Γ Q E p s => F.lift Γ Q E p s⟩
  cases ls with
  | nil => exact absurd rfl hl
  | cons p0 ls =>
    subst o1
    have h0 := (hok p0 List.mem_cons_self).2.1
    have h0 : p0.1.frame = some (fa (envOf c)) := by
      rw [o2]
      show p0.1.frame = some (fa p0.1)
      unfold fa
      rw [h0]; rfl
    refine F.run (note_over (flat2.mp H) hfr h0 (fa_is hc) hok fun x pl s' H' eg => ⟨_, _, _, _, H', fun s2 H2 e2 => ?_⟩)
    have H3 : Hp Γ ((s.heap.objs.size, _) :: (e, _) :: (slotted (p0 :: ls) x ++ X)) G s2 := H2.sub (fun q hq => by
      rcases List.mem_cons.mp hq with rfl | hq
      · exact List.mem_cons_self
      rcases List.mem_cons.mp hq with rfl | hq
      · exact .tail _ List.mem_cons_self
      refine .tail _ (.tail _ ?_)
      rcases List.mem_append.mp hq with h | h
      · exact List.mem_append_left _ h
      · exact List.mem_append_right _ (.tail _ h)) (H2.nd.sublist ((((List.sublist_cons_self ..).append_left _).cons_cons _).cons_cons _ |>.map Prod.fst)) (fun _ h => h) H2.gnd
    exact K { noS with a := s.heap.objs.size, v := pl, x := x } s2 (flat2.mpr H3) (e2.trans eg)
theorem again_ok' {M : Model} {F : NF} {c : Code} {es : List Env} {e : Nat} {cls : Value} {dct : Option Addr} {v0 : Value} {vs : List Value} {sl : Array (Option Value)} {tb : Nat} {h : Value} {pl : List Value} (hc : (envOf c).frame.isSome = true) : SatT M es (againTI F c e cls dct v0 vs sl tb h pl) := by
  intro Γ X G A s P ho hfr _ _ H K
  refine ⟨F.op (.ref e) (envOf c), ?_, fun Γ Q E p s => F.lift Γ Q E p s⟩
  have H0 : Hp Γ ((e, exO cls dct (v0 :: .ref tb :: vs) sl) :: (tb, tbObj h (fa (envOf c)) (rawInt (fa (envOf c))) pl) :: X) G s := H
  refine F.run (g := fa (envOf c)) (note_again H0 (fa_is hc) ⟨tb, h, pl, X, H0.perm (List.Perm.swap ..) (List.Perm.refl _), fun s2 H2 e2 => K noS s2 ?_ e2⟩)
  exact H2.perm (List.Perm.swap ..) (List.Perm.refl _)
theorem none_ok {M : Model} {es : List Env} : SatT M es ⟨.unsupported "", .unsupported "", [], fun _ => [], []⟩ := fun _ _ _ _ s _ _ _ _ _ H K =>
  ⟨.pure (), wpAny_pure (K noS s H rfl), fun _ _ _ _ _ w => w⟩
def entO : Ent → Addr × Obj
  | .o a x => (a, x)
  | _ => (0, default)
def exF (o : Obj) : List Value := match o.data with
  | .fields vs => vs.toList
  | _ => []
def noTI : TI := ⟨.unsupported "", .unsupported "", [], fun _ => [], []⟩
theorem cond_ok {M : Model} {es : List Env} {b : Bool} {I : TI} (h : b = true → SatT M es I) : SatT M es (cond b I noTI) := by
  cases b with
  | true => exact h rfl
  | false => exact none_ok
def okB (c : Code) (ls : List Fr) : Bool := !ls.isEmpty && (envOf c).frame.isSome && ls.all frOkB
theorem okB_is {c : Code} {ls : List Fr} (h : okB c ls = true) : ls ≠ [] ∧ (envOf c).frame.isSome = true ∧ ls.all frOkB = true := by
  unfold okB at h
  rw [Bool.and_eq_true, Bool.and_eq_true, Bool.not_eq_true'] at h
  exact ⟨fun e => absurd h.1.1 (by rw [e]; exact Bool.noConfusion), h.1.2, h.2⟩
def rNew (prog : Program) (w : World) (F : NF) : TRule prog w where
  dec c es ps _ xs :=
    let x := entO (ps.headD (.f [] []))
    let vs := exF x.2
    let ls := frames es ((ps.drop 1).map fun p => (entO p).2)
    (cond (okB c ls) (newTI F c es ls x.1 x.2.cls x.2.dict (vs.headD .none) (vs.drop 2) x.2.slots) noTI, xs)
  ok c es ps nm xs := cond_ok fun h => new_ok (okB_is h).1 (okB_is h).2.1 (frames_ok (okB_is h).2.2)
def rAgain (prog : Program) (w : World) (F : NF) : TRule prog w where
  dec c es ps _ xs :=
    let x := entO (ps.headD (.f [] []))
    let vs := exF x.2
    let t := entO ((ps.drop 1).headD (.f [] []))
    (cond (envOf c).frame.isSome (againTI F c x.1 x.2.cls x.2.dict (vs.headD .none) (vs.drop 2) x.2.slots t.1 ((exF t.2).headD .none) ((exF t.2).drop 5)) noTI, xs)
  ok c es ps nm xs := cond_ok fun h => again_ok' h
def rOver (prog : Program) (w : World) (F : NF) : TRule prog w where
  dec c es ps _ xs :=
    let x := entO (ps.headD (.f [] []))
    let vs := exF x.2
    let t := entO ((ps.drop 1).headD (.f [] []))
    let ls := frames es ((ps.drop 2).map fun p => (entO p).2)
    (cond (okB c ls) (overTI F c es ls x.1 x.2.cls x.2.dict (vs.headD .none) (vs.drop 2) x.2.slots t.1 ((exF t.2).headD .none) (refOf (((exF t.2).drop 1).headD .none)) ((exF t.2).drop 5)) noTI, xs)
  ok c es ps nm xs := cond_ok fun h => over_ok (okB_is h).1 (okB_is h).2.1 (frames_ok (okB_is h).2.2)
end
noncomputable section
def assignT : Expr → Env → Value → Sem Unit := PySem.W.Fast.tw17772580674575903948
def isTrueT : Expr → Env → Sem Value → Sem Bool := PySem.W.Fast.tw15418851999007992765
def lgT (z a : Nat) : Sem Unit := PySem.W.Fast.tw1578499551869305889 (.Tuple [] 0 default) (.ref z) (.ref a)
def lgK (z a : Nat) : Obj → Sem Unit := match lgT z a with
  | .load _ _ k => k
  | _ => fun _ => .unsupported ""
def lgQ (z a : Nat) : Option Value := match lgT z a with
  | .load _ q _ => q
  | _ => none
def lgY (z : Nat) : Sem Unit := .rule "for.unpacks-the-owned-tuple" fun _ => PySem.W.Fast.tw12367529300394763782 z 0 .none
def ownC (c : Code) (v : Value) (m : Sem Unit) : Sem Fin := match c with
  | .compLoop e d it acc env => match e with
    | .ListComp elt gens sc p => match gens with
      | g :: _ => match g.ifs with
        | q :: _ => PySem.W.R.onRaiseR (PySem.W.R.bindR m fun _ => PySem.W.R.bindR (assignT g.target env v) fun _ => PySem.W.R.bindR (PySem.W.R.bindR (PySem.W.R.bindR (isTrueT q env (evalT q env)) fun ok => .pure (ForInStep.yield ok)) fun r => match r with | .done b => .pure b | .yield b => .pure b) fun ok =>
            if ok = true then PySem.W.R.bindR (PySem.W.R.bindR (evalT elt env) fun v => PySem.W.R.bindR (PySem.W.Fast.tw11478286150595567475 (.builtin "list.append") [acc, v]) fun _ => .pure ()) fun _ => .pure (.again c) else .pure (.again c))
            fun x => PySem.W.R.bindR (noteT x env) fun _ => treesT x
        | [] => .unsupported ""
      | [] => .unsupported ""
    | _ => .unsupported ""
  | _ => .unsupported ""
theorem lgT_eq (z a : Nat) : lgT z a = .load z (lgQ z a) (lgK z a) := by kernel_rfl
theorem ownC_load (c : Code) (v : Value) (z : Nat) (q : Option Value) (k : Obj → Sem Unit) : (ownC c v (.load z q k) = .load z q fun o => ownC c v (k o)) ∨ ∀ m, ownC c v m = .unsupported "" := by
  unfold ownC
  cases c with
  | compLoop e d it acc env =>
    cases e with
    | ListComp elt gens sc p =>
      cases gens with
      | nil => exact .inr fun _ => rfl
      | cons g r =>
        obtain ⟨tg, itr, ifs, as⟩ := g
        cases ifs with
        | nil => exact .inr fun _ => rfl
        | cons => exact .inl rfl
    | _ => exact .inr fun _ => rfl
  | _ => exact .inr fun _ => rfl
def zpO (v : Value) (b : Bool) (aI aW : Nat) : Obj := ⟨.type "zip", none, .fields #[v, .bool b, .bool false, .ref aI, .ref aW], #[]⟩
theorem lgK_yes (z a : Nat) (b : Bool) (aI aW : Nat) : lgK z a (zpO (.int (Int.ofNat a) 0) b aI aW) = lgY z := by
  have h : (some (Value.int (Int.ofNat a) 0) == some (rawInt (Int.ofNat a))) = true := beq_self_eq_true _
  have e : lgK z a (zpO (.int (Int.ofNat a) 0) b aI aW) = if (true && (some (Value.int (Int.ofNat a) 0) == some (rawInt (Int.ofNat a)))) = true then lgY z else .pure () := by kernel_rfl
  rw [e, h]; rfl
def ownTI (c : Code) (z a : Nat) (b : Bool) (aI aW : Nat) : TI := ⟨ownC c (.ref a) (lgT z a), ownC c (.ref a) (lgY z), [.o z (zpO (.int (Int.ofNat a) 0) b aI aW)], fun _ => [.o z (zpO (.int (Int.ofNat a) 0) b aI aW)], []⟩
theorem own_ok {M : Model} {es : List Env} (c : Code) (z a : Nat) (b : Bool) (aI aW : Nat) : SatT M es (ownTI c z a b aI aW) := by
  intro Γ X G A s P _ _ _ _ H K
  let m : Sem Unit := .load z (lgQ z a) fun o => @ite _ (lgK z a o = lgY z) (Classical.propDecidable _) (.pure ()) (.unsupported "")
  have ho : s.heap.get? z = some (zpO (.int (Int.ofNat a) 0) b aI aW) := H.led (z, _) List.mem_cons_self
  refine ⟨m, ?_, fun Γ' Q E p s' w => ?_⟩
  · intro Γ' p hΓ
    show Sem.wp M Γ' m _ _ p s
    unfold Sem.wp
    refine ⟨_, ho, ?_⟩
    dsimp only
    rw [if_pos (lgK_yes z a b aI aW), Sem.wp]
    exact K noS s H rfl
  · show Sem.wp M Γ' (ownC c (.ref a) (lgT z a)) Q E p s'
    have w : Sem.wp M Γ' m (fun _ p' s' => Sem.wp M Γ' (ownC c (.ref a) (lgY z)) Q E p' s') (fun _ _ _ => False) p s' := w
    rw [lgT_eq]
    rw [Sem.wp] at w
    obtain ⟨o, h1, h2⟩ := w
    by_cases hy : lgK z a o = lgY z
    · rw [if_pos hy, Sem.wp] at h2
      rcases ownC_load c (.ref a) z (lgQ z a) (lgK z a) with e | e
      · rw [e, Sem.wp]
        exact ⟨o, h1, by rw [hy]; exact h2⟩
      · rw [e] at h2 ⊢
        rw [Sem.wp] at h2
        exact h2.elim
    · rw [if_neg hy, Sem.wp] at h2
      exact h2.elim
def rOwn (prog : Program) (w : World) : TRule prog w where
  dec c _ ps _ xs := let p := entO (ps.headD (.f [] [])); (ownTI c p.1 (zOf (fldOf p.2 0)).toNat (match fldOf p.2 1 with | .bool b => b | _ => false) (refOf (fldOf p.2 3)) (refOf (fldOf p.2 4)), xs)
  ok c _ ps _ _ := own_ok ..
end
abbrev S (x : String) : Str := Str.ofString x
def hashOf (P : Params) (s : Str) : Int := if s.cps.isEmpty then 0 else reduceHash (P.strHash s.cps)
def de (P : Params) (k : Str) (t : Nat) (v : Value) : DictEntry := ⟨hashOf P k, .str k t, v⟩
def allDefs : Nat → List Stmt → List (Str × Arguments × List Stmt × Scope)
  | 0, _ => []
  | n + 1, ss => ss.flatMap fun s => match s with
    | .FunctionDef name args body _ _ _ scope _ _ _ => [(name, args, body, scope)]
    | .ClassDef _ _ _ body .. => allDefs n body
    | _ => []
noncomputable def pwDef (i : Nat) : Str × Arguments × List Stmt × Scope := ((allDefs 5 PySem.Challenge.pw_ij0124_02.main.body)[i]?).getD default
noncomputable def kF (i : Nat) (q : Str) (g : Addr) (clo : List (Str × Addr)) (df kd doc pm : Value) (ann : Option Addr) (code ct : Value) (bi : Addr) : FuncData :=
  ⟨(pwDef i).1, q, (pwDef i).2.1, .stmts (pwDef i).2.2.1, (pwDef i).2.2.2, g, clo, df, kd, doc, pm, ann, code, ct, bi⟩
noncomputable def o0 (P : Params) : Obj := ⟨(.type "dict"), none, (.dict #[de P (S "__name__") 1 (.str (S "builtins") 160), de P (S "__doc__") 2 (.builtin "builtins.__doc__:str#opaque"), de P (S "__package__") 3 (.builtin "builtins.__package__:str#opaque"), de P (S "__loader__") 4 (.builtin "builtins.__loader__:shared#opaque"), de P (S "__spec__") 5 (.builtin "builtins.__spec__#opaque"), de P (S "__build_class__") 6 (.builtin "__build_class__"), de P (S "__import__") 7 (.builtin "__import__"), de P (S "abs") 8 (.builtin "abs"), de P (S "all") 9 (.builtin "all"), de P (S "any") 10 (.builtin "any"), de P (S "ascii") 11 (.builtin "ascii"), de P (S "bin") 12 (.builtin "bin"), de P (S "breakpoint") 13 (.builtin "breakpoint"), de P (S "callable") 14 (.builtin "callable"), de P (S "chr") 15 (.builtin "chr"), de P (S "compile") 16 (.builtin "compile"), de P (S "delattr") 17 (.builtin "delattr"), de P (S "dir") 18 (.builtin "dir"), de P (S "divmod") 19 (.builtin "divmod"), de P (S "eval") 20 (.builtin "eval"), de P (S "exec") 21 (.builtin "exec"), de P (S "format") 22 (.builtin "format"), de P (S "getattr") 23 (.builtin "getattr"), de P (S "globals") 24 (.builtin "globals"), de P (S "hasattr") 25 (.builtin "hasattr"), de P (S "hash") 26 (.builtin "hash"), de P (S "hex") 27 (.builtin "hex"), de P (S "id") 28 (.builtin "id"), de P (S "input") 29 (.builtin "input"), de P (S "isinstance") 30 (.builtin "isinstance"), de P (S "issubclass") 31 (.builtin "issubclass"), de P (S "iter") 32 (.builtin "iter"), de P (S "aiter") 33 (.builtin "aiter"), de P (S "len") 34 (.builtin "len"), de P (S "locals") 35 (.builtin "locals"), de P (S "max") 36 (.builtin "max"), de P (S "min") 37 (.builtin "min"), de P (S "next") 38 (.builtin "next"), de P (S "anext") 39 (.builtin "anext"), de P (S "oct") 40 (.builtin "oct"), de P (S "ord") 41 (.builtin "ord"), de P (S "pow") 42 (.builtin "pow"), de P (S "print") 43 (.builtin "print"), de P (S "repr") 44 (.builtin "repr"), de P (S "round") 45 (.builtin "round"), de P (S "setattr") 46 (.builtin "setattr"), de P (S "sorted") 47 (.builtin "sorted"), de P (S "sum") 48 (.builtin "sum"), de P (S "vars") 49 (.builtin "vars"), de P (S "None") 50 .none, de P (S "Ellipsis") 51 .ellipsis, de P (S "NotImplemented") 52 .notImplemented, de P (S "False") 53 (.bool false), de P (S "True") 54 (.bool true), de P (S "bool") 55 (.type "bool"), de P (S "memoryview") 56 (.type "memoryview"), de P (S "bytearray") 57 (.type "bytearray"), de P (S "bytes") 58 (.type "bytes"), de P (S "classmethod") 59 (.type "classmethod"), de P (S "complex") 60 (.type "complex"), de P (S "dict") 61 (.type "dict"), de P (S "enumerate") 62 (.type "enumerate"), de P (S "filter") 63 (.type "filter"), de P (S "float") 64 (.type "float"), de P (S "frozenset") 65 (.type "frozenset"), de P (S "property") 66 (.type "property"), de P (S "int") 67 (.type "int"), de P (S "list") 68 (.type "list"), de P (S "map") 69 (.type "map"), de P (S "object") 70 (.type "object"), de P (S "range") 71 (.type "range"), de P (S "reversed") 72 (.type "reversed"), de P (S "set") 73 (.type "set"), de P (S "slice") 74 (.type "slice"), de P (S "staticmethod") 75 (.type "staticmethod"), de P (S "str") 76 (.type "str"), de P (S "super") 77 (.type "super"), de P (S "tuple") 78 (.type "tuple"), de P (S "type") 79 (.type "type"), de P (S "zip") 80 (.type "zip"), de P (S "__debug__") 81 (.bool true), de P (S "BaseException") 82 (.type "BaseException"), de P (S "BaseExceptionGroup") 83 (.type "BaseExceptionGroup"), de P (S "Exception") 84 (.type "Exception"), de P (S "GeneratorExit") 85 (.type "GeneratorExit"), de P (S "KeyboardInterrupt") 86 (.type "KeyboardInterrupt"), de P (S "SystemExit") 87 (.type "SystemExit"), de P (S "ArithmeticError") 88 (.type "ArithmeticError"), de P (S "AssertionError") 89 (.type "AssertionError"), de P (S "AttributeError") 90 (.type "AttributeError"), de P (S "BufferError") 91 (.type "BufferError"), de P (S "EOFError") 92 (.type "EOFError"), de P (S "ImportError") 93 (.type "ImportError"), de P (S "LookupError") 94 (.type "LookupError"), de P (S "MemoryError") 95 (.type "MemoryError"), de P (S "NameError") 96 (.type "NameError"), de P (S "OSError") 97 (.type "OSError"), de P (S "ReferenceError") 98 (.type "ReferenceError"), de P (S "RuntimeError") 99 (.type "RuntimeError"), de P (S "StopAsyncIteration") 100 (.type "StopAsyncIteration"), de P (S "StopIteration") 101 (.type "StopIteration"), de P (S "SyntaxError") 102 (.type "SyntaxError"), de P (S "SystemError") 103 (.type "SystemError"), de P (S "TypeError") 104 (.type "TypeError"), de P (S "ValueError") 105 (.type "ValueError"), de P (S "Warning") 106 (.type "Warning"), de P (S "FloatingPointError") 107 (.type "FloatingPointError"), de P (S "OverflowError") 108 (.type "OverflowError"), de P (S "ZeroDivisionError") 109 (.type "ZeroDivisionError"), de P (S "BytesWarning") 110 (.type "BytesWarning"), de P (S "DeprecationWarning") 111 (.type "DeprecationWarning"), de P (S "EncodingWarning") 112 (.type "EncodingWarning"), de P (S "FutureWarning") 113 (.type "FutureWarning"), de P (S "ImportWarning") 114 (.type "ImportWarning"), de P (S "PendingDeprecationWarning") 115 (.type "PendingDeprecationWarning"), de P (S "ResourceWarning") 116 (.type "ResourceWarning"), de P (S "RuntimeWarning") 117 (.type "RuntimeWarning"), de P (S "SyntaxWarning") 118 (.type "SyntaxWarning"), de P (S "UnicodeWarning") 119 (.type "UnicodeWarning"), de P (S "UserWarning") 120 (.type "UserWarning"), de P (S "BlockingIOError") 121 (.type "BlockingIOError"), de P (S "ChildProcessError") 122 (.type "ChildProcessError"), de P (S "ConnectionError") 123 (.type "ConnectionError"), de P (S "FileExistsError") 124 (.type "FileExistsError"), de P (S "FileNotFoundError") 125 (.type "FileNotFoundError"), de P (S "InterruptedError") 126 (.type "InterruptedError"), de P (S "IsADirectoryError") 127 (.type "IsADirectoryError"), de P (S "NotADirectoryError") 128 (.type "NotADirectoryError"), de P (S "PermissionError") 129 (.type "PermissionError"), de P (S "ProcessLookupError") 130 (.type "ProcessLookupError"), de P (S "TimeoutError") 131 (.type "TimeoutError"), de P (S "IndentationError") 132 (.type "IndentationError"), de P (S "_IncompleteInputError") 133 (.type "_IncompleteInputError"), de P (S "IndexError") 134 (.type "IndexError"), de P (S "KeyError") 135 (.type "KeyError"), de P (S "ModuleNotFoundError") 136 (.type "ModuleNotFoundError"), de P (S "NotImplementedError") 137 (.type "NotImplementedError"), de P (S "PythonFinalizationError") 138 (.type "PythonFinalizationError"), de P (S "RecursionError") 139 (.type "RecursionError"), de P (S "UnboundLocalError") 140 (.type "UnboundLocalError"), de P (S "UnicodeError") 141 (.type "UnicodeError"), de P (S "BrokenPipeError") 142 (.type "BrokenPipeError"), de P (S "ConnectionAbortedError") 143 (.type "ConnectionAbortedError"), de P (S "ConnectionRefusedError") 144 (.type "ConnectionRefusedError"), de P (S "ConnectionResetError") 145 (.type "ConnectionResetError"), de P (S "TabError") 146 (.type "TabError"), de P (S "UnicodeDecodeError") 147 (.type "UnicodeDecodeError"), de P (S "UnicodeEncodeError") 148 (.type "UnicodeEncodeError"), de P (S "UnicodeTranslateError") 149 (.type "UnicodeTranslateError"), de P (S "ExceptionGroup") 150 (.type "ExceptionGroup"), de P (S "EnvironmentError") 151 (.type "OSError"), de P (S "IOError") 152 (.type "OSError"), de P (S "open") 153 (.builtin "open"), de P (S "quit") 154 (.builtin "builtins.quit#opaque"), de P (S "exit") 155 (.builtin "builtins.exit#opaque"), de P (S "copyright") 156 (.builtin "builtins.copyright#opaque"), de P (S "credits") 157 (.builtin "builtins.credits#opaque"), de P (S "license") 158 (.builtin "builtins.license#opaque"), de P (S "help") 159 (.builtin "builtins.help#opaque")] 159), #[]⟩
noncomputable def o2 (P : Params) : Obj := ⟨.none, none, (.dict #[] 0), #[]⟩
noncomputable def o3 (P : Params) : Obj := ⟨(.type "dict"), none, (.dict #[de P (S "__name__") 165 (.str (S "law_ij0124_02") 481), de P (S "__doc__") 166 .none, de P (S "__package__") 167 .none, de P (S "__loader__") 168 (.builtin "__main__.__loader__#opaque"), de P (S "__spec__") 169 .none, de P (S "__annotations__") 170 (.ref 6), de P (S "__builtins__") 171 (.ref 4), de P (S "__file__") 173 (.str (S "/claim/cut.py") 172), de P (S "__cached__") 174 .none, de P (S "_wall") 193 (.ref 21), de P (S "sep") 197 (.str (S "/") 196), de P (S "_kind") 206 (.ref 28), de P (S "_fspath") 215 (.ref 35), de P (S "split") 226 (.ref 42), de P (S "_ancestry") 236 (.ref 49), de P (S "filterfalse") 288 (.ref 82), de P (S "_difference") 298 (.ref 93), de P (S "_NODE_OUT") 303 (.int (-1) 302), de P (S "_NODE_DONE") 306 (.int (-2) 305), de P (S "_NodeInfo") 343 (.ref 112), de P (S "CycleError") 361 (.ref 127), de P (S "TopologicalSorter") 480 (.ref 209), de P (S "_law_cells") 488 (.ref 218), de P (S "_law_names") 494 (.ref 223), de P (S "_law_groups") 500 (.ref 228), de P (S "_law_needs") 511 (.ref 235), de P (S "_law_fits") 517 (.ref 240), de P (S "_law_some") 531 (.ref 247), de P (S "law") 537 (.ref 252)] 29), #[]⟩
noncomputable def o4 (P : Params) : Obj := ⟨(.type "module"), (some 0), .plain, #[]⟩
noncomputable def o27 (P : Params) : Obj := ⟨(.type "code"), none, (.fields #[(.str (S "_kind") 198), (.str (S "_kind") 199), (.str (S "/claim/cut.py") 200), (.int 6 0), (.int 2 0), (.int 0 0), (.int 0 0), (.int 3 0), (.ref 22), (.bool true), (.int 181 0), (.ref 23), .none, (.ref 24), (.ref 25), (.ref 26), (.int 204 0), (.int 6 0), (.str (S "/claim/cut.py") 205)]), #[]⟩
noncomputable def o28 (P : Params) : Obj := ⟨(.type "function"), none, (.func (kF 1 (S "_kind") 3 [] .none .none .none (.str (S "posixpath") 194) none (.ref 27) .none 0)), #[]⟩
noncomputable def o34 (P : Params) : Obj := ⟨(.type "code"), none, (.fields #[(.str (S "_fspath") 207), (.str (S "_fspath") 208), (.str (S "/claim/cut.py") 209), (.int 27 0), (.int 2 0), (.int 0 0), (.int 0 0), (.int 3 0), (.ref 29), (.bool true), (.int 181 0), (.ref 30), .none, (.ref 31), (.ref 32), (.ref 33), (.int 213 0), (.int 27 0), (.str (S "/claim/cut.py") 214)]), #[]⟩
noncomputable def o35 (P : Params) : Obj := ⟨(.type "function"), none, (.func (kF 2 (S "_fspath") 3 [] .none .none .none (.str (S "posixpath") 194) none (.ref 34) .none 0)), #[]⟩
noncomputable def o41 (P : Params) : Obj := ⟨(.type "code"), none, (.fields #[(.str (S "split") 216), (.str (S "split") 217), (.str (S "/claim/cut.py") 218), (.int 32 0), (.int 1 0), (.int 0 0), (.int 0 0), (.int 3 0), (.ref 36), (.bool true), (.int 181 0), (.ref 37), .none, (.ref 38), (.ref 39), (.ref 40), (.int 224 0), (.int 32 0), (.str (S "/claim/cut.py") 225)]), #[]⟩
noncomputable def o42 (P : Params) : Obj := ⟨(.type "function"), none, (.func (kF 3 (S "split") 3 [] .none .none .none (.str (S "posixpath") 194) none (.ref 41) .none 0)), #[]⟩
noncomputable def o48 (P : Params) : Obj := ⟨(.type "code"), none, (.fields #[(.str (S "_ancestry") 229), (.str (S "_ancestry") 230), (.str (S "/claim/cut.py") 231), (.int 41 0), (.int 1 0), (.int 0 0), (.int 0 0), (.int 35 0), (.ref 43), (.bool true), (.int 181 0), (.ref 44), .none, (.ref 45), (.ref 46), (.ref 47), (.int 234 0), (.int 41 0), (.str (S "/claim/cut.py") 235)]), #[]⟩
noncomputable def o49 (P : Params) : Obj := ⟨(.type "function"), none, (.func (kF 4 (S "_ancestry") 3 [] .none .none .none (.str (S "cpy313.zipfile._path") 227) none (.ref 48) .none 0)), #[]⟩
noncomputable def o63 (P : Params) : Obj := ⟨(.type "code"), none, (.fields #[(.str (S "__init__") 254), (.str (S "filterfalse.__init__") 255), (.str (S "/claim/cut.py") 256), (.int 50 0), (.int 3 0), (.int 3 0), (.int 0 0), (.int 3 0), (.ref 58), (.bool true), (.int 181 0), (.ref 59), .none, (.ref 60), (.ref 61), (.ref 62), (.int 260 0), (.int 50 0), (.str (S "/claim/cut.py") 261)]), #[]⟩
noncomputable def o64 (P : Params) : Obj := ⟨(.type "function"), none, (.func (kF 5 (S "filterfalse.__init__") 3 [] .none .none .none (.str (S "itertools") 237) none (.ref 63) .none 0)), #[]⟩
noncomputable def o70 (P : Params) : Obj := ⟨(.type "code"), none, (.fields #[(.str (S "__iter__") 263), (.str (S "filterfalse.__iter__") 264), (.str (S "/claim/cut.py") 265), (.int 54 0), (.int 1 0), (.int 0 0), (.int 0 0), (.int 3 0), (.ref 65), (.bool true), (.int 181 0), (.ref 66), .none, (.ref 67), (.ref 68), (.ref 69), (.int 267 0), (.int 54 0), (.str (S "/claim/cut.py") 268)]), #[]⟩
noncomputable def o71 (P : Params) : Obj := ⟨(.type "function"), none, (.func (kF 6 (S "filterfalse.__iter__") 3 [] .none .none .none (.str (S "itertools") 237) none (.ref 70) .none 0)), #[]⟩
noncomputable def o77 (P : Params) : Obj := ⟨(.type "code"), none, (.fields #[(.str (S "__next__") 270), (.str (S "filterfalse.__next__") 271), (.str (S "/claim/cut.py") 272), (.int 57 0), (.int 1 0), (.int 0 0), (.int 0 0), (.int 3 0), (.ref 72), (.bool true), (.int 181 0), (.ref 73), .none, (.ref 74), (.ref 75), (.ref 76), (.int 276 0), (.int 57 0), (.str (S "/claim/cut.py") 277)]), #[]⟩
noncomputable def o78 (P : Params) : Obj := ⟨(.type "function"), none, (.func (kF 7 (S "filterfalse.__next__") 3 [] .none .none .none (.str (S "itertools") 237) none (.ref 77) .none 0)), #[]⟩
noncomputable def o81 (P : Params) : Obj := ⟨(.type "dict"), none, (.dict #[de P (S "__module__") 246 (.str (S "itertools") 237), de P (S "__firstlineno__") 250 (.int 47 249), de P (S "__slots__") 253 (.ref 57), de P (S "__init__") 262 (.ref 64), de P (S "__iter__") 269 (.ref 71), de P (S "__next__") 278 (.ref 78), de P (S "__static_attributes__") 281 (.ref 79), de P (S "_func") 283 (.ref 83), de P (S "_it") 285 (.ref 84), de P (S "__doc__") 286 .none] 4), #[]⟩
noncomputable def o82 (P : Params) : Obj := ⟨(.type "type"), none, (.cls ⟨(S "filterfalse"), [(.type "object")], [(.ref 82), (.type "object")], 81, (S "filterfalse"), false, [(S "_func"), (S "_it")], [], false, none, false⟩), #[none, none, (some (.str (S "filterfalse") 239)), (some (.str (S "filterfalse") 247)), (some (.builtin "object.__new__")), (some (.bool false))]⟩
noncomputable def o83 (P : Params) : Obj := ⟨(.type "member_descriptor"), none, (.fields #[(.str (S "_func") 282), (.ref 82), (.builtin "proto.slot"), (.builtin "proto.slot#set"), (.int 1 0)]), #[]⟩
noncomputable def o84 (P : Params) : Obj := ⟨(.type "member_descriptor"), none, (.fields #[(.str (S "_it") 284), (.ref 82), (.builtin "proto.slot"), (.builtin "proto.slot#set"), (.int 0 0)]), #[]⟩
noncomputable def o92 (P : Params) : Obj := ⟨(.type "code"), none, (.fields #[(.str (S "_difference") 291), (.str (S "_difference") 292), (.str (S "/claim/cut.py") 293), (.int 67 0), (.int 2 0), (.int 0 0), (.int 0 0), (.int 3 0), (.ref 87), (.bool true), (.int 181 0), (.ref 88), .none, (.ref 89), (.ref 90), (.ref 91), (.int 296 0), (.int 67 0), (.str (S "/claim/cut.py") 297)]), #[]⟩
noncomputable def o93 (P : Params) : Obj := ⟨(.type "function"), none, (.func (kF 8 (S "_difference") 3 [] .none .none .none (.str (S "cpy313.zipfile._path") 289) none (.ref 92) .none 0)), #[]⟩
noncomputable def o107 (P : Params) : Obj := ⟨(.type "code"), none, (.fields #[(.str (S "__init__") 323), (.str (S "_NodeInfo.__init__") 324), (.str (S "/claim/cut.py") 325), (.int 75 0), (.int 2 0), (.int 0 0), (.int 0 0), (.int 3 0), (.ref 102), (.bool true), (.int 181 0), (.ref 103), .none, (.ref 104), (.ref 105), (.ref 106), (.int 328 0), (.int 75 0), (.str (S "/claim/cut.py") 329)]), #[]⟩
noncomputable def o108 (P : Params) : Obj := ⟨(.type "function"), none, (.func (kF 9 (S "_NodeInfo.__init__") 3 [] .none .none .none (.str (S "cpy313.graphlib") 299) none (.ref 107) .none 0)), #[]⟩
noncomputable def o111 (P : Params) : Obj := ⟨(.type "dict"), none, (.dict #[de P (S "__module__") 314 (.str (S "cpy313.graphlib") 299), de P (S "__firstlineno__") 318 (.int 72 317), de P (S "__slots__") 322 (.ref 101), de P (S "__init__") 330 (.ref 108), de P (S "__static_attributes__") 334 (.ref 109), de P (S "node") 336 (.ref 113), de P (S "npredecessors") 338 (.ref 114), de P (S "successors") 340 (.ref 115), de P (S "__doc__") 341 .none] 5), #[]⟩
noncomputable def o112 (P : Params) : Obj := ⟨(.type "type"), none, (.cls ⟨(S "_NodeInfo"), [(.type "object")], [(.ref 112), (.type "object")], 111, (S "_NodeInfo"), false, [(S "node"), (S "npredecessors"), (S "successors")], [], false, none, false⟩), #[none, none, (some (.str (S "_NodeInfo") 307)), (some (.str (S "_NodeInfo") 315)), (some (.builtin "object.__new__")), (some (.bool false))]⟩
noncomputable def o113 (P : Params) : Obj := ⟨(.type "member_descriptor"), none, (.fields #[(.str (S "node") 335), (.ref 112), (.builtin "proto.slot"), (.builtin "proto.slot#set"), (.int 2 0)]), #[]⟩
noncomputable def o114 (P : Params) : Obj := ⟨(.type "member_descriptor"), none, (.fields #[(.str (S "npredecessors") 337), (.ref 112), (.builtin "proto.slot"), (.builtin "proto.slot#set"), (.int 1 0)]), #[]⟩
noncomputable def o115 (P : Params) : Obj := ⟨(.type "member_descriptor"), none, (.fields #[(.str (S "successors") 339), (.ref 112), (.builtin "proto.slot"), (.builtin "proto.slot#set"), (.int 0 0)]), #[]⟩
noncomputable def o126 (P : Params) : Obj := ⟨(.type "dict"), none, (.dict #[de P (S "__module__") 351 (.str (S "cpy313.graphlib") 299), de P (S "__firstlineno__") 355 (.int 79 354), de P (S "__static_attributes__") 356 (.ref 125), de P (S "__weakref__") 358 (.ref 128), de P (S "__doc__") 359 .none] 3), #[]⟩
noncomputable def o127 (P : Params) : Obj := ⟨(.type "type"), none, (.cls ⟨(S "CycleError"), [(.type "ValueError")], [(.ref 127), (.type "ValueError"), (.type "Exception"), (.type "BaseException"), (.type "object")], 126, (S "CycleError"), true, [], [], false, none, false⟩), #[(some (.ref 118)), none, (some (.str (S "CycleError") 344)), (some (.str (S "CycleError") 352)), (some (.builtin "ValueError.__new__")), (some (.bool true))]⟩
noncomputable def o128 (P : Params) : Obj := ⟨(.type "getset_descriptor"), none, (.fields #[(.str (S "__weakref__") 357), (.ref 127), (.builtin "ExceptionGroup.__weakref__"), .none]), #[]⟩
noncomputable def o138 (P : Params) : Obj := ⟨(.type "tuple"), none, (.seq #[.none] 0), #[]⟩
noncomputable def o144 (P : Params) : Obj := ⟨(.type "code"), none, (.fields #[(.str (S "__init__") 374), (.str (S "TopologicalSorter.__init__") 375), (.str (S "/claim/cut.py") 376), (.int 83 0), (.int 2 0), (.int 0 0), (.int 0 0), (.int 3 0), (.ref 139), (.bool true), (.int 181 0), (.ref 140), .none, (.ref 141), (.ref 142), (.ref 143), (.int 381 0), (.int 83 0), (.str (S "/claim/cut.py") 382)]), #[]⟩
noncomputable def o145 (P : Params) : Obj := ⟨(.type "function"), none, (.func (kF 10 (S "TopologicalSorter.__init__") 3 [] (.ref 138) .none .none (.str (S "cpy313.graphlib") 299) none (.ref 144) .none 0)), #[]⟩
noncomputable def o151 (P : Params) : Obj := ⟨(.type "code"), none, (.fields #[(.str (S "_get_nodeinfo") 384), (.str (S "TopologicalSorter._get_nodeinfo") 385), (.str (S "/claim/cut.py") 386), (.int 92 0), (.int 2 0), (.int 0 0), (.int 0 0), (.int 3 0), (.ref 146), (.bool true), (.int 181 0), (.ref 147), .none, (.ref 148), (.ref 149), (.ref 150), (.int 390 0), (.int 92 0), (.str (S "/claim/cut.py") 391)]), #[]⟩
noncomputable def o152 (P : Params) : Obj := ⟨(.type "function"), none, (.func (kF 11 (S "TopologicalSorter._get_nodeinfo") 3 [] .none .none .none (.str (S "cpy313.graphlib") 299) none (.ref 151) .none 0)), #[]⟩
noncomputable def o158 (P : Params) : Obj := ⟨(.type "code"), none, (.fields #[(.str (S "add") 393), (.str (S "TopologicalSorter.add") 394), (.str (S "/claim/cut.py") 395), (.int 97 0), (.int 2 0), (.int 0 0), (.int 0 0), (.int 7 0), (.ref 153), (.bool true), (.int 181 0), (.ref 154), .none, (.ref 155), (.ref 156), (.ref 157), (.int 402 0), (.int 97 0), (.str (S "/claim/cut.py") 403)]), #[]⟩
noncomputable def o159 (P : Params) : Obj := ⟨(.type "function"), none, (.func (kF 12 (S "TopologicalSorter.add") 3 [] .none .none .none (.str (S "cpy313.graphlib") 299) none (.ref 158) .none 0)), #[]⟩
noncomputable def o163 (P : Params) : Obj := ⟨(.type "code"), none, (.fields #[(.str (S "prepare") 405), (.str (S "TopologicalSorter.prepare") 406), (.str (S "/claim/cut.py") 407), (.int 106 0), (.int 1 0), (.int 0 0), (.int 0 0), (.int 3 0), (.ref 160), (.bool true), (.int 181 0), (.ref 161), .none, .none, .none, (.ref 162), (.int 408 0), (.int 106 0), (.str (S "/claim/cut.py") 409)]), #[]⟩
noncomputable def o164 (P : Params) : Obj := ⟨(.type "function"), none, (.func (kF 13 (S "TopologicalSorter.prepare") 3 [] .none .none .none (.str (S "cpy313.graphlib") 299) none (.ref 163) .none 0)), #[]⟩
noncomputable def o170 (P : Params) : Obj := ⟨(.type "code"), none, (.fields #[(.str (S "get_ready") 411), (.str (S "TopologicalSorter.get_ready") 412), (.str (S "/claim/cut.py") 413), (.int 114 0), (.int 1 0), (.int 0 0), (.int 0 0), (.int 3 0), (.ref 165), (.bool true), (.int 181 0), (.ref 166), .none, (.ref 167), (.ref 168), (.ref 169), (.int 418 0), (.int 114 0), (.str (S "/claim/cut.py") 419)]), #[]⟩
noncomputable def o171 (P : Params) : Obj := ⟨(.type "function"), none, (.func (kF 14 (S "TopologicalSorter.get_ready") 3 [] .none .none .none (.str (S "cpy313.graphlib") 299) none (.ref 170) .none 0)), #[]⟩
noncomputable def o177 (P : Params) : Obj := ⟨(.type "code"), none, (.fields #[(.str (S "is_active") 421), (.str (S "TopologicalSorter.is_active") 422), (.str (S "/claim/cut.py") 423), (.int 125 0), (.int 1 0), (.int 0 0), (.int 0 0), (.int 3 0), (.ref 172), (.bool true), (.int 181 0), (.ref 173), .none, (.ref 174), (.ref 175), (.ref 176), (.int 425 0), (.int 125 0), (.str (S "/claim/cut.py") 426)]), #[]⟩
noncomputable def o178 (P : Params) : Obj := ⟨(.type "function"), none, (.func (kF 15 (S "TopologicalSorter.is_active") 3 [] .none .none .none (.str (S "cpy313.graphlib") 299) none (.ref 177) .none 0)), #[]⟩
noncomputable def o191 (P : Params) : Obj := ⟨(.type "code"), none, (.fields #[(.str (S "done") 435), (.str (S "TopologicalSorter.done") 436), (.str (S "/claim/cut.py") 437), (.int 133 0), (.int 1 0), (.int 0 0), (.int 0 0), (.int 7 0), (.ref 186), (.bool true), (.int 181 0), (.ref 187), .none, (.ref 188), (.ref 189), (.ref 190), (.int 446 0), (.int 133 0), (.str (S "/claim/cut.py") 447)]), #[]⟩
noncomputable def o192 (P : Params) : Obj := ⟨(.type "function"), none, (.func (kF 17 (S "TopologicalSorter.done") 3 [] .none .none .none (.str (S "cpy313.graphlib") 299) none (.ref 191) .none 0)), #[]⟩
noncomputable def o198 (P : Params) : Obj := ⟨(.type "code"), none, (.fields #[(.str (S "_find_cycle") 449), (.str (S "TopologicalSorter._find_cycle") 450), (.str (S "/claim/cut.py") 451), (.int 156 0), (.int 1 0), (.int 0 0), (.int 0 0), (.int 3 0), (.ref 193), (.bool true), (.int 181 0), (.ref 194), .none, (.ref 195), (.ref 196), (.ref 197), (.int 459 0), (.int 156 0), (.str (S "/claim/cut.py") 460)]), #[]⟩
noncomputable def o199 (P : Params) : Obj := ⟨(.type "function"), none, (.func (kF 18 (S "TopologicalSorter._find_cycle") 3 [] .none .none .none (.str (S "cpy313.graphlib") 299) none (.ref 198) .none 0)), #[]⟩
noncomputable def o208 (P : Params) : Obj := ⟨(.type "dict"), none, (.dict #[de P (S "__module__") 369 (.str (S "cpy313.graphlib") 299), de P (S "__firstlineno__") 373 (.int 81 372), de P (S "__init__") 383 (.ref 145), de P (S "_get_nodeinfo") 392 (.ref 152), de P (S "add") 404 (.ref 159), de P (S "prepare") 410 (.ref 164), de P (S "get_ready") 420 (.ref 171), de P (S "is_active") 427 (.ref 178), de P (S "__bool__") 434 (.ref 185), de P (S "done") 448 (.ref 192), de P (S "_find_cycle") 461 (.ref 199), de P (S "static_order") 468 (.ref 206), de P (S "__static_attributes__") 473 (.ref 207), de P (S "__dict__") 475 (.ref 210), de P (S "__weakref__") 477 (.ref 211), de P (S "__doc__") 478 .none] 4), #[]⟩
noncomputable def o209 (P : Params) : Obj := ⟨(.type "type"), none, (.cls ⟨(S "TopologicalSorter"), [(.type "object")], [(.ref 209), (.type "object")], 208, (S "TopologicalSorter"), true, [], [], false, none, false⟩), #[none, none, (some (.str (S "TopologicalSorter") 362)), (some (.str (S "TopologicalSorter") 370)), (some (.builtin "object.__new__")), (some (.bool true))]⟩
noncomputable def o210 (P : Params) : Obj := ⟨(.type "getset_descriptor"), none, (.fields #[(.str (S "__dict__") 474), (.ref 209), (.builtin "function.__dict__"), (.builtin "function.__dict__#set")]), #[]⟩
noncomputable def o211 (P : Params) : Obj := ⟨(.type "getset_descriptor"), none, (.fields #[(.str (S "__weakref__") 476), (.ref 209), (.builtin "ExceptionGroup.__weakref__"), .none]), #[]⟩
noncomputable def o217 (P : Params) : Obj := ⟨(.type "code"), none, (.fields #[(.str (S "_law_cells") 483), (.str (S "_law_cells") 484), (.str (S "/claim/cut.py") 485), (.int 188 0), (.int 1 0), (.int 0 0), (.int 0 0), (.int 3 0), (.ref 214), (.bool true), (.int 181 0), (.ref 215), .none, .none, .none, (.ref 216), (.int 486 0), (.int 188 0), (.str (S "/claim/cut.py") 487)]), #[]⟩
noncomputable def o218 (P : Params) : Obj := ⟨(.type "function"), none, (.func (kF 20 (S "_law_cells") 3 [] .none .none .none (.str (S "law_ij0124_02") 481) none (.ref 217) .none 0)), #[]⟩
noncomputable def o222 (P : Params) : Obj := ⟨(.type "code"), none, (.fields #[(.str (S "_law_names") 489), (.str (S "_law_names") 490), (.str (S "/claim/cut.py") 491), (.int 191 0), (.int 1 0), (.int 0 0), (.int 0 0), (.int 3 0), (.ref 219), (.bool true), (.int 181 0), (.ref 220), .none, .none, .none, (.ref 221), (.int 492 0), (.int 191 0), (.str (S "/claim/cut.py") 493)]), #[]⟩
noncomputable def o223 (P : Params) : Obj := ⟨(.type "function"), none, (.func (kF 21 (S "_law_names") 3 [] .none .none .none (.str (S "law_ij0124_02") 481) none (.ref 222) .none 0)), #[]⟩
noncomputable def o227 (P : Params) : Obj := ⟨(.type "code"), none, (.fields #[(.str (S "_law_groups") 495), (.str (S "_law_groups") 496), (.str (S "/claim/cut.py") 497), (.int 194 0), (.int 1 0), (.int 0 0), (.int 0 0), (.int 3 0), (.ref 224), (.bool true), (.int 181 0), (.ref 225), .none, .none, .none, (.ref 226), (.int 498 0), (.int 194 0), (.str (S "/claim/cut.py") 499)]), #[]⟩
noncomputable def o228 (P : Params) : Obj := ⟨(.type "function"), none, (.func (kF 22 (S "_law_groups") 3 [] .none .none .none (.str (S "law_ij0124_02") 481) none (.ref 227) .none 0)), #[]⟩
noncomputable def o234 (P : Params) : Obj := ⟨(.type "code"), none, (.fields #[(.str (S "_law_needs") 501), (.str (S "_law_needs") 502), (.str (S "/claim/cut.py") 503), (.int 197 0), (.int 1 0), (.int 0 0), (.int 0 0), (.int 3 0), (.ref 229), (.bool true), (.int 181 0), (.ref 230), .none, (.ref 231), (.ref 232), (.ref 233), (.int 509 0), (.int 197 0), (.str (S "/claim/cut.py") 510)]), #[]⟩
noncomputable def o235 (P : Params) : Obj := ⟨(.type "function"), none, (.func (kF 23 (S "_law_needs") 3 [] .none .none .none (.str (S "law_ij0124_02") 481) none (.ref 234) .none 0)), #[]⟩
noncomputable def o239 (P : Params) : Obj := ⟨(.type "code"), none, (.fields #[(.str (S "_law_fits") 512), (.str (S "_law_fits") 513), (.str (S "/claim/cut.py") 514), (.int 207 0), (.int 4 0), (.int 0 0), (.int 0 0), (.int 3 0), (.ref 236), (.bool true), (.int 181 0), (.ref 237), .none, .none, .none, (.ref 238), (.int 515 0), (.int 207 0), (.str (S "/claim/cut.py") 516)]), #[]⟩
noncomputable def o240 (P : Params) : Obj := ⟨(.type "function"), none, (.func (kF 24 (S "_law_fits") 3 [] .none .none .none (.str (S "law_ij0124_02") 481) none (.ref 239) .none 0)), #[]⟩
noncomputable def o246 (P : Params) : Obj := ⟨(.type "code"), none, (.fields #[(.str (S "_law_some") 518), (.str (S "_law_some") 519), (.str (S "/claim/cut.py") 520), (.int 216 0), (.int 2 0), (.int 0 0), (.int 0 0), (.int 3 0), (.ref 241), (.bool true), (.int 181 0), (.ref 242), .none, (.ref 243), (.ref 244), (.ref 245), (.int 529 0), (.int 216 0), (.str (S "/claim/cut.py") 530)]), #[]⟩
noncomputable def o247 (P : Params) : Obj := ⟨(.type "function"), none, (.func (kF 25 (S "_law_some") 3 [] .none .none .none (.str (S "law_ij0124_02") 481) none (.ref 246) .none 0)), #[]⟩
noncomputable def o251 (P : Params) : Obj := ⟨(.type "code"), none, (.fields #[(.str (S "law") 532), (.str (S "law") 533), (.str (S "/claim/cut.py") 534), (.int 227 0), (.int 1 0), (.int 0 0), (.int 0 0), (.int 3 0), (.ref 248), (.bool true), (.int 181 0), (.ref 249), .none, .none, .none, (.ref 250), (.int 535 0), (.int 227 0), (.str (S "/claim/cut.py") 536)]), #[]⟩
noncomputable def o252 (P : Params) : Obj := ⟨(.type "function"), none, (.func (kF 26 (S "law") 3 [] .none .none .none (.str (S "law_ij0124_02") 481) none (.ref 251) .none 0)), #[]⟩
noncomputable def o249 (P : Params) : Obj := ⟨.none, none, (.fields #[]), #[]⟩
noncomputable def topL (P : Params) : List (Nat × Obj) := [(0, o0 P), (2, o2 P), (3, o3 P), (4, o4 P), (27, o27 P), (28, o28 P), (34, o34 P), (35, o35 P), (41, o41 P), (42, o42 P), (48, o48 P), (49, o49 P), (63, o63 P), (64, o64 P), (70, o70 P), (71, o71 P), (77, o77 P), (78, o78 P), (81, o81 P), (82, o82 P), (83, o83 P), (84, o84 P), (92, o92 P), (93, o93 P), (107, o107 P), (108, o108 P), (111, o111 P), (112, o112 P), (113, o113 P), (114, o114 P), (115, o115 P), (126, o126 P), (127, o127 P), (128, o128 P), (138, o138 P), (144, o144 P), (145, o145 P), (151, o151 P), (152, o152 P), (158, o158 P), (159, o159 P), (163, o163 P), (164, o164 P), (170, o170 P), (171, o171 P), (177, o177 P), (178, o178 P), (191, o191 P), (192, o192 P), (198, o198 P), (199, o199 P), (208, o208 P), (209, o209 P), (210, o210 P), (211, o211 P), (217, o217 P), (218, o218 P), (222, o222 P), (223, o223 P), (227, o227 P), (228, o228 P), (234, o234 P), (235, o235 P), (239, o239 P), (240, o240 P), (246, o246 P), (247, o247 P), (251, o251 P), (252, o252 P)]
def topA : List Addr := [0, 2, 3, 4, 27, 28, 34, 35, 41, 42, 48, 49, 63, 64, 70, 71, 77, 78, 81, 82, 83, 84, 92, 93, 107, 108, 111, 112, 113, 114, 115, 126, 127, 128, 138, 144, 145, 151, 152, 158, 159, 163, 164, 170, 171, 177, 178, 191, 192, 198, 199, 208, 209, 210, 211, 217, 218, 222, 223, 227, 228, 234, 235, 239, 240, 246, 247, 251, 252]
noncomputable def topT (P : Params) : KT := (.node (some (o0 P)) (.node none (.node (some (o3 P)) (.node none (.node none (.node none (.node (some (o63 P)) (.node (some (o127 P)) .nil .nil) (.node (some (o191 P)) .nil .nil)) (.node none (.node (some (o159 P)) .nil .nil) (.node (some (o223 P)) .nil .nil))) (.node none .nil (.node (some (o111 P)) .nil (.node (some (o239 P)) .nil .nil)))) (.node none (.node none (.node (some (o71 P)) .nil (.node (some (o199 P)) .nil .nil)) .nil) (.node none (.node none (.node (some (o151 P)) .nil .nil) .nil) (.node none .nil (.node (some (o247 P)) .nil .nil))))) (.node none (.node none (.node (some (o35 P)) .nil (.node none (.node (some (o163 P)) .nil .nil) (.node (some (o227 P)) .nil .nil))) (.node none (.node (some (o83 P)) .nil (.node (some (o211 P)) .nil .nil)) (.node (some (o115 P)) .nil .nil))) (.node (some (o27 P)) (.node none .nil (.node (some (o107 P)) (.node (some (o171 P)) .nil .nil) (.node (some (o235 P)) .nil .nil))) (.node none .nil (.node none .nil (.node (some (o251 P)) .nil .nil)))))) (.node none (.node none (.node none .nil (.node (some (o49 P)) (.node (some (o81 P)) (.node (some (o145 P)) .nil .nil) (.node (some (o209 P)) .nil .nil)) (.node (some (o113 P)) (.node (some (o177 P)) .nil .nil) .nil))) (.node none (.node (some (o41 P)) .nil .nil) (.node none (.node none .nil (.node (some (o217 P)) .nil .nil)) .nil))) (.node none .nil (.node none (.node none (.node (some (o77 P)) .nil .nil) .nil) (.node none (.node (some (o93 P)) .nil .nil) .nil))))) (.node (some (o2 P)) (.node (some (o4 P)) (.node none (.node none (.node none (.node (some (o64 P)) (.node (some (o128 P)) .nil .nil) (.node (some (o192 P)) .nil .nil)) .nil) (.node (some (o48 P)) (.node none (.node (some (o144 P)) .nil .nil) (.node (some (o208 P)) .nil .nil)) (.node (some (o112 P)) .nil (.node (some (o240 P)) .nil .nil)))) (.node none .nil (.node none (.node none (.node (some (o152 P)) .nil .nil) .nil) .nil))) (.node none (.node none (.node none .nil (.node none (.node (some (o164 P)) .nil .nil) (.node (some (o228 P)) .nil .nil))) (.node none (.node (some (o84 P)) .nil .nil) .nil)) (.node (some (o28 P)) (.node none .nil (.node (some (o108 P)) .nil .nil)) (.node none (.node (some (o92 P)) .nil .nil) (.node none .nil (.node (some (o252 P)) .nil .nil)))))) (.node none (.node none (.node none (.node (some (o34 P)) .nil .nil) (.node none (.node (some (o82 P)) .nil (.node (some (o210 P)) .nil .nil)) (.node (some (o114 P)) (.node (some (o178 P)) .nil .nil) .nil))) (.node none (.node (some (o42 P)) (.node none (.node (some (o138 P)) .nil .nil) .nil) (.node none (.node (some (o170 P)) .nil .nil) (.node (some (o234 P)) .nil .nil))) (.node none (.node none .nil (.node (some (o218 P)) .nil .nil)) .nil))) (.node none (.node none (.node none (.node (some (o70 P)) .nil (.node (some (o198 P)) .nil .nil)) .nil) (.node none .nil (.node none .nil (.node (some (o246 P)) .nil .nil)))) (.node none (.node none (.node (some (o78 P)) .nil .nil) .nil) (.node none (.node none (.node (some (o158 P)) .nil .nil) (.node (some (o222 P)) .nil .nil)) (.node (some (o126 P)) .nil .nil)))))))
theorem topT_eq (P : Params) : KT.of (topL P) = topT P := by kernel_rfl
noncomputable section
inductive Node where
  | f (t : Expr) (b o : List Stmt)
  | w (t : Expr) (b o : List Stmt)
  | c (e : Expr) (sc : Scope)
def kidsE : Expr → List Node × List Expr
  | .BoolOp _ vs _ => ([], vs)
  | .NamedExpr _ v _ => ([], [v])
  | .BinOp l _ r _ => ([], [l, r])
  | .UnaryOp _ x _ => ([], [x])
  | .Lambda _ b _ _ => ([], [b])
  | .IfExp a b c _ => ([], [a, b, c])
  | .ListComp e gs sc p => ([.c (.ListComp e gs sc p) sc], e :: gs.flatMap fun g => g.iter :: g.ifs)
  | .Compare l _ cs _ => ([], l :: cs)
  | .Call f as _ _ => ([], f :: as)
  | .Attribute v _ _ => ([], [v])
  | .Subscript v s _ => ([], [v, s])
  | .List es _ => ([], es)
  | .Tuple es _ _ => ([], es)
  | _ => ([], [])
def nodesE : Nat → List Expr → List Node
  | 0, _ => []
  | n + 1, es => es.flatMap fun e => let p := kidsE e; p.1 ++ nodesE n p.2
def hdBody : ExceptHandler → List Stmt
  | .ExceptHandler _ _ b _ => b
def nodesS : Nat → List Stmt → List Node
  | 0, _ => []
  | n + 1, ss => ss.flatMap fun s => match s with
    | .Return (some v) _ => nodesE 30 [v]
    | .Assign _ v _ => nodesE 30 [v]
    | .AugAssign _ _ v _ => nodesE 30 [v]
    | .For t i b o _ => nodesE 30 [i] ++ .f t b o :: (nodesS n b ++ nodesS n o)
    | .While t b o _ => .w t b o :: (nodesS n b ++ nodesS n o)
    | .If t b o _ => nodesE 30 [t] ++ nodesS n b ++ nodesS n o
    | .Try b hs o f _ => nodesS n b ++ hs.flatMap (fun h => nodesS n (hdBody h)) ++ nodesS n o ++ nodesS n f
    | .Expr v _ => nodesE 30 [v]
    | _ => []
def fdOf (T : KT) (a : Addr) : FuncData := match T.get a with
  | some o => match o.data with
    | .func f => f
    | _ => default
  | none => default
def nodesF (f : FuncData) : List Node := match f.body with
  | .stmts b => nodesS 30 b
  | .expr e => nodesE 30 [e]
def nodeAt (T : KT) (a : Addr) (k : Nat) : Node := ((nodesF (fdOf T a))[k]?).getD (.w default [] [])
def fenv (T : KT) (a fr : Addr) (cells : List (Str × Addr)) : Env :=
  let f := fdOf T a
  { scope := f.scope, locals := fr, globals := f.globals, cells := cells, qual := f.qualname ++ Str.ofString ".<locals>.", func := some a, code := f.code, frame := some fr, builtins := f.builtins }
def cenv (o : Env) (sc : Scope) (loc : Addr) (cells : List (Str × Addr)) : Env :=
  let own (n : Str) (k : NameKind) := k == .free && o.scope.kind == .function && o.kindOf n == some .cell
  { scope := { sc with names := sc.names.map fun (n, k) => if own n k then (n, .cell) else (n, k) }, locals := loc, globals := o.globals, cells := cells, qual := o.qual, func := none, code := o.code, frame := o.frame, builtins := o.builtins }
def Node.env (o : Env) (loc : Addr) (cells : List (Str × Addr)) : Node → Env
  | .c _ sc => cenv o sc loc cells
  | _ => o
def Node.code (it acc : Value) (d : Nat) (env : Env) : Node → Code
  | .f t b o => .forLoop t it b o env
  | .w t b o => .whileLoop t b o env
  | .c e _ => .compLoop e d it acc env
def Node.start (it acc : Value) (d : Nat) (env : Env) : Node → Code
  | .c e _ => .compStart e d it acc env
  | _ => .builtin "" {}
def loopC (T : KT) (a k fr : Addr) (cells : List (Str × Addr)) (it : Value) : Code := (nodeAt T a k).code it .none 0 (fenv T a fr cells)
def compC (T : KT) (a k fr loc : Addr) (cells : List (Str × Addr)) (d : Nat) (it acc : Value) : Code := let nd := nodeAt T a k; nd.code it acc d (nd.env (fenv T a fr []) loc cells)
def compC2 (T : KT) (a k0 k fr loc : Addr) (cells : List (Str × Addr)) (d : Nat) (it acc : Value) : Code := let nd := nodeAt T a k; nd.code it acc d (nd.env ((nodeAt T a k0).env (fenv T a fr []) 0 []) loc cells)
structure BB where
  b1 : Bool
  b2 : Bool
  b3 : Bool
  w : World
def BB.W (β : BB) : World := ((β.w.withFollow "set-order" β.b1).withFollow "comprehension-iter-twice" β.b2).withFollow "special-get-raises" β.b3
def BB.P (β : BB) : Params := β.W.params
def RU1 (prog : Program) (w : World) : List (Rule prog w) :=
  [rCmp 0 (by decide), rCmp 1 (by decide), rCmp 2 (by decide), rCmp 3 (by decide), rCmp 4 (by decide), rCmp 5 (by decide), rGet kiStr, rItem kiStr, rHas kiStr, rSet kiStr, rDel kiStr, rNextL, rAppend, rClear, rAdd, rPop, rIdx, rNextT, rIn, rNextK, rNextV, rSetIn kiStr,
   rLenM, rLenL, rLenC, rNextM, rSlice, rNextR, rSum, rTuple, rLenT, rCollect, rRstrip, rRfind, rNeS, rAddS, rIdxS, rMulS, rSliceS, rLenS, rLenSC, rSetInM kiStr, rSetAdd kiStr]
def TR1 (prog : Program) (w : World) : List (TRule prog w) := [rNew prog w .loop, rAgain prog w .loop, rOver prog w .loop, rNew prog w .leave, rAgain prog w .leave, rOver prog w .leave, rNew prog w (.ctx whileTry), rAgain prog w (.ctx whileTry), rOver prog w (.ctx whileTry),
  rNew prog w (.ctx (funcTry 8)), rAgain prog w (.ctx (funcTry 8)), rOver prog w (.ctx (funcTry 8)), rNew prog w (.ctx funcLeave), rAgain prog w (.ctx funcLeave), rOver prog w (.ctx funcLeave), rOwn prog w]
def WS1 : List String := ["call", "comparison", "iter"]
def TT (β : BB) : KT := topT β.P
def E1 (β : BB) : Wd := ⟨PySem.Challenge.pw_ij0124_02, β.W, TT β, RU1 _ _, TR1 _ _, WS1, false⟩
def E2 (β : BB) : Wd := ⟨PySem.Challenge.pw_ij0124_02, β.W, TT β, RU1 _ _, TR1 _ _, WS1, true⟩
theorem Sat.st {β : BB} {I : Inst} (h : Sat (E2 β) I) : Sat (E1 β) I := fun _ _ _ _ _ _ B H K => h ⟨B.hT, B.hN, .none B.hh, B.hd, B.hu, B.hf⟩ H K
theorem SatW.st {β : BB} {I : Inst} (h : SatW (E2 β) I) : SatW (E1 β) I := fun _ _ _ _ _ _ B H K => h ⟨B.hT, B.hN, .none B.hh, B.hd, B.hu, B.hf⟩ H K
end
noncomputable def hdI (e : Nat) (x : Obj) (I : Inst) : Inst where
  cu := I.cu
  fr := I.fr
  dep := I.dep
  un := I.un
  pre := .o e x :: I.pre
  post u := ((I.post u).1, .o e x :: (I.post u).2.1, (I.post u).2.2)
theorem Hp.keepIn {Γ : Gd} {e : Nat} {x : Obj} {L : Led} {G : GL} {s : Shared} (H : Hp Γ ((e, x) :: L) G s) :
    Hp ⟨Γ.T, s.heap, L.map Prod.fst, Γ.d, Γ.os⟩ L G s ∧ e ∉ L.map Prod.fst ∧ s.heap.get? e = some x ∧
    ∀ {L' : Led} {G' : GL} {s' : Shared}, Hp ⟨Γ.T, s.heap, L.map Prod.fst, Γ.d, Γ.os⟩ L' G' s' → Hp Γ ((e, x) :: L') G' s' := by
  obtain ⟨n1, n2⟩ := List.nodup_cons.mp (show ((e, x).1 :: L.map Prod.fst).Nodup from H.nd)
  have ge : s.heap.get? e = some x := H.led (e, x) List.mem_cons_self
  refine ⟨⟨H.top, fun p hp => H.led p (.tail _ hp), n2, fun p hp => H.off p (.tail _ hp), fun b o h _ => h, fun b o h => ⟨o, h⟩, fun p hp o _ => List.mem_map_of_mem hp, H.big, fun p hp => H.hi p (.tail _ hp), H.gens, H.gnd, H.bare, H.dr, H.os⟩, n1, ge, fun {L' G' s'} J => ?_⟩
  have inL : ∀ p ∈ L', ∀ o, s.heap.get? p.1 = some o → ∃ q ∈ L, q.1 = p.1 := fun p hp o ho => List.mem_map.mp (J.own p hp o ho)
  refine ⟨J.top, ?_, ?_, ?_, ?_, ?_, ?_, J.big, ?_, J.gens, J.gnd, J.bare, J.dr, J.os⟩
  · exact List.forall_mem_cons.mpr ⟨J.keep e x ge n1, J.led⟩
  · refine List.nodup_cons.mpr ⟨fun hm => ?_, J.nd⟩
    obtain ⟨p, hp, hpe⟩ := List.mem_map.mp hm
    obtain ⟨q, hq, hqe⟩ := inL p hp x (by rw [hpe]; exact ge)
    exact n1 (List.mem_map.mpr ⟨q, hq, hqe.trans hpe⟩)
  · exact List.forall_mem_cons.mpr ⟨H.off _ List.mem_cons_self, J.off⟩
  · intro b o h hb
    refine J.keep b o (H.keep b o h hb) fun hm => hb ?_
    obtain ⟨q, hq, rfl⟩ := List.mem_map.mp hm
    exact H.own q (.tail _ hq) o h
  · intro b o h
    obtain ⟨o', h'⟩ := H.kin b o h
    exact J.kin b o' h'
  · refine List.forall_mem_cons.mpr ⟨H.own _ List.mem_cons_self, fun p hp o h => ?_⟩
    obtain ⟨o', h'⟩ := H.kin _ o h
    obtain ⟨q, hq, hqe⟩ := inL p hp o' h'
    rw [← hqe] at h ⊢
    exact H.own q (.tail _ hq) o h
  · exact List.forall_mem_cons.mpr ⟨H.hi _ List.mem_cons_self, J.hi⟩
theorem Sat.hd {β : BB} {I : Inst} (h : Sat (E2 β) I) {e : Nat} {x : Obj} {vs : Array Value} (hd : x.data = .fields vs) (h2 : vs[2]? = some .none) : SatH (E1 β) (.ref e) (hdI e x I) := by
  intro Γ A X Y s R hT hN hA hdp hu hf H K
  have e1 : flat ((hdI e x I).pre ++ [.f X Y]) = (e, x) :: flat (I.pre ++ [.f X Y]) := flat_cons ..
  have e2 : flatG ((hdI e x I).pre ++ [.f X Y]) = flatG (I.pre ++ [.f X Y]) := flatG_cons ..
  have H1 : Hp Γ (flat ((hdI e x I).pre ++ [.f X Y])) (flatG ((hdI e x I).pre ++ [.f X Y])) s := H
  rw [e1, e2] at H1
  obtain ⟨h1, h3, h4, h5⟩ := H1.keepIn
  refine h (Γ := ⟨Γ.T, s.heap, (flat (I.pre ++ [.f X Y])).map Prod.fst, Γ.d, Γ.os⟩) ⟨hT, hN, ?_, hdp, hu, hf⟩ h1 fun u s' hp H' => K u s' hp ?_
  · intro v hv
    rw [hA] at hv
    cases hv
    exact ⟨e, x, vs, rfl, h4, h3, hd, h2⟩
  · have z := h5 H'
    show Hp Γ (flat (.o e x :: ((I.post u).2.1 ++ [.f X Y]))) (flatG (.o e x :: ((I.post u).2.1 ++ [.f X Y]))) s'
    rw [flat_cons, flatG_cons]
    exact z
noncomputable section
def liO (a : Nat) (i : Int) : Obj := itO (.type "list_iterator") (.ref a) i 0
def ceO (a : Nat) : Obj := ⟨.type "cell", none, .cell (some (.ref a)), #[]⟩
def rgE (k left : Int) : Obj := rgO k left 1
structure ArrD where
  ad : Nat → Nat
  xs : Nat → Array Value
  ep : Nat → Nat
def ArrD.ent (d : ArrD) (n : Nat) : Ent := .m n d.ad fun i => lsO (d.xs i) (d.ep i)
def arrB (b : Bool) (u : Sup) : Array Value := cond b ⟨u.vv 1 :: u.v⟩ #[]
def mkU (U : Sup) (ks : List Nat) (v0 : Value) : Sup := { U with k := fun _ i => (nth ks i).getD 0, vv := fun i => (match i with | 0 => v0 | i => U.vv i) }
abbrev BB.d (β : BB) (k : String) (t : Nat) (v : Value) : DictEntry := de β.P (S k) t v
end
noncomputable section
def stackK {α : Type} : Sem α → (List (Code × Pos) → Sem α)
  | .stack k => k
  | _ => fun _ => .unsupported ""
def cmpF (op : CmpOp) (a b : Nat) : List (Code × Pos) → Sem Value := stackK (PySem.W.Fast.tw8004119333741010377 [.ref a, .ref b] (PySem.W.Fast.tw12886488535604756494 op (.ref a) (.ref b)))
theorem cmpF_ne (a b : Nat) : RoomF (cmpF .NotEq a b) := by
  intro st h
  unfold tightT at h
  unfold cmpF
  conv => lhs; whnf
  simp only [if_neg h]
  kernel_rfl
def askT (m : Sem Value) : Sem Bool := PySem.W.R.bindR m fun c => PySem.W.Fast.tw17359229931016689406 [c] (PySem.W.Fast.tw15245631507167962100 c)
def ctxC (c : Code) (m : Sem Bool) : Sem Fin := match c with
  | .compLoop (.ListComp elt gens sc p) d it acc env =>
    PySem.W.R.onRaiseR (PySem.W.R.bindR (PySem.W.R.bindR (PySem.W.R.bindR m fun ok => .pure (ForInStep.yield ok)) fun r => match r with | .done b => .pure b | .yield b => .pure b) fun ok =>
      if ok = true then PySem.W.R.bindR (PySem.W.R.bindR (evalT elt env) fun v => PySem.W.R.bindR (PySem.W.Fast.tw11478286150595567475 (.builtin "list.append") [acc, v]) fun _ => .pure ()) fun _ => .pure (.again c) else .pure (.again c))
      fun x => PySem.W.R.bindR (noteT x env) fun _ => treesT x
  | _ => .unsupported ""
end
theorem IntsOf.nil : IntsOf #[] [] := rfl
theorem IntsOf.push {xs : Array Value} {l : List Int} (h : IntsOf xs l) (z : Int) (t : Nat) : IntsOf (xs.push (.int z t)) (l ++ [z]) := by
  unfold IntsOf at h ⊢
  rw [Array.toList_push, List.map_append, List.map_append, h]; rfl
theorem IntsOf.len {xs : Array Value} {l : List Int} (h : IntsOf xs l) : xs.size = l.length := by
  have := congrArg List.length h
  rw [List.length_map, List.length_map] at this
  exact this
theorem IntsOf.at {xs : Array Value} {l : List Int} (h : IntsOf xs l) {i : Nat} {z : Int} (hz : l[i]? = some z) : ∃ t, xs[i]? = some (.int z t) := by
  have h1 : (xs.toList.map ofInt)[i]? = some (some z) := by rw [show xs.toList.map ofInt = l.map some from h, List.getElem?_map, hz]; rfl
  rw [List.getElem?_map] at h1
  obtain ⟨x, hx, e⟩ := Option.map_eq_some_iff.mp h1
  cases x <;> cases e
  exact ⟨_, by rw [← Array.getElem?_toList]; exact hx⟩
theorem IntsOf.end {xs : Array Value} {l : List Int} (h : IntsOf xs l) {i : Nat} (hz : l.length ≤ i) : xs[i]? = none := by
  rw [Array.getElem?_eq_none_iff, h.len]; exact hz
theorem IntsOf.arrB {xs : Array Value} {l : List Int} (h : IntsOf xs l) {b : Bool} (hb : b = !l.isEmpty) : ∃ U : Sup, xs = Mine.arrB b U := by
  obtain ⟨xs⟩ := xs
  have h : xs.map ofInt = l.map some := h
  cases l with
  | nil =>
    cases xs with
    | nil => exact ⟨noS, by rw [hb]; rfl⟩
    | cons => cases h
  | cons z l =>
    cases xs with
    | nil => cases h
    | cons v vs => exact ⟨{ noS with v := vs, vv := fun _ => v }, by rw [hb]; rfl⟩
theorem drop_next {α : Type} {l : List α} {i k : Nat} (h : l.length = i + (k + 1)) : ∃ x, l[i]? = some x ∧ l.drop i = x :: l.drop (i + 1) := by
  have hi : i < l.length := by omega
  exact ⟨l[i], List.getElem?_eq_getElem hi, List.drop_eq_getElem_cons hi⟩
def ArrD.refs (D : ArrD) : Array Value := #[.ref (D.ad 0), .ref (D.ad 1), .ref (D.ad 2), .ref (D.ad 3), .ref (D.ad 4), .ref (D.ad 5)]
theorem ArrD.idx (D : ArrD) {v : Nat} (h : v < 6) : IdxIs D.refs (Int.ofNat v) (.v (.ref (D.ad v))) := by
  refine ⟨⟨0, ?_⟩, ⟨Int.le_trans (by decide : -((6 : Nat) : Int) ≤ 0) (Int.natCast_nonneg v), Int.lt_trans (Int.ofNat_lt.mpr h) (by decide)⟩, (by decide : 6 ≤ BIG)⟩
  have : v = 0 ∨ v = 1 ∨ v = 2 ∨ v = 3 ∨ v = 4 ∨ v = 5 := by omega
  rcases this with rfl | rfl | rfl | rfl | rfl | rfl <;> rfl
theorem left_pos (n : Nat) : yesNo true (¬ Int.ofNat (n + 1) ≤ 0) := fun h => absurd h (by show ¬ ((n + 1 : Nat) : Int) ≤ 0; omega)
theorem left_end : yesNo false (¬ Int.ofNat 0 ≤ 0) := fun h => h (Int.le_refl 0)
theorem left_sub (n : Nat) : Int.ofNat (n + 1) - 1 = Int.ofNat n := by show ((n + 1 : Nat) : Int) - 1 = (n : Int); omega
def upd {α : Type} (f : Nat → α) (n : Nat) (x : α) (i : Nat) : α := if i = n then x else f i
theorem upd_eq {α : Type} (f : Nat → α) (n : Nat) (x : α) : upd f n x n = x := if_pos rfl
theorem upd_ne {α : Type} {f : Nat → α} {n i : Nat} {x : α} (h : i ≠ n) : upd f n x i = f i := if_neg h
theorem conv_snoc (n : Nat) (ad ad' : Nat → Addr) (ob ob' : Nat → Obj) (a : Addr) (x : Obj) (h1 : ∀ i, i < n → ad' i = ad i ∧ ob' i = ob i) (h2 : ad' n = a ∧ ob' n = x) : Conv [.o a x, .m n ad ob] [.m (n + 1) ad' ob'] := by
  refine ⟨?_, rfl⟩
  have e : (List.range (n + 1)).map (fun i => (ad' i, ob' i)) = (List.range n).map (fun i => (ad i, ob i)) ++ [(a, x)] := by
    rw [List.range_succ, List.map_append, List.map_singleton, h2.1, h2.2]
    congr 1
    exact List.map_congr_left fun i hi => by rw [(h1 i (List.mem_range.mp hi)).1, (h1 i (List.mem_range.mp hi)).2]
  show ((a, x) :: ((List.range n).map (fun i => (ad i, ob i)) ++ [])).Perm ((List.range (n + 1)).map (fun i => (ad' i, ob' i)) ++ [])
  rw [e, List.append_nil, List.append_nil]
  exact (List.perm_append_singleton _ _).symm
def refsN (ad : Nat → Nat) (n : Nat) : Array Value := ((List.range n).map fun i => Value.ref (ad i)).toArray
theorem refsN_size (ad : Nat → Nat) (n : Nat) : (refsN ad n).size = n := by unfold refsN; rw [List.size_toArray, List.length_map, List.length_range]
theorem refsN_at (ad : Nat → Nat) {n i : Nat} (h : i < n) : (refsN ad n)[i]? = some (.ref (ad i)) := by
  unfold refsN; rw [List.getElem?_toArray, List.getElem?_map, List.getElem?_range h]; rfl
theorem refsN_snoc {ad ad' : Nat → Nat} {n a : Nat} (h1 : ∀ i, i < n → ad' i = ad i) (h2 : ad' n = a) : refsN ad' (n + 1) = (refsN ad n).push (.ref a) := by
  unfold refsN
  rw [List.push_toArray, List.range_succ, List.map_append, List.map_singleton, h2]
  congr 2
  exact List.map_congr_left fun i hi => by rw [h1 i (List.mem_range.mp hi)]
structure PairsD where
  ad : Nat → Nat
  x : Nat → Int
  y : Nat → Int
  tx : Nat → Nat
  ty : Nat → Nat
noncomputable section
def PairsD.ent (d : PairsD) (n : Nat) : Ent := .m n d.ad fun i => tpO #[.int (d.x i) (d.tx i), .int (d.y i) (d.ty i)]
def frD (es : Array DictEntry) (e : Nat) : Obj := ⟨.type "frame", none, .dict es e, #[]⟩
def mkK (ks : List Nat) (vs : List Value) : Sup := { noS with k := fun _ i => (nth ks i).getD 0, vv := fun i => (nth vs i).getD .none }
def PairsD.sup (d : PairsD) (U : Sup) (xs : Array Value) : Sup := { U with k := fun i j => (match i with | 0 => U.k 0 j | 1 => d.ad j | 2 => d.tx j | _ => d.ty j), z := fun i j => (match i with | 1 => d.x j | _ => d.y j), xs := fun _ => xs }
def PairsD.of (u : Sup) : PairsD := ⟨u.k 1, u.z 1, u.z 2, u.k 2, u.k 3⟩
def PairsD.snoc (d : PairsD) (n a : Nat) (x y : Int) (tx ty : Nat) : PairsD := ⟨upd d.ad n a, upd d.x n x, upd d.y n y, upd d.tx n tx, upd d.ty n ty⟩
end
theorem PairsD.conv (d : PairsD) (n a : Nat) (x y : Int) (tx ty : Nat) : Conv [.o a (tpO #[.int x tx, .int y ty]), d.ent n] [(d.snoc n a x y tx ty).ent (n + 1)] :=
  conv_snoc _ _ _ _ _ _ _ (fun i hi => by
    have := Nat.ne_of_lt hi
    refine ⟨upd_ne this, ?_⟩
    show tpO #[.int (upd d.x n x i) (upd d.tx n tx i), .int (upd d.y n y i) (upd d.ty n ty i)] = _
    rw [upd_ne this, upd_ne this, upd_ne this, upd_ne this]) ⟨upd_eq .., by
    show tpO #[.int (upd d.x n x n) (upd d.tx n tx n), .int (upd d.y n y n) (upd d.ty n ty n)] = _
    rw [upd_eq, upd_eq, upd_eq, upd_eq]⟩
def StepsIs (d : PairsD) (n k : Nat) (ks : Array Value) : Prop := n ≤ k ∧ ks = refsN d.ad n ∧ ∀ i, i < n → (0 ≤ d.x i ∧ d.x i < 6) ∧ 0 ≤ d.y i ∧ d.y i < 6
theorem StepsIs.snoc {d : PairsD} {n k : Nat} {ks : Array Value} (h : StepsIs d n k ks) (a : Nat) {x y : Int} (tx ty : Nat) (hx : 0 ≤ x ∧ x < 6) (hy : 0 ≤ y ∧ y < 6) : StepsIs (d.snoc n a x y tx ty) (n + 1) (k + 1) (ks.push (.ref a)) := by
  refine ⟨Nat.succ_le_succ h.1, ?_, fun i hi => ?_⟩
  · rw [h.2.1]; exact (refsN_snoc (fun i hi => upd_ne (Nat.ne_of_lt hi)) (upd_eq ..)).symm
  · show (0 ≤ upd d.x n x i ∧ upd d.x n x i < 6) ∧ 0 ≤ upd d.y n y i ∧ upd d.y n y i < 6
    by_cases e : i = n
    · rw [e, upd_eq, upd_eq]; exact ⟨hx, hy⟩
    · rw [upd_ne e, upd_ne e]; exact h.2.2 i (by omega)
theorem StepsIs.more {d : PairsD} {n k : Nat} {ks : Array Value} (h : StepsIs d n k ks) : StepsIs d n (k + 1) ks := ⟨Nat.le_succ_of_le h.1, h.2⟩
noncomputable section
def Cells (n : Nat) (xs : Array Value) : Prop := ∃ l : List Int, IntsOf xs l ∧ l.length = n ∧ ∀ x ∈ l, 0 ≤ x ∧ x < 700
def fxC (t : Nat) : Array Value := #[.int 1 t, .int 2 (t + 1), .int 3 (t + 2), .int 5 (t + 3), .int 0 (t + 4), .int 1 (t + 5), .int 2 (t + 6), .int 19 (t + 7), .int 8 (t + 8), .int 0 (t + 9)]
def cmU (xs : Array Value) (ea el u : Nat) (w : Value) : Sup := { noS with xs := fun _ => xs, k := fun _ i => (match i with | 0 => ea | 1 => el | _ => u), vv := fun _ => w }
def cesI (β : BB) (fr : List Env) (aL : Nat) (ss : Array Value) (eL : Nat) : Inst where
  cu := cu0 (.call (.ref 218) ⟨[.ref aL], []⟩)
  fr := fr
  dep := 430
  un := 2500
  pre := [.o aL (lsO ss eL)]
  post u := (.ok (.ret (.ref (u.k 0 8))), [.o (u.k 0 8) (lsO (u.xs 0) (u.k 0 0)), .o aL (lsO ss eL)], Cells 10 (u.xs 0))
def ceI (β : BB) (fr : List Env) (n0 loc aT aA aF aL eL : Nat) (k left : Int) (ss fs as : Array Value) (ea el : Nat) (q : Bool) (u : Nat) (w : Value) : Inst where
  cu := cu0 (compC (TT β) 218 0 n0 loc [((S "script"), n0 + 1), ((S "fixed"), n0 + 2)] 0 (.ref aT) (.ref aA))
  fr := fr
  dep := 470
  un := 3000
  pre := [.o loc (dO (cond q #[β.d "k" u w] #[]) el), .o aT (rgE k left), .o (n0 + 1) (ceO aL), .o aL (lsO ss eL), .o (n0 + 2) (ceO aF), .o aF (lsO fs 0), .o aA (lsO as ea)]
  post u := (.ok .next, [.o loc (dO #[β.d "k" (u.k 0 2) (u.vv 0)] (u.k 0 1)), .o aL (lsO ss eL), .o aA (lsO (u.xs 0) (u.k 0 0))], Cells 10 (u.xs 0))
abbrev ces_q (β : BB) (fr : List Env) (aL : Nat) (ss : Array Value) (eL : Nat) (n t g : Nat) (X : Led) (Y : GL) (σ : Nat → Sup) : Out × Prop := (Go (E1 β) (cesI β fr aL ss eL) (cond β.b2 (Hs.h 0x4020303030303010304060502010702010303030301030103030301030103030101010101010404010204040101) (Hs.h 0x4020303030303010304060502010702050105010505010303030301030103030301030103030101010101010404010204040101)) (.a (.i (ceI β (fenv (TT β) 218 n [(Mine.S "fixed", n + 2), (Mine.S "script", n + 1)] :: fr) n (n + 7) (n + 5) (n + 6) (n + 3) aL eL 0 10 ss (fxC t) #[] 0 0 false 0 .none)) (.k fun u _ => .a (.u { u with k := fun _ i => (match i with | 8 => n + 6 | _ => u.k 0 0) }) .nil)) n t g X Y σ, Sat (E1 β) (ceI β (fenv (TT β) (218 : Addr) n [(S "fixed", n + (2 : Addr)), (S "script", n + (1 : Addr))] :: fr) n (n + 7) (n + 5) (n + 6) (n + 3) aL eL 0 10 ss (fxC t) #[] 0 0 false 0 Value.none) ∧ ((Cells 10 ((σ 0).xs 0)) → (Cells 10 ((σ 0).xs 0))))
theorem ces_run (β : BB) (fr : List Env) (aL : Nat) (ss : Array Value) (eL : Nat) (n t g : Nat) (X : Led) (Y : GL) (σ : Nat → Sup) : See (ces_q β fr aL ss eL n t g X Y σ).1 (ces_q β fr aL ss eL n t g X Y σ).2 := by obtain ⟨b1, b2, b3, w0⟩ := β; cases b2 <;> cases b3 <;> kernel_rfl
abbrev ceE_q (β : BB) (fr : List Env) (n0 loc aT aA aF aL eL : Nat) (k left : Int) (ss fs as : Array Value) (ea el : Nat) (u : Nat) (w : Value) (n t g : Nat) (X : Led) (Y : GL) (σ : Nat → Sup) : Out × Prop := (Go (E1 β) (ceI β fr n0 loc aT aA aF aL eL k left ss fs as ea el true u w) (Hs.h 0x7070503040302012304) (.a (.b false) (.a (.u (cmU as ea el u w)) .nil)) n t g X Y σ, (yesNo false ¬left ≤ 0) ∧ (Cells 10 as))
theorem ceE_run (β : BB) (fr : List Env) (n0 loc aT aA aF aL eL : Nat) (k left : Int) (ss fs as : Array Value) (ea el : Nat) (u : Nat) (w : Value) (n t g : Nat) (X : Led) (Y : GL) (σ : Nat → Sup) : See (ceE_q β fr n0 loc aT aA aF aL eL k left ss fs as ea el u w n t g X Y σ).1 (ceE_q β fr n0 loc aT aA aF aL eL k left ss fs as ea el u w n t g X Y σ).2 := by obtain ⟨b1, b2, b3, w0⟩ := β; cases b3 <;> kernel_rfl
abbrev ceN_q (β : BB) (fr : List Env) (n0 loc aT aA aF aL eL : Nat) (k left : Int) (ss fs as : Array Value) (ea el : Nat) (q : Bool) (u : Nat) (w : Value) (c : Int) (tc : Nat) (n t g : Nat) (X : Led) (Y : GL) (σ : Nat → Sup) : Out × Prop := (Go (E1 β) (ceI β fr n0 loc aT aA aF aL eL k left ss fs as ea el q u w) (Hs.h 0x3010101040303030303030307020901140101010101012401050222070707030501010601180808080307030302012304) (.a (.b true) (.k fun w w1 => .a (.v (.int c tc)) (.k fun _ _ => .k fun _ _ => .k fun s0 w2 => .a (.i (ceI β fr n0 loc aT aA aF aL eL (k + 1) (left - 1) ss fs (as.push (.int (Int.fmod (c + s0.z 0 0) 700) (w2.t + 2))) (ea + 1) (cond q el (el + 1)) true (cond q u w1.t) (.int k w.a))) (.k fun u3 _ => .a (.u u3) .nil)))) n t g X Y σ, (yesNo true ¬left ≤ 0) ∧ (IdxIs fs k (Aux.v (Value.int c tc))) ∧ (some (10 : Int) ≠ some (0 : Int)) ∧ (Array.size ss ≤ BIG) ∧ (AllInts (slicePick ss (some k) (some (60 : Int)) (some (10 : Int)))) ∧ (Array.size as ≤ BIG) ∧ Sat (E1 β) (ceI β fr n0 loc aT aA aF aL eL (k + 1) (left - 1) ss fs (Array.push as (Value.int (Int.fmod (c + (σ 6).z 0 0) 700) ((σ 7).t + (2 : Tok)))) (ea + 1) (bif q then el else el + 1) true (bif q then u else (σ 1).t) (Value.int k ((σ 0).a))) ∧ ((Cells 10 ((σ 10).xs 0)) → (Cells 10 ((σ 10).xs 0))))
theorem ceN_run (β : BB) (fr : List Env) (n0 loc aT aA aF aL eL : Nat) (k left : Int) (ss fs as : Array Value) (ea el : Nat) (q : Bool) (u : Nat) (w : Value) (c : Int) (tc : Nat) (n t g : Nat) (X : Led) (Y : GL) (σ : Nat → Sup) : See (ceN_q β fr n0 loc aT aA aF aL eL k left ss fs as ea el q u w c tc n t g X Y σ).1 (ceN_q β fr n0 loc aT aA aF aL eL k left ss fs as ea el q u w c tc n t g X Y σ).2 := by obtain ⟨b1, b2, b3, w0⟩ := β; cases q <;> cases b3 <;> kernel_rfl
end
theorem IntsOf.pick {xs : Array Value} {l : List Int} (h : IntsOf xs l) (lo hi st : Option Int) : AllInts (slicePick xs lo hi st) := by
  have all : ∀ v ∈ (slicePick xs lo hi st).toList, ∃ k, ofInt v = some k := by
    intro v hv
    unfold slicePick at hv
    simp only [List.mem_filterMap] at hv
    obtain ⟨i, _, hi⟩ := hv
    have hm : v ∈ xs := Array.mem_of_getElem? hi
    obtain ⟨a, t, rfl⟩ := h.all v hm
    exact ⟨a, rfl⟩
  have : ∃ m, IntsOf (slicePick xs lo hi st) m := by
    unfold IntsOf
    generalize (slicePick xs lo hi st).toList = vs at all
    induction vs with
    | nil => exact ⟨[], rfl⟩
    | cons v vs ih =>
      obtain ⟨m, hm⟩ := ih fun v hv => all v (.tail _ hv)
      obtain ⟨k, hk⟩ := all v List.mem_cons_self
      exact ⟨k :: m, by rw [List.map_cons, List.map_cons, hk, hm]⟩
  exact this.elim fun m hm => hm.all
theorem IntsOf.idx {xs : Array Value} {l : List Int} (h : IntsOf xs l) {k : Nat} {c : Int} (hk : l[k]? = some c) (hb : l.length ≤ 60) : ∃ t, IdxIs xs (Int.ofNat k) (.v (.int c t)) := by
  obtain ⟨t, ht⟩ := h.at hk
  have hlt := (List.getElem?_eq_some_iff.mp hk).1
  refine ⟨t, ⟨0, ?_⟩, ?_, ?_⟩
  · unfold atK; rw [if_pos (show (0 : Int) ≤ Int.ofNat k from Int.natCast_nonneg k)]; exact ht
  · rw [h.len]; constructor
    · exact Int.le_trans (by omega : -(l.length : Int) ≤ 0) (Int.natCast_nonneg k)
    · show (k : Int) < 1000000; omega
  · rw [h.len]; exact Nat.le_trans hb (by decide)
theorem mod_lt (x : Int) {m : Int} (h : 0 < m) : 0 ≤ Int.fmod x m ∧ Int.fmod x m < m := by
  rw [Int.fmod_eq_emod_of_nonneg x (Int.le_of_lt h)]
  exact ⟨Int.emod_nonneg x (Int.ne_of_gt h), Int.emod_lt_of_pos x h⟩
theorem ce_sat {β : BB} (fr : List Env) {n0 loc aT aA aF aL eL : Nat} {ss fs : Array Value} {sl fl : List Int} (hs : IntsOf ss sl) (hb : ss.size ≤ BIG) (hf : IntsOf fs fl) (hfl : fl.length = 10) :
    ∀ (n k : Nat) (as : Array Value) (ea el : Nat) (q : Bool) (u : Nat) (w : Value), k + n = 10 → Cells k as → q = decide (0 < k) → Sat (E1 β) (ceI β fr n0 loc aT aA aF aL eL (Int.ofNat k) (Int.ofNat n) ss fs as ea el q u w) := by
  intro n
  induction n with
  | zero =>
    intro k as ea el q u w hk ha hq
    obtain rfl : k = 10 := hk
    subst hq
    exact sat_of (fun n t g X Y σ => ceE_run β fr n0 loc aT aA aF aL eL _ _ ss fs as ea el u w n t g X Y σ) fun n t g X Y σ => ⟨left_end, ha⟩
  | succ n ih =>
    intro k as ea el q u w hk ha hq
    obtain ⟨c, hc⟩ : ∃ c, fl[k]? = some c := ⟨_, List.getElem?_eq_getElem (by omega)⟩
    obtain ⟨tc, hi⟩ := hf.idx hc (by omega)
    obtain ⟨l, h1, h2, h3⟩ := ha
    refine sat_of (fun n' t g X Y σ => ceN_run β fr n0 loc aT aA aF aL eL _ _ ss fs as ea el q u w c tc n' t g X Y σ) fun n' t g X Y σ => ⟨left_pos n, hi, by decide, hb, hs.pick _ _ _, ?_, ?_, id⟩
    · rw [h1.len, h2]; exact Nat.le_trans (by omega : k ≤ 10) (by decide)
    · rw [left_sub]
      refine ih (k + 1) _ _ _ true _ _ (by omega) ⟨l ++ [_], h1.push _ _, by rw [List.length_append, h2]; rfl, fun x hx => ?_⟩ rfl
      rcases List.mem_append.mp hx with hx | hx
      · exact h3 x hx
      · rw [List.mem_singleton.mp hx]; exact mod_lt _ (by decide)
theorem ces_sat {β : BB} (fr : List Env) {aL eL : Nat} {ss : Array Value} {sl : List Int} (hs : IntsOf ss sl) (hb : ss.size ≤ BIG) : Sat (E1 β) (cesI β fr aL ss eL) :=
  sat_of (fun n t g X Y σ => ces_run β fr aL ss eL n t g X Y σ) fun n t g X Y σ => ⟨ce_sat _ hs hb (fs := fxC t) (fl := [1, 2, 3, 5, 0, 1, 2, 19, 8, 0]) rfl rfl 10 0 #[] 0 0 false 0 .none rfl ⟨[], IntsOf.nil, rfl, nofun⟩ rfl, id⟩
noncomputable section
def namI (β : BB) (fr : List Env) (aC eC : Nat) (cs : Array Value) (R : List Str) : Inst where
  cu := cu0 (.call (.ref 223) ⟨[.ref aC], []⟩)
  fr := fr
  dep := 430
  un := 2500
  pre := [.o aC (lsO cs eC)]
  post u := (.ok (.ret (.ref (u.k 0 8))), [.o (u.k 0 8) (lsO (u.xs 0) (u.k 0 0)), .o aC (lsO cs eC)], StrsOf (u.xs 0) R)
abbrev nam_q (β : BB) (fr : List Env) (aC eC : Nat) (cs : Array Value) (c0 c1 c2 c3 c4 : Int) (t0 t1 t2 t3 t4 : Nat) (a0 a1 a2 a3 a4 b0 b1 b2 b3 b4 d0 d1 d2 d3 d4 : Str) (n t g : Nat) (X : Led) (Y : GL) (σ : Nat → Sup) : Out × Prop := (Go (E1 β) (namI β fr aC eC cs [d0, d1, d2, d3, d4]) (cond β.b2 (Hs.h 0xa0a0403050505030505050105010501020114002b01010101010101010101030101002b0501180707070901180b0b0b0309080303050505050505050105010501020114002b01010101010101010101030101002b0501180707070901180b0b0b0309080303050505050505050105010501020114002b01010101010101010101030101002b0501180707070901180b0b0b0309080303050505050505050105010501020114002b01010101010101010101030101002b0501180707070901180b0b0b0309080303050505050505050105010501020114002b01010101010101010101030101002b0501180707070901180b0b0b0309080303050505050505050105010501010303030301030103030301030103030101010101010404010204040101) (Hs.h 0xa0a0403050505030505050105010501020114002b01010101010101010101030101002b0501180707070901180b0b0b0309080303050505050505050105010501020114002b01010101010101010101030101002b0501180707070901180b0b0b0309080303050505050505050105010501020114002b01010101010101010101030101002b0501180707070901180b0b0b0309080303050505050505050105010501020114002b01010101010101010101030101002b0501180707070901180b0b0b0309080303050505050505050105010501020114002b01010101010101010101030101002b0501180707070901180b0b0b0309080303050505050505050105010501050105010505010303030301030103030301030103030101010101010404010204040101)) (.a (.v (.int c0 t0)) <| .a (.s a0) <| .a (.s b0) <| .a (.s d0) (.k fun o0 _ => .a (.v (.int c1 t1)) <| .a (.s a1) <| .a (.s b1) <| .a (.s d1) (.k fun o1 _ => .a (.v (.int c2 t2)) <| .a (.s a2) <| .a (.s b2) <| .a (.s d2) (.k fun o2 _ => .a (.v (.int c3 t3)) <| .a (.s a3) <| .a (.s b3) <| .a (.s d3) (.k fun o3 _ => .a (.v (.int c4 t4)) <| .a (.s a4) <| .a (.s b4) <| .a (.s d4) (.k fun o4 _ => .a (.u { noS with xs := fun _ => #[.str d0 o0.a, .str d1 o1.a, .str d2 o2.a, .str d3 o3.a, .str d4 o4.a], k := fun _ i => (match i with | 8 => n + 6 | _ => 5) }) .nil)))))) n t g X Y σ, (IdxIs cs 0 (Aux.v (Value.int c0 t0))) ∧ (IdxIs (List.toArray ([Value.str (Str.mk (Array.mk [])) t] ++ ([Value.str (Str.mk (Array.mk [97, 47])) (t + 1)] ++ ([Value.str (Str.mk (Array.mk [47, 47, 98, 47])) (t + 2)] ++ ([Value.str (Str.mk (Array.mk [97, 47, 47, 97, 47])) (t + 3)] ++ ([Value.str (Str.mk (Array.mk [97, 47, 98, 47, 47])) (t + 4)] ++ ([Value.str (Str.mk (Array.mk [47, 47, 98, 47, 97, 47])) (t + 5)] ++ ([Value.str (Str.mk (Array.mk [47, 47, 98, 47, 47, 47, 98, 47])) (t + 6)] ++ [])))))))) c0 (Aux.s a0)) ∧ (a0 ++ Str.ofString "f" = b0) ∧ (Fits b0) ∧ (b0 ++ Str.ofString (ToString.toString 0) = d0) ∧ (Fits d0) ∧ (Array.size (#[] : Array Value) ≤ BIG) ∧ (IdxIs cs (0 + 1) (Aux.v (Value.int c1 t1))) ∧ (IdxIs (List.toArray ([Value.str (Str.mk (Array.mk [])) t] ++ ([Value.str (Str.mk (Array.mk [97, 47])) (t + 1)] ++ ([Value.str (Str.mk (Array.mk [47, 47, 98, 47])) (t + 2)] ++ ([Value.str (Str.mk (Array.mk [97, 47, 47, 97, 47])) (t + 3)] ++ ([Value.str (Str.mk (Array.mk [97, 47, 98, 47, 47])) (t + 4)] ++ ([Value.str (Str.mk (Array.mk [47, 47, 98, 47, 97, 47])) (t + 5)] ++ ([Value.str (Str.mk (Array.mk [47, 47, 98, 47, 47, 47, 98, 47])) (t + 6)] ++ [])))))))) c1 (Aux.s a1)) ∧ (a1 ++ Str.ofString "f" = b1) ∧ (Fits b1) ∧ (b1 ++ Str.ofString (ToString.toString (0 + 1)) = d1) ∧ (Fits d1) ∧ (Array.size (Array.push (#[] : Array Value) (Value.str d0 (σ 6).4)) ≤ BIG) ∧ (IdxIs cs (0 + 1 + 1) (Aux.v (Value.int c2 t2))) ∧ (IdxIs (List.toArray ([Value.str (Str.mk (Array.mk [])) t] ++ ([Value.str (Str.mk (Array.mk [97, 47])) (t + 1)] ++ ([Value.str (Str.mk (Array.mk [47, 47, 98, 47])) (t + 2)] ++ ([Value.str (Str.mk (Array.mk [97, 47, 47, 97, 47])) (t + 3)] ++ ([Value.str (Str.mk (Array.mk [97, 47, 98, 47, 47])) (t + 4)] ++ ([Value.str (Str.mk (Array.mk [47, 47, 98, 47, 97, 47])) (t + 5)] ++ ([Value.str (Str.mk (Array.mk [47, 47, 98, 47, 47, 47, 98, 47])) (t + 6)] ++ [])))))))) c2 (Aux.s a2)) ∧ (a2 ++ Str.ofString "f" = b2) ∧ (Fits b2) ∧ (b2 ++ Str.ofString (ToString.toString (0 + 1 + 1)) = d2) ∧ (Fits d2) ∧ (Array.size (Array.push (Array.push (#[] : Array Value) (Value.str d0 (σ 6).4)) (Value.str d1 (σ 16).4)) ≤ BIG) ∧ (IdxIs cs (0 + 1 + 1 + 1) (Aux.v (Value.int c3 t3))) ∧ (IdxIs (List.toArray ([Value.str (Str.mk (Array.mk [])) t] ++ ([Value.str (Str.mk (Array.mk [97, 47])) (t + 1)] ++ ([Value.str (Str.mk (Array.mk [47, 47, 98, 47])) (t + 2)] ++ ([Value.str (Str.mk (Array.mk [97, 47, 47, 97, 47])) (t + 3)] ++ ([Value.str (Str.mk (Array.mk [97, 47, 98, 47, 47])) (t + 4)] ++ ([Value.str (Str.mk (Array.mk [47, 47, 98, 47, 97, 47])) (t + 5)] ++ ([Value.str (Str.mk (Array.mk [47, 47, 98, 47, 47, 47, 98, 47])) (t + 6)] ++ [])))))))) c3 (Aux.s a3)) ∧ (a3 ++ Str.ofString "f" = b3) ∧ (Fits b3) ∧ (b3 ++ Str.ofString (ToString.toString (0 + 1 + 1 + 1)) = d3) ∧ (Fits d3) ∧ (Array.size (Array.push (Array.push (Array.push (#[] : Array Value) (Value.str d0 (σ 6).4)) (Value.str d1 (σ 16).4)) (Value.str d2 (σ 26).4)) ≤ BIG) ∧ (IdxIs cs (0 + 1 + 1 + 1 + 1) (Aux.v (Value.int c4 t4))) ∧ (IdxIs (List.toArray ([Value.str (Str.mk (Array.mk [])) t] ++ ([Value.str (Str.mk (Array.mk [97, 47])) (t + 1)] ++ ([Value.str (Str.mk (Array.mk [47, 47, 98, 47])) (t + 2)] ++ ([Value.str (Str.mk (Array.mk [97, 47, 47, 97, 47])) (t + 3)] ++ ([Value.str (Str.mk (Array.mk [97, 47, 98, 47, 47])) (t + 4)] ++ ([Value.str (Str.mk (Array.mk [47, 47, 98, 47, 97, 47])) (t + 5)] ++ ([Value.str (Str.mk (Array.mk [47, 47, 98, 47, 47, 47, 98, 47])) (t + 6)] ++ [])))))))) c4 (Aux.s a4)) ∧ (a4 ++ Str.ofString "f" = b4) ∧ (Fits b4) ∧ (b4 ++ Str.ofString (ToString.toString (0 + 1 + 1 + 1 + 1)) = d4) ∧ (Fits d4) ∧ (Array.size (Array.push (Array.push (Array.push (Array.push (#[] : Array Value) (Value.str d0 (σ 6).4)) (Value.str d1 (σ 16).4)) (Value.str d2 (σ 26).4)) (Value.str d3 (σ 36).4)) ≤ BIG) ∧ (StrsOf #[Value.str d0 (σ 6).4, Value.str d1 (σ 16).4, Value.str d2 (σ 26).4, Value.str d3 (σ 36).4, Value.str d4 (σ 46).4] [d0, d1, d2, d3, d4]))
theorem nam_run (β : BB) (fr : List Env) (aC eC : Nat) (cs : Array Value) (c0 c1 c2 c3 c4 : Int) (t0 t1 t2 t3 t4 : Nat) (a0 a1 a2 a3 a4 b0 b1 b2 b3 b4 d0 d1 d2 d3 d4 : Str) (n t g : Nat) (X : Led) (Y : GL) (σ : Nat → Sup) : See (nam_q β fr aC eC cs c0 c1 c2 c3 c4 t0 t1 t2 t3 t4 a0 a1 a2 a3 a4 b0 b1 b2 b3 b4 d0 d1 d2 d3 d4 n t g X Y σ).1 (nam_q β fr aC eC cs c0 c1 c2 c3 c4 t0 t1 t2 t3 t4 a0 a1 a2 a3 a4 b0 b1 b2 b3 b4 d0 d1 d2 d3 d4 n t g X Y σ).2 := by obtain ⟨b1, b2, b3, w0⟩ := β; cases b2 <;> cases b3 <;> kernel_rfl
end
noncomputable section
def vals (xs : Array Value) : List Int := xs.toList.filterMap ofInt
def grkI (β : BB) (fr : List Env) (n0 loc aT aA aC eC aK ck cc : Nat) (k left : Int) (cs ks as : Array Value) (ea el : Nat) (q : Bool) (u : Nat) (w : Value) (R : List Int) : Inst where
  cu := cu0 (compC2 (TT β) 228 0 1 n0 loc [((S "kind"), ck), ((S "codes"), cc)] 0 (.ref aT) (.ref aA))
  fr := fr
  dep := 470
  un := 3000
  pre := [.o loc (dO (cond q #[β.d "k" u w] #[]) el), .o aT (rgE k left), .o ck (ceO aK), .o aK (lsO ks 0), .o cc (ceO aC), .o aC (lsO cs eC), .o aA (lsO as ea)]
  post u := (.ok .next, [.o loc (dO #[β.d "k" (u.k 0 2) (u.vv 0)] (u.k 0 1)), .o ck (ceO aK), .o cc (ceO aC), .o aC (lsO cs eC), .o aA (lsO (u.xs 0) (u.k 0 0))], IntsOf (u.xs 0) R)
def arrL (l : List (Nat × Sup)) : ArrD := ⟨fun i => ((nth l i).map fun p => p.1).getD 0, fun i => ((nth l i).map fun p => p.2.xs 0).getD #[], fun i => ((nth l i).map fun p => p.2.k 0 0).getD 0⟩
def oneO (a : Nat) (u : Sup) : Ent := .o a (lsO (u.xs 0) (u.k 0 0))
def arrU (D : ArrD) (a : Nat) : Sup := { noS with k := fun x i => (match x with | 0 => D.ad i | 1 => D.ep i | _ => a), xs := D.xs }
def grpI (β : BB) (fr : List Env) (aC eC : Nat) (cs : Array Value) (P : ArrD → Prop) : Inst where
  cu := cu0 (.call (.ref 228) ⟨[.ref aC], []⟩)
  fr := fr
  dep := 430
  un := 2500
  pre := [.o aC (lsO cs eC)]
  post u := (.ok (.ret (.ref (u.k 2 0))), [.o (u.k 2 0) (lsO (ArrD.mk (u.k 0) u.xs (u.k 1)).refs 6), (ArrD.mk (u.k 0) u.xs (u.k 1)).ent 6, .o aC (lsO cs eC)], P ⟨u.k 0, u.xs, u.k 1⟩)
abbrev grp_q (β : BB) (fr : List Env) (aC eC : Nat) (cs : Array Value) (P : ArrD → Prop) (R0 R1 R2 R3 R4 R5 : List Int) (n t g : Nat) (X : Led) (Y : GL) (σ : Nat → Sup) : Out × Prop := (Go (E1 β) (grpI β fr aC eC cs P) (cond β.b2 (Hs.h 0x1506031404031515161515011501150105080b0e111406051701140303030104041804020107020103030303010301030303010301030301010101010104041717181717011701170114011403030301040416040201070201030303030103010303030103010303010101010101040414141514140114011401110114030303010404140402010702010303030301030103030301030103030101010101010404111112111101110111010e01140303030104041204020107020103030303010301030303010301030301010101010104040e0e0f0e0e010e010e010b01140303030104041004020107020103030303010301030303010301030301010101010104040b0b0c0b0b010b010b01080114030303010d0c0c030201070201030303030103010303030103010303010101010101030306060706060106010601010301030103030b0b0b010203030101) (Hs.h 0x1506031404031515161515011501150105080b0e111406051701140303030104041804020107020501050105050103030303010301030303010301030301010101010104041717181717011701170114011403030301040416040201070205010501050501030303030103010303030103010303010101010101040414141514140114011401110114030303010404140402010702050105010505010303030301030103030301030103030101010101010404111112111101110111010e01140303030104041204020107020501050105050103030303010301030303010301030301010101010104040e0e0f0e0e010e010e010b01140303030104041004020107020501050105050103030303010301030303010301030301010101010104040b0b0c0b0b010b010b01080114030303010d0c0c030201070205010501050501030303030103010303030103010303010101010101030306060706060106010601060106010606010301030103030b0b0b010203030101)) (.a (.i (grkI β (fenv (TT β) 228 n [((Mine.S "codes"), n + 1)] :: fr) n (n + 16) (n + 14) (n + 15) aC eC (n + 2) (n + 12) (n + 1) 0 5 cs #[.int 1 t, .int 3 (t + 1), .int 4 (t + 2)] #[] 0 0 false 0 .none R0)) (.k fun u0 _ => .k fun _ w0 => .a (.i (grkI β (fenv (TT β) 228 n [((Mine.S "codes"), n + 1)] :: fr) n (w0.n + 3) (w0.n + 1) (w0.n + 2) aC eC (n + 3) (n + 12) (n + 1) 0 5 cs #[.int 2 (t + 3), .int 5 (t + 4), .int 6 (t + 5)] #[] 0 0 false 0 .none R1)) (.k fun u1 _ => .k fun _ w1 => .a (.i (grkI β (fenv (TT β) 228 n [((Mine.S "codes"), n + 1)] :: fr) n (w1.n + 3) (w1.n + 1) (w1.n + 2) aC eC (n + 4) (n + 12) (n + 1) 0 5 cs #[.int 3 (t + 6)] #[] 0 0 false 0 .none R2)) (.k fun u2 _ => .k fun _ w2 => .a (.i (grkI β (fenv (TT β) 228 n [((Mine.S "codes"), n + 1)] :: fr) n (w2.n + 3) (w2.n + 1) (w2.n + 2) aC eC (n + 5) (n + 12) (n + 1) 0 5 cs #[.int 4 (t + 7)] #[] 0 0 false 0 .none R3)) (.k fun u3 _ => .k fun _ w3 => .a (.i (grkI β (fenv (TT β) 228 n [((Mine.S "codes"), n + 1)] :: fr) n (w3.n + 3) (w3.n + 1) (w3.n + 2) aC eC (n + 6) (n + 12) (n + 1) 0 5 cs #[.int 5 (t + 8)] #[] 0 0 false 0 .none R4)) (.k fun u4 _ => .k fun _ w4 => .a (.i (grkI β (fenv (TT β) 228 n [((Mine.S "codes"), n + 1)] :: fr) n (w4.n + 3) (w4.n + 1) (w4.n + 2) aC eC (n + 7) (n + 12) (n + 1) 0 5 cs #[.int 6 (t + 9)] #[] 0 0 false 0 .none R5)) (.k fun u5 _ => .k fun _ w5 => .a (.cv [oneO (n + 15) u0, oneO (w0.n + 2) u1, oneO (w1.n + 2) u2, oneO (w2.n + 2) u3, oneO (w3.n + 2) u4, oneO (w4.n + 2) u5] [(arrL [(n + 15, u0), (w0.n + 2, u1), (w1.n + 2, u2), (w2.n + 2, u3), (w3.n + 2, u4), (w4.n + 2, u5)]).ent 6]) <| .a (.u (arrU (arrL [(n + 15, u0), (w0.n + 2, u1), (w1.n + 2, u2), (w2.n + 2, u3), (w3.n + 2, u4), (w4.n + 2, u5)]) (n + 10))) .nil))))))) n t g X Y σ, Sat (E1 β) (grkI β (fenv (TT β) (228 : Addr) n [(S "codes", n + (1 : Addr))] :: fr) n (n + 16) (n + 14) (n + 15) aC eC (n + 2) (n + 12) (n + 1) 0 5 cs #[Value.int 1 t, Value.int 3 (t + (1 : Tok)), Value.int 4 (t + (2 : Tok))] #[] 0 0 false 0 Value.none R0) ∧ ((IntsOf ((σ 0).xs 0) R0) → (Array.size (#[] : Array Value) ≤ BIG) ∧ Sat (E1 β) (grkI β (fenv (TT β) (228 : Addr) n [(S "codes", n + (1 : Addr))] :: fr) n ((σ 3).n + 3) ((σ 3).n + 1) ((σ 3).n + 2) aC eC (n + 3) (n + 12) (n + 1) 0 5 cs #[Value.int 2 (t + (3 : Tok)), Value.int 5 (t + (4 : Tok)), Value.int 6 (t + (5 : Tok))] #[] 0 0 false 0 Value.none R1) ∧ ((IntsOf ((σ 4).xs 0) R1) → (Array.size (Array.push (#[] : Array Value) (Value.ref (n + 15))) ≤ BIG) ∧ Sat (E1 β) (grkI β (fenv (TT β) (228 : Addr) n [(S "codes", n + (1 : Addr))] :: fr) n ((σ 7).n + 3) ((σ 7).n + 1) ((σ 7).n + 2) aC eC (n + 4) (n + 12) (n + 1) 0 5 cs #[Value.int 3 (t + (6 : Tok))] #[] 0 0 false 0 Value.none R2) ∧ ((IntsOf ((σ 8).xs 0) R2) → (Array.size (Array.push (Array.push (#[] : Array Value) (Value.ref (n + 15))) (Value.ref ((σ 3).1 + 2))) ≤ BIG) ∧ Sat (E1 β) (grkI β (fenv (TT β) (228 : Addr) n [(S "codes", n + (1 : Addr))] :: fr) n ((σ 11).n + 3) ((σ 11).n + 1) ((σ 11).n + 2) aC eC (n + 5) (n + 12) (n + 1) 0 5 cs #[Value.int 4 (t + (7 : Tok))] #[] 0 0 false 0 Value.none R3) ∧ ((IntsOf ((σ 12).xs 0) R3) → (Array.size (Array.push (Array.push (Array.push (#[] : Array Value) (Value.ref (n + 15))) (Value.ref ((σ 3).1 + 2))) (Value.ref ((σ 7).1 + 2))) ≤ BIG) ∧ Sat (E1 β) (grkI β (fenv (TT β) (228 : Addr) n [(S "codes", n + (1 : Addr))] :: fr) n ((σ 15).n + 3) ((σ 15).n + 1) ((σ 15).n + 2) aC eC (n + 6) (n + 12) (n + 1) 0 5 cs #[Value.int 5 (t + (8 : Tok))] #[] 0 0 false 0 Value.none R4) ∧ ((IntsOf ((σ 16).xs 0) R4) → (Array.size (Array.push (Array.push (Array.push (Array.push (#[] : Array Value) (Value.ref (n + 15))) (Value.ref ((σ 3).1 + 2))) (Value.ref ((σ 7).1 + 2))) (Value.ref ((σ 11).1 + 2))) ≤ BIG) ∧ Sat (E1 β) (grkI β (fenv (TT β) (228 : Addr) n [(S "codes", n + (1 : Addr))] :: fr) n ((σ 19).n + 3) ((σ 19).n + 1) ((σ 19).n + 2) aC eC (n + 7) (n + 12) (n + 1) 0 5 cs #[Value.int 6 (t + (9 : Tok))] #[] 0 0 false 0 Value.none R5) ∧ ((IntsOf ((σ 20).xs 0) R5) → (Array.size (Array.push (Array.push (Array.push (Array.push (Array.push (#[] : Array Value) (Value.ref (n + 15))) (Value.ref ((σ 3).1 + 2))) (Value.ref ((σ 7).1 + 2))) (Value.ref ((σ 11).1 + 2))) (Value.ref ((σ 15).1 + 2))) ≤ BIG) ∧ (Conv [oneO (n + 15) (σ 0), oneO ((σ 3).n + 2) (σ 4), oneO ((σ 7).n + 2) (σ 8), oneO ((σ 11).n + 2) (σ 12), oneO ((σ 15).n + 2) (σ 16), oneO ((σ 19).n + 2) (σ 20)] [ArrD.ent (arrL [(n + 15, σ 0), ((σ 3).n + 2, σ 4), ((σ 7).n + 2, σ 8), ((σ 11).n + 2, σ 12), ((σ 15).n + 2, σ 16), ((σ 19).n + 2, σ 20)]) 6]) ∧ (P (ArrD.mk (fun i => Option.getD (Option.map (fun p => Prod.fst p) (nth [(n + 15, σ 0), ((σ 3).n + 2, σ 4), ((σ 7).n + 2, σ 8), ((σ 11).n + 2, σ 12), ((σ 15).n + 2, σ 16), ((σ 19).n + 2, σ 20)] i)) 0) (fun i => Option.getD (Option.map (fun p => Sup.xs (Prod.snd p) 0) (nth [(n + 15, σ 0), ((σ 3).n + 2, σ 4), ((σ 7).n + 2, σ 8), ((σ 11).n + 2, σ 12), ((σ 15).n + 2, σ 16), ((σ 19).n + 2, σ 20)] i)) #[]) fun i => Option.getD (Option.map (fun p => Sup.k (Prod.snd p) 0 0) (nth [(n + 15, σ 0), ((σ 3).n + 2, σ 4), ((σ 7).n + 2, σ 8), ((σ 11).n + 2, σ 12), ((σ 15).n + 2, σ 16), ((σ 19).n + 2, σ 20)] i)) 0)))))))))
theorem grp_run (β : BB) (fr : List Env) (aC eC : Nat) (cs : Array Value) (P : ArrD → Prop) (R0 R1 R2 R3 R4 R5 : List Int) (n t g : Nat) (X : Led) (Y : GL) (σ : Nat → Sup) : See (grp_q β fr aC eC cs P R0 R1 R2 R3 R4 R5 n t g X Y σ).1 (grp_q β fr aC eC cs P R0 R1 R2 R3 R4 R5 n t g X Y σ).2 := by obtain ⟨b1, b2, b3, w0⟩ := β; cases b2 <;> cases b3 <;> kernel_rfl
abbrev grkE_q (β : BB) (fr : List Env) (n0 loc aT aA aC eC aK ck cc : Nat) (k left : Int) (cs ks as : Array Value) (ea el : Nat) (u : Nat) (w : Value) (R : List Int) (n t g : Nat) (X : Led) (Y : GL) (σ : Nat → Sup) : Out × Prop := (Go (E1 β) (grkI β fr n0 loc aT aA aC eC aK ck cc k left cs ks as ea el true u w R) (Hs.h 0x50505050403060302012304) (.a (.b false) (.a (.u (cmU as ea el u w)) .nil)) n t g X Y σ, (yesNo false ¬left ≤ 0) ∧ (IntsOf as R))
theorem grkE_run (β : BB) (fr : List Env) (n0 loc aT aA aC eC aK ck cc : Nat) (k left : Int) (cs ks as : Array Value) (ea el : Nat) (u : Nat) (w : Value) (R : List Int) (n t g : Nat) (X : Led) (Y : GL) (σ : Nat → Sup) : See (grkE_q β fr n0 loc aT aA aC eC aK ck cc k left cs ks as ea el u w R n t g X Y σ).1 (grkE_q β fr n0 loc aT aA aC eC aK ck cc k left cs ks as ea el u w R n t g X Y σ).2 := by obtain ⟨b1, b2, b3, w0⟩ := β; cases b3 <;> kernel_rfl
abbrev grkN_q (β : BB) (fr : List Env) (n0 loc aT aA aC eC aK ck cc : Nat) (k left : Int) (cs ks as : Array Value) (ea el : Nat) (q : Bool) (u : Nat) (w : Value) (R : List Int) (c : Int) (tc : Nat) (n t g : Nat) (X : Led) (Y : GL) (σ : Nat → Sup) : Out × Prop := (Go (E1 β) (grkI β fr n0 loc aT aA aC eC aK ck cc k left cs ks as ea el q u w R) (Hs.h 0x30606050601180808080307030302012304) (.a (.b true) (.k fun w w1 => .a (.v (.int c tc)) (.k fun _ _ => .sp (c ∈ vals ks) (Hs.h 0x10101010101060101010101010107020701140304011a) (.a (.b true) <| .a (.i (grkI β fr n0 loc aT aA aC eC aK ck cc (k + 1) (left - 1) cs ks (as.push (.int k w.a)) (ea + 1) (cond q el (el + 1)) true (cond q u w1.t) (.int k w.a) R)) (.k fun u3 _ => .a (.u u3) .nil)) (Hs.h 0x101010101010601010101010101070204011a) (.a (.b false) <| .a (.i (grkI β fr n0 loc aT aA aC eC aK ck cc (k + 1) (left - 1) cs ks as ea (cond q el (el + 1)) true (cond q u w1.t) (.int k w.a) R)) (.k fun u3 _ => .a (.u u3) .nil))))) n t g X Y σ, (yesNo true ¬left ≤ 0) ∧ (IdxIs cs k (Aux.v (Value.int c tc))) ∧ (((c ∈ vals ks) → (∃ l, IntsOf ks l ∧ yesNo true (c ∈ l)) ∧ (Array.size as ≤ BIG) ∧ Sat (E1 β) (grkI β fr n0 loc aT aA aC eC aK ck cc (k + 1) (left - 1) cs ks (Array.push as (Value.int k ((σ 0).a))) (ea + 1) (bif q then el else el + 1) true (bif q then u else (σ 1).t) (Value.int k ((σ 0).a)) R) ∧ ((IntsOf ((σ 8).xs 0) R) → (IntsOf ((σ 8).xs 0) R))) ∧ (¬ (c ∈ vals ks) → (∃ l, IntsOf ks l ∧ yesNo false (c ∈ l)) ∧ Sat (E1 β) (grkI β fr n0 loc aT aA aC eC aK ck cc (k + 1) (left - 1) cs ks as ea (bif q then el else el + 1) true (bif q then u else (σ 1).t) (Value.int k ((σ 0).a)) R) ∧ ((IntsOf ((σ 6).xs 0) R) → (IntsOf ((σ 6).xs 0) R)))))
theorem grkN_run (β : BB) (fr : List Env) (n0 loc aT aA aC eC aK ck cc : Nat) (k left : Int) (cs ks as : Array Value) (ea el : Nat) (q : Bool) (u : Nat) (w : Value) (R : List Int) (c : Int) (tc : Nat) (n t g : Nat) (X : Led) (Y : GL) (σ : Nat → Sup) : See (grkN_q β fr n0 loc aT aA aC eC aK ck cc k left cs ks as ea el q u w R c tc n t g X Y σ).1 (grkN_q β fr n0 loc aT aA aC eC aK ck cc k left cs ks as ea el q u w R c tc n t g X Y σ).2 := by obtain ⟨b1, b2, b3, w0⟩ := β; cases q <;> cases b3 <;> kernel_rfl
end
def numN (N : Nat) (P : Nat → Bool) (v : Nat) : List Int := (((List.range N).drop v).filter P).map Int.ofNat
theorem numN_end (N : Nat) (P : Nat → Bool) : numN N P N = [] := by
  unfold numN
  rw [List.drop_of_length_le (by rw [List.length_range]; exact Nat.le_refl _)]; rfl
theorem numN_step {N : Nat} {P : Nat → Bool} {v n : Nat} (h : v + (n + 1) = N) (acc : List Int) : acc ++ numN N P v = (if P v = true then acc ++ [Int.ofNat v] else acc) ++ numN N P (v + 1) := by
  have hl : (List.range N).length = v + (n + 1) := by rw [List.length_range, h]
  obtain ⟨x, h1, h2⟩ := drop_next hl
  have hx : x = v := by
    rw [List.getElem?_range (by omega)] at h1
    exact (Option.some.inj h1).symm
  subst hx
  unfold numN
  rw [h2]
  cases hP : P x with
  | true => rw [List.filter_cons_of_pos hP, List.map_cons, if_pos rfl, List.append_assoc]; rfl
  | false => rw [List.filter_cons_of_neg (by rw [hP]; exact Bool.false_ne_true), if_neg Bool.false_ne_true]
theorem big_of {xs : Array Value} {l : List Int} (h : IntsOf xs l) (hl : l.length ≤ 100) : xs.size ≤ BIG := by rw [h.len]; exact Nat.le_trans hl (by decide)
theorem vals_of : ∀ {vs : List Value} {l : List Int}, vs.map ofInt = l.map some → vs.filterMap ofInt = l
  | [], [], _ => rfl
  | [], _ :: _, h => by cases h
  | _ :: _, [], h => by cases h
  | v :: vs, z :: l, h => by
    have h1 : ofInt v = some z := (List.cons.inj h).1
    rw [List.filterMap_cons, h1, vals_of (List.cons.inj h).2]
theorem IntsOf.vals {xs : Array Value} {l : List Int} (h : IntsOf xs l) : vals xs = l := vals_of h
def kd : Nat → List Nat
  | 0 => [1, 3, 4]
  | 1 => [2, 5, 6]
  | 2 => [3]
  | 3 => [4]
  | 4 => [5]
  | _ => [6]
def grP (cl : List Nat) (kl : List Nat) (k : Nat) : Bool := decide (cl.getD k 0 ∈ kl)
def grL (cl : List Nat) (j : Nat) : List Nat := (List.range 5).filter (grP cl (kd j))
theorem mem_ofNat {l : List Nat} {x : Nat} : Int.ofNat x ∈ l.map Int.ofNat ↔ x ∈ l := by
  constructor
  · intro h
    obtain ⟨y, hy, e⟩ := List.mem_map.mp h
    exact Int.ofNat.inj e ▸ hy
  · exact fun h => List.mem_map_of_mem h
theorem at_ofNat {l : List Nat} {k : Nat} (h : k < l.length) : (l.map Int.ofNat)[k]? = some (Int.ofNat (l.getD k 0)) := by
  rw [List.getElem?_map, List.getD_eq_getElem?_getD, List.getElem?_eq_getElem h]; rfl
theorem grk_sat {β : BB} (fr : List Env) {n0 loc aT aA aC eC aK ck cc : Nat} {cs ks : Array Value} {cl kl : List Nat} (hc : IntsOf cs (cl.map Int.ofNat)) (hcl : cl.length = 5) (hk : IntsOf ks (kl.map Int.ofNat)) :
    ∀ (n k : Nat) (as : Array Value) (acc : List Int) (ea el : Nat) (q : Bool) (u : Nat) (w : Value), k + n = 5 → IntsOf as acc → acc.length ≤ k → q = decide (0 < k) →
    Sat (E1 β) (grkI β fr n0 loc aT aA aC eC aK ck cc (Int.ofNat k) (Int.ofNat n) cs ks as ea el q u w (acc ++ numN 5 (grP cl kl) k)) := by
  intro n
  induction n with
  | zero =>
    intro k as acc ea el q u w hn ha hl hq
    obtain rfl : k = 5 := hn
    subst hq
    rw [numN_end, List.append_nil]
    exact sat_of (fun n t g X Y σ => grkE_run β fr n0 loc aT aA aC eC aK ck cc _ _ cs ks as ea el u w acc n t g X Y σ) fun n t g X Y σ => ⟨left_end, ha⟩
  | succ n ih =>
    intro k as acc ea el q u w hn ha hl hq
    have hk5 : k < 5 := by omega
    have hn' : (k + 1) + n = 5 := by omega
    obtain ⟨tc, hi⟩ := hc.idx (at_ofNat (k := k) (by omega)) (by rw [List.length_map]; omega)
    have hvs := hk.vals
    rw [numN_step hn]
    refine sat_of (fun n' t g X Y σ => grkN_run β fr n0 loc aT aA aC eC aK ck cc _ _ cs ks as ea el q u w _ (Int.ofNat (cl.getD k 0)) tc n' t g X Y σ) fun n' t g X Y σ => ⟨left_pos n, hi, fun h => ?_, fun h => ?_⟩
    · rw [hvs] at h
      rw [if_pos (show grP cl kl k = true from decide_eq_true (mem_ofNat.mp h))]
      refine ⟨⟨_, hk, h⟩, big_of ha (by omega), ?_, id⟩
      rw [left_sub]
      exact ih (k + 1) _ _ _ _ true _ _ hn' (ha.push ..) (by rw [List.length_append, List.length_singleton]; omega) rfl
    · rw [hvs] at h
      rw [if_neg (show ¬ grP cl kl k = true from fun e => h (mem_ofNat.mpr (of_decide_eq_true e)))]
      refine ⟨⟨_, hk, h⟩, ?_, id⟩
      rw [left_sub]
      exact ih (k + 1) _ _ _ _ true _ _ hn' ha (by omega) rfl
theorem six_of {P : Nat → Prop} (h0 : P 0) (h1 : P 1) (h2 : P 2) (h3 : P 3) (h4 : P 4) (h5 : P 5) : ∀ d, d < 6 → P d
  | 0, _ => h0
  | 1, _ => h1
  | 2, _ => h2
  | 3, _ => h3
  | 4, _ => h4
  | 5, _ => h5
  | n + 6, h => absurd h (by omega)
theorem grp_sat {β : BB} (fr : List Env) {aC eC : Nat} {cs : Array Value} {cl : List Nat} (hc : IntsOf cs (cl.map Int.ofNat)) (hcl : cl.length = 5) : Sat (E1 β) (grpI β fr aC eC cs fun G => ∀ j, j < 6 → IntsOf (G.xs j) ((grL cl j).map Int.ofNat)) := by
  have big : ∀ n : Nat, n ≤ 6 → n ≤ BIG := fun n h => Nat.le_trans h (by decide)
  have one := fun (fr' : List Env) n0 loc aT aA aK ck cc (ks : Array Value) (kl : List Nat) (hk : IntsOf ks (kl.map Int.ofNat)) => grk_sat (β := β) fr' (n0 := n0) (loc := loc) (aT := aT) (aA := aA) (eC := eC) (aC := aC) (aK := aK) (ck := ck) (cc := cc) hc hcl hk 5 0 #[] [] 0 0 false 0 .none rfl IntsOf.nil (Nat.le_refl 0) rfl
  exact sat_of (fun n t g X Y σ => grp_run β fr aC eC cs _ (numN 5 (grP cl (kd 0)) 0) (numN 5 (grP cl (kd 1)) 0) (numN 5 (grP cl (kd 2)) 0) (numN 5 (grP cl (kd 3)) 0) (numN 5 (grP cl (kd 4)) 0) (numN 5 (grP cl (kd 5)) 0) n t g X Y σ) fun n t g X Y σ =>
    ⟨one _ _ _ _ _ _ _ _ _ (kd 0) rfl, fun h0 => ⟨big 0 (by decide), one _ _ _ _ _ _ _ _ _ (kd 1) rfl, fun h1 => ⟨big 1 (by decide), one _ _ _ _ _ _ _ _ _ (kd 2) rfl, fun h2 => ⟨big 2 (by decide), one _ _ _ _ _ _ _ _ _ (kd 3) rfl, fun h3 => ⟨big 3 (by decide), one _ _ _ _ _ _ _ _ _ (kd 4) rfl, fun h4 => ⟨big 4 (by decide), one _ _ _ _ _ _ _ _ _ (kd 5) rfl, fun h5 => ⟨big 5 (by decide), ⟨List.Perm.refl _, rfl⟩, six_of h0 h1 h2 h3 h4 h5⟩⟩⟩⟩⟩⟩⟩
def fo : Nat → Str
  | 0 => ⟨#[]⟩
  | 1 => ⟨#[97, 47]⟩
  | 2 => ⟨#[47, 47, 98, 47]⟩
  | 3 => ⟨#[97, 47, 47, 97, 47]⟩
  | 4 => ⟨#[97, 47, 98, 47, 47]⟩
  | 5 => ⟨#[47, 47, 98, 47, 97, 47]⟩
  | _ => ⟨#[47, 47, 98, 47, 47, 47, 98, 47]⟩
def nm (c k : Nat) : Str := (fo c ++ Str.ofString "f") ++ Str.ofString (toString (Int.ofNat k))
def nms (cl : List Nat) : List Str := (List.range 5).map fun k => nm (cl.getD k 0) k
theorem sev_of {P : Nat → Prop} (h0 : P 0) (h1 : P 1) (h2 : P 2) (h3 : P 3) (h4 : P 4) (h5 : P 5) (h6 : P 6) : ∀ d, d < 7 → P d
  | 0, _ => h0
  | 1, _ => h1
  | 2, _ => h2
  | 3, _ => h3
  | 4, _ => h4
  | 5, _ => h5
  | 6, _ => h6
  | n + 7, h => absurd h (by omega)
def foA (t : Nat) : Array Value := #[.str ⟨#[]⟩ t, .str ⟨#[97, 47]⟩ (t + 1), .str ⟨#[47, 47, 98, 47]⟩ (t + 2), .str ⟨#[97, 47, 47, 97, 47]⟩ (t + 3), .str ⟨#[97, 47, 98, 47, 47]⟩ (t + 4), .str ⟨#[47, 47, 98, 47, 97, 47]⟩ (t + 5), .str ⟨#[47, 47, 98, 47, 47, 47, 98, 47]⟩ (t + 6)]
theorem fo_idx (t : Nat) : ∀ c, c < 7 → IdxIs (foA t) (Int.ofNat c) (.s (fo c)) := by
  have b : (foA t).size ≤ BIG := show 7 ≤ BIG by decide
  have r : ∀ n : Nat, n < 7 → -((foA t).size : Int) ≤ Int.ofNat n ∧ Int.ofNat n < 1000000 := fun n h => by
    show -((7 : Nat) : Int) ≤ (n : Int) ∧ (n : Int) < 1000000
    omega
  exact sev_of ⟨⟨_, rfl⟩, r 0 (by decide), b⟩ ⟨⟨_, rfl⟩, r 1 (by decide), b⟩ ⟨⟨_, rfl⟩, r 2 (by decide), b⟩ ⟨⟨_, rfl⟩, r 3 (by decide), b⟩ ⟨⟨_, rfl⟩, r 4 (by decide), b⟩ ⟨⟨_, rfl⟩, r 5 (by decide), b⟩ ⟨⟨_, rfl⟩, r 6 (by decide), b⟩
theorem fits_all : ((List.range 7).all fun c => decide ((fo c ++ Str.ofString "f").length ≤ 100) && (List.range 5).all fun k => decide ((nm c k).length ≤ 100)) = true := by decide +kernel
theorem nm_fits {c : Nat} (h : c < 7) : Fits (fo c ++ Str.ofString "f") ∧ ∀ k, k < 5 → Fits (nm c k) := by
  have := List.all_eq_true.mp fits_all c (List.mem_range.mpr h)
  rw [Bool.and_eq_true] at this
  refine ⟨Nat.le_trans (of_decide_eq_true this.1) (by decide), fun k hk => Nat.le_trans (of_decide_eq_true (List.all_eq_true.mp this.2 k (List.mem_range.mpr hk))) (by decide)⟩
theorem nam_sat {β : BB} (fr : List Env) {aC eC : Nat} {cs : Array Value} {cl : List Nat} (hc : IntsOf cs (cl.map Int.ofNat)) (hcl : cl.length = 5) (h7 : ∀ c ∈ cl, c < 7) : Sat (E1 β) (namI β fr aC eC cs (nms cl)) := by
  have at_ := fun k (hk : k < 5) => hc.idx (at_ofNat (k := k) (by omega)) (by rw [List.length_map]; omega)
  have lt_ : ∀ k, k < 5 → cl.getD k 0 < 7 := fun k hk => by
    rw [List.getD_eq_getElem?_getD, List.getElem?_eq_getElem (by omega)]
    exact h7 _ (List.getElem_mem _)
  have big : ∀ n : Nat, n ≤ 6 → n ≤ BIG := fun n h => Nat.le_trans h (by decide)
  obtain ⟨t0, i0⟩ := at_ 0 (by decide)
  obtain ⟨t1, i1⟩ := at_ 1 (by decide)
  obtain ⟨t2, i2⟩ := at_ 2 (by decide)
  obtain ⟨t3, i3⟩ := at_ 3 (by decide)
  obtain ⟨t4, i4⟩ := at_ 4 (by decide)
  have f := fun k hk => nm_fits (lt_ k hk)
  have nx := fun k (hk : k < 5) t => fo_idx t _ (lt_ k hk)
  exact sat_of (fun n t g X Y σ => nam_run β fr aC eC cs (Int.ofNat (cl.getD 0 0)) (Int.ofNat (cl.getD 1 0)) (Int.ofNat (cl.getD 2 0)) (Int.ofNat (cl.getD 3 0)) (Int.ofNat (cl.getD 4 0)) t0 t1 t2 t3 t4 (fo (cl.getD 0 0)) (fo (cl.getD 1 0)) (fo (cl.getD 2 0)) (fo (cl.getD 3 0)) (fo (cl.getD 4 0)) (fo (cl.getD 0 0) ++ Str.ofString "f") (fo (cl.getD 1 0) ++ Str.ofString "f") (fo (cl.getD 2 0) ++ Str.ofString "f") (fo (cl.getD 3 0) ++ Str.ofString "f") (fo (cl.getD 4 0) ++ Str.ofString "f") (nm (cl.getD 0 0) 0) (nm (cl.getD 1 0) 1) (nm (cl.getD 2 0) 2) (nm (cl.getD 3 0) 3) (nm (cl.getD 4 0) 4) n t g X Y σ) fun n t g X Y σ =>
    ⟨i0, nx 0 (by decide) t, rfl, (f 0 (by decide)).1, by kernel_rfl, (f 0 (by decide)).2 0 (by decide), big 0 (by decide), i1, nx 1 (by decide) t, rfl, (f 1 (by decide)).1, by kernel_rfl, (f 1 (by decide)).2 1 (by decide), big 1 (by decide), i2, nx 2 (by decide) t, rfl, (f 2 (by decide)).1, by kernel_rfl, (f 2 (by decide)).2 2 (by decide), big 2 (by decide), i3, nx 3 (by decide) t, rfl, (f 3 (by decide)).1, by kernel_rfl, (f 3 (by decide)).2 3 (by decide), big 3 (by decide), i4, nx 4 (by decide) t, rfl, (f 4 (by decide)).1, by kernel_rfl, (f 4 (by decide)).2 4 (by decide), big 4 (by decide), rfl⟩
noncomputable section
def NdIs (d : PairsD) (m k : Nat) (ks : Array Value) : Prop := m ≤ k ∧ ks = refsN d.ad m ∧ ∀ i, i < m → (0 ≤ d.x i ∧ d.x i < 5) ∧ (0 ≤ d.y i ∧ d.y i < 5) ∧ d.x i ≠ d.y i
def ndF (β : BB) (aC aS t1 t2 : Nat) (q : Bool) (U : Sup) : Obj := frD (cond q #[β.d "cells" t1 (.ref aC), β.d "needs" t2 (.ref aS), β.d "x" (U.k 0 3) (U.vv 0), β.d "first" (U.k 0 4) (U.vv 1), β.d "second" (U.k 0 5) (U.vv 2)] #[β.d "cells" t1 (.ref aC), β.d "needs" t2 (.ref aS)]) (U.k 0 1)
def ndlI (β : BB) (fr : List Env) (n0 aT aC aS i : Nat) (cs : Array Value) (eC : Nat) (ks : Array Value) (D : PairsD) (t1 t2 : Nat) (q : Bool) (U : Sup) (Q : Bool) : Inst where
  cu := cu0 (loopC (TT β) 235 0 n0 [] (.ref aT))
  fr := fr
  dep := 470
  un := 4000
  pre := [.o n0 (ndF β aC aS t1 t2 q U), .o aT (liO aC (Int.ofNat i)), .o aC (lsO cs eC), .o aS (lsO ks (U.k 0 0)), D.ent (U.k 0 2)]
  post u := (.ok .next, [.o n0 (ndF β aC aS t1 t2 Q u), .o aS (lsO (u.xs 0) (u.k 0 0)), (PairsD.of u).ent (u.k 0 2)], NdIs (PairsD.of u) (u.k 0 2) 5 (u.xs 0))
def needI (β : BB) (fr : List Env) (aC : Nat) (cs : Array Value) (eC : Nat) : Inst where
  cu := cu0 (.call (.ref 235) ⟨[.ref aC], []⟩)
  fr := fr
  dep := 430
  un := 2500
  pre := [.o aC (lsO cs eC)]
  post u := (.ok (.ret (.ref (u.k 0 8))), [.o (u.k 0 8) (lsO (u.xs 0) (u.k 0 0)), (PairsD.of u).ent (u.k 0 2)], NdIs (PairsD.of u) (u.k 0 2) 5 (u.xs 0))
def noP : PairsD := ⟨fun _ => 0, fun _ => 0, fun _ => 0, fun _ => 0, fun _ => 0⟩
def need_o (β : BB) (fr : List Env) (aC : Nat) (cs : Array Value) (eC : Nat) (n t g : Nat) (X : Led) (Y : GL) (σ : Nat → Sup) : Out := Go (E1 β) (needI β fr aC cs eC) (Hs.h 0x202020303010103010405020301060106060505050100050203030101) (.a (.cv [] [noP.ent 0]) <| .a (.i (ndlI β (fenv (TT β) 235 n [] :: fr) n (n + 2) aC (n + 1) 0 cs eC #[] noP t (t + 1) false (mkK [0, 2, 0] []) true)) (.k fun u _ => .a (.u { u with k := fun i j => (match i with | 0 => (match j with | 8 => n + 1 | j => u.k 0 j) | i => u.k i j) }) .nil)) n t g X Y σ
abbrev need_v (β : BB) (fr : List Env) (aC : Nat) (cs : Array Value) (eC : Nat) (n t g : Nat) (X : Led) (Y : GL) (σ : Nat → Sup) : Prop :=
  (Conv [] [PairsD.ent noP 0]) ∧ Sat (E1 β) (ndlI β (fenv (TT β) (235 : Addr) n [] :: fr) n (n + 2) aC (n + 1) 0 cs eC #[] noP t (t + 1) false (mkK [0, 2, 0] []) true) ∧ ((NdIs (PairsD.of (σ 0)) ((σ 0).k 0 2) 5 ((σ 0).xs 0)) → (NdIs
  (PairsD.of
    (Sup.mk ((σ 0).n) ((σ 0).t) ((σ 0).g) ((σ 0).a) ((σ 0).b) ((σ 0).p) ((σ 0).w) ((σ 0).v) ((σ 0).x) ((σ 0).o)
      (fun i j =>
        match i with
        | 0 =>
          match j with
          | 8 => n + 1
          | j => (σ 0).k 0 j
        | i => (σ 0).k i j)
      ((σ 0).z) ((σ 0).xs) ((σ 0).li) ((σ 0).pr) ((σ 0).tx) ((σ 0).tp) ((σ 0).s) ((σ 0).ds) ((σ 0).vv)))
  ((σ 0).k 0 2) 5 ((σ 0).xs 0)))
theorem need_run (β : BB) (fr : List Env) (aC : Nat) (cs : Array Value) (eC : Nat) (n t g : Nat) (X : Led) (Y : GL) (σ : Nat → Sup) : See (need_o β fr aC cs eC n t g X Y σ) (need_v β fr aC cs eC n t g X Y σ) := by obtain ⟨b1, b2, b3, w0⟩ := β; cases b3 <;> kernel_rfl
def ndE_o (β : BB) (fr : List Env) (n0 aT aC aS i : Nat) (cs : Array Value) (eC : Nat) (ks : Array Value) (D : PairsD) (t1 t2 : Nat) (q : Bool) (U : Sup) (n t g : Nat) (X : Led) (Y : GL) (σ : Nat → Sup) : Out := Go (E1 β) (ndlI β fr n0 aT aC aS i cs eC ks D t1 t2 q U q) (Hs.h 0x50505030401030302021304) (.a (.b false) (.a (.u (D.sup U ks)) .nil)) n t g X Y σ
abbrev ndE_v (β : BB) (fr : List Env) (n0 aT aC aS i : Nat) (cs : Array Value) (eC : Nat) (ks : Array Value) (D : PairsD) (t1 t2 : Nat) (q : Bool) (U : Sup) (n t g : Nat) (X : Led) (Y : GL) (σ : Nat → Sup) : Prop :=
  (cs[Int.toNat (Int.ofNat i)]? = none) ∧ (NdIs (PairsD.of (PairsD.sup D U ks)) (Sup.k U 0 2) 5 ks)
theorem ndE_run (β : BB) (fr : List Env) (n0 aT aC aS i : Nat) (cs : Array Value) (eC : Nat) (ks : Array Value) (D : PairsD) (t1 t2 : Nat) (q : Bool) (U : Sup) (n t g : Nat) (X : Led) (Y : GL) (σ : Nat → Sup) : See (ndE_o β fr n0 aT aC aS i cs eC ks D t1 t2 q U n t g X Y σ) (ndE_v β fr n0 aT aC aS i cs eC ks D t1 t2 q U n t g X Y σ) := by obtain ⟨b1, b2, b3, w0⟩ := β; cases q <;> cases b3 <;> kernel_rfl
def ndN_o (β : BB) (fr : List Env) (n0 aT aC aS i : Nat) (cs : Array Value) (eC : Nat) (ks : Array Value) (D : PairsD) (t1 t2 : Nat) (q : Bool) (U : Sup) (Q : Bool) (x : Int) (tx : Nat) (n t g : Nat) (X : Led) (Y : GL) (σ : Nat → Sup) : Out := Go (E1 β) (ndlI β fr n0 aT aC aS i cs eC ks D t1 t2 q U Q) (Hs.h 0x30303030302021304) (.a (.v (.int x tx)) (.k fun _ w1 => .sp ((Int.fmod x 5) = (Int.fmod (Int.fdiv x 5) 5)) (Hs.h 0x1010101040101010101050200090303000903030303010101010303030101) (.a (.b false) <| .a (.b false) <| .a (.i (ndlI β fr n0 aT aC aS (i + 1) cs eC ks D t1 t2 true (mkK [U.k 0 0, cond q (U.k 0 1) (U.k 0 1 + 3), U.k 0 2, cond q (U.k 0 3) w1.t, cond q (U.k 0 4) (w1.t + 3), cond q (U.k 0 5) (w1.t + 8)] [.int x tx, .int (Int.fmod x 5) (w1.t + 2), .int (Int.fmod (Int.fdiv x 5) 5) (w1.t + 7)]) Q)) (.k fun u _ => .a (.u u) .nil)) (Hs.h 0x303000903030303010101010303030101) (.a (.b true) <| .sp (Int.fmod (Int.fdiv x 25) 4 = 3) (Hs.h 0x101010104010202020205020501140501020503030606060603000801010101) (.a (.b true) (.k fun _ w3 => .a (.cv [.o w3.n (tpO #[.int (Int.fmod x 5) (w1.t + 2), .int (Int.fmod (Int.fdiv x 5) 5) (w1.t + 7)]), D.ent (U.k 0 2)] [(D.snoc (U.k 0 2) w3.n (Int.fmod x 5) (Int.fmod (Int.fdiv x 5) 5) (w1.t + 2) (w1.t + 7)).ent (U.k 0 2 + 1)]) <| .a (.i (ndlI β fr n0 aT aC aS (i + 1) cs eC (ks.push (.ref w3.n)) (D.snoc (U.k 0 2) w3.n (Int.fmod x 5) (Int.fmod (Int.fdiv x 5) 5) (w1.t + 2) (w1.t + 7)) t1 t2 true (mkK [U.k 0 0 + 1, cond q (U.k 0 1) (U.k 0 1 + 3), U.k 0 2 + 1, cond q (U.k 0 3) w1.t, cond q (U.k 0 4) (w1.t + 3), cond q (U.k 0 5) (w1.t + 8)] [.int x tx, .int (Int.fmod x 5) (w1.t + 2), .int (Int.fmod (Int.fdiv x 5) 5) (w1.t + 7)]) Q)) (.k fun u _ => .a (.u u) .nil))) (Hs.h 0x303030101060606060300090303000801010101) (.a (.b false) <| .a (.b true) <| .sp ((Int.fmod (Int.fdiv x 5) 5) < (Int.fmod x 5)) (Hs.h 0xb01010104010c0c0c0c05020f01140f0102050505050303020219040301030303000a03020219040301030303030202190403010301030103030101080801010505050303020219040301000c03020219040301030303030202190403010301030103030101) (.a (.v (.int (Int.fmod x 5) (w1.t + 2))) <| .a (.v (.int (Int.fmod (Int.fdiv x 5) 5) (w1.t + 7))) <| .a (.b false) <| .a (.b false) <| .a (.v (.int (Int.fmod x 5) (w1.t + 2))) <| .a (.v (.int (Int.fmod (Int.fdiv x 5) 5) (w1.t + 7))) <| .a (.b true) <| .a (.b false) (.k fun _ w5 => .a (.cv [.o w5.n (tpO #[.int (Int.fmod x 5) (w1.t + 2), .int (Int.fmod (Int.fdiv x 5) 5) (w1.t + 7)]), D.ent (U.k 0 2)] [(D.snoc (U.k 0 2) w5.n (Int.fmod x 5) (Int.fmod (Int.fdiv x 5) 5) (w1.t + 2) (w1.t + 7)).ent (U.k 0 2 + 1)]) <| .a (.i (ndlI β fr n0 aT aC aS (i + 1) cs eC (ks.push (.ref w5.n)) (D.snoc (U.k 0 2) w5.n (Int.fmod x 5) (Int.fmod (Int.fdiv x 5) 5) (w1.t + 2) (w1.t + 7)) t1 t2 true (mkK [U.k 0 0 + 1, cond q (U.k 0 1) (U.k 0 1 + 3), U.k 0 2 + 1, cond q (U.k 0 3) w1.t, cond q (U.k 0 4) (w1.t + 3), cond q (U.k 0 5) (w1.t + 8)] [.int x tx, .int (Int.fmod x 5) (w1.t + 2), .int (Int.fmod (Int.fdiv x 5) 5) (w1.t + 7)]) Q)) (.k fun u _ => .a (.u u) .nil))) (Hs.h 0xb01010104010c0c0c0c05020f01140f0102050505050303020219040301000a03020219040301030303030202190403010301030103030101080801010505050303020219040301030303000c03020219040301030303030202190403010301030103030101) (.a (.v (.int (Int.fmod x 5) (w1.t + 2))) <| .a (.v (.int (Int.fmod (Int.fdiv x 5) 5) (w1.t + 7))) <| .a (.b true) <| .a (.b false) <| .a (.v (.int (Int.fmod x 5) (w1.t + 2))) <| .a (.v (.int (Int.fmod (Int.fdiv x 5) 5) (w1.t + 7))) <| .a (.b false) <| .a (.b false) (.k fun _ w5 => .a (.cv [.o w5.n (tpO #[.int (Int.fmod (Int.fdiv x 5) 5) (w1.t + 7), .int (Int.fmod x 5) (w1.t + 2)]), D.ent (U.k 0 2)] [(D.snoc (U.k 0 2) w5.n (Int.fmod (Int.fdiv x 5) 5) (Int.fmod x 5) (w1.t + 7) (w1.t + 2)).ent (U.k 0 2 + 1)]) <| .a (.i (ndlI β fr n0 aT aC aS (i + 1) cs eC (ks.push (.ref w5.n)) (D.snoc (U.k 0 2) w5.n (Int.fmod (Int.fdiv x 5) 5) (Int.fmod x 5) (w1.t + 7) (w1.t + 2)) t1 t2 true (mkK [U.k 0 0 + 1, cond q (U.k 0 1) (U.k 0 1 + 3), U.k 0 2 + 1, cond q (U.k 0 3) w1.t, cond q (U.k 0 4) (w1.t + 3), cond q (U.k 0 5) (w1.t + 8)] [.int x tx, .int (Int.fmod x 5) (w1.t + 2), .int (Int.fmod (Int.fdiv x 5) 5) (w1.t + 7)]) Q)) (.k fun u _ => .a (.u u) .nil))))))) n t g X Y σ
abbrev ndN_v (β : BB) (fr : List Env) (n0 aT aC aS i : Nat) (cs : Array Value) (eC : Nat) (ks : Array Value) (D : PairsD) (t1 t2 : Nat) (q : Bool) (U : Sup) (Q : Bool) (x : Int) (tx : Nat) (n t g : Nat) (X : Led) (Y : GL) (σ : Nat → Sup) : Prop :=
  (cs[Int.toNat (Int.ofNat i)]? = some (Value.int x tx)) ∧ (((Int.fmod x 5 = Int.fmod (Int.fdiv x 5) 5) → (yesNo false (Int.fmod x 5 = Int.fmod (Int.fdiv x 5) 5 → False)) ∧ (yesNo false (Int.fmod x 5 = Int.fmod (Int.fdiv x 5) 5 → False)) ∧ Sat (E1 β) (ndlI β fr n0 aT aC aS (i + 1) cs eC ks D t1 t2 true (mkK [Sup.k U 0 0, bif q then Sup.k U 0 1 else Sup.k U 0 1 + 3, Sup.k U 0 2, bif q then Sup.k U 0 3 else (σ 1).t, bif q then Sup.k U 0 4 else (σ 1).t + 3, bif q then Sup.k U 0 5 else (σ 1).t + 8] [Value.int x tx, Value.int (Int.fmod x 5) ((σ 1).t + (2 : Tok)), Value.int (Int.fmod (Int.fdiv x 5) 5) ((σ 1).t + (7 : Tok))]) Q) ∧ ((NdIs (PairsD.of (σ 6)) ((σ 6).k 0 2) 5 ((σ 6).xs 0)) → (NdIs (PairsD.of (σ 6)) ((σ 6).k 0 2) 5 ((σ 6).xs 0)))) ∧ (¬ (Int.fmod x 5 = Int.fmod (Int.fdiv x 5) 5) → (yesNo true (Int.fmod x 5 = Int.fmod (Int.fdiv x 5) 5 → False)) ∧ (((Int.fmod (Int.fdiv x 25) 4 = 3) → (yesNo true (Int.fmod (Int.fdiv x 25) 4 = 3)) ∧ (Conv [Ent.o ((σ 5).n) (tpO #[Value.int (Int.fmod x 5) ((σ 1).2 + 2), Value.int (Int.fmod (Int.fdiv x 5) 5) ((σ 1).2 + 7)]), PairsD.ent D (Sup.k U 0 2)] [PairsD.ent (PairsD.snoc D (Sup.k U 0 2) ((σ 5).n) (Int.fmod x 5) (Int.fmod (Int.fdiv x 5) 5) ((σ 1).t + 2) ((σ 1).t + 7)) (Sup.k U 0 2 + 1)]) ∧ (Array.size ks ≤ BIG) ∧ Sat (E1 β) (ndlI β fr n0 aT aC aS (i + 1) cs eC (Array.push ks (Value.ref ((σ 5).n))) (PairsD.snoc D (Sup.k U 0 2) ((σ 5).n) (Int.fmod x 5) (Int.fmod (Int.fdiv x 5) 5) ((σ 1).t + 2) ((σ 1).t + 7)) t1 t2 true (mkK [Sup.k U 0 0 + 1, bif q then Sup.k U 0 1 else Sup.k U 0 1 + 3, Sup.k U 0 2 + 1, bif q then Sup.k U 0 3 else (σ 1).t, bif q then Sup.k U 0 4 else (σ 1).t + 3, bif q then Sup.k U 0 5 else (σ 1).t + 8] [Value.int x tx, Value.int (Int.fmod x 5) ((σ 1).t + (2 : Tok)), Value.int (Int.fmod (Int.fdiv x 5) 5) ((σ 1).t + (7 : Tok))]) Q) ∧ ((NdIs (PairsD.of (σ 8)) ((σ 8).k 0 2) 5 ((σ 8).xs 0)) → (NdIs (PairsD.of (σ 8)) ((σ 8).k 0 2) 5 ((σ 8).xs 0)))) ∧ (¬ (Int.fmod (Int.fdiv x 25) 4 = 3) → (yesNo false (Int.fmod (Int.fdiv x 25) 4 = 3)) ∧ (yesNo true (Int.fmod x 5 = Int.fmod (Int.fdiv x 5) 5 → False)) ∧ (((Int.fmod (Int.fdiv x 5) 5 < Int.fmod x 5) → ((List.toArray (Value.int (Int.fmod x 5) ((σ 1).2 + 2) :: List.rec ([Value.int (Int.fmod (Int.fdiv x 5) 5) ((σ 1).2 + 7)] ++ []) (fun a x ih => a :: ih) []))[Int.toNat 0]? = some (Value.int (Int.fmod x 5) ((σ 1).2 + 2))) ∧ ((List.toArray (Value.int (Int.fmod x 5) ((σ 1).2 + 2) :: List.rec ([Value.int (Int.fmod (Int.fdiv x 5) 5) ((σ 1).2 + 7)] ++ []) (fun a x ih => a :: ih) []))[Int.toNat (0 + 1)]? = some (Value.int (Int.fmod (Int.fdiv x 5) 5) ((σ 1).2 + 7))) ∧ (yesNo false (Int.NonNeg (Int.fmod (Int.fdiv x 5) 5 - (Int.fmod x 5 + 1)))) ∧ ((List.toArray (Value.int (Int.fmod x 5) ((σ 1).2 + 2) :: List.rec ([Value.int (Int.fmod (Int.fdiv x 5) 5) ((σ 1).2 + 7)] ++ []) (fun a x ih => a :: ih) []))[Int.toNat (0 + 1 + 1)]? = none) ∧ ((List.toArray (Value.int (Int.fmod x 5) ((σ 1).2 + 2) :: List.rec ([Value.int (Int.fmod (Int.fdiv x 5) 5) ((σ 1).2 + 7)] ++ []) (fun a x ih => a :: ih) []))[Int.toNat 0]? = some (Value.int (Int.fmod x 5) ((σ 1).2 + 2))) ∧ ((List.toArray (Value.int (Int.fmod x 5) ((σ 1).2 + 2) :: List.rec ([Value.int (Int.fmod (Int.fdiv x 5) 5) ((σ 1).2 + 7)] ++ []) (fun a x ih => a :: ih) []))[Int.toNat (0 + 1)]? = some (Value.int (Int.fmod (Int.fdiv x 5) 5) ((σ 1).2 + 7))) ∧ (yesNo true (Int.NonNeg (Int.fmod x 5 - (Int.fmod (Int.fdiv x 5) 5 + 1)))) ∧ ((List.toArray (Value.int (Int.fmod x 5) ((σ 1).2 + 2) :: List.rec ([Value.int (Int.fmod (Int.fdiv x 5) 5) ((σ 1).2 + 7)] ++ []) (fun a x ih => a :: ih) []))[Int.toNat (0 + 1 + 1)]? = none) ∧ (Conv [Ent.o ((σ 23).n) (tpO #[Value.int (Int.fmod x 5) ((σ 1).2 + 2), Value.int (Int.fmod (Int.fdiv x 5) 5) ((σ 1).2 + 7)]), PairsD.ent D (Sup.k U 0 2)] [PairsD.ent (PairsD.snoc D (Sup.k U 0 2) ((σ 23).n) (Int.fmod x 5) (Int.fmod (Int.fdiv x 5) 5) ((σ 1).t + 2) ((σ 1).t + 7)) (Sup.k U 0 2 + 1)]) ∧ (Array.size ks ≤ BIG) ∧ Sat (E1 β) (ndlI β fr n0 aT aC aS (i + 1) cs eC (Array.push ks (Value.ref ((σ 23).n))) (PairsD.snoc D (Sup.k U 0 2) ((σ 23).n) (Int.fmod x 5) (Int.fmod (Int.fdiv x 5) 5) ((σ 1).t + 2) ((σ 1).t + 7)) t1 t2 true (mkK [Sup.k U 0 0 + 1, bif q then Sup.k U 0 1 else Sup.k U 0 1 + 3, Sup.k U 0 2 + 1, bif q then Sup.k U 0 3 else (σ 1).t, bif q then Sup.k U 0 4 else (σ 1).t + 3, bif q then Sup.k U 0 5 else (σ 1).t + 8] [Value.int x tx, Value.int (Int.fmod x 5) ((σ 1).t + (2 : Tok)), Value.int (Int.fmod (Int.fdiv x 5) 5) ((σ 1).t + (7 : Tok))]) Q) ∧ ((NdIs (PairsD.of (σ 26)) ((σ 26).k 0 2) 5 ((σ 26).xs 0)) → (NdIs (PairsD.of (σ 26)) ((σ 26).k 0 2) 5 ((σ 26).xs 0)))) ∧ (¬ (Int.fmod (Int.fdiv x 5) 5 < Int.fmod x 5) → ((List.toArray (Value.int (Int.fmod x 5) ((σ 1).2 + 2) :: List.rec ([Value.int (Int.fmod (Int.fdiv x 5) 5) ((σ 1).2 + 7)] ++ []) (fun a x ih => a :: ih) []))[Int.toNat 0]? = some (Value.int (Int.fmod x 5) ((σ 1).2 + 2))) ∧ ((List.toArray (Value.int (Int.fmod x 5) ((σ 1).2 + 2) :: List.rec ([Value.int (Int.fmod (Int.fdiv x 5) 5) ((σ 1).2 + 7)] ++ []) (fun a x ih => a :: ih) []))[Int.toNat (0 + 1)]? = some (Value.int (Int.fmod (Int.fdiv x 5) 5) ((σ 1).2 + 7))) ∧ (yesNo true (Int.NonNeg (Int.fmod (Int.fdiv x 5) 5 - (Int.fmod x 5 + 1)))) ∧ ((List.toArray (Value.int (Int.fmod x 5) ((σ 1).2 + 2) :: List.rec ([Value.int (Int.fmod (Int.fdiv x 5) 5) ((σ 1).2 + 7)] ++ []) (fun a x ih => a :: ih) []))[Int.toNat (0 + 1 + 1)]? = none) ∧ ((List.toArray (Value.int (Int.fmod x 5) ((σ 1).2 + 2) :: List.rec ([Value.int (Int.fmod (Int.fdiv x 5) 5) ((σ 1).2 + 7)] ++ []) (fun a x ih => a :: ih) []))[Int.toNat 0]? = some (Value.int (Int.fmod x 5) ((σ 1).2 + 2))) ∧ ((List.toArray (Value.int (Int.fmod x 5) ((σ 1).2 + 2) :: List.rec ([Value.int (Int.fmod (Int.fdiv x 5) 5) ((σ 1).2 + 7)] ++ []) (fun a x ih => a :: ih) []))[Int.toNat (0 + 1)]? = some (Value.int (Int.fmod (Int.fdiv x 5) 5) ((σ 1).2 + 7))) ∧ (yesNo false (Int.NonNeg (Int.fmod x 5 - (Int.fmod (Int.fdiv x 5) 5 + 1)))) ∧ ((List.toArray (Value.int (Int.fmod x 5) ((σ 1).2 + 2) :: List.rec ([Value.int (Int.fmod (Int.fdiv x 5) 5) ((σ 1).2 + 7)] ++ []) (fun a x ih => a :: ih) []))[Int.toNat (0 + 1 + 1)]? = none) ∧ (Conv [Ent.o ((σ 23).n) (tpO #[Value.int (Int.fmod (Int.fdiv x 5) 5) ((σ 1).2 + 7), Value.int (Int.fmod x 5) ((σ 1).2 + 2)]), PairsD.ent D (Sup.k U 0 2)] [PairsD.ent (PairsD.snoc D (Sup.k U 0 2) ((σ 23).n) (Int.fmod (Int.fdiv x 5) 5) (Int.fmod x 5) ((σ 1).t + 7) ((σ 1).t + 2)) (Sup.k U 0 2 + 1)]) ∧ (Array.size ks ≤ BIG) ∧ Sat (E1 β) (ndlI β fr n0 aT aC aS (i + 1) cs eC (Array.push ks (Value.ref ((σ 23).n))) (PairsD.snoc D (Sup.k U 0 2) ((σ 23).n) (Int.fmod (Int.fdiv x 5) 5) (Int.fmod x 5) ((σ 1).t + 7) ((σ 1).t + 2)) t1 t2 true (mkK [Sup.k U 0 0 + 1, bif q then Sup.k U 0 1 else Sup.k U 0 1 + 3, Sup.k U 0 2 + 1, bif q then Sup.k U 0 3 else (σ 1).t, bif q then Sup.k U 0 4 else (σ 1).t + 3, bif q then Sup.k U 0 5 else (σ 1).t + 8] [Value.int x tx, Value.int (Int.fmod x 5) ((σ 1).t + (2 : Tok)), Value.int (Int.fmod (Int.fdiv x 5) 5) ((σ 1).t + (7 : Tok))]) Q) ∧ ((NdIs (PairsD.of (σ 26)) ((σ 26).k 0 2) 5 ((σ 26).xs 0)) → (NdIs (PairsD.of (σ 26)) ((σ 26).k 0 2) 5 ((σ 26).xs 0)))))))))
theorem ndN_run (β : BB) (fr : List Env) (n0 aT aC aS i : Nat) (cs : Array Value) (eC : Nat) (ks : Array Value) (D : PairsD) (t1 t2 : Nat) (q : Bool) (U : Sup) (Q : Bool) (x : Int) (tx : Nat) (n t g : Nat) (X : Led) (Y : GL) (σ : Nat → Sup) : See (ndN_o β fr n0 aT aC aS i cs eC ks D t1 t2 q U Q x tx n t g X Y σ) (ndN_v β fr n0 aT aC aS i cs eC ks D t1 t2 q U Q x tx n t g X Y σ) := by obtain ⟨b1, b2, b3, w0⟩ := β; cases q <;> cases b3 <;> kernel_rfl
end
theorem NdIs.snoc {d : PairsD} {n k : Nat} {ks : Array Value} (h : NdIs d n k ks) (a : Nat) {x y : Int} (tx ty : Nat) (hx : 0 ≤ x ∧ x < 5) (hy : 0 ≤ y ∧ y < 5) (hn : x ≠ y) : NdIs (d.snoc n a x y tx ty) (n + 1) (k + 1) (ks.push (.ref a)) := by
  refine ⟨Nat.succ_le_succ h.1, ?_, fun i hi => ?_⟩
  · rw [h.2.1]; exact (refsN_snoc (fun i hi => upd_ne (Nat.ne_of_lt hi)) (upd_eq ..)).symm
  · show (0 ≤ upd d.x n x i ∧ upd d.x n x i < 5) ∧ (0 ≤ upd d.y n y i ∧ upd d.y n y i < 5) ∧ upd d.x n x i ≠ upd d.y n y i
    by_cases e : i = n
    · rw [e, upd_eq, upd_eq]; exact ⟨hx, hy, hn⟩
    · rw [upd_ne e, upd_ne e]; exact h.2.2 i (by omega)
theorem nd_sat {β : BB} (fr : List Env) {n0 aT aC aS eC t1 t2 : Nat} {cs : Array Value} {cl : List Int} (hc : IntsOf cs cl) (hl : cl.length = 5) : ∀ (k i : Nat) (ks : Array Value) (D : PairsD) (q : Bool) (U : Sup), i + k = 5 → NdIs D (U.k 0 2) i ks → Sat (E1 β) (ndlI β fr n0 aT aC aS i cs eC ks D t1 t2 q U (q || decide (0 < k))) := by
  intro k
  induction k with
  | zero =>
    intro i ks D q U hi h
    obtain rfl : i = 5 := hi
    rw [show (q || decide (0 < 0)) = q from Bool.or_false q]
    exact sat_of (fun n t g X Y σ => ndE_run β fr n0 aT aC aS 5 cs eC ks D t1 t2 q U n t g X Y σ) fun n t g X Y σ => ⟨hc.end (Nat.le_of_eq hl), h⟩
  | succ k ih =>
    intro i ks D q U hi h
    obtain ⟨x, hx⟩ : ∃ x, cl[i]? = some x := ⟨_, List.getElem?_eq_getElem (by omega)⟩
    obtain ⟨tx, hx⟩ := hc.at hx
    have hk : ks.size ≤ BIG := by rw [h.2.1, refsN_size]; exact Nat.le_trans (Nat.le_trans h.1 (by omega : i ≤ 5)) (by decide)
    have A := mod_lt x (m := 5) (by decide)
    have B := mod_lt (Int.fdiv x 5) (m := 5) (by decide)
    rw [show (q || decide (0 < k + 1)) = (true || decide (0 < k)) by rw [decide_eq_true (Nat.succ_pos k), Bool.or_true, Bool.true_or]]
    have add := fun (a : Nat) {y z : Int} (ty tz : Nat) (hy : 0 ≤ y ∧ y < 5) (hz : 0 ≤ z ∧ z < 5) (hn : y ≠ z) (U' : Sup) (hU : U'.k 0 2 = U.k 0 2 + 1) => ih (i + 1) (ks.push (.ref a)) (D.snoc (U.k 0 2) a y z ty tz) true U' (by omega) (hU ▸ h.snoc a ty tz hy hz hn)
    refine sat_of (fun n t g X Y σ => ndN_run β fr n0 aT aC aS i cs eC ks D t1 t2 q U _ x tx n t g X Y σ) fun n t g X Y σ => ⟨hx, fun h1 => ⟨fun h => h h1, fun h => h h1, ih (i + 1) ks D true _ (by omega) ⟨Nat.le_succ_of_le h.1, h.2⟩, id⟩, fun h1 => ⟨h1, fun h2 => ⟨h2, D.conv .., hk, add _ _ _ A B h1 _ rfl, id⟩, fun h2 => ⟨h2, h1, fun h3 => ⟨rfl, rfl, ?_, rfl, rfl, rfl, h3, rfl, D.conv .., hk, add _ _ _ A B h1 _ rfl, id⟩, fun h3 => ⟨rfl, rfl, ?_, rfl, rfl, rfl, ?_, rfl, D.conv .., hk, add _ _ _ B A (Ne.symm h1) _ rfl, id⟩⟩⟩⟩
    · intro h; exact Int.lt_asymm h3 h
    · exact Int.lt_iff_le_and_ne.mpr ⟨Int.not_lt.mp h3, h1⟩
    · intro h; exact h3 h
theorem need_sat {β : BB} (fr : List Env) {aC eC : Nat} {cs : Array Value} {cl : List Int} (hc : IntsOf cs cl) (hl : cl.length = 5) : Sat (E1 β) (needI β fr aC cs eC) :=
  sat_of (fun n t g X Y σ => need_run β fr aC cs eC n t g X Y σ) fun n t g X Y σ => ⟨⟨.refl _, rfl⟩, nd_sat _ hc hl 5 0 #[] noP false _ rfl ⟨Nat.le_refl 0, rfl, fun i h => absurd h (Nat.not_lt_zero i)⟩, id⟩
theorem StrsOf.nil : StrsOf #[] [] := rfl
theorem StrsOf.push {xs : Array Value} {l : List Str} (h : StrsOf xs l) (z : Str) (t : Nat) : StrsOf (xs.push (.str z t)) (l ++ [z]) := by
  unfold StrsOf at h ⊢
  rw [Array.toList_push, List.map_append, List.map_append, h]; rfl
theorem StrsOf.len {xs : Array Value} {l : List Str} (h : StrsOf xs l) : xs.size = l.length := by
  have := congrArg List.length h
  rw [List.length_map, List.length_map] at this
  exact this
theorem StrsOf.at {xs : Array Value} {l : List Str} (h : StrsOf xs l) {i : Nat} {z : Str} (hz : l[i]? = some z) : ∃ t, xs[i]? = some (.str z t) := by
  have h1 : (xs.toList.map ofStr)[i]? = some (some z) := by rw [show xs.toList.map ofStr = l.map some from h, List.getElem?_map, hz]; rfl
  rw [List.getElem?_map] at h1
  obtain ⟨x, hx, e⟩ := Option.map_eq_some_iff.mp h1
  cases x <;> cases e
  exact ⟨_, by rw [← Array.getElem?_toList]; exact hx⟩
theorem StrsOf.end {xs : Array Value} {l : List Str} (h : StrsOf xs l) {i : Nat} (hz : l.length ≤ i) : xs[i]? = none := by
  rw [Array.getElem?_eq_none_iff, h.len]; exact hz
theorem StrsOf.app {xs ys : Array Value} {l m : List Str} (h : StrsOf xs l) (h' : StrsOf ys m) : StrsOf (xs ++ ys) (l ++ m) := by
  unfold StrsOf at h h' ⊢
  rw [Array.toList_append, List.map_append, List.map_append, h, h']
structure SEn where
  v : Nat
  i : Nat
inductive Way (succ : Nat → List Nat) : Nat → Nat → Prop
  | one {u v : Nat} : v ∈ succ u → Way succ u v
  | more {u v w : Nat} : v ∈ succ u → Way succ v w → Way succ u w
theorem Way.trans {succ : Nat → List Nat} {u v w : Nat} (h : Way succ u v) (h' : Way succ v w) : Way succ u w := by
  induction h with
  | one e => exact .more e h'
  | more e _ ih => exact .more e (ih h')
def Topo (succ : Nat → List Nat) : List Nat → Prop
  | [] => True
  | v :: l => (∀ y ∈ succ v, y ∈ l) ∧ Topo succ l
theorem Topo.way {succ : Nat → List Nat} : ∀ {l : List Nat} {u v : Nat}, Topo succ l → u ∈ l → Way succ u v → v ∈ l := by
  intro l
  induction l with
  | nil => intro u v _ h; cases h
  | cons x l ih =>
    intro u v ht hu hw
    induction hw with
    | one e =>
      rename_i u v
      rcases List.mem_cons.mp hu with rfl | hu
      · exact .tail _ (ht.1 _ e)
      · exact .tail _ (ih ht.2 hu (.one e))
    | more e hw' ih2 =>
      rename_i u v w
      rcases List.mem_cons.mp hu with rfl | hu
      · exact .tail _ (ih ht.2 (ht.1 _ e) hw')
      · exact .tail _ (ih ht.2 hu (.more e hw'))
theorem Topo.no_ring {succ : Nat → List Nat} : ∀ {l : List Nat} {u : Nat}, Topo succ l → u ∈ l → ¬ Way succ u u := by
  intro l
  induction l with
  | nil => intro u _ h; cases h
  | cons x l ih =>
    intro u ht hu hw
    by_cases hul : u ∈ l
    · exact ih ht.2 hul hw
    · rcases List.mem_cons.mp hu with rfl | hu
      · cases hw with
        | one e => exact hul (ht.1 _ e)
        | more e hw' => exact hul (Topo.way ht.2 (ht.1 _ e) hw')
      · exact hul hu
def Ch (succ : Nat → List Nat) (fin : List Nat) : List SEn → Nat → Prop
  | [], _ => True
  | e :: l, z => ∃ k, e.i = k + 1 ∧ (succ e.v)[k]? = some z ∧ (∀ j y, j < k → (succ e.v)[j]? = some y → y ∈ fin) ∧ Ch succ fin l e.v
def Dn (succ : Nat → List Nat) (fin : List Nat) : List SEn → Prop
  | [] => True
  | e :: l => (∀ j y, j < e.i → (succ e.v)[j]? = some y → y ∈ fin) ∧ Ch succ fin l e.v
theorem Ch.mono {succ : Nat → List Nat} {fin fin' : List Nat} (h : ∀ v ∈ fin, v ∈ fin') : ∀ {l : List SEn} {z : Nat}, Ch succ fin l z → Ch succ fin' l z := by
  intro l
  induction l with
  | nil => intro z _; trivial
  | cons e l ih =>
    rintro z ⟨k, h1, h2, h3, h4⟩
    exact ⟨k, h1, h2, fun j y hj hy => h _ (h3 j y hj hy), ih h4⟩
theorem Ch.done {succ : Nat → List Nat} {fin : List Nat} {l : List SEn} {z : Nat} (h : Ch succ fin l z) (hz : z ∈ fin) : Dn succ fin l := by
  cases l with
  | nil => trivial
  | cons e l =>
    obtain ⟨k, h1, h2, h3, h4⟩ := h
    refine ⟨fun j y hj hy => ?_, h4⟩
    rcases Nat.lt_or_ge j k with hjk | hjk
    · exact h3 j y hjk hy
    · have : j = k := by omega
      subst this
      rw [h2] at hy
      cases hy
      exact hz
theorem Ch.ring {succ : Nat → List Nat} {fin : List Nat} : ∀ {l : List SEn} {z : Nat}, Ch succ fin l z → ∀ e ∈ l, Way succ e.v z := by
  intro l
  induction l with
  | nil => intro z _ e he; cases he
  | cons e l ih =>
    rintro z ⟨k, h1, h2, h3, h4⟩ q hq
    have he : Way succ e.v z := .one (List.mem_of_getElem? h2)
    rcases List.mem_cons.mp hq with rfl | hq
    · exact he
    · exact (ih h4 q hq).trans he
theorem Dn.pops {succ : Nat → List Nat} : ∀ (p : List SEn) {l : List SEn} {fin : List Nat}, Dn succ fin (p ++ l) → (∀ q ∈ p, (succ q.v)[q.i]? = none) → Topo succ fin →
    Topo succ ((p.map SEn.v).reverse ++ fin) ∧ Dn succ ((p.map SEn.v).reverse ++ fin) l := by
  intro p
  induction p with
  | nil => intro l fin h _ ht; exact ⟨ht, h⟩
  | cons e p ih =>
    intro l fin h hx ht
    obtain ⟨h1, h2⟩ := h
    have hall : ∀ y ∈ succ e.v, y ∈ fin := fun y hy => by
      obtain ⟨j, hj, he⟩ := List.getElem_of_mem hy
      have hex := hx e (by simp)
      rw [List.getElem?_eq_none_iff] at hex
      exact h1 j y (by omega) (by rw [List.getElem?_eq_getElem hj, he])
    have := ih (l := l) (fin := e.v :: fin) ((Ch.mono (fun v hv => List.mem_cons_of_mem _ hv) h2).done List.mem_cons_self) (fun q hq => hx q (by simp [hq])) ⟨hall, ht⟩
    rw [List.map_cons, List.reverse_cons, List.append_assoc]
    exact this
theorem Dn.next {succ : Nat → List Nat} {fin : List Nat} {e : SEn} {l : List SEn} {y : Nat} (h : Dn succ fin (e :: l)) (hy : (succ e.v)[e.i]? = some y) : Ch succ fin ({ e with i := e.i + 1 } :: l) y :=
  ⟨e.i, rfl, hy, fun j z hj hz => h.1 j z hj hz, h.2⟩
theorem Ch.push {succ : Nat → List Nat} {fin : List Nat} {e : SEn} {l : List SEn} (h : Ch succ fin l e.v) (hi : e.i = 0) : Dn succ fin (e :: l) := ⟨fun j y hj _ => by omega, h⟩
def rest (succ : Nat → List Nat) (stk : List SEn) : Nat := (stk.map fun e => 2 * ((succ e.v).length - e.i) + 1).sum
def todo (succ : Nat → List Nat) (seen : Nat → Bool) (nodes : List Nat) : Nat := ((nodes.filter fun v => !seen v).map fun v => 2 * (succ v).length + 2).sum
theorem rest_app (succ : Nat → List Nat) (a b : List SEn) : rest succ (a ++ b) = rest succ a + rest succ b := by
  unfold rest; rw [List.map_append, List.sum_append]
theorem todo_less {succ : Nat → List Nat} {seen : Nat → Bool} : ∀ {l : List Nat} {z : Nat}, z ∈ l → seen z = false → todo succ (fun k => seen k || decide (k = z)) l + (2 * (succ z).length + 2) ≤ todo succ seen l := by
  intro l
  induction l with
  | nil => intro z h; cases h
  | cons x l ih =>
    intro z hz hs
    have mono : todo succ (fun k => seen k || decide (k = z)) l ≤ todo succ seen l := by
      by_cases hzl : z ∈ l
      · have := ih hzl hs; omega
      · have : (l.filter fun v => !(seen v || decide (v = z))) = l.filter fun v => !seen v := by
          refine List.filter_congr fun v hv => ?_
          have : v ≠ z := fun e => hzl (e ▸ hv)
          simp [this]
        unfold todo
        rw [this]
        exact Nat.le_refl _
    by_cases hx : x = z
    · subst hx
      unfold todo at mono ⊢
      dsimp only at mono ⊢
      simp only [List.filter_cons, hs, decide_true, Bool.or_true, Bool.not_true, Bool.false_eq_true, if_false, Bool.not_false, if_true, List.map_cons, List.sum_cons]
      omega
    · rcases List.mem_cons.mp hz with rfl | hz
      · exact absurd rfl hx
      · have := ih hz hs
        unfold todo at this ⊢
        dsimp only at this ⊢
        cases hq : seen x <;> simp [List.filter_cons, hq, hx] at this ⊢ <;> omega
def SeenIs (seen : Nat → Bool) (fin : List Nat) (stk : List SEn) : Prop := ∀ v, seen v = true ↔ v ∈ fin ∨ v ∈ stk.map SEn.v
theorem len_sub : ∀ {l m : List Nat}, l.Nodup → (∀ v ∈ l, v ∈ m) → l.length ≤ m.length := by
  intro l
  induction l with
  | nil => intro m _ _; simp
  | cons x l ih =>
    intro m hn hs
    have h1 := (List.nodup_cons.mp hn).1
    have hx := hs x List.mem_cons_self
    have := ih (m := m.erase x) (List.nodup_cons.mp hn).2 fun v hv => (List.mem_erase_of_ne (fun (e : v = x) => h1 (by rw [← e]; exact hv))).mpr (hs v (.tail _ hv))
    rw [List.length_erase_of_mem hx] at this
    have : 0 < m.length := List.length_pos_of_mem hx
    simp only [List.length_cons]
    omega
theorem ofStr_some {v : Value} {k : Str} (h : ofStr v = some k) : ∃ t, v = .str k t := by
  unfold ofStr at h
  split at h
  · cases h; exact ⟨_, rfl⟩
  · cases h
theorem isStr_iff {y : Str} {v : Value} : Value.isStrOf y v = true ↔ ofStr v = some y := by
  cases v <;> simp [Value.isStrOf, ofStr]
theorem last_split {α β : Type} {f : α → β} {l : List α} {k : List β} {b : β} (h : l.map f = k ++ [b]) : ∃ l' x, l = l' ++ [x] ∧ l'.map f = k ∧ f x = b := by
  rcases List.eq_nil_or_concat l with rfl | ⟨l', x, rfl⟩
  · simp at h
  · rw [List.concat_eq_append, List.map_append, List.map_cons, List.map_nil] at h
    obtain ⟨h1, h2⟩ := List.append_inj' h rfl
    exact ⟨l', x, List.concat_eq_append, h1, by injection h2⟩
theorem back_of {xs : Array Value} {l : List Value} {x : Value} (h : xs.toList = l ++ [x]) : xs.back? = some x := by
  rw [← Array.getLast?_toList, h]; simp
theorem pop_of {α : Type} {xs : Array α} {l : List α} {x : α} (h : xs.toList = l ++ [x]) : xs.pop.toList = l := by
  rw [Array.toList_pop, h]; simp
theorem erase_of {xs : Array DictEntry} {l : List DictEntry} {x : DictEntry} (h : xs.toList = l ++ [x]) : (xs.eraseIdxIfInBounds l.length).toList = l := by
  have hs : xs.size = l.length + 1 := by rw [← Array.length_toList, h]; simp
  rw [Array.eraseIdxIfInBounds_eq, dif_pos (by omega), Array.toList_eraseIdx, h, List.eraseIdx_append_of_length_le (by simp)]
  simp
theorem find_last {ns : Array DictEntry} {l : List DictEntry} {x : DictEntry} {y : Str} (h : ns.toList = l ++ [x]) (hx : ofStr x.key = some y) (hl : ∀ q ∈ l, ofStr q.key ≠ some y) : ns.findIdx? (fun e => Value.isStrOf y e.key) = some l.length := by
  have hs : ns.size = l.length + 1 := by rw [← Array.length_toList, h]; simp
  refine Array.findIdx?_eq_some_iff_getElem.mpr ⟨by omega, ?_, ?_⟩
  · have : ns[l.length]'(by omega) = x := by
      have : ns.toList[l.length]'(by simp [h]) = x := by simp [h]
      simpa using this
    rw [this]; exact isStr_iff.mpr hx
  · intro j hj
    have : ns[j]'(by omega) = l[j] := by
      have : ns.toList[j]'(by simp [h]; omega) = l[j] := by simp [h, List.getElem_append_left, hj]
      simpa using this
    rw [this, isStr_iff]
    exact hl _ (List.getElem_mem ..)
theorem keysOf_sub {K : Type} [DecidableEq K] {prog : Program} {w : World} {knd : KeyKind prog w K} {ns ns' : Array DictEntry} (h : PySem.KeysOf knd ns) (hs : ∀ e ∈ ns'.toList, e ∈ ns.toList) : PySem.KeysOf knd ns' := by
  unfold PySem.KeysOf at h ⊢
  intro e he
  exact h e (by first | exact hs e he | (rw [← Array.mem_toList_iff] at *; exact hs e he))
theorem find_none {ns : Array DictEntry} {y : Str} (hl : ∀ q ∈ ns.toList, ofStr q.key ≠ some y) : ns.findIdx? (fun e => Value.isStrOf y e.key) = none := by
  refine Array.findIdx?_eq_none_iff.mpr fun q hq => ?_
  cases h : Value.isStrOf y q.key with
  | false => rfl
  | true => exact absurd (isStr_iff.mp h) (hl q (Array.mem_toList_iff.mpr hq))
theorem count_more {l : List Nat} {seen : Nat → Bool} {z : Nat} (hn : l.Nodup) (hz : z ∈ l) (hs : seen z = false) : (l.filter seen).length + 1 ≤ (l.filter fun k => seen k || decide (k = z)).length := by
  induction l with
  | nil => cases hz
  | cons x l ih =>
    have h1 := (List.nodup_cons.mp hn).1
    have h2 := (List.nodup_cons.mp hn).2
    by_cases hx : x = z
    · subst hx
      have : (l.filter seen).length ≤ (l.filter fun k => seen k || decide (k = x)).length := by
        rw [← List.countP_eq_length_filter, ← List.countP_eq_length_filter]
        exact List.countP_mono_left fun k _ hk => by simp [hk]
      simp [List.filter_cons, hs]
      omega
    · rcases List.mem_cons.mp hz with rfl | hz
      · exact absurd rfl hx
      · have := ih h2 hz
        cases hq : seen x <;> simp [List.filter_cons, hq, hx] <;> omega
noncomputable section
structure FC where
  fr0 : Nat
  aS : Nat
  aM : Nat
  aK : Nat
  aI : Nat
  aE : Nat
  aN : Nat
  t1 : Nat
  t2 : Nat
  t3 : Nat
  t4 : Nat
  t5 : Nat
  t6 : Nat
  frp : Nat
  frl : Nat
  ct : Nat
  cst : Nat
  ep2 : Nat
  el2 : Nat
  eM : Nat
  dp : Array DictEntry
  dl : Array DictEntry
  es : Array DictEntry
  ia : Nat → Nat
  da : Nat → Nat
  vn : Nat → Value
  vp : Nat → Value
  D : ArrD
  N : Nat → Str
  M : Nat
def frameO (es : Array DictEntry) (e : Nat) (sl : Array (Option Value)) : Obj := ⟨.type "frame", none, .dict es e, sl⟩
def mwO (l : Nat) : Obj := rcO (.type "method-wrapper") #[.builtin "list_iterator.__next__", .ref l]
def infoO (c : FC) (v : Nat) : Obj := ⟨.ref 112, some (c.da v), .plain, #[some (c.vn v), some (c.vp v), some (.ref (c.D.ad v))]⟩
def lIt (c : FC) (v : Nat) (i : Int) : Obj := itO (.type "list_iterator") (.ref (c.D.ad v)) i 0
def FRc (β : BB) (c : FC) : List Env := [fenv (TT β) 199 c.fr0 [], fenv (TT β) 164 c.frp [], fenv (TT β) 252 c.frl [(Mine.S "order", c.ct), (Mine.S "names", c.cst)]]
def fcF (β : BB) (c : FC) (z : Option Nat) (S : Sup) : Obj :=
  frameO (match z with
    | some z => #[β.d "self" c.t1 (.ref c.aS), β.d "n2i" c.t2 (.ref c.aM), β.d "stack" c.t3 (.ref c.aK), β.d "itstack" c.t4 (.ref c.aI), β.d "seen" c.t5 (.ref c.aE), β.d "node2stacki" c.t6 (.ref c.aN), β.d "node" (S.k 0 1) (.str (c.N z) (S.k 0 2))]
    | none => #[β.d "self" c.t1 (.ref c.aS), β.d "n2i" c.t2 (.ref c.aM), β.d "stack" c.t3 (.ref c.aK), β.d "itstack" c.t4 (.ref c.aI), β.d "seen" c.t5 (.ref c.aE), β.d "node2stacki" c.t6 (.ref c.aN)]) (S.k 0 0) (S.x 0)
def fcB (β : BB) (c : FC) (z : Option Nat) (S : Sup) : List Ent :=
  [.o c.fr0 (fcF β c z S), .o c.aK (lsO (S.xs 0) (S.k 0 3)), .o c.aI (lsO (S.xs 1) (S.k 0 4)), .o c.aE (stO (S.o 0)), .o c.aN (dO (S.ds 0) (S.k 0 5)), .o c.aM (dO c.es c.eM), .m c.M c.ia (infoO c), c.D.ent c.M, .o c.frp (frameO c.dp c.ep2 (S.x 1)), .o c.frl (frameO c.dl c.el2 (S.x 2))]
def topE (c : FC) (w l v i : Nat) : List Ent := [.o w (mwO l), .o l (lIt c v (Int.ofNat i))]
def stkE (c : FC) (S : Sup) (n : Nat) : List Ent := [.m n (S.k 1) fun i => mwO (S.k 2 i), .m n (S.k 2) fun i => lIt c (S.k 3 i) (S.z 1 i)]
def fcI (β : BB) (c : FC) (k : Nat) (it : Value) (z : Option Nat) (S : Sup) (K : List Ent) (r : Sup → Result) (z' : Option Nat) (K' : Sup → List Ent) (P : Sup → Prop) : Inst where
  cu := cu0 (loopC (TT β) 199 k c.fr0 [] it)
  fr := FRc β c
  dep := 710
  un := 6000
  pre := fcB β c z S ++ K
  post u := (r u, fcB β c z' u ++ K' u, P u)
def rB (b : Bool) : Result := cond b (.ok .next) (.ok .brk)
def topK (c : FC) (b : Bool) (u : Sup) : List Ent := cond b (topE c (u.k 0 8) (u.k 0 9) (u.k 0 10) (u.k 0 11) ++ stkE c u (u.k 0 6)) []
def topS (S : Sup) (n1 ty w l v i : Nat) : Sup := { S with k := fun a b => (match a with | 0 => (match b with | 2 => ty | 6 => n1 | 8 => w | 9 => l | 10 => v | 11 => i | b => S.k 0 b) | a + 1 => S.k (a + 1) b) }
def w2I (β : BB) (c : FC) (z : Nat) (S : Sup) (K : List Ent) (b : Bool) (z2 : Nat) (P : Sup → Prop) : Inst := fcI β c 2 .none (some z) S K (fun _ => rB b) (some z2) (topK c b) P
def w1I (β : BB) (c : FC) (z : Nat) (S : Sup) (K : List Ent) (b : Bool) (z2 : Nat) (P : Sup → Prop) : Inst := fcI β c 1 .none (some z) S K (fun u => cond b (.ok (.ret (.ref (u.k 0 7)))) (.ok .next)) (some z2) (fun u => cond b [.o (u.k 0 7) (lsO (u.xs 2) 0)] []) P
def ringS (S : Sup) (a : Nat) (xs : Array Value) : Sup := { S with k := fun i b => (match i with | 0 => (match b with | 7 => a | b => S.k 0 b) | i + 1 => S.k (i + 1) b), xs := fun i => (match i with | 0 => S.xs 0 | 1 => S.xs 1 | _ => xs) }
def pushS (N : Nat → Str) (S e : Sup) (z w t n1 : Nat) (h : Int) : Sup := { S with o := fun _ => e.o 0, xs := fun i => (match i with | 0 => (S.xs 0).push (.str (N z) (S.k 0 2)) | _ => (S.xs 1).push (.ref w)), ds := fun _ => (S.ds 0).push ⟨h, .str (N z) (S.k 0 2), .int (Int.ofNat n1) t⟩, k := fun a b => (match a with | 0 => (match b with | 3 => S.k 0 3 + 1 | 4 => S.k 0 4 + 1 | 5 => S.k 0 5 + 1 | b => S.k 0 b) | a + 1 => S.k (a + 1) b) }
def kiO (a : Nat) (i ni ep : Nat) : Obj := rcO (.type "dict_keyiterator") #[.ref a, .int (Int.ofNat i) 0, .int (Int.ofNat ni) 0, .int (Int.ofNat ep) 0]
def f0I (β : BB) (c : FC) (q : Bool) (z : Nat) (S : Sup) (aT i ni : Nat) (b : Bool) (z2 : Nat) (P : Sup → Prop) : Inst := fcI β c 0 (.ref aT) (cond q (some z) none) S [.o aT (kiO c.aM i ni c.eM)] (fun u => cond b (.ok (.ret (.ref (u.k 0 7)))) (.ok .next)) (some z2) (fun u => cond b [.o (u.k 0 7) (lsO (u.xs 2) 0)] []) P
def nodeS (S : Sup) (q : Bool) (t tz : Nat) : Sup := { S with k := fun a b => (match a with | 0 => (match b with | 0 => cond q (S.k 0 0) (S.k 0 0 + 1) | 1 => cond q (S.k 0 1) t | 2 => tz | b => S.k 0 b) | a + 1 => S.k (a + 1) b) }
structure SoD where
  aS : Nat
  aD : Nat
  aM : Nat
  eD : Nat
  k1 : Nat
  k2 : Nat
  k3 : Nat
  k4 : Nat
  v2 : Value
  v3 : Value
  v4 : Value
def SoD.ent (β : BB) (d : SoD) : List Ent := [.o d.aS ⟨.ref 209, some d.aD, .plain, #[]⟩, .o d.aD (dO #[β.d "_node2info" d.k1 (.ref (d.aM + 3)), β.d "_ready_nodes" d.k2 d.v2, β.d "_npassedout" d.k3 d.v3, β.d "_nfinished" d.k4 d.v4] d.eD)]
def FC.m (c : FC) (d : SoD) : FC := { c with aM := d.aM + 3 }
def FC.at (c : FC) (d : SoD) (n t : Nat) : FC := { c with aM := d.aM + 3, fr0 := n, aS := d.aS, aK := n + 1, aI := n + 2, aE := n + 3, aN := n + 4, t1 := t, t2 := t + 2, t3 := t + 3, t4 := t + 4, t5 := t + 5, t6 := t + 6 }
def newSet (β : BB) : Obj := ⟨.type "set", none, .set #[] 0 (SetTable.fresh 0 0 !(β.W.params.followText "set-order")), #[]⟩
def freshS (β : BB) (S : Sup) : Sup := { mkK [6] [] with x := fun i => (match i with | 0 => #[] | i + 1 => S.x (i + 1)), o := fun _ => newSet β }
def grE (c : FC) (S : Sup) : List Ent := [.o c.aM (dO c.es c.eM), .m c.M c.ia (infoO c), c.D.ent c.M, .o c.frp (frameO c.dp c.ep2 (S.x 1)), .o c.frl (frameO c.dl c.el2 (S.x 2))]
def fccI (β : BB) (c : FC) (d : SoD) (S : Sup) (b : Bool) (P : Sup → Prop) : Inst where
  cu := cu0 (.call (.ref 199) ⟨[.ref d.aS], []⟩)
  fr := [fenv (TT β) 164 c.frp [], fenv (TT β) 252 c.frl [(Mine.S "order", c.ct), (Mine.S "names", c.cst)]]
  dep := 630
  un := 5000
  pre := d.ent β ++ grE (c.m d) S
  post u := (cond b (.ok (.ret (.ref (u.k 0 7)))) (.ok (.ret .none)), d.ent β ++ grE (c.m d) u ++ cond b [.o (u.k 0 7) (lsO (u.xs 2) 0)] [], P u)
def popS (S e : Sup) (n2 : Nat) : Sup := { S with x := e.x, xs := fun i => (match i with | 0 => (S.xs 0).pop | _ => (S.xs 1).pop), ds := fun _ => (S.ds 0).eraseIdxIfInBounds n2, k := fun a b => (match a with | 0 => (match b with | 3 => S.k 0 3 + 1 | 4 => S.k 0 4 + 1 | 5 => S.k 0 5 + 1 | b => S.k 0 b) | a + 1 => S.k (a + 1) b) }
end
noncomputable section
def fv1_o (β : BB) (c : FC) (z : Nat) (U : Sup) (P : Sup → Prop) (n t g : Nat) (X : Led) (Y : GL) (σ : Nat → Sup) : Out := Go (E1 β) (w2I β c z U [] false z P) (Hs.h 0x1010101010101010101010b020120040403) (.a (.n 0) (.a (.u U) .nil)) n t g X Y σ
abbrev fv1_v (β : BB) (c : FC) (z : Nat) (U : Sup) (P : Sup → Prop) (n t g : Nat) (X : Led) (Y : GL) (σ : Nat → Sup) : Prop :=
  (Array.size (Sup.xs U 0) = 0) ∧ (0 ≤ BIG) ∧ (P U)
theorem fv1_run (β : BB) (c : FC) (z : Nat) (U : Sup) (P : Sup → Prop) (n t g : Nat) (X : Led) (Y : GL) (σ : Nat → Sup) : See (fv1_o β c z U P n t g X Y σ) (fv1_v β c z U P n t g X Y σ) := by obtain ⟨b1, b2, b3, w0⟩ := β; cases b3 <;> kernel_rfl
def fv2_o (β : BB) (c : FC) (z : Nat) (U : Sup) (P : Sup → Prop) (w l v i n1 y ty : Nat) (n t g : Nat) (X : Led) (Y : GL) (σ : Nat → Sup) : Out := Go (E1 β) (w2I β c z U (topE c w l v i ++ stkE c U n1) true y P) (Hs.h 0x101010101010101010101010101010f03030b080c03210d030118050505010103020120040403) (.a (.n (n1 + 1)) <| .a (.v (.ref w)) <| .a (.n v) <| .a (.v (.str (c.N y) ty)) <| .a (.u (topS U n1 ty w l v (i + 1))) .nil) n t g X Y σ
abbrev fv2_v (β : BB) (c : FC) (z : Nat) (U : Sup) (P : Sup → Prop) (w l v i n1 y ty : Nat) (n t g : Nat) (X : Led) (Y : GL) (σ : Nat → Sup) : Prop :=
  (Array.size (Sup.xs U 0) = n1 + 1) ∧ (n1 + 1 ≤ BIG) ∧ (IdxIs (Sup.xs U 1) (-1 : Int) (Aux.v (Value.ref w))) ∧ (v < FC.M c) ∧ ((ArrD.xs (FC.D c) v)[Int.toNat (Int.ofNat i)]? = some (Value.str (FC.N c y) ty)) ∧ (P (topS U n1 ty w l v (i + 1)))
theorem fv2_run (β : BB) (c : FC) (z : Nat) (U : Sup) (P : Sup → Prop) (w l v i n1 y ty : Nat) (n t g : Nat) (X : Led) (Y : GL) (σ : Nat → Sup) : See (fv2_o β c z U P w l v i n1 y ty n t g X Y σ) (fv2_v β c z U P w l v i n1 y ty n t g X Y σ) := by obtain ⟨b1, b2, b3, w0⟩ := β; cases b3 <;> kernel_rfl
def fv3_o (β : BB) (c : FC) (z : Nat) (U : Sup) (P : Sup → Prop) (w l v i n1 n2 tv : Nat) (rb : Bool) (z2 : Nat) (n t g : Nat) (X : Led) (Y : GL) (σ : Nat → Sup) : Out := Go (E1 β) (w2I β c z U (topE c w l v i ++ stkE c U n1) rb z2 P) (cond rb (Hs.h 0x601010101010101010101010101010f0606030306060606060606030c02010801170a0a0a0a050a01120c0c0701170909090905050303040104010101030304090902010406020b080c03210d030118050505010103020120040403) (Hs.h 0x6010101010101010101010b0606030306060606060606030c02010801170a0a0a0a050a01120c0c0701170909090905050303040104010101030304090902010406020b080c03210d030118050505010103020120040403)) (.a (.n (n1 + 1)) <| .a (.v (.ref w)) <| .a (.n v) <| .a (.b false) (.k fun _ _ => .k fun e _ => .a (.v (.str (c.N v) tv)) <| .a (.n n2) <| .a (.v (.ref w)) <| .a (.i (w2I β c z (popS U e n2) (stkE c U n1) rb z2 P)) (.k fun u _ => .a (.u u) .nil))) n t g X Y σ
abbrev fv3_v (β : BB) (c : FC) (z : Nat) (U : Sup) (P : Sup → Prop) (w l v i n1 n2 tv : Nat) (rb : Bool) (z2 : Nat) (n t g : Nat) (X : Led) (Y : GL) (σ : Nat → Sup) : Prop :=
  (Array.size (Sup.xs U 0) = n1 + 1) ∧ (n1 + 1 ≤ BIG) ∧ (IdxIs (Sup.xs U 1) (-1 : Int) (Aux.v (Value.ref w))) ∧ (v < FC.M c) ∧ ((ArrD.xs (FC.D c) v)[Int.toNat (Int.ofNat i)]? = none) ∧ (Array.back? (Sup.xs U 0) = some (Value.str (FC.N c v) tv)) ∧ (Array.size (Sup.xs U 0) ≤ BIG) ∧ (KeysOf (strKind Challenge.pw_ij0124_02 (BB.W β)) (Sup.ds U 0)) ∧ (Array.findIdx? (fun e => Value.isStrOf (FC.N c v) (DictEntry.key e)) (Sup.ds U 0) = some n2) ∧ (Array.size (Sup.ds U 0) ≤ 1000000) ∧ (Array.back? (Sup.xs U 1) = some (Value.ref w)) ∧ (Array.size (Sup.xs U 1) ≤ BIG) ∧ Sat (E1 β) (w2I β c z (popS U (σ 6) n2) (stkE c U n1) rb z2 P) ∧ ((P (σ 14)) → (P (σ 14)))
theorem fv3_run (β : BB) (c : FC) (z : Nat) (U : Sup) (P : Sup → Prop) (w l v i n1 n2 tv : Nat) (rb : Bool) (z2 : Nat) (n t g : Nat) (X : Led) (Y : GL) (σ : Nat → Sup) : See (fv3_o β c z U P w l v i n1 n2 tv rb z2 n t g X Y σ) (fv3_v β c z U P w l v i n1 n2 tv rb z2 n t g X Y σ) := by obtain ⟨b1, b2, b3, w0⟩ := β; cases rb <;> cases b3 <;> kernel_rfl
end
noncomputable section
def fw1_o (β : BB) (c : FC) (z : Nat) (U : Sup) (P : Sup → Prop) (n1 : Nat) (kp tp : Nat) (n t g : Nat) (X : Led) (Y : GL) (σ : Nat → Sup) : Out := Go (E1 β) (w1I β c z U (stkE c U n1) true z P) (Hs.h 0x601050505050505050505050c01020216040304050103022205050505010f0707070303030501100707030304011d06060303) (.a (.b true) <| .a (.b true) <| .a (.v (.int (Int.ofNat kp) tp)) (.k fun _ _ => .k fun _ _ => .k fun a _ => .a (.u (ringS U a.a (slicePick (U.xs 0) (some (Int.ofNat kp)) none none ++ #[.str (c.N z) (U.k 0 2)]))) .nil)) n t g X Y σ
abbrev fw1_v (β : BB) (c : FC) (z : Nat) (U : Sup) (P : Sup → Prop) (n1 : Nat) (kp tp : Nat) (n t g : Nat) (X : Led) (Y : GL) (σ : Nat → Sup) : Prop :=
  (∃ l, SetL (strKind Challenge.pw_ij0124_02 (BB.W β)) (Obj.mk (Value.type "set") none (Obj.data (Sup.o U 0)) #[]) l ∧ yesNo true (FC.N c z ∈ l)) ∧ (Value.scannable (Value.str (FC.N c z) (Sup.k U 0 2)) = true) ∧ (KeysOf (strKind Challenge.pw_ij0124_02 (BB.W β)) (Sup.ds U 0)) ∧ (Option.isSome (findBy Value.isStrOf (Sup.ds U 0) (FC.N c z)) = true) ∧ (KeysOf (strKind Challenge.pw_ij0124_02 (BB.W β)) (Sup.ds U 0)) ∧ (findBy Value.isStrOf (Sup.ds U 0) (FC.N c z) = some (Value.int (Int.ofNat kp) tp)) ∧ (none ≠ some (0 : Int)) ∧ (Array.size (Sup.xs U 0) ≤ BIG) ∧ (Array.size (slicePick (Sup.xs U 0) (some (Int.ofNat kp)) none none) + Array.size (List.toArray ([Value.str (FC.N c z) (Sup.k U 0 2)] ++ [])) ≤ BIG) ∧ (P (ringS U ((σ 8).a) (slicePick (Sup.xs U 0) (some (Int.ofNat kp)) none none ++ #[Value.str (FC.N c z) (Sup.k U 0 2)])))
theorem fw1_run (β : BB) (c : FC) (z : Nat) (U : Sup) (P : Sup → Prop) (n1 : Nat) (kp tp : Nat) (n t g : Nat) (X : Led) (Y : GL) (σ : Nat → Sup) : See (fw1_o β c z U P n1 kp tp n t g X Y σ) (fw1_v β c z U P n1 kp tp n t g X Y σ) := by obtain ⟨b1, b2, b3, w0⟩ := β; cases b3 <;> kernel_rfl
def fw2b_o (β : BB) (c : FC) (z : Nat) (U : Sup) (P : Sup → Prop) (n1 : Nat) (P2 : Sup → Prop) (n t g : Nat) (X : Led) (Y : GL) (σ : Nat → Sup) : Out := Go (E1 β) (w1I β c z U (stkE c U n1) false z P) (Hs.h 0x1010101010101010101010b0101010101010101010101010c020501100707030304011d06060303) (.a (.b true) <| .a (.b false) <| .a (.i (w2I β c z U (stkE c U n1) false z P2)) (.k fun u _ => .a (.u u) .nil)) n t g X Y σ
abbrev fw2b_v (β : BB) (c : FC) (z : Nat) (U : Sup) (P : Sup → Prop) (n1 : Nat) (P2 : Sup → Prop) (n t g : Nat) (X : Led) (Y : GL) (σ : Nat → Sup) : Prop :=
  (∃ l, SetL (strKind Challenge.pw_ij0124_02 (BB.W β)) (Obj.mk (Value.type "set") none (Obj.data (Sup.o U 0)) #[]) l ∧ yesNo true (FC.N c z ∈ l)) ∧ (Value.scannable (Value.str (FC.N c z) (Sup.k U 0 2)) = true) ∧ (KeysOf (strKind Challenge.pw_ij0124_02 (BB.W β)) (Sup.ds U 0)) ∧ (Option.isSome (findBy Value.isStrOf (Sup.ds U 0) (FC.N c z)) = false) ∧ Sat (E1 β) (w2I β c z U (stkE c U n1) false z P2) ∧ ((P2 (σ 4)) → (P (σ 4)))
theorem fw2b_run (β : BB) (c : FC) (z : Nat) (U : Sup) (P : Sup → Prop) (n1 : Nat) (P2 : Sup → Prop) (n t g : Nat) (X : Led) (Y : GL) (σ : Nat → Sup) : See (fw2b_o β c z U P n1 P2 n t g X Y σ) (fw2b_v β c z U P n1 P2 n t g X Y σ) := by obtain ⟨b1, b2, b3, w0⟩ := β; cases b3 <;> kernel_rfl
def fw2n_o (β : BB) (c : FC) (z : Nat) (U : Sup) (P : Sup → Prop) (n1 : Nat) (P2 : Sup → Prop) (z2 z3 : Nat) (rr : Bool) (n t g : Nat) (X : Led) (Y : GL) (σ : Nat → Sup) : Out := Go (E1 β) (w1I β c z U (stkE c U n1) rr z3 P) (cond rr (Hs.h 0x101010101010101010101010c01010101010101010101010101010e020101010101010101010101010c020501100707030304011d06060303) (Hs.h 0x1010101010101010101010b01010101010101010101010101010e020101010101010101010101010c020501100707030304011d06060303)) (.a (.b true) <| .a (.b false) <| .a (.i (w2I β c z U (stkE c U n1) true z2 P2)) (.k fun u _ => .a (.i (w1I β c z2 u (topK c true u) rr z3 P)) (.k fun u _ => .a (.u u) .nil))) n t g X Y σ
abbrev fw2n_v (β : BB) (c : FC) (z : Nat) (U : Sup) (P : Sup → Prop) (n1 : Nat) (P2 : Sup → Prop) (z2 z3 : Nat) (rr : Bool) (n t g : Nat) (X : Led) (Y : GL) (σ : Nat → Sup) : Prop :=
  (∃ l, SetL (strKind Challenge.pw_ij0124_02 (BB.W β)) (Obj.mk (Value.type "set") none (Obj.data (Sup.o U 0)) #[]) l ∧ yesNo true (FC.N c z ∈ l)) ∧ (Value.scannable (Value.str (FC.N c z) (Sup.k U 0 2)) = true) ∧ (KeysOf (strKind Challenge.pw_ij0124_02 (BB.W β)) (Sup.ds U 0)) ∧ (Option.isSome (findBy Value.isStrOf (Sup.ds U 0) (FC.N c z)) = false) ∧ Sat (E1 β) (w2I β c z U (stkE c U n1) true z2 P2) ∧ ((P2 (σ 4)) → Sat (E1 β) (w1I β c z2 (σ 4) (topK c true (σ 4)) rr z3 P) ∧ ((P (σ 6)) → (P (σ 6))))
theorem fw2n_run (β : BB) (c : FC) (z : Nat) (U : Sup) (P : Sup → Prop) (n1 : Nat) (P2 : Sup → Prop) (z2 z3 : Nat) (rr : Bool) (n t g : Nat) (X : Led) (Y : GL) (σ : Nat → Sup) : See (fw2n_o β c z U P n1 P2 z2 z3 rr n t g X Y σ) (fw2n_v β c z U P n1 P2 z2 z3 rr n t g X Y σ) := by obtain ⟨b1, b2, b3, w0⟩ := β; cases rr <;> cases b3 <;> kernel_rfl
def fw3b_o (β : BB) (c : FC) (z : Nat) (U : Sup) (P : Sup → Prop) (n1 : Nat) (P2 : Sup → Prop) (z2 : Nat) (n t g : Nat) (X : Led) (Y : GL) (σ : Nat → Sup) : Out := Go (E1 β) (w1I β c z U (stkE c U n1) false z2 P) (Hs.h 0x1010101010101010101010b01010101030303030303030303030e020401140506060606050701110909050504011f05010105011401030101030303010301030301075a015a5a010101075901590101010701010159010101070101010101010101010159010101015906010f08080803030101050505050304013203060606060304011d06060303) (.a (.b false) (.k fun _ _ => .k fun e _ => .a (.v (.ref (c.ia z))) (.k fun _ v5 => .a (.n z) <| .a (.n z) <| .a (.n z) <| .a (.n z) <| .a (.n n1) (.k fun l _ => .a (.b true) <| .a (.i (w2I β c z (pushS c.N U e z (v5.n + 1) l.a n1 (hashStr β.W (c.N z))) (topE c (v5.n + 1) v5.n z 0 ++ stkE c U n1) false z2 P2)) (.k fun u _ => .a (.u u) .nil))))) n t g X Y σ
abbrev fw3b_v (β : BB) (c : FC) (z : Nat) (U : Sup) (P : Sup → Prop) (n1 : Nat) (P2 : Sup → Prop) (z2 : Nat) (n t g : Nat) (X : Led) (Y : GL) (σ : Nat → Sup) : Prop :=
  (∃ l, SetL (strKind Challenge.pw_ij0124_02 (BB.W β)) (Obj.mk (Value.type "set") none (Obj.data (Sup.o U 0)) #[]) l ∧ yesNo false (FC.N c z ∈ l)) ∧ (Value.scannable (Value.str (FC.N c z) (Sup.k U 0 2)) = true) ∧ (∃ l, SetL (strKind Challenge.pw_ij0124_02 (BB.W β)) (Obj.mk (Value.type "set") none (Obj.data (Sup.o U 0)) #[]) l ∧ List.length l ≤ 1000) ∧ (Value.scannable (Value.str (FC.N c z) (Sup.k U 0 2)) = true) ∧ ((SetMore (strKind Challenge.pw_ij0124_02 (BB.W β)) (Obj.mk (Value.type "set") none (Obj.data (Sup.o U 0)) #[]) (stO ((σ 2).o 0)) (FC.N c z)) → (KeysOf (strKind Challenge.pw_ij0124_02 (BB.W β)) (FC.es c)) ∧ (findBy Value.isStrOf (FC.es c) (FC.N c z) = some (Value.ref (FC.ia c z))) ∧ (z < FC.M c) ∧ (z < FC.M c) ∧ (z < FC.M c) ∧ (z < FC.M c) ∧ (z < FC.M c) ∧ (z < FC.M c) ∧ (z < FC.M c) ∧ (z < FC.M c) ∧ (Array.size (Sup.xs U 1) ≤ BIG) ∧ (Array.size (Sup.xs U 0) = n1) ∧ (n1 ≤ BIG) ∧ (KeysOf (strKind Challenge.pw_ij0124_02 (BB.W β)) (Sup.ds U 0)) ∧ (Array.findIdx? (fun e => Value.isStrOf (FC.N c z) (DictEntry.key e)) (Sup.ds U 0) = inOf (Aux.b true)) ∧ (Array.size (Sup.ds U 0) ≤ 1000000) ∧ (Array.size (Sup.xs U 0) ≤ BIG) ∧ Sat (E1 β) (w2I β c z (pushS (FC.N c) U (σ 2) z ((σ 5).n + 1) ((σ 8).a) n1 (hashStr (BB.W β) (FC.N c z))) (topE c ((σ 5).n + 1) ((σ 5).n) z 0 ++ stkE c U n1) false z2 P2) ∧ ((P2 (σ 14)) → (P (σ 14))))
theorem fw3b_run (β : BB) (c : FC) (z : Nat) (U : Sup) (P : Sup → Prop) (n1 : Nat) (P2 : Sup → Prop) (z2 : Nat) (n t g : Nat) (X : Led) (Y : GL) (σ : Nat → Sup) : See (fw3b_o β c z U P n1 P2 z2 n t g X Y σ) (fw3b_v β c z U P n1 P2 z2 n t g X Y σ) := by obtain ⟨b1, b2, b3, w0⟩ := β; cases b3 <;> kernel_rfl
def fw3n_o (β : BB) (c : FC) (z : Nat) (U : Sup) (P : Sup → Prop) (n1 : Nat) (P2 : Sup → Prop) (z2 z3 : Nat) (rr : Bool) (n t g : Nat) (X : Led) (Y : GL) (σ : Nat → Sup) : Out := Go (E1 β) (w1I β c z U (stkE c U n1) rr z3 P) (cond rr (Hs.h 0x101010101010101010101010c01010101010101010101010101010e0201010101030303030303030303030e020401140506060606050701110909050504011f05010105011401030101030303010301030301075a015a5a010101075901590101010701010159010101070101010101010101010159010101015906010f08080803030101050505050304013203060606060304011d06060303) (Hs.h 0x1010101010101010101010b01010101010101010101010101010e0201010101030303030303030303030e020401140506060606050701110909050504011f05010105011401030101030303010301030301075a015a5a010101075901590101010701010159010101070101010101010101010159010101015906010f08080803030101050505050304013203060606060304011d06060303)) (.a (.b false) (.k fun _ _ => .k fun e _ => .a (.v (.ref (c.ia z))) (.k fun _ v5 => .a (.n z) <| .a (.n z) <| .a (.n z) <| .a (.n z) <| .a (.n n1) (.k fun l _ => .a (.b true) <| .a (.i (w2I β c z (pushS c.N U e z (v5.n + 1) l.a n1 (hashStr β.W (c.N z))) (topE c (v5.n + 1) v5.n z 0 ++ stkE c U n1) true z2 P2)) (.k fun u _ => .a (.i (w1I β c z2 u (topK c true u) rr z3 P)) (.k fun u _ => .a (.u u) .nil)))))) n t g X Y σ
abbrev fw3n_v (β : BB) (c : FC) (z : Nat) (U : Sup) (P : Sup → Prop) (n1 : Nat) (P2 : Sup → Prop) (z2 z3 : Nat) (rr : Bool) (n t g : Nat) (X : Led) (Y : GL) (σ : Nat → Sup) : Prop :=
  (∃ l, SetL (strKind Challenge.pw_ij0124_02 (BB.W β)) (Obj.mk (Value.type "set") none (Obj.data (Sup.o U 0)) #[]) l ∧ yesNo false (FC.N c z ∈ l)) ∧ (Value.scannable (Value.str (FC.N c z) (Sup.k U 0 2)) = true) ∧ (∃ l, SetL (strKind Challenge.pw_ij0124_02 (BB.W β)) (Obj.mk (Value.type "set") none (Obj.data (Sup.o U 0)) #[]) l ∧ List.length l ≤ 1000) ∧ (Value.scannable (Value.str (FC.N c z) (Sup.k U 0 2)) = true) ∧ ((SetMore (strKind Challenge.pw_ij0124_02 (BB.W β)) (Obj.mk (Value.type "set") none (Obj.data (Sup.o U 0)) #[]) (stO ((σ 2).o 0)) (FC.N c z)) → (KeysOf (strKind Challenge.pw_ij0124_02 (BB.W β)) (FC.es c)) ∧ (findBy Value.isStrOf (FC.es c) (FC.N c z) = some (Value.ref (FC.ia c z))) ∧ (z < FC.M c) ∧ (z < FC.M c) ∧ (z < FC.M c) ∧ (z < FC.M c) ∧ (z < FC.M c) ∧ (z < FC.M c) ∧ (z < FC.M c) ∧ (z < FC.M c) ∧ (Array.size (Sup.xs U 1) ≤ BIG) ∧ (Array.size (Sup.xs U 0) = n1) ∧ (n1 ≤ BIG) ∧ (KeysOf (strKind Challenge.pw_ij0124_02 (BB.W β)) (Sup.ds U 0)) ∧ (Array.findIdx? (fun e => Value.isStrOf (FC.N c z) (DictEntry.key e)) (Sup.ds U 0) = inOf (Aux.b true)) ∧ (Array.size (Sup.ds U 0) ≤ 1000000) ∧ (Array.size (Sup.xs U 0) ≤ BIG) ∧ Sat (E1 β) (w2I β c z (pushS (FC.N c) U (σ 2) z ((σ 5).n + 1) ((σ 8).a) n1 (hashStr (BB.W β) (FC.N c z))) (topE c ((σ 5).n + 1) ((σ 5).n) z 0 ++ stkE c U n1) true z2 P2) ∧ ((P2 (σ 14)) → Sat (E1 β) (w1I β c z2 (σ 14) (topK c true (σ 14)) rr z3 P) ∧ ((P (σ 16)) → (P (σ 16)))))
theorem fw3n_run (β : BB) (c : FC) (z : Nat) (U : Sup) (P : Sup → Prop) (n1 : Nat) (P2 : Sup → Prop) (z2 z3 : Nat) (rr : Bool) (n t g : Nat) (X : Led) (Y : GL) (σ : Nat → Sup) : See (fw3n_o β c z U P n1 P2 z2 z3 rr n t g X Y σ) (fw3n_v β c z U P n1 P2 z2 z3 rr n t g X Y σ) := by obtain ⟨b1, b2, b3, w0⟩ := β; cases rr <;> cases b3 <;> kernel_rfl
end
noncomputable section
def ff1_o (β : BB) (c : FC) (q : Bool) (z0 z tz : Nat) (U : Sup) (P : Sup → Prop) (aT i ni : Nat) (z2 : Nat) (rr : Bool) (n t g : Nat) (X : Led) (Y : GL) (σ : Nat → Sup) : Out := Go (E1 β) (f0I β c q z0 U aT i ni rr z2 P) (cond rr (Hs.h 0x101010101010101010101010c01010101010101010101010b0204011d060603030303060b021b0d) (Hs.h 0x1010101010101010101010b01010101010101010101010b0204011d060603030303060b021b0d)) (.a (.v (.str (c.N z) tz)) (.k fun _ v => .a (.b true) <| .a (.i (f0I β c true z (nodeS U q v.t tz) aT (i + 1) ni rr z2 P)) (.k fun u _ => .a (.u u) .nil))) n t g X Y σ
abbrev ff1_v (β : BB) (c : FC) (q : Bool) (z0 z tz : Nat) (U : Sup) (P : Sup → Prop) (aT i ni : Nat) (z2 : Nat) (rr : Bool) (n t g : Nat) (X : Led) (Y : GL) (σ : Nat → Sup) : Prop :=
  (Array.size (FC.es c) = Int.toNat (Int.ofNat ni)) ∧ (Option.map DictEntry.key (FC.es c)[Int.toNat (Int.ofNat i)]? = some (Value.str (FC.N c z) tz)) ∧ (∃ l, SetL (strKind Challenge.pw_ij0124_02 (BB.W β)) (Obj.mk (Value.type "set") none (Obj.data (Sup.o U 0)) #[]) l ∧ yesNo true (FC.N c z ∈ l)) ∧ (Value.scannable (Value.str (FC.N c z) tz) = true) ∧ Sat (E1 β) (f0I β c true z (nodeS U q ((σ 1).t) tz) aT (i + 1) ni rr z2 P) ∧ ((P (σ 4)) → (P (σ 4)))
theorem ff1_run (β : BB) (c : FC) (q : Bool) (z0 z tz : Nat) (U : Sup) (P : Sup → Prop) (aT i ni : Nat) (z2 : Nat) (rr : Bool) (n t g : Nat) (X : Led) (Y : GL) (σ : Nat → Sup) : See (ff1_o β c q z0 z tz U P aT i ni z2 rr n t g X Y σ) (ff1_v β c q z0 z tz U P aT i ni z2 rr n t g X Y σ) := by obtain ⟨b1, b2, b3, w0⟩ := β; cases q <;> cases rr <;> cases b3 <;> kernel_rfl
def ff2r_o (β : BB) (c : FC) (q : Bool) (z0 z tz : Nat) (U : Sup) (P : Sup → Prop) (aT i ni : Nat) (z2 : Nat) (P2 : Sup → Prop) (n t g : Nat) (X : Led) (Y : GL) (σ : Nat → Sup) : Out := Go (E1 β) (f0I β c q z0 U aT i ni true z2 P) (Hs.h 0x201010101010101010101010c010101010101010101010a0204011d060603030303060b021b0d) (.a (.v (.str (c.N z) tz)) (.k fun _ v => .a (.b false) <| .a (.i (w1I β c z (nodeS U q v.t tz) [] true z2 P2)) (.k fun u _ => .a (.u u) .nil))) n t g X Y σ
abbrev ff2r_v (β : BB) (c : FC) (q : Bool) (z0 z tz : Nat) (U : Sup) (P : Sup → Prop) (aT i ni : Nat) (z2 : Nat) (P2 : Sup → Prop) (n t g : Nat) (X : Led) (Y : GL) (σ : Nat → Sup) : Prop :=
  (Array.size (FC.es c) = Int.toNat (Int.ofNat ni)) ∧ (Option.map DictEntry.key (FC.es c)[Int.toNat (Int.ofNat i)]? = some (Value.str (FC.N c z) tz)) ∧ (∃ l, SetL (strKind Challenge.pw_ij0124_02 (BB.W β)) (Obj.mk (Value.type "set") none (Obj.data (Sup.o U 0)) #[]) l ∧ yesNo false (FC.N c z ∈ l)) ∧ (Value.scannable (Value.str (FC.N c z) tz) = true) ∧ Sat (E1 β) (w1I β c z (nodeS U q ((σ 1).t) tz) [] true z2 P2) ∧ ((P2 (σ 4)) → (P (σ 4)))
theorem ff2r_run (β : BB) (c : FC) (q : Bool) (z0 z tz : Nat) (U : Sup) (P : Sup → Prop) (aT i ni : Nat) (z2 : Nat) (P2 : Sup → Prop) (n t g : Nat) (X : Led) (Y : GL) (σ : Nat → Sup) : See (ff2r_o β c q z0 z tz U P aT i ni z2 P2 n t g X Y σ) (ff2r_v β c q z0 z tz U P aT i ni z2 P2 n t g X Y σ) := by obtain ⟨b1, b2, b3, w0⟩ := β; cases q <;> cases b3 <;> kernel_rfl
def ff2n_o (β : BB) (c : FC) (q : Bool) (z0 z tz : Nat) (U : Sup) (P : Sup → Prop) (aT i ni : Nat) (z2 : Nat) (P2 : Sup → Prop) (z3 : Nat) (rr : Bool) (n t g : Nat) (X : Led) (Y : GL) (σ : Nat → Sup) : Out := Go (E1 β) (f0I β c q z0 U aT i ni rr z2 P) (cond rr (Hs.h 0x101010101010101010101010c01010101010101010101010b02010101010101010101010a0204011d060603030303060b021b0d) (Hs.h 0x1010101010101010101010b01010101010101010101010b02010101010101010101010a0204011d060603030303060b021b0d)) (.a (.v (.str (c.N z) tz)) (.k fun _ v => .a (.b false) <| .a (.i (w1I β c z (nodeS U q v.t tz) [] false z3 P2)) (.k fun u _ => .a (.i (f0I β c true z3 u aT (i + 1) ni rr z2 P)) (.k fun u _ => .a (.u u) .nil)))) n t g X Y σ
abbrev ff2n_v (β : BB) (c : FC) (q : Bool) (z0 z tz : Nat) (U : Sup) (P : Sup → Prop) (aT i ni : Nat) (z2 : Nat) (P2 : Sup → Prop) (z3 : Nat) (rr : Bool) (n t g : Nat) (X : Led) (Y : GL) (σ : Nat → Sup) : Prop :=
  (Array.size (FC.es c) = Int.toNat (Int.ofNat ni)) ∧ (Option.map DictEntry.key (FC.es c)[Int.toNat (Int.ofNat i)]? = some (Value.str (FC.N c z) tz)) ∧ (∃ l, SetL (strKind Challenge.pw_ij0124_02 (BB.W β)) (Obj.mk (Value.type "set") none (Obj.data (Sup.o U 0)) #[]) l ∧ yesNo false (FC.N c z ∈ l)) ∧ (Value.scannable (Value.str (FC.N c z) tz) = true) ∧ Sat (E1 β) (w1I β c z (nodeS U q ((σ 1).t) tz) [] false z3 P2) ∧ ((P2 (σ 4)) → Sat (E1 β) (f0I β c true z3 (σ 4) aT (i + 1) ni rr z2 P) ∧ ((P (σ 6)) → (P (σ 6))))
theorem ff2n_run (β : BB) (c : FC) (q : Bool) (z0 z tz : Nat) (U : Sup) (P : Sup → Prop) (aT i ni : Nat) (z2 : Nat) (P2 : Sup → Prop) (z3 : Nat) (rr : Bool) (n t g : Nat) (X : Led) (Y : GL) (σ : Nat → Sup) : See (ff2n_o β c q z0 z tz U P aT i ni z2 P2 z3 rr n t g X Y σ) (ff2n_v β c q z0 z tz U P aT i ni z2 P2 z3 rr n t g X Y σ) := by obtain ⟨b1, b2, b3, w0⟩ := β; cases q <;> cases rr <;> cases b3 <;> kernel_rfl
def ff3_o (β : BB) (c : FC) (z0 z tz : Nat) (U : Sup) (P : Sup → Prop) (aT i ni : Nat) (z2 : Nat) (n t g : Nat) (X : Led) (Y : GL) (σ : Nat → Sup) : Out := Go (E1 β) (f0I β c true z0 U aT i ni false z0 P) (Hs.h 0x4030303030303030303030b0103060b021b0d) (.a (.b false) (.a (.u U) .nil)) n t g X Y σ
abbrev ff3_v (β : BB) (c : FC) (z0 z tz : Nat) (U : Sup) (P : Sup → Prop) (aT i ni : Nat) (z2 : Nat) (n t g : Nat) (X : Led) (Y : GL) (σ : Nat → Sup) : Prop :=
  (Array.size (FC.es c) = Int.toNat (Int.ofNat ni)) ∧ (Option.map DictEntry.key (FC.es c)[Int.toNat (Int.ofNat i)]? = none) ∧ (P U)
theorem ff3_run (β : BB) (c : FC) (z0 z tz : Nat) (U : Sup) (P : Sup → Prop) (aT i ni : Nat) (z2 : Nat) (n t g : Nat) (X : Led) (Y : GL) (σ : Nat → Sup) : See (ff3_o β c z0 z tz U P aT i ni z2 n t g X Y σ) (ff3_v β c z0 z tz U P aT i ni z2 n t g X Y σ) := by obtain ⟨b1, b2, b3, w0⟩ := β; cases b3 <;> kernel_rfl
end
noncomputable section
def fc0_o (β : BB) (c : FC) (d : SoD) (U : Sup) (P : Sup → Prop) (P2 : Sup → Prop) (z2 : Nat) (rr : Bool) (n t g : Nat) (X : Led) (Y : GL) (σ : Nat → Sup) : Out := Go (E1 β) (fccI β c d U rr P) (cond rr (Hs.h 0x60606060606060c0c0901040404040402030405060b02030a0a0a010a010a0a070707060603030103030103030101010101010505040403030501040401010104010101010403010203030101) (Hs.h 0x606060606060b0b0801040404040402030405060b02030a0a0a010a010a0a070707060603030103030103030101010101010505040403030501040401010104010101010403010203030101)) (.a (.i (f0I β (c.at d n t) false 0 (freshS β U) (n + 5) 0 c.es.size rr z2 P2)) (.k fun u _ => .a (.u u) .nil)) n t g X Y σ
abbrev fc0_v (β : BB) (c : FC) (d : SoD) (U : Sup) (P : Sup → Prop) (P2 : Sup → Prop) (z2 : Nat) (rr : Bool) (n t g : Nat) (X : Led) (Y : GL) (σ : Nat → Sup) : Prop :=
  Sat (E1 β) (f0I β (FC.at c d n t) false 0 (freshS β U) (n + 5) 0 (Array.size (FC.es c)) rr z2 P2) ∧ ((P2 (σ 0)) → (P (σ 0)))
theorem fc0_run (β : BB) (c : FC) (d : SoD) (U : Sup) (P : Sup → Prop) (P2 : Sup → Prop) (z2 : Nat) (rr : Bool) (n t g : Nat) (X : Led) (Y : GL) (σ : Nat → Sup) : See (fc0_o β c d U P P2 z2 rr n t g X Y σ) (fc0_v β c d U P P2 z2 rr n t g X Y σ) := by obtain ⟨b1, b2, b3, w0⟩ := β; cases rr <;> cases b3 <;> kernel_rfl
end
theorem conv_app (b : List Ent) {x y : List Ent} (h : Conv x y) : Conv (b ++ x) (b ++ y) := by
  unfold Conv at h ⊢
  rw [flat_app, flat_app, flatG_app, flatG_app, h.2]
  exact ⟨h.1.append_left _, rfl⟩
theorem Conv.symm {x y : List Ent} (h : Conv x y) : Conv y x := ⟨h.1.symm, h.2.symm⟩
theorem Conv.rfl {x : List Ent} : Conv x x := ⟨.refl _, Eq.refl _⟩
theorem sat_conv {E : Wd} {I J : Inst} (h : Sat E J) (e : (J.cu, J.fr, J.dep, J.un) = (I.cu, I.fr, I.dep, I.un)) (e2 : J.post = I.post) (hc : Conv I.pre J.pre) : Sat E I := by
  obtain ⟨c, f, d, u, p, q⟩ := I
  obtain ⟨c', f', d', u', p', q'⟩ := J
  cases e; cases e2
  intro Γ A X Y s R B H K
  refine h B ?_ K
  have z := hc.1.append_right (flat [.f X Y])
  have z2 := hc.2
  show Hp _ _ _ _
  refine Hp.perm H ?_ ?_
  · rw [flat_app, flat_app]; exact z
  · rw [flatG_app, flatG_app, show flatG p = flatG p' from z2]
structure Core (β : BB) (N : Nat → Str) (M : Nat) (U : Sup) (seen : Nat → Bool) (stk : List SEn) : Prop where
  ks : StrsOf (U.xs 0) (stk.map fun e => N e.v)
  nk : KeysOf (strKind Challenge.pw_ij0124_02 β.W) (U.ds 0)
  nm : (U.ds 0).toList.map (fun e => ofStr e.key) = stk.map fun e => some (N e.v)
  nv : ∀ e ∈ (U.ds 0).toList, ∃ k t, e.val = .int (Int.ofNat k) t
  se : ∃ l, SetL (strKind Challenge.pw_ij0124_02 β.W) (stO (U.o 0)) l ∧ (∀ v, N v ∈ l ↔ seen v = true) ∧ l.length ≤ ((List.range M).filter seen).length
  sn : ∀ e ∈ stk, e.v < M
  sv : (stk.map SEn.v).Nodup
  inj : ∀ a b, N a = N b → a = b
  mb : M ≤ 20
def Fam (U : Sup) (stk : List SEn) : Prop := ∀ j e, stk[j]? = some e → U.k 3 j = e.v ∧ U.z 1 j = Int.ofNat e.i
def Top (U : Sup) (stk : List SEn) (w : Nat) : Prop := U.xs 1 = (refsN (U.k 1) stk.length).push (.ref w) ∧ Fam U stk
theorem Core.len {β : BB} {N : Nat → Str} {M : Nat} {U : Sup} {seen : Nat → Bool} {stk : List SEn} (h : Core β N M U seen stk) : stk.length ≤ 20 := by
  refine Nat.le_trans ?_ h.mb
  have := len_sub (m := List.range M) h.sv fun v hv => by
    obtain ⟨e, he, rfl⟩ := List.mem_map.mp hv
    exact List.mem_range.mpr (h.sn e he)
  rwa [List.length_map, List.length_range] at this
theorem Core.size {β : BB} {N : Nat → Str} {M : Nat} {U : Sup} {seen : Nat → Bool} {stk : List SEn} (h : Core β N M U seen stk) : (U.xs 0).size = stk.length := by rw [h.ks.len, List.length_map]
theorem Core.dsize {β : BB} {N : Nat → Str} {M : Nat} {U : Sup} {seen : Nat → Bool} {stk : List SEn} (h : Core β N M U seen stk) : (U.ds 0).size = stk.length := by
  have := congrArg List.length h.nm
  rwa [List.length_map, List.length_map, Array.length_toList] at this
theorem Core.one {β : BB} {N : Nat → Str} {M : Nat} {U : Sup} {seen : Nat → Bool} {s0 : List SEn} {e : SEn} (h : Core β N M U seen (s0 ++ [e])) : s0.length + 1 ≤ 20 ∧ (U.xs 0).size = s0.length + 1 ∧ (U.ds 0).size = s0.length + 1 ∧ e.v < M := by
  have hl : (s0 ++ [e]).length = s0.length + 1 := by rw [List.length_append]; rfl
  exact ⟨hl ▸ h.len, hl ▸ h.size, hl ▸ h.dsize, h.sn e (List.mem_append_right _ List.mem_cons_self)⟩
theorem Core.same {β : BB} {N : Nat → Str} {M : Nat} {U V : Sup} {seen : Nat → Bool} {stk : List SEn} (h : Core β N M U seen stk) (h1 : V.xs 0 = U.xs 0) (h2 : V.ds 0 = U.ds 0) (h3 : V.o 0 = U.o 0) : Core β N M V seen stk := by
  obtain ⟨a, b, c, d, e, f, g, i, j⟩ := h
  exact ⟨h1 ▸ a, h2 ▸ b, h2 ▸ c, h2 ▸ d, h3 ▸ e, f, g, i, j⟩
theorem Core.idx {β : BB} {N : Nat → Str} {M : Nat} {U : Sup} {seen : Nat → Bool} {s0 : List SEn} {e : SEn} (h : Core β N M U seen (s0 ++ [e])) : (∃ t, (U.xs 0).back? = some (.str (N e.v) t)) ∧ (U.ds 0).findIdx? (fun q => Value.isStrOf (N e.v) q.key) = some s0.length := by
  have hk := h.ks
  unfold StrsOf at hk
  rw [List.map_append, List.map_append] at hk
  obtain ⟨kl, kx, hkl, hkm, hkx⟩ := last_split hk
  obtain ⟨t, rfl⟩ := ofStr_some hkx
  have hm := h.nm
  rw [List.map_append] at hm
  obtain ⟨nl, nx, hnl, hnm, hnx⟩ := last_split hm
  refine ⟨⟨t, back_of hkl⟩, ?_⟩
  have hnn : nl.length = s0.length := by have := congrArg List.length hnm; rwa [List.length_map, List.length_map] at this
  rw [← hnn]
  refine find_last hnl hnx fun q hq hc => ?_
  have : ofStr q.key ∈ s0.map (fun e => some (N e.v)) := by rw [← hnm]; exact List.mem_map_of_mem (f := fun q : DictEntry => ofStr q.key) hq
  rw [hc] at this
  obtain ⟨e', he', h'⟩ := List.mem_map.mp this
  have hsv := h.sv
  rw [List.map_append, List.nodup_append] at hsv
  exact hsv.2.2 e'.v (List.mem_map_of_mem he') e.v List.mem_cons_self (h.inj _ _ (Option.some.inj h'))
theorem Core.pop {β : BB} {N : Nat → Str} {M : Nat} {U e' : Sup} {seen : Nat → Bool} {s0 : List SEn} {e : SEn} (h : Core β N M U seen (s0 ++ [e])) : Core β N M (popS U e' s0.length) seen s0 := by
  have hk := h.ks
  unfold StrsOf at hk
  rw [List.map_append, List.map_append] at hk
  obtain ⟨kl, kx, hkl, hkm, hkx⟩ := last_split hk
  have hm := h.nm
  rw [List.map_append] at hm
  obtain ⟨nl, nx, hnl, hnm, hnx⟩ := last_split hm
  have hnn : nl.length = s0.length := by have := congrArg List.length hnm; rwa [List.length_map, List.length_map] at this
  have he2 := erase_of hnl
  rw [hnn] at he2
  have hsub : ∀ q ∈ ((U.ds 0).eraseIdxIfInBounds s0.length).toList, q ∈ (U.ds 0).toList := fun q hq => by rw [he2] at hq; rw [hnl]; exact List.mem_append_left _ hq
  have hsv := h.sv
  rw [List.map_append, List.nodup_append] at hsv
  exact
    { ks := by show (Array.pop _).toList.map _ = _; rw [pop_of hkl]; exact hkm
      nk := keysOf_sub h.nk hsub
      nm := by show ((U.ds 0).eraseIdxIfInBounds s0.length).toList.map _ = _; rw [he2]; exact hnm
      nv := fun q hq => h.nv q (hsub q hq)
      se := h.se
      sn := fun q hq => h.sn q (List.mem_append_left _ hq)
      sv := hsv.1
      inj := h.inj
      mb := h.mb }
theorem Core.last {β : BB} {N : Nat → Str} {M : Nat} {U : Sup} {seen : Nat → Bool} {s0 : List SEn} {e : SEn} (h : Core β N M U seen (s0 ++ [e])) (i : Nat) : Core β N M U seen (s0 ++ [⟨e.v, i⟩]) := by
  obtain ⟨a, b, c, d, f, g, k, i2, i3⟩ := h
  rw [List.map_append] at a c k
  refine ⟨by rw [List.map_append]; exact a, b, by rw [List.map_append]; exact c, d, f, fun q hq => ?_, by rw [List.map_append]; exact k, i2, i3⟩
  rcases List.mem_append.mp hq with hq | hq
  · exact g q (List.mem_append_left _ hq)
  · rw [List.mem_singleton.mp hq]; exact g e (List.mem_append_right _ List.mem_cons_self)
theorem refsN_push (f : Nat → Nat) (n : Nat) : (refsN f n).push (.ref (f n)) = refsN f (n + 1) := (refsN_snoc (fun _ _ => rfl) rfl).symm
theorem refs_pop (f : Nat → Nat) (n w : Nat) : ((refsN f n).push (.ref w)).pop = refsN f n := Array.pop_push
theorem refs_back (f : Nat → Nat) (n w : Nat) : ((refsN f n).push (.ref w)).back? = some (.ref w) := Array.back?_push ..
theorem refs_last (f : Nat → Nat) (n w : Nat) (h : n ≤ 20) : IdxIs ((refsN f n).push (.ref w)) (-1) (.v (.ref w)) := by
  have hz : ((refsN f n).push (.ref w)).size = n + 1 := by rw [Array.size_push, refsN_size]
  refine ⟨⟨0, ?_⟩, ?_, ?_⟩
  · unfold atK
    rw [if_neg (by decide), hz, show ((-1 : Int) + ((n + 1 : Nat) : Int)).toNat = n by omega]
    show _ = some (Value.ref w)
    rw [Array.getElem?_push, refsN_size, if_pos rfl]
  · rw [hz]; constructor
    · omega
    · decide
  · rw [hz]; exact Nat.le_trans (Nat.succ_le_succ h) (by decide)
theorem Fam.init {U : Sup} {s0 : List SEn} {e : SEn} (h : Fam U (s0 ++ [e])) : Fam U s0 := fun j q hq => h j q (by
  have : j < s0.length := by
    rcases Nat.lt_or_ge j s0.length with h | h
    · exact h
    · rw [List.getElem?_eq_none h] at hq; cases hq
  rw [List.getElem?_append_left this]; exact hq)
theorem perm4 {α : Type} (a b c d : List α) : ((a ++ b) ++ (c ++ d)).Perm ((b ++ d) ++ (a ++ c)) := by
  haveI : DecidableEq α := fun a b => Classical.propDecidable (a = b)
  refine List.perm_iff_count.mpr fun x => ?_
  simp only [List.count_append]
  omega
theorem stk_out (c : FC) {U : Sup} {s0 : List SEn} {e : SEn} (h : Fam U (s0 ++ [e])) : Conv (stkE c U (s0.length + 1)) (topE c (U.k 1 s0.length) (U.k 2 s0.length) e.v e.i ++ stkE c U s0.length) := by
  obtain ⟨h1, h2⟩ := h s0.length e (by rw [List.getElem?_append_right (Nat.le_refl _), Nat.sub_self]; rfl)
  unfold stkE topE lIt
  refine ⟨?_, rfl⟩
  simp only [flat_cons, flat_app, Ent.led, List.range_succ, List.map_append, List.map_singleton, h1, h2]
  show List.Perm (((_ ++ [_]) ++ ((_ ++ [_]) ++ flat []))) (([_] ++ ([_] ++ flat [])) ++ (_ ++ (_ ++ flat [])))
  rw [show flat [] = [] from rfl, List.append_nil, List.append_nil, List.append_nil]
  exact perm4 ..
theorem fcI_conv {β : BB} {c : FC} {k : Nat} {it : Value} {z : Option Nat} {U U' : Sup} {K K' : List Ent} {r : Sup → Result} {z' : Option Nat} {K2 : Sup → List Ent} {P : Sup → Prop} (h : Sat (E1 β) (fcI β c k it z U' K' r z' K2 P)) (e : fcB β c z U' = fcB β c z U) (hc : Conv K K') : Sat (E1 β) (fcI β c k it z U K r z' K2 P) :=
  sat_conv h rfl rfl (by show Conv (fcB β c z U ++ K) (fcB β c z U' ++ K'); rw [e]; exact conv_app _ hc)
def W2R (succ : Nat → List Nat) (z : Nat) (stk : List SEn) (rb : Bool) (z2 : Nat) (s2 : List SEn) : Prop :=
  (rb = false ∧ (∀ q ∈ stk, (succ q.v)[q.i]? = none) ∧ z2 = z ∧ s2 = []) ∨
  (rb = true ∧ ∃ s0 e pop, stk = s0 ++ e :: pop ∧ (∀ q ∈ pop, (succ q.v)[q.i]? = none) ∧ (succ e.v)[e.i]? = some z2 ∧ s2 = s0 ++ [⟨e.v, e.i + 1⟩])
theorem W2R.more {succ : Nat → List Nat} {z : Nat} {stk : List SEn} {rb : Bool} {z2 : Nat} {s2 : List SEn} {e : SEn} (h : W2R succ z stk rb z2 s2) (he : (succ e.v)[e.i]? = none) : W2R succ z (stk ++ [e]) rb z2 s2 := by
  have add : ∀ {l : List SEn}, (∀ q ∈ l, (succ q.v)[q.i]? = none) → ∀ q ∈ l ++ [e], (succ q.v)[q.i]? = none := fun hl q hq => by
    rcases List.mem_append.mp hq with hq | hq
    · exact hl q hq
    · rw [List.mem_singleton.mp hq]; exact he
  rcases h with ⟨h1, h2, h3⟩ | ⟨h1, s0, q, pop, h2, h3, h4⟩
  · exact .inl ⟨h1, add h2, h3⟩
  · exact .inr ⟨h1, s0, q, pop ++ [e], by rw [h2, List.append_assoc]; rfl, add h3, h4⟩
def W2P (β : BB) (N : Nat → Str) (M : Nat) (seen : Nat → Bool) (rb : Bool) (s2 : List SEn) (u : Sup) : Prop :=
  Core β N M u seen s2 ∧ (rb = true → ∃ s0 e, s2 = s0 ++ [e] ∧ Top u s0 (u.k 0 8) ∧ u.k 0 6 = s0.length ∧ u.k 0 10 = e.v ∧ u.k 0 11 = e.i) ∧ (rb = false → u.xs 1 = #[])
theorem topS_k (U : Sup) (n1 ty w l v i : Nat) : (topS U n1 ty w l v i).k 1 = U.k 1 ∧ (topS U n1 ty w l v i).k 3 = U.k 3 ∧ (topS U n1 ty w l v i).k 0 6 = n1 ∧ (topS U n1 ty w l v i).k 0 8 = w ∧ (topS U n1 ty w l v i).k 0 10 = v ∧ (topS U n1 ty w l v i).k 0 11 = i := ⟨rfl, rfl, rfl, rfl, rfl, rfl⟩
theorem topS_P (β : BB) {N : Nat → Str} {M : Nat} {U : Sup} {seen : Nat → Bool} {s0 : List SEn} {e : SEn} {w : Nat} (ty l : Nat) (hc : Core β N M U seen (s0 ++ [e])) (ht : Top U s0 w) : W2P β N M seen true (s0 ++ [⟨e.v, e.i + 1⟩]) (topS U s0.length ty w l e.v (e.i + 1)) := by
  obtain ⟨h1, h2, h3, h4, h5, h6⟩ := topS_k U s0.length ty w l e.v (e.i + 1)
  refine ⟨(hc.last _).same rfl rfl rfl, fun _ => ⟨s0, ⟨e.v, e.i + 1⟩, rfl, ⟨?_, fun j q hq => ?_⟩, h3, h5, h6⟩, fun h => nomatch h⟩
  · rw [h1, h4]; exact ht.1
  · rw [h2]; exact ht.2 j q hq
theorem w2_top (β : BB) (c : FC) {succ : Nat → List Nat} (hs : ∀ v, v < c.M → StrsOf (c.D.xs v) ((succ v).map c.N)) (z : Nat) :
    ∀ (m : Nat) (s0 : List SEn) (e : SEn), s0.length = m → ∃ rb z2 s2, W2R succ z (s0 ++ [e]) rb z2 s2 ∧ ∀ (U : Sup) (seen : Nat → Bool) (w l : Nat), Core β c.N c.M U seen (s0 ++ [e]) → Top U s0 w →
      Sat (E1 β) (w2I β c z U (topE c w l e.v e.i ++ stkE c U s0.length) rb z2 (W2P β c.N c.M seen rb s2)) := by
  intro m
  have big : ∀ {n : Nat}, n ≤ 20 → n ≤ BIG := fun h => Nat.le_trans h (by decide)
  have some' : ∀ (s0 : List SEn) (e : SEn) (y : Nat), (succ e.v)[e.i]? = some y → ∃ rb z2 s2, W2R succ z (s0 ++ [e]) rb z2 s2 ∧ ∀ (U : Sup) (seen : Nat → Bool) (w l : Nat), Core β c.N c.M U seen (s0 ++ [e]) → Top U s0 w →
      Sat (E1 β) (w2I β c z U (topE c w l e.v e.i ++ stkE c U s0.length) rb z2 (W2P β c.N c.M seen rb s2)) := fun s0 e y hy =>
    ⟨true, y, s0 ++ [⟨e.v, e.i + 1⟩], .inr ⟨rfl, s0, e, [], rfl, (fun _ h => nomatch h), hy, rfl⟩, fun U seen w l hc ht => by
      obtain ⟨hl, hz, _, hv⟩ := hc.one
      obtain ⟨ty, hty⟩ := (hs e.v hv).at (i := e.i) (z := c.N y) (by rw [List.getElem?_map, hy]; rfl)
      exact sat_of (fun n t g X Y σ => fv2_run β c z U _ w l e.v e.i s0.length y ty ..) fun n t g X Y σ =>
        ⟨hz, big hl, by rw [ht.1]; exact refs_last _ _ _ (Nat.le_of_succ_le hl), hv, hty, topS_P β ty l hc ht⟩⟩
  have none' : ∀ (s0 : List SEn) (e : SEn), (succ e.v)[e.i]? = none → ∀ rb z2 s2, (∀ (U : Sup) (seen : Nat → Bool), Core β c.N c.M U seen s0 → U.xs 1 = refsN (U.k 1) s0.length → Fam U s0 → Sat (E1 β) (w2I β c z U (stkE c U s0.length) rb z2 (W2P β c.N c.M seen rb s2))) →
      ∀ (U : Sup) (seen : Nat → Bool) (w l : Nat), Core β c.N c.M U seen (s0 ++ [e]) → Top U s0 w → Sat (E1 β) (w2I β c z U (topE c w l e.v e.i ++ stkE c U s0.length) rb z2 (W2P β c.N c.M seen rb s2)) := fun s0 e hy rb z2 s2 hn U seen w l hc ht => by
    obtain ⟨hl, hz, hd, hv⟩ := hc.one
    obtain ⟨⟨tv, hb⟩, hi⟩ := hc.idx
    have h1 : (U.xs 1).size = s0.length + 1 := by rw [ht.1, Array.size_push, refsN_size]
    exact sat_of (fun n t g X Y σ => fv3_run β c z U _ w l e.v e.i s0.length s0.length tv rb z2 ..) fun n t g X Y σ =>
      ⟨hz, big hl, by rw [ht.1]; exact refs_last _ _ _ (Nat.le_of_succ_le hl), hv, (hs e.v hv).end (by rw [List.length_map]; exact List.getElem?_eq_none_iff.mp hy), hb, by rw [hz]; exact big hl, hc.nk, hi, by rw [hd]; exact Nat.le_trans hl (by decide), by rw [ht.1]; exact refs_back .., by rw [h1]; exact big hl,
        hn (popS U (σ 6) s0.length) seen hc.pop (by show (U.xs 1).pop = _; rw [ht.1]; exact refs_pop ..) ht.2, id⟩
  induction m with
  | zero =>
    intro s0 e h0
    obtain rfl := List.length_eq_zero_iff.mp h0
    cases hy : (succ e.v)[e.i]? with
    | some y => exact some' [] e y hy
    | none =>
      refine ⟨false, z, [], .inl ⟨rfl, fun q hq => by rw [List.mem_singleton.mp hq]; exact hy, rfl, rfl⟩, none' [] e hy _ _ _ fun U seen hc hx hf => ?_⟩
      have h1 : Sat (E1 β) (w2I β c z U [] false z (W2P β c.N c.M seen false [])) := sat_of (fun n t g X Y σ => fv1_run β c z U _ ..) fun n t g X Y σ => ⟨hc.size, big (Nat.zero_le 20), hc, (fun h => nomatch h), fun _ => hx⟩
      exact fcI_conv h1 rfl ⟨.refl _, rfl⟩
  | succ m ih =>
    intro s0 e h0
    cases hy : (succ e.v)[e.i]? with
    | some y => exact some' s0 e y hy
    | none =>
      rcases List.eq_nil_or_concat s0 with rfl | ⟨s1, e1, rfl⟩
      · cases h0
      rw [List.concat_eq_append] at h0 ⊢
      have h1 : s1.length = m := by rw [List.length_append] at h0; exact Nat.succ.inj h0
      obtain ⟨rb, z2, s2, hR, hS⟩ := ih s1 e1 h1
      refine ⟨rb, z2, s2, hR.more hy, none' (s1 ++ [e1]) e hy _ _ _ fun U seen hc hx hf => ?_⟩
      rw [List.length_append] at hx ⊢
      exact fcI_conv (hS U seen (U.k 1 s1.length) (U.k 2 s1.length) hc ⟨by rw [hx]; exact (refsN_push ..).symm, hf.init⟩) rfl (stk_out c hf)
noncomputable section
def famS (u : Sup) (n1 w l v i : Nat) : Sup := { u with k := fun a b => (match a with | 0 => u.k 0 b | 1 => upd (u.k 1) n1 w b | 2 => upd (u.k 2) n1 l b | _ => upd (u.k 3) n1 v b), z := fun _ b => upd (u.z 1) n1 (Int.ofNat i) b }
end
theorem stk_in (c : FC) (u : Sup) (n1 w l v i : Nat) : Conv (topE c w l v i ++ stkE c u n1) (stkE c (famS u n1 w l v i) (n1 + 1)) := by
  refine ⟨?_, rfl⟩
  show List.Perm ([(w, mwO l)] ++ ([(l, lIt c v (Int.ofNat i))] ++ ((List.range n1).map (fun j => (u.k 1 j, mwO (u.k 2 j))) ++ ((List.range n1).map (fun j => (u.k 2 j, lIt c (u.k 3 j) (u.z 1 j))) ++ []))))
    ((List.range (n1 + 1)).map (fun j => (upd (u.k 1) n1 w j, mwO (upd (u.k 2) n1 l j))) ++ ((List.range (n1 + 1)).map (fun j => (upd (u.k 2) n1 l j, lIt c (upd (u.k 3) n1 v j) (upd (u.z 1) n1 (Int.ofNat i) j))) ++ []))
  have a1 : (List.range (n1 + 1)).map (fun j => (upd (u.k 1) n1 w j, mwO (upd (u.k 2) n1 l j))) = (List.range n1).map (fun j => (u.k 1 j, mwO (u.k 2 j))) ++ [(w, mwO l)] := by
    rw [List.range_succ, List.map_append, List.map_singleton, upd_eq, upd_eq]
    congr 1
    exact List.map_congr_left fun j hj => by rw [upd_ne (Nat.ne_of_lt (List.mem_range.mp hj)), upd_ne (Nat.ne_of_lt (List.mem_range.mp hj))]
  have a2 : (List.range (n1 + 1)).map (fun j => (upd (u.k 2) n1 l j, lIt c (upd (u.k 3) n1 v j) (upd (u.z 1) n1 (Int.ofNat i) j))) = (List.range n1).map (fun j => (u.k 2 j, lIt c (u.k 3 j) (u.z 1 j))) ++ [(l, lIt c v (Int.ofNat i))] := by
    rw [List.range_succ, List.map_append, List.map_singleton, upd_eq, upd_eq, upd_eq]
    congr 1
    exact List.map_congr_left fun j hj => by rw [upd_ne (Nat.ne_of_lt (List.mem_range.mp hj)), upd_ne (Nat.ne_of_lt (List.mem_range.mp hj)), upd_ne (Nat.ne_of_lt (List.mem_range.mp hj))]
  rw [a1, a2, List.append_nil, List.append_nil]
  have := (perm4 ((List.range n1).map (fun j => (u.k 1 j, mwO (u.k 2 j)))) [(w, mwO l)] ((List.range n1).map (fun j => (u.k 2 j, lIt c (u.k 3 j) (u.z 1 j)))) [(l, lIt c v (Int.ofNat i))]).symm
  rw [List.append_assoc] at this
  exact this
theorem famS_fam {u : Sup} {s0 : List SEn} {e : SEn} (w l : Nat) (h : Fam u s0) : Fam (famS u s0.length w l e.v e.i) (s0 ++ [e]) := fun j q hq => by
  show upd (u.k 3) s0.length e.v j = q.v ∧ upd (u.z 1) s0.length (Int.ofNat e.i) j = _
  by_cases hj : j = s0.length
  · subst hj
    rw [List.getElem?_append_right (Nat.le_refl _), Nat.sub_self] at hq
    cases hq
    exact ⟨upd_eq .., upd_eq ..⟩
  · rw [upd_ne hj, upd_ne hj]
    have : j < s0.length := by
      rcases Nat.lt_or_ge j s0.length with h | h
      · exact h
      · rw [List.getElem?_append_right h] at hq
        rw [List.getElem?_eq_none (by show 1 ≤ _; omega)] at hq
        cases hq
    rw [List.getElem?_append_left this] at hq
    exact h j q hq
theorem famS_refs {u : Sup} {n1 w l v i : Nat} (h : u.xs 1 = (refsN (u.k 1) n1).push (.ref w)) : (famS u n1 w l v i).xs 1 = refsN ((famS u n1 w l v i).k 1) (n1 + 1) := by
  show u.xs 1 = refsN (upd (u.k 1) n1 w) (n1 + 1)
  rw [h]
  exact (refsN_snoc (fun j hj => upd_ne (Nat.ne_of_lt hj)) (upd_eq ..)).symm
theorem Core.push {β : BB} {N : Nat → Str} {M : Nat} {U e : Sup} {seen : Nat → Bool} {stk : List SEn} {z w t n1 : Nat} (h : Core β N M U seen stk) (hm : SetMore (strKind Challenge.pw_ij0124_02 β.W) (stO (U.o 0)) (stO (e.o 0)) (N z)) (hs : seen z = false) (hz : z < M) (hn : z ∉ stk.map SEn.v) :
    Core β N M (pushS N U e z w t n1 (hashStr β.W (N z))) (fun k => seen k || decide (k = z)) (stk ++ [⟨z, 0⟩]) := by
  obtain ⟨l, hl, hi, hc⟩ := h.se
  refine ⟨?_, ?_, ?_, ?_, ⟨N z :: l, hm l hl, fun v => ?_, ?_⟩, ?_, ?_, h.inj, h.mb⟩
  · rw [List.map_append]; exact h.ks.push _ _
  · intro q hq
    rcases Array.mem_push.mp hq with hq | rfl
    · exact h.nk q hq
    · exact ⟨N z, by show Value.isStrOf (N z) (.str (N z) (U.k 0 2)) = true; exact isStr_iff.mpr rfl, rfl⟩
  · show (Array.push _ _).toList.map _ = _
    rw [Array.toList_push, List.map_append, List.map_append, h.nm]; rfl
  · intro q hq
    rw [show (pushS N U e z w t n1 (hashStr β.W (N z))).ds 0 = (U.ds 0).push _ from rfl, Array.toList_push] at hq
    rcases List.mem_append.mp hq with hq | hq
    · exact h.nv q hq
    · rw [List.mem_singleton.mp hq]; exact ⟨_, _, rfl⟩
  · rw [List.mem_cons, hi, Bool.or_eq_true, decide_eq_true_iff, Or.comm]
    exact or_congr .rfl ⟨fun e => h.inj _ _ e, fun e => congrArg N e⟩
  · have := count_more (l := List.range M) List.nodup_range (List.mem_range.mpr hz) hs
    rw [List.length_cons]
    exact Nat.le_trans (Nat.succ_le_succ hc) this
  · intro q hq
    rcases List.mem_append.mp hq with hq | hq
    · exact h.sn q hq
    · rw [List.mem_singleton.mp hq]; exact hz
  · rw [List.map_append]
    refine List.nodup_append.mpr ⟨h.sv, by simp, fun a ha b hb => ?_⟩
    rw [List.mem_singleton.mp hb]
    exact fun (e : a = z) => hn (e ▸ ha)
theorem w2_any (β : BB) (c : FC) {succ : Nat → List Nat} (hs : ∀ v, v < c.M → StrsOf (c.D.xs v) ((succ v).map c.N)) (z : Nat) (stk : List SEn) : ∃ rb z2 s2, W2R succ z stk rb z2 s2 ∧ ∀ (U : Sup) (seen : Nat → Bool), Core β c.N c.M U seen stk → U.xs 1 = refsN (U.k 1) stk.length → Fam U stk →
    Sat (E1 β) (w2I β c z U (stkE c U stk.length) rb z2 (W2P β c.N c.M seen rb s2)) := by
  rcases List.eq_nil_or_concat stk with rfl | ⟨s1, e1, rfl⟩
  · refine ⟨false, z, [], .inl ⟨rfl, fun q hq => (nomatch hq), rfl, rfl⟩, fun U seen hc hx hf => ?_⟩
    have h1 : Sat (E1 β) (w2I β c z U [] false z (W2P β c.N c.M seen false [])) := sat_of (fun n t g X Y σ => fv1_run β c z U _ ..) fun n t g X Y σ => ⟨hc.size, Nat.zero_le _, hc, (fun h => nomatch h), fun _ => hx⟩
    exact fcI_conv h1 rfl ⟨.refl _, rfl⟩
  · rw [List.concat_eq_append]
    obtain ⟨rb, z2, s2, hR, hS⟩ := w2_top β c hs z s1.length s1 e1 rfl
    refine ⟨rb, z2, s2, hR, fun U seen hc hx hf => ?_⟩
    rw [List.length_append] at hx ⊢
    exact fcI_conv (hS U seen (U.k 1 s1.length) (U.k 2 s1.length) hc ⟨by rw [hx]; exact (refsN_push ..).symm, hf.init⟩) rfl (stk_out c hf)
def W1P (β : BB) (N : Nat → Str) (M : Nat) (seen : Nat → Bool) (rr : Bool) (u : Sup) : Prop := (rr = true → 1 ≤ (u.xs 2).size ∧ (u.xs 2).size ≤ 2000) ∧ (rr = false → Core β N M u seen [] ∧ u.xs 1 = #[])
def W1R (M : Nat) (succ : Nat → List Nat) (seen : Nat → Bool) (z : Nat) (rr : Bool) (s2 : Nat → Bool) : Prop :=
  (rr = true → ∃ u, u < M ∧ Way succ u u) ∧ (rr = false → (∃ fin, Topo succ fin ∧ SeenIs s2 fin []) ∧ (∀ v, seen v = true ∨ v = z → s2 v = true))
theorem Core.has {β : BB} {N : Nat → Str} {M : Nat} {U : Sup} {seen : Nat → Bool} {stk : List SEn} {z : Nat} {r : Bool} (h : Core β N M U seen stk) (hs : seen z = r) : ∃ l, SetL (strKind Challenge.pw_ij0124_02 β.W) (stO (U.o 0)) l ∧ yesNo r (N z ∈ l) := by
  obtain ⟨l, h1, h2, _⟩ := h.se
  refine ⟨l, h1, ?_⟩
  cases r with
  | true => exact (h2 z).mpr hs
  | false => exact fun hm => by rw [(h2 z).mp hm] at hs; cases hs
theorem Core.find {β : BB} {N : Nat → Str} {M : Nat} {U : Sup} {seen : Nat → Bool} {stk : List SEn} {z : Nat} (h : Core β N M U seen stk) : (z ∈ stk.map SEn.v → ∃ k t, findBy Value.isStrOf (U.ds 0) (N z) = some (.int (Int.ofNat k) t)) ∧ (z ∉ stk.map SEn.v → (findBy Value.isStrOf (U.ds 0) (N z)).isSome = false ∧ (U.ds 0).findIdx? (fun q => Value.isStrOf (N z) q.key) = none) := by
  have key : ∀ q ∈ (U.ds 0).toList, ofStr q.key = some (N z) → z ∈ stk.map SEn.v := fun q hq he => by
    have : ofStr q.key ∈ stk.map (fun e => some (N e.v)) := by rw [← h.nm]; exact List.mem_map_of_mem (f := fun q : DictEntry => ofStr q.key) hq
    rw [he] at this
    obtain ⟨e, he, h'⟩ := List.mem_map.mp this
    exact List.mem_map.mpr ⟨e, he, h.inj _ _ (Option.some.inj h')⟩
  refine ⟨fun hz => ?_, fun hz => ⟨?_, find_none fun q hq he => hz (key q hq he)⟩⟩
  · cases hx : (U.ds 0).find? fun e => Value.isStrOf (N z) e.key with
    | none =>
      exfalso
      obtain ⟨e, he, rfl⟩ := List.mem_map.mp hz
      have : some (N e.v) ∈ (U.ds 0).toList.map fun q => ofStr q.key := by rw [h.nm]; exact List.mem_map.mpr ⟨e, he, rfl⟩
      obtain ⟨q, hq, hqe⟩ := List.mem_map.mp this
      exact Array.find?_eq_none.mp hx q (Array.mem_toList_iff.mp hq) (isStr_iff.mpr hqe)
    | some q =>
      obtain ⟨k, t, hv⟩ := h.nv q (Array.mem_toList_iff.mpr (Array.mem_of_find?_eq_some hx))
      exact ⟨k, t, by unfold findBy; rw [hx, Option.map_some, hv]⟩
  · cases hx : (U.ds 0).find? fun e => Value.isStrOf (N z) e.key with
    | none => unfold findBy; rw [hx]; rfl
    | some q =>
      have h1 := Array.find?_some hx
      exact absurd (key q (Array.mem_toList_iff.mpr (Array.mem_of_find?_eq_some hx)) (isStr_iff.mp h1)) hz
theorem dfs_leave {succ : Nat → List Nat} {stk : List SEn} {seen : Nat → Bool} {fin : List Nat} (hd : Dn succ fin stk.reverse) (ht : Topo succ fin) (hse : SeenIs seen fin stk) (hall : ∀ q ∈ stk, (succ q.v)[q.i]? = none) : ∃ fin', Topo succ fin' ∧ SeenIs seen fin' [] := by
  obtain ⟨h1, _⟩ := Dn.pops stk.reverse (l := []) (by simpa using hd) (fun q hq => hall q (by simpa using hq)) ht
  refine ⟨_, h1, fun v => ?_⟩
  rw [hse v]
  simp
  exact Or.comm
theorem dfs_go {succ : Nat → List Nat} {seen : Nat → Bool} {fin : List Nat} {s0 : List SEn} {e : SEn} {pop : List SEn} {y : Nat} (hd : Dn succ fin (s0 ++ e :: pop).reverse) (ht : Topo succ fin) (hse : SeenIs seen fin (s0 ++ e :: pop)) (hnd : ((s0 ++ e :: pop).map SEn.v).Nodup) (hdj : ∀ v ∈ (s0 ++ e :: pop).map SEn.v, v ∉ fin)
    (hp : ∀ q ∈ pop, (succ q.v)[q.i]? = none) (hy : (succ e.v)[e.i]? = some y) : ∃ fin', Ch succ fin' (s0 ++ [SEn.mk e.v (e.i + 1)]).reverse y ∧ Topo succ fin' ∧ SeenIs seen fin' (s0 ++ [SEn.mk e.v (e.i + 1)]) ∧ ((s0 ++ [SEn.mk e.v (e.i + 1)]).map SEn.v).Nodup ∧ (∀ v ∈ (s0 ++ [SEn.mk e.v (e.i + 1)]).map SEn.v, v ∉ fin') ∧ rest succ (s0 ++ [SEn.mk e.v (e.i + 1)]) + 2 ≤ rest succ (s0 ++ e :: pop) := by
  have hrev : (s0 ++ e :: pop).reverse = pop.reverse ++ (e :: s0.reverse) := by simp
  rw [hrev] at hd
  obtain ⟨h1, h2⟩ := Dn.pops pop.reverse hd (fun q hq => hp q (by simpa using hq)) ht
  have hlt : e.i < (succ e.v).length := by
    rcases Nat.lt_or_ge e.i (succ e.v).length with h | h
    · exact h
    · rw [List.getElem?_eq_none h] at hy; cases hy
  have hnd' : ((s0 ++ [e]).map SEn.v ++ pop.map SEn.v).Nodup := by simpa using hnd
  refine ⟨_, ?_, h1, fun v => ?_, ?_, fun v hv => ?_, ?_⟩
  · have := h2.next hy
    simpa using this
  · rw [hse v]
    simp only [List.map_append, List.map_cons, List.map_nil, List.mem_append, List.mem_cons, List.not_mem_nil, or_false, List.mem_reverse, List.map_reverse, List.reverse_reverse]
    constructor
    · rintro (h | h | h | h)
      · exact .inl (.inr h)
      · exact .inr (.inl h)
      · exact .inr (.inr h)
      · exact .inl (.inl h)
    · rintro ((h | h) | h | h)
      · exact .inr (.inr (.inr h))
      · exact .inl h
      · exact .inr (.inl h)
      · exact .inr (.inr (.inl h))
  · have := (List.nodup_append.mp hnd').1
    simpa using this
  · have hv' : v ∈ (s0 ++ [e]).map SEn.v := by simpa using hv
    intro hc
    rcases List.mem_append.mp hc with h | h
    · have h : v ∈ pop.map SEn.v := by simpa using h
      exact (List.nodup_append.mp hnd').2.2 v hv' v h rfl
    · refine hdj v ?_ h
      rw [List.map_append, List.map_cons]
      rw [List.map_append, List.map_cons, List.map_nil] at hv'
      rcases List.mem_append.mp hv' with h | h
      · exact List.mem_append_left _ h
      · exact List.mem_append_right _ (by rw [List.mem_singleton.mp h]; exact List.mem_cons_self)
  · rw [rest_app, rest_app]
    unfold rest
    simp only [List.map_cons, List.map_nil, List.sum_cons, List.sum_nil]
    omega
theorem w1_in {β : BB} {c : FC} {z z2 : Nat} {rr : Bool} {P : Sup → Prop} {seen : Nat → Bool} {s2 : List SEn} (h : ∀ U, Core β c.N c.M U seen s2 → U.xs 1 = refsN (U.k 1) s2.length → Fam U s2 → Sat (E1 β) (w1I β c z U (stkE c U s2.length) rr z2 P)) {u : Sup} (hp : W2P β c.N c.M seen true s2 u) : Sat (E1 β) (w1I β c z u (topK c true u) rr z2 P) := by
  obtain ⟨hc, ht, _⟩ := hp
  obtain ⟨s0, e, rfl, ht, h1, h2, h3⟩ := ht rfl
  have := h (famS u s0.length (u.k 0 8) (u.k 0 9) e.v e.i) (hc.same rfl rfl rfl) (by rw [List.length_append]; exact famS_refs ht.1) (famS_fam _ _ ht.2)
  rw [List.length_append] at this
  refine fcI_conv this rfl ?_
  show Conv (topE c (u.k 0 8) (u.k 0 9) (u.k 0 10) (u.k 0 11) ++ stkE c u (u.k 0 6)) _
  rw [h1, h2, h3]
  exact stk_in ..
structure GrIs (β : BB) (c : FC) (succ : Nat → List Nat) : Prop where
  hs : ∀ v, v < c.M → StrsOf (c.D.xs v) ((succ v).map c.N)
  cl : ∀ v, v < c.M → ∀ y ∈ succ v, y < c.M
  ek : KeysOf (strKind Challenge.pw_ij0124_02 β.W) c.es
  inj : ∀ a b, c.N a = c.N b → a = b
  mb : c.M ≤ 20
  mp : 0 < c.M
  ef : ∀ v, v < c.M → findBy Value.isStrOf c.es (c.N v) = some (.ref (c.ia v))
theorem big7 {n : Nat} (h : n ≤ 21) : n ≤ BIG := Nat.le_trans h (by decide)
theorem w1_sat {β : BB} {c : FC} {succ : Nat → List Nat} (G : GrIs β c succ) : ∀ (m z : Nat) (stk : List SEn) (seen : Nat → Bool) (fin : List Nat), rest succ stk + todo succ seen (List.range c.M) + 1 = m → z < c.M → Ch succ fin stk.reverse z → Topo succ fin → SeenIs seen fin stk → (stk.map SEn.v).Nodup → (∀ e ∈ stk, e.v < c.M) → (∀ v ∈ stk.map SEn.v, v ∉ fin) →
    ∃ rr z2 s2, W1R c.M succ seen z rr s2 ∧ ∀ U, Core β c.N c.M U seen stk → U.xs 1 = refsN (U.k 1) stk.length → Fam U stk → Sat (E1 β) (w1I β c z U (stkE c U stk.length) rr z2 (W1P β c.N c.M s2 rr)) := by
  intro m
  induction m using Nat.strongRecOn with
  | _ m ih =>
  intro z stk seen fin hm hz hch ht hse hnd hv hdj
  cases hs : seen z with
  | true =>
    by_cases hzs : z ∈ stk.map SEn.v
    · refine ⟨true, z, seen, ⟨fun _ => ⟨z, hz, ?_⟩, (fun h => nomatch h)⟩, fun U hc hx hf => ?_⟩
      · obtain ⟨e, he, rfl⟩ := List.mem_map.mp hzs
        exact hch.ring e (List.mem_reverse.mpr he)
      · obtain ⟨kp, tp, hk⟩ := hc.find.1 hzs
        have hsl := slicePick_size_le (U.xs 0) (some (Int.ofNat kp)) none none
        have hz0 := hc.size
        have hl := hc.len
        have hq : (slicePick (U.xs 0) (some (Int.ofNat kp)) none none).size ≤ 20 := by omega
        refine sat_of (fun n t g X Y σ => fw1_run β c z U _ stk.length kp tp ..) fun n t g X Y σ => ⟨hc.has hs, rfl, hc.nk, by rw [hk]; rfl, hc.nk, hk, (fun h => nomatch h), by rw [hz0]; exact big7 (Nat.le_succ_of_le hl), big7 (Nat.succ_le_succ hq), fun _ => ?_, (fun h => nomatch h)⟩
        show 1 ≤ (slicePick (U.xs 0) (some (Int.ofNat kp)) none none ++ #[Value.str (c.N z) (U.k 0 2)]).size ∧ _
        rw [show (ringS U _ _).xs 2 = slicePick (U.xs 0) (some (Int.ofNat kp)) none none ++ #[Value.str (c.N z) (U.k 0 2)] from rfl, Array.size_append]
        exact ⟨Nat.succ_le_succ (Nat.zero_le _), Nat.le_trans (Nat.succ_le_succ hq) (by decide)⟩
    · have hzf : z ∈ fin := ((hse z).mp hs).resolve_right hzs
      have hd := hch.done hzf
      obtain ⟨rb, z2, s2, hR, hS⟩ := w2_any β c G.hs z stk
      rcases hR with ⟨rfl, hall, rfl, rfl⟩ | ⟨rfl, s0, e, pop, rfl, hp, hy, rfl⟩
      · exact ⟨false, z2, seen, ⟨(fun h => nomatch h), fun _ => ⟨dfs_leave hd ht hse hall, fun v hv => hv.elim id fun e => e ▸ hs⟩⟩, fun U hc hx hf => sat_of (fun n t g X Y σ => fw2b_run β c z2 U _ stk.length (W2P β c.N c.M seen false []) ..) fun n t g X Y σ =>
          ⟨hc.has hs, rfl, hc.nk, (hc.find.2 hzs).1, hS U seen hc hx hf, fun h => ⟨(fun h => nomatch h), fun _ => ⟨h.1, h.2.2 rfl⟩⟩⟩⟩
      · obtain ⟨fin', a1, a2, a3, a4, a5, a6⟩ := dfs_go hd ht hse hnd hdj hp hy
        have he := hv e (List.mem_append_right _ List.mem_cons_self)
        obtain ⟨rr, z3, s3, hR3, hS3⟩ := ih _ (by omega) z2 (s0 ++ [SEn.mk e.v (e.i + 1)]) seen fin' rfl (G.cl e.v he _ (List.mem_of_getElem? hy)) a1 a2 a3 a4 (fun q hq => by
          rcases List.mem_append.mp hq with h | h
          · exact hv q (List.mem_append_left _ h)
          · rw [List.mem_singleton.mp h]; exact he) a5
        exact ⟨rr, z3, s3, ⟨hR3.1, fun h => ⟨(hR3.2 h).1, fun v hv => (hR3.2 h).2 v (.inl (hv.elim id fun e => e ▸ hs))⟩⟩, fun U hc hx hf => sat_of (fun n t g X Y σ => fw2n_run β c z U _ (s0 ++ e :: pop).length (W2P β c.N c.M seen true (s0 ++ [SEn.mk e.v (e.i + 1)])) z2 z3 rr ..) fun n t g X Y σ =>
          ⟨hc.has hs, rfl, hc.nk, (hc.find.2 hzs).1, hS U seen hc hx hf, fun h => ⟨w1_in hS3 h, id⟩⟩⟩
  | false =>
    have hzn : ¬ (z ∈ fin ∨ z ∈ stk.map SEn.v) := fun h => by
      have := (hse z).mpr h
      rw [hs] at this
      cases this
    have hzs : z ∉ stk.map SEn.v := fun h => hzn (.inr h)
    have hd : Dn succ fin (stk ++ [SEn.mk z 0]).reverse := by
      rw [List.reverse_append]
      exact Ch.push (e := (SEn.mk z 0)) hch rfl
    have hse' : SeenIs (fun k => seen k || decide (k = z)) fin (stk ++ [SEn.mk z 0]) := fun v => by
      rw [Bool.or_eq_true, hse v, decide_eq_true_eq, List.map_append, List.map_cons, List.map_nil, List.mem_append, List.mem_singleton, or_assoc]
    have hdj' : ∀ v ∈ (stk ++ [SEn.mk z 0]).map SEn.v, v ∉ fin := fun v hv => by
      rw [List.map_append, List.map_cons, List.map_nil, List.mem_append, List.mem_singleton] at hv
      rcases hv with h | rfl
      · exact hdj v h
      · exact fun h => hzn (.inl h)
    have hnd' : ((stk ++ [SEn.mk z 0]).map SEn.v).Nodup := by
      rw [List.map_append]
      refine List.nodup_append.mpr ⟨hnd, by simp, fun a ha b hb => ?_⟩
      rw [List.mem_singleton.mp hb]
      exact fun (e : a = z) => hzs (e ▸ ha)
    have hv' : ∀ e ∈ stk ++ [SEn.mk z 0], e.v < c.M := fun q hq => by
      rcases List.mem_append.mp hq with h | h
      · exact hv q h
      · rw [List.mem_singleton.mp h]; exact hz
    have hb : ∀ v, seen v = true ∨ v = z → (seen v || decide (v = z)) = true := fun v hv => by rw [Bool.or_eq_true, decide_eq_true_eq]; exact hv
    have hmm : rest succ (stk ++ [SEn.mk z 0]) + todo succ (fun k => seen k || decide (k = z)) (List.range c.M) + 1 ≤ m + 1 := by
      have := todo_less (succ := succ) (List.mem_range.mpr hz) hs
      rw [rest_app]
      have h2 : rest succ [(SEn.mk z 0)] ≤ 2 * (succ z).length + 1 := by
        unfold rest
        simp
      omega
    have cond : ∀ {U : Sup}, Core β c.N c.M U seen stk → U.xs 1 = refsN (U.k 1) stk.length → (∃ l, SetL (strKind Challenge.pw_ij0124_02 β.W) (stO (U.o 0)) l ∧ l.length ≤ 1000) ∧ (U.xs 1).size ≤ BIG ∧ stk.length ≤ BIG ∧ (U.ds 0).findIdx? (fun q => Value.isStrOf (c.N z) q.key) = none ∧ (U.ds 0).size ≤ 1000000 ∧ (U.xs 0).size ≤ BIG := fun hc hx => by
      have hl := hc.len
      obtain ⟨l, h1, _, h3⟩ := hc.se
      refine ⟨⟨l, h1, Nat.le_trans h3 (Nat.le_trans (List.length_filter_le ..) (by rw [List.length_range]; exact Nat.le_trans G.mb (by decide)))⟩, by rw [hx, refsN_size]; exact big7 (Nat.le_succ_of_le hl), big7 (Nat.le_succ_of_le hl), (hc.find.2 hzs).2, by rw [hc.dsize]; exact Nat.le_trans hl (by decide), by rw [hc.size]; exact big7 (Nat.le_succ_of_le hl)⟩
    obtain ⟨rb, z2, s2, hR, hS⟩ := w2_top β c G.hs z stk.length stk (SEn.mk z 0) rfl
    have inner : ∀ {U e : Sup} (w l t : Nat), Core β c.N c.M U seen stk → U.xs 1 = refsN (U.k 1) stk.length → Fam U stk → SetMore (strKind Challenge.pw_ij0124_02 β.W) (stO (U.o 0)) (stO (e.o 0)) (c.N z) → Sat (E1 β) (w2I β c z (pushS c.N U e z w t stk.length (hashStr β.W (c.N z))) (topE c w l z 0 ++ stkE c U stk.length) rb z2 (W2P β c.N c.M (fun k => seen k || decide (k = z)) rb s2)) := fun {U e} w l t hc hx hf hm =>
      hS (pushS c.N U e z w t stk.length (hashStr β.W (c.N z))) _ w l (hc.push hm hs hz hzs) ⟨by show (U.xs 1).push _ = _; rw [hx]; rfl, hf⟩
    rcases hR with ⟨rfl, hall, rfl, rfl⟩ | ⟨rfl, s0, e, pop, he0, hp, hy, rfl⟩
    · exact ⟨false, z2, _, ⟨(fun h => nomatch h), fun _ => ⟨dfs_leave hd ht hse' hall, hb⟩⟩, fun U hc hx hf => sat_of (fun n t g X Y σ => fw3b_run β c z2 U _ stk.length (W2P β c.N c.M (fun k => seen k || decide (k = z2)) false []) z2 ..) fun n t g X Y σ => by
        obtain ⟨c1, c2, c3, c4, c5, c6⟩ := cond hc hx
        exact ⟨hc.has hs, rfl, c1, rfl, fun hm => ⟨G.ek, G.ef _ hz, hz, hz, hz, hz, hz, hz, hz, hz, c2, hc.size, c3, hc.nk, c4, c5, c6, inner _ _ _ hc hx hf hm, fun h => ⟨(fun h => nomatch h), fun _ => ⟨h.1, h.2.2 rfl⟩⟩⟩⟩⟩
    · rw [he0] at hd hse' hdj' hnd' hv' hmm
      obtain ⟨fin', a1, a2, a3, a4, a5, a6⟩ := dfs_go hd ht hse' hnd' hdj' hp hy
      have he := hv' e (List.mem_append_right _ List.mem_cons_self)
      obtain ⟨rr, z3, s3, hR3, hS3⟩ := ih _ (by omega) z2 (s0 ++ [SEn.mk e.v (e.i + 1)]) _ fin' rfl (G.cl e.v he _ (List.mem_of_getElem? hy)) a1 a2 a3 a4 (fun q hq => by
        rcases List.mem_append.mp hq with h | h
        · exact hv' q (List.mem_append_left _ h)
        · rw [List.mem_singleton.mp h]; exact he) a5
      exact ⟨rr, z3, s3, ⟨hR3.1, fun h => ⟨(hR3.2 h).1, fun v hv => (hR3.2 h).2 v (.inl (hb v hv))⟩⟩, fun U hc hx hf => sat_of (fun n t g X Y σ => fw3n_run β c z U _ stk.length (W2P β c.N c.M (fun k => seen k || decide (k = z)) true (s0 ++ [SEn.mk e.v (e.i + 1)])) z2 z3 rr ..) fun n t g X Y σ => by
        obtain ⟨c1, c2, c3, c4, c5, c6⟩ := cond hc hx
        exact ⟨hc.has hs, rfl, c1, rfl, fun hm => ⟨G.ek, G.ef _ hz, hz, hz, hz, hz, hz, hz, hz, hz, c2, hc.size, c3, hc.nk, c4, c5, c6, inner _ _ _ hc hx hf hm, fun h => ⟨w1_in hS3 h, id⟩⟩⟩⟩
structure OdIs (c : FC) (od : List Nat) : Prop where
  dom : c.es.toList.map (fun e => ofStr e.key) = od.map fun v => some (c.N v)
  lt : ∀ v ∈ od, v < c.M
  all : ∀ v, v < c.M → v ∈ od
theorem OdIs.size {c : FC} {od : List Nat} (h : OdIs c od) : c.es.size = od.length := by
  have := congrArg List.length h.dom
  rwa [List.length_map, List.length_map, Array.length_toList] at this
theorem OdIs.at {c : FC} {od : List Nat} (h : OdIs c od) {i v : Nat} (hv : od[i]? = some v) : ∃ t, c.es[i]?.map DictEntry.key = some (.str (c.N v) t) := by
  have h1 : (c.es.toList.map (fun e => ofStr e.key))[i]? = some (some (c.N v)) := by rw [h.dom, List.getElem?_map, hv]; rfl
  rw [List.getElem?_map, Array.getElem?_toList] at h1
  cases hx : c.es[i]? with
  | none => rw [hx] at h1; cases h1
  | some x =>
    rw [hx] at h1
    obtain ⟨t, ht⟩ := ofStr_some (Option.some.inj h1)
    exact ⟨t, congrArg some ht⟩
def ringP (rr : Bool) (u : Sup) : Prop := rr = true → 1 ≤ (u.xs 2).size ∧ (u.xs 2).size ≤ 2000
def RingR (M : Nat) (succ : Nat → List Nat) (rr : Bool) : Prop := (rr = true → ∃ u, u < M ∧ Way succ u u) ∧ (rr = false → ∀ u, u < M → ¬ Way succ u u)
theorem f0_sat {β : BB} {c : FC} {succ : Nat → List Nat} (G : GrIs β c succ) {od : List Nat} (O : OdIs c od) : ∀ (k i : Nat) (q : Bool) (z0 : Nat) (seen : Nat → Bool) (fin : List Nat), od.length = i + k → q = decide (0 < i) → Topo succ fin → SeenIs seen fin [] → (∀ j v, j < i → od[j]? = some v → v ∈ fin) →
    ∃ rr z2, RingR c.M succ rr ∧ ∀ (U : Sup) (aT : Nat), Core β c.N c.M U seen [] → U.xs 1 = #[] → Sat (E1 β) (f0I β c q z0 U aT i c.es.size rr z2 (ringP rr)) := by
  intro k
  induction k with
  | zero =>
    intro i q z0 seen fin hk hq ht hse hb
    have h6 : 0 < i := by
      have := List.length_pos_of_mem (O.all 0 G.mp)
      omega
    rw [hq, decide_eq_true h6]
    refine ⟨false, z0, ⟨(fun h => nomatch h), fun _ u hu hw => ?_⟩, fun U aT hc hx => sat_of (fun n t g X Y σ => ff3_run β c z0 0 0 U _ aT i c.es.size 0 ..) fun n t g X Y σ => ⟨rfl, ?_, (fun h => nomatch h)⟩⟩
    · obtain ⟨j, hj, he⟩ := List.getElem_of_mem (O.all u hu)
      exact Topo.no_ring ht (hb j u (by omega) (by rw [List.getElem?_eq_getElem hj, he])) hw
    · show Option.map _ c.es[i]? = none
      rw [Array.getElem?_eq_none_iff.mpr (by rw [O.size]; omega)]; rfl
  | succ k ih =>
    intro i q z0 seen fin hk hq ht hse hb
    obtain ⟨z, h1, _⟩ := drop_next hk
    obtain ⟨tz, h2⟩ := O.at h1
    have hz := O.lt z (List.mem_of_getElem? h1)
    have hk' : od.length = (i + 1) + k := by omega
    cases hs : seen z with
    | true =>
      have hzf : z ∈ fin := ((hse z).mp hs).resolve_right (fun h => nomatch h)
      obtain ⟨rr, z2, hR, hS⟩ := ih (i + 1) true z seen fin hk' rfl ht hse (fun j v hj hv => by
        rcases Nat.lt_succ_iff_lt_or_eq.mp hj with hj | rfl
        · exact hb j v hj hv
        · rw [h1] at hv; cases hv; exact hzf)
      exact ⟨rr, z2, hR, fun U aT hc hx => sat_of (fun n t g X Y σ => ff1_run β c q z0 z tz U _ aT i c.es.size z2 rr ..) fun n t g X Y σ => ⟨rfl, h2, hc.has hs, rfl, hS _ _ (hc.same rfl rfl rfl) hx, id⟩⟩
    | false =>
      obtain ⟨rr, z2, s2, hR, hS⟩ := w1_sat G _ z [] seen fin rfl hz trivial ht hse .nil (fun e he => nomatch he) (fun v hv => nomatch hv)
      have w1 : ∀ (U : Sup) (t : Nat), Core β c.N c.M U seen [] → U.xs 1 = #[] → Sat (E1 β) (w1I β c z (nodeS U q t tz) [] rr z2 (W1P β c.N c.M s2 rr)) := fun U t hc hx => fcI_conv (hS (nodeS U q t tz) (hc.same rfl rfl rfl) hx (fun j e h => nomatch h)) rfl ⟨.refl _, rfl⟩
      cases rr with
      | true => exact ⟨true, z2, ⟨fun _ => hR.1 rfl, (fun h => nomatch h)⟩, fun U aT hc hx => sat_of (fun n t g X Y σ => ff2r_run β c q z0 z tz U _ aT i c.es.size z2 (W1P β c.N c.M s2 true) ..) fun n t g X Y σ => ⟨rfl, h2, hc.has hs, rfl, w1 U _ hc hx, fun h => h.1⟩⟩
      | false =>
        obtain ⟨⟨fin', b1, b2⟩, b3⟩ := hR.2 rfl
        have inF : ∀ v, seen v = true ∨ v = z → v ∈ fin' := fun v hv => ((b2 v).mp (b3 v hv)).resolve_right (fun h => nomatch h)
        obtain ⟨rr, z3, hR3, hS3⟩ := ih (i + 1) true z2 s2 fin' hk' rfl b1 b2 (fun j v hj hv => by
          rcases Nat.lt_succ_iff_lt_or_eq.mp hj with hj | rfl
          · exact inF v (.inl ((hse v).mpr (.inl (hb j v hj hv))))
          · rw [h1] at hv; cases hv; exact inF _ (.inr rfl))
        exact ⟨rr, z3, hR3, fun U aT hc hx => sat_of (fun n t g X Y σ => ff2n_run β c q z0 z tz U _ aT i c.es.size z3 (W1P β c.N c.M s2 false) z2 rr ..) fun n t g X Y σ => ⟨rfl, h2, hc.has hs, rfl, w1 U _ hc hx, fun h => ⟨hS3 _ _ (h.2 rfl).1 (h.2 rfl).2, id⟩⟩⟩
theorem set_new {prog : Program} {w : World} {K : Type} [DecidableEq K] (knd : KeyKind prog w K) (e : Nat) (b : Bool) : SetIs knd ⟨.type "set", none, .set #[] e (SetTable.fresh 0 0 b), #[]⟩ (fun _ => false) 0 := by
  refine ⟨#[], e, _, ⟨rfl, rfl, rfl⟩, rfl, ?_, by simp, by decide, ?_, rfl⟩
  · intro p hp; simp at hp
  · cases b <;> decide
theorem core_new (β : BB) {N : Nat → Str} {M : Nat} (hN : ∀ a b, N a = N b → a = b) (hM : M ≤ 20) (U : Sup) : Core β N M (freshS β U) (fun _ => false) [] where
  ks := rfl
  nk := fun e he => absurd he (Array.not_mem_empty e)
  nm := rfl
  nv := fun e he => nomatch he
  se := ⟨[], ⟨0, Nat.le_refl 0, by
    have := set_new (strKind Challenge.pw_ij0124_02 β.W) 0 (!(β.W.params.followText "set-order"))
    have e : (fun k : Str => decide (k ∈ ([] : List Str))) = fun _ => false := funext fun k => decide_eq_false (fun h => nomatch h)
    rw [e]
    exact this⟩, fun v => ⟨(fun h => nomatch h), (fun h => nomatch h)⟩, Nat.zero_le _⟩
  sn := fun e he => nomatch he
  sv := .nil
  inj := hN
  mb := hM
theorem fcc_sat {β : BB} {c : FC} {succ : Nat → List Nat} (G : GrIs β c succ) {od : List Nat} (O : OdIs c od) {rr : Bool} (hr : RingR c.M succ rr) (d : SoD) (U : Sup) : Sat (E1 β) (fccI β c d U rr (ringP rr)) := by
  have h : ∀ n t, ∃ z2, ∀ (V : Sup) (aT : Nat), Core β c.N c.M V (fun _ => false) [] → V.xs 1 = #[] → Sat (E1 β) (f0I β (c.at d n t) false 0 V aT 0 c.es.size rr z2 (ringP rr)) := fun n t => by
    obtain ⟨r2, z2, h1, h2⟩ := f0_sat (c := c.at d n t) ⟨G.hs, G.cl, G.ek, G.inj, G.mb, G.mp, G.ef⟩ ⟨O.dom, O.lt, O.all⟩ od.length 0 false 0 (fun _ => false) [] (Nat.zero_add _).symm rfl trivial (fun v => ⟨fun h => (nomatch h), fun h => h.elim (fun h => nomatch h) (fun h => nomatch h)⟩) (fun j v hj _ => absurd hj (Nat.not_lt_zero j))
    have e : r2 = rr := by
      cases rr with
      | true =>
        obtain ⟨u, hu, hw⟩ := hr.1 rfl
        cases r2 with
        | true => rfl
        | false => exact absurd hw (h1.2 rfl u hu)
      | false =>
        cases r2 with
        | false => rfl
        | true => obtain ⟨u, hu, hw⟩ := h1.1 rfl; exact absurd hw (hr.2 rfl u hu)
    subst e
    exact ⟨z2, h2⟩
  exact sat_of (fun n t g X Y σ => fc0_run β c d U _ (ringP rr) (Classical.choose (h n t)) rr ..) fun n t g X Y σ => ⟨Classical.choose_spec (h n t) _ _ (core_new β G.inj G.mb U) rfl, id⟩
noncomputable section
structure InfD where
  ia : Nat → Nat
  da : Nat → Nat
  tn : Nat → Nat
  tp : Nat → Nat
  np : Nat → Int
  N : Nat → Str
  M : Nat
def InfD.ob (d : InfD) (D : ArrD) (v : Nat) : Obj := ⟨.ref 112, some (d.da v), .plain, #[some (.str (d.N v) (d.tn v)), some (.int (d.np v) (d.tp v)), some (.ref (D.ad v))]⟩
def InfD.ent (d : InfD) (D : ArrD) : Ent := .m d.M d.ia (d.ob D)
def vaO (a : Nat) (i ni ep : Nat) : Obj := rcO (.type "dict_valueiterator") #[.ref a, .int (Int.ofNat i) 0, .int (Int.ofNat ni) 0, .int (Int.ofNat ep) 0]
def pcI (β : BB) (fr : List Env) (n0 loc aT aA aM eM i ni : Nat) (es : Array DictEntry) (d : InfD) (D : ArrD) (q : Bool) (u : Nat) (w : Value) (el : Nat) (as : Array Value) (ea : Nat) (R : List Str) : Inst where
  cu := cu0 (compC (TT β) 164 0 n0 loc [] 0 (.ref aT) (.ref aA))
  fr := fr
  dep := 710
  un := 6000
  pre := [.o loc (dO (cond q #[β.d "i" u w] #[]) el), .o aT (vaO aM i ni eM), .o aM (dO es eM), d.ent D, .o aA (lsO as ea)]
  post u := (.ok .next, [.o loc (dO #[β.d "i" (u.k 0 2) (u.vv 0)] (u.k 0 1)), .o aM (dO es eM), d.ent D, .o aA (lsO (u.xs 0) (u.k 0 0))], StrsOf (u.xs 0) R)
end
noncomputable section
def pcE_o (β : BB) (fr : List Env) (n0 loc aT aA aM eM i ni : Nat) (es : Array DictEntry) (d : InfD) (D : ArrD) (u : Nat) (w : Value) (el : Nat) (as : Array Value) (ea : Nat) (R : List Str) (n t g : Nat) (X : Led) (Y : GL) (σ : Nat → Sup) : Out := Go (E1 β) (pcI β fr n0 loc aT aA aM eM i ni es d D true u w el as ea R) (Hs.h 0x40404040305030302021c04) (.a (.b false) (.a (.u { mkU noS [ea, el, u] w with xs := fun _ => as }) .nil)) n t g X Y σ
abbrev pcE_v (β : BB) (fr : List Env) (n0 loc aT aA aM eM i ni : Nat) (es : Array DictEntry) (d : InfD) (D : ArrD) (u : Nat) (w : Value) (el : Nat) (as : Array Value) (ea : Nat) (R : List Str) (n t g : Nat) (X : Led) (Y : GL) (σ : Nat → Sup) : Prop :=
  (Array.size es = Int.toNat (Int.ofNat ni)) ∧ (Option.map DictEntry.val es[Int.toNat (Int.ofNat i)]? = none) ∧ (StrsOf as R)
theorem pcE_run (β : BB) (fr : List Env) (n0 loc aT aA aM eM i ni : Nat) (es : Array DictEntry) (d : InfD) (D : ArrD) (u : Nat) (w : Value) (el : Nat) (as : Array Value) (ea : Nat) (R : List Str) (n t g : Nat) (X : Led) (Y : GL) (σ : Nat → Sup) : See (pcE_o β fr n0 loc aT aA aM eM i ni es d D u w el as ea R n t g X Y σ) (pcE_v β fr n0 loc aT aA aM eM i ni es d D u w el as ea R n t g X Y σ) := by obtain ⟨b1, b2, b3, w0⟩ := β; cases b3 <;> kernel_rfl
def pcN_o (β : BB) (fr : List Env) (n0 loc aT aA aM eM i ni : Nat) (es : Array DictEntry) (d : InfD) (D : ArrD) (q : Bool) (u : Nat) (w : Value) (el : Nat) (as : Array Value) (ea : Nat) (R : List Str) (v : Nat) (n t g : Nat) (X : Led) (Y : GL) (σ : Nat → Sup) : Out := Go (E1 β) (pcI β fr n0 loc aT aA aM eM i ni es d D q u w el as ea R) (Hs.h 0x307560156010101070101015601010107010101010101010101015601010101560303030302021c04) (.a (.v (.ref (d.ia v))) (.k fun _ v1 => .a (.n v) <| .a (.n v) <| .a (.n v) <| .sp (d.np v = 0) (Hs.h 0x10101010105010101010105020501140756015601010107010101560101010701010101010101010101560101010156030008) (.a (.b true) <| .a (.n v) <| .a (.n v) <| .a (.n v) <| .a (.i (pcI β fr n0 loc aT aA aM eM (i + 1) ni es d D true (cond q u v1.t) (.ref (d.ia v)) (cond q el (el + 1)) (as.push (.str (d.N v) (d.tn v))) (ea + 1) R)) (.k fun u3 _ => .a (.u u3) .nil)) (Hs.h 0x10101010105010101010105020008) (.a (.b false) <| .a (.i (pcI β fr n0 loc aT aA aM eM (i + 1) ni es d D true (cond q u v1.t) (.ref (d.ia v)) (cond q el (el + 1)) as ea R)) (.k fun u3 _ => .a (.u u3) .nil)))) n t g X Y σ
abbrev pcN_v (β : BB) (fr : List Env) (n0 loc aT aA aM eM i ni : Nat) (es : Array DictEntry) (d : InfD) (D : ArrD) (q : Bool) (u : Nat) (w : Value) (el : Nat) (as : Array Value) (ea : Nat) (R : List Str) (v : Nat) (n t g : Nat) (X : Led) (Y : GL) (σ : Nat → Sup) : Prop :=
  (Array.size es = Int.toNat (Int.ofNat ni)) ∧ (Option.map DictEntry.val es[Int.toNat (Int.ofNat i)]? = some (Value.ref (InfD.ia d v))) ∧ (v < InfD.M d) ∧ (v < InfD.M d) ∧ (v < InfD.M d) ∧ (v < InfD.M d) ∧ (v < InfD.M d) ∧ (((InfD.np d v = 0) → (yesNo true (InfD.np d v = 0)) ∧ (v < InfD.M d) ∧ (v < InfD.M d) ∧ (v < InfD.M d) ∧ (v < InfD.M d) ∧ (v < InfD.M d) ∧ (Array.size as ≤ BIG) ∧ Sat (E1 β) (pcI β fr n0 loc aT aA aM eM (i + 1) ni es d D true (bif q then u else (σ 1).t) (Value.ref (InfD.ia d v)) (bif q then el else el + 1) (Array.push as (Value.str (InfD.N d v) (InfD.tn d v))) (ea + 1) R) ∧ ((StrsOf ((σ 6).xs 0) R) → (StrsOf ((σ 6).xs 0) R))) ∧ (¬ (InfD.np d v = 0) → (yesNo false (InfD.np d v = 0)) ∧ Sat (E1 β) (pcI β fr n0 loc aT aA aM eM (i + 1) ni es d D true (bif q then u else (σ 1).t) (Value.ref (InfD.ia d v)) (bif q then el else el + 1) as ea R) ∧ ((StrsOf ((σ 4).xs 0) R) → (StrsOf ((σ 4).xs 0) R))))
theorem pcN_run (β : BB) (fr : List Env) (n0 loc aT aA aM eM i ni : Nat) (es : Array DictEntry) (d : InfD) (D : ArrD) (q : Bool) (u : Nat) (w : Value) (el : Nat) (as : Array Value) (ea : Nat) (R : List Str) (v : Nat) (n t g : Nat) (X : Led) (Y : GL) (σ : Nat → Sup) : See (pcN_o β fr n0 loc aT aA aM eM i ni es d D q u w el as ea R v n t g X Y σ) (pcN_v β fr n0 loc aT aA aM eM i ni es d D q u w el as ea R v n t g X Y σ) := by obtain ⟨b1, b2, b3, w0⟩ := β; cases q <;> cases b3 <;> kernel_rfl
end
def ValsIs (es : Array DictEntry) (ia : Nat → Nat) (od : List Nat) : Prop := es.toList.map DictEntry.val = od.map fun v => Value.ref (ia v)
theorem ValsIs.size {es : Array DictEntry} {ia : Nat → Nat} {od : List Nat} (h : ValsIs es ia od) : es.size = od.length := by
  have := congrArg List.length h
  rwa [List.length_map, List.length_map, Array.length_toList] at this
theorem ValsIs.at {es : Array DictEntry} {ia : Nat → Nat} {od : List Nat} (h : ValsIs es ia od) (i : Nat) : es[i]?.map DictEntry.val = od[i]?.map fun v => Value.ref (ia v) := by
  have h1 : (es.toList.map DictEntry.val)[i]? = (od.map fun v => Value.ref (ia v))[i]? := congrArg (·[i]?) h
  rwa [List.getElem?_map, List.getElem?_map, Array.getElem?_toList] at h1
def ready (N : Nat → Str) (np : Nat → Int) (od : List Nat) : List Str := (od.filter fun v => decide (np v = 0)).map N
theorem pc_sat (β : BB) (fr : List Env) {n0 loc aT aA aM eM : Nat} {es : Array DictEntry} {d : InfD} {D : ArrD} {od : List Nat} (hv : ValsIs es d.ia od) (hl : ∀ v ∈ od, v < d.M) (ho : 0 < od.length) (h6 : od.length ≤ 20) : ∀ (k i : Nat) (q : Bool) (u : Nat) (w : Value) (el : Nat) (as : Array Value) (acc : List Str) (ea : Nat), od.length = i + k → q = decide (0 < i) → StrsOf as acc → acc.length ≤ i →
    Sat (E1 β) (pcI β fr n0 loc aT aA aM eM i es.size es d D q u w el as ea (acc ++ ready d.N d.np (od.drop i))) := by
  intro k
  induction k with
  | zero =>
    intro i q u w el as acc ea hk hq ha hi
    rw [hq, decide_eq_true (show 0 < i by omega), List.drop_of_length_le (show od.length ≤ i from Nat.le_of_eq hk), show ready d.N d.np [] = [] from rfl, List.append_nil]
    refine sat_of (fun n t g X Y σ => pcE_run ..) fun n t g X Y σ => ⟨rfl, ?_, ha⟩
    rw [show Int.toNat (Int.ofNat i) = i from rfl, hv.at i, List.getElem?_eq_none (show od.length ≤ i from Nat.le_of_eq hk)]; rfl
  | succ k ih =>
    intro i q u w el as acc ea hk hq ha hi
    obtain ⟨v, h1, h2⟩ := drop_next hk
    have hv6 := hl v (List.mem_of_getElem? h1)
    have hk' : od.length = (i + 1) + k := by omega
    have e1 : Option.map DictEntry.val es[Int.toNat (Int.ofNat i)]? = some (.ref (d.ia v)) := by rw [show Int.toNat (Int.ofNat i) = i from rfl, hv.at i, h1]; rfl
    have hsz : as.size ≤ BIG := by rw [ha.len]; exact big7 (by omega)
    have r1 : d.np v = 0 → ready d.N d.np (v :: od.drop (i + 1)) = [d.N v] ++ ready d.N d.np (od.drop (i + 1)) := fun hz => by
      unfold ready
      rw [List.filter_cons_of_pos (p := fun v => decide (d.np v = 0)) (decide_eq_true hz), List.map_cons]; rfl
    have r2 : ¬ d.np v = 0 → ready d.N d.np (v :: od.drop (i + 1)) = ready d.N d.np (od.drop (i + 1)) := fun hz => by
      unfold ready
      rw [List.filter_cons_of_neg (p := fun v => decide (d.np v = 0)) (by rw [decide_eq_false hz]; exact Bool.false_ne_true)]
    rw [h2]
    refine sat_of (fun n t g X Y σ => pcN_run β fr n0 loc aT aA aM eM i es.size es d D q u w el as ea _ v ..) fun n t g X Y σ => ⟨rfl, e1, hv6, hv6, hv6, hv6, hv6, fun hz => ⟨hz, hv6, hv6, hv6, hv6, hv6, hsz, ?_, id⟩, fun hz => ⟨hz, ?_, id⟩⟩
    · rw [r1 hz, ← List.append_assoc]
      exact ih (i + 1) true _ _ _ _ _ _ hk' rfl (ha.push (d.N v) (d.tn v)) (by rw [List.length_append, List.length_singleton]; omega)
    · rw [r2 hz]
      exact ih (i + 1) true _ _ _ _ _ _ hk' rfl ha (by omega)
noncomputable section
def FC.inf (c : FC) (d : InfD) : FC := { c with ia := d.ia, da := d.da, N := d.N, M := d.M, vn := fun v => .str (d.N v) (d.tn v), vp := fun v => .int (d.np v) (d.tp v) }
def prI (β : BB) (c : FC) (inf : InfD) (d : SoD) (U : Sup) (R : List Str) : Inst where
  cu := cu0 (.call (.ref 164) ⟨[.ref d.aS], []⟩)
  fr := [fenv (TT β) 252 c.frl [(Mine.S "order", c.ct), (Mine.S "names", c.cst)]]
  dep := 550
  un := 4000
  pre := ({ d with v2 := .none } : SoD).ent β ++ [.o (d.aM + 3) (dO c.es c.eM), inf.ent c.D, c.D.ent inf.M, .o c.frl (frameO c.dl c.el2 (U.x 2))]
  post u := (.ok (.ret .none), ({ d with v2 := .ref (u.k 0 9) } : SoD).ent β ++ [.o (u.k 0 9) (lsO (u.xs 3) (u.k 0 8)), .o (d.aM + 3) (dO c.es c.eM), inf.ent c.D, c.D.ent inf.M, .o c.frl (frameO c.dl c.el2 (u.x 2))], StrsOf (u.xs 3) R)
def cyO (a tb : Nat) : Obj := ⟨.ref 127, none, .fields #[.ref a, .ref tb, .none, .none, .bool false, .none], #[]⟩
def tbO (fr : Nat) (r : List Value) : Obj := ⟨.type "traceback", none, .fields ⟨.none :: .ref fr :: .none :: .none :: .none :: r⟩, #[]⟩
def prRI (β : BB) (c : FC) (inf : InfD) (d : SoD) (U : Sup) (R : List Str) : Inst := { prI β c inf d U R with
  post := fun u => (.error (.ref (u.k 0 10)), .o (u.k 0 10) (cyO (u.k 0 11) (u.k 0 12)) :: .o (u.k 0 12) (tbO (u.k 0 13) u.v) :: (({ d with v2 := .ref (u.k 0 9) } : SoD).ent β ++ [.o (u.k 0 9) (lsO (u.xs 3) (u.k 0 8)), .o (d.aM + 3) (dO c.es c.eM), inf.ent c.D, c.D.ent inf.M, .o c.frl (frameO c.dl c.el2 (u.x 2))]), StrsOf (u.xs 3) R) }
end
noncomputable section
def pr0_o (β : BB) (c : FC) (inf : InfD) (d : SoD) (U : Sup) (R : List Str) (P : Sup → Prop) (n t g : Nat) (X : Led) (Y : GL) (σ : Nat → Sup) : Out := Go (E1 β) (prI β c inf d U R) (cond β.b2 (Hs.h 0x40201010107010108080808040405020207070702010a0901010101090101010901010109080a0a0a01090101010901090101090101010109080303030106060201050201030707030103010303060106010606060605010404010101040101010104030501040401010104010101010403010203030101) (Hs.h 0x40201010107010108080808040405020207070702010a0901010101090101010901010109080a0a0a01090101010901090101090101010109080303030106060201050205010501050501030707030103010303060106010606060605010404010101040101010104030501040401010104010101010403010203030101)) (.a (.i (pcI β (fenv (TT β) 164 n [] :: [fenv (TT β) 252 c.frl [(Mine.S "order", c.ct), (Mine.S "names", c.cst)]]) n (n + 4) (n + 2) (n + 3) (d.aM + 3) c.eM 0 c.es.size c.es inf c.D false 0 .none 0 #[] 0 R)) (.k fun u v => .a (.i (fccI β { c.inf inf with frp := n, dp := #[β.d "self" t (.ref d.aS)], ep2 := 1 } { d with v2 := .ref (n + 3) } { U with x := fun i => (match i with | 1 => #[] | i => U.x i) } false P)) (.k fun e _ => .a (.u { u with k := fun a b => (match b with | 9 => n + 3 | 8 => u.k 0 0 | b => u.k a b), xs := fun _ => u.xs 0, x := e.x }) .nil))) n t g X Y σ
abbrev pr0_v (β : BB) (c : FC) (inf : InfD) (d : SoD) (U : Sup) (R : List Str) (P : Sup → Prop) (n t g : Nat) (X : Led) (Y : GL) (σ : Nat → Sup) : Prop :=
  Sat (E1 β) (pcI β [fenv (TT β) (164 : Addr) n [], fenv (TT β) (252 : Addr) (FC.frl c) [(S "order", FC.ct c), (S "names", FC.cst c)]] n (n + 4) (n + 2) (n + 3) (SoD.aM d + 3) (FC.eM c) 0 (Array.size (FC.es c)) (FC.es c) inf (FC.D c) false 0 Value.none 0 #[] 0 R) ∧ ((StrsOf ((σ 0).xs 0) R) → Sat (E1 β) (fccI β
  (have __src := FC.inf c inf;
  FC.mk (FC.fr0 c) (FC.aS c) (FC.aM c) (FC.aK c) (FC.aI c) (FC.aE c) (FC.aN c) (FC.t1 c) (FC.t2 c) (FC.t3 c) (FC.t4 c) (FC.t5 c) (FC.t6 c) n (FC.frl c) (FC.ct c) (FC.cst c) 1 (FC.el2 c) (FC.eM c) #[BB.d β "self" t (Value.ref (SoD.aS d))] (FC.dl c) (FC.es c) (InfD.ia inf) (InfD.da inf) (fun v => Value.str (InfD.N inf v) (InfD.tn inf v)) (fun v => Value.int (InfD.np inf v) (InfD.tp inf v)) (FC.D c) (InfD.N inf) (InfD.M inf))
  (SoD.mk (SoD.aS d) (SoD.aD d) (SoD.aM d) (SoD.eD d) (SoD.k1 d) (SoD.k2 d) (SoD.k3 d) (SoD.k4 d) (Value.ref (n + (3 : Addr))) (SoD.v3 d) (SoD.v4 d))
  (Sup.mk (Sup.n U) (Sup.t U) (Sup.g U) (Sup.a U) (Sup.b U) (Sup.p U) (Sup.w U) (Sup.v U)
    (fun i =>
      match i with
      | 1 => #[]
      | i => Sup.x U i)
    (Sup.o U) (Sup.k U) (Sup.z U) (Sup.xs U) (Sup.li U) (Sup.pr U) (Sup.tx U) (Sup.tp U) (Sup.s U) (Sup.ds U) (Sup.vv U))
  false P) ∧ ((P (σ 2)) → (StrsOf ((σ 0).xs 0) R)))
theorem pr0_run (β : BB) (c : FC) (inf : InfD) (d : SoD) (U : Sup) (R : List Str) (P : Sup → Prop) (n t g : Nat) (X : Led) (Y : GL) (σ : Nat → Sup) : See (pr0_o β c inf d U R P n t g X Y σ) (pr0_v β c inf d U R P n t g X Y σ) := by obtain ⟨b1, b2, b3, w0⟩ := β; cases b2 <;> cases b3 <;> kernel_rfl
def prx_o (β : BB) (c : FC) (inf : InfD) (d : SoD) (U : Sup) (R : List Str) (P : Sup → Prop) (n t g : Nat) (X : Led) (Y : GL) (σ : Nat → Sup) : Out := Go (E1 β) (prRI β c inf d U R) (cond β.b2 (Hs.h 0x7020505050a050501020a030304080802030c02040104040104040404040101030103010101010301030101010101010101010104010101010101010101010101010101010101010108010801200a0a080808040405020207070702010a0901010101090101010901010109080a0a0a01090101010901090101090101010109080303030106060201050201030707030103010303060106010606060605010404010101040101010104030501040401010104010101010403010203030101) (Hs.h 0x7020505050a050501020a030304080802030c02040104040104040404040101030103010101010301030101010101010101010104010101010101010101010101010101010101010108010801200a0a080808040405020207070702010a0901010101090101010901010109080a0a0a01090101010901090101090101010109080303030106060201050205010501050501030707030103010303060106010606060605010404010101040101010104030501040401010104010101010403010203030101)) (.a (.i (pcI β (fenv (TT β) 164 n [] :: [fenv (TT β) 252 c.frl [(Mine.S "order", c.ct), (Mine.S "names", c.cst)]]) n (n + 4) (n + 2) (n + 3) (d.aM + 3) c.eM 0 c.es.size c.es inf c.D false 0 .none 0 #[] 0 R)) (.k fun u v => .a (.i (fccI β { c.inf inf with frp := n, dp := #[β.d "self" t (.ref d.aS)], ep2 := 1 } { d with v2 := .ref (n + 3) } { U with x := fun i => (match i with | 1 => #[] | i => U.x i) } true P)) (.k fun e _ => .a (.n ((e.xs 2).size - 1 + 1)) (.k fun _ w => .k fun o _ => .a (.u { u with k := fun a b => (match b with | 9 => n + 3 | 8 => u.k 0 0 | 10 => w.n + 1 | 11 => w.n + 2 | 12 => o.a | 13 => n | b => u.k a b), v := o.v, xs := fun _ => u.xs 0, x := fun i => (match i with | 2 => o.x 1 | i => o.x i) }) .nil)))) n t g X Y σ
abbrev prx_v (β : BB) (c : FC) (inf : InfD) (d : SoD) (U : Sup) (R : List Str) (P : Sup → Prop) (n t g : Nat) (X : Led) (Y : GL) (σ : Nat → Sup) : Prop :=
  Sat (E1 β) (pcI β [fenv (TT β) (164 : Addr) n [], fenv (TT β) (252 : Addr) (FC.frl c) [(S "order", FC.ct c), (S "names", FC.cst c)]] n (n + 4) (n + 2) (n + 3) (SoD.aM d + 3) (FC.eM c) 0 (Array.size (FC.es c)) (FC.es c) inf (FC.D c) false 0 Value.none 0 #[] 0 R) ∧ ((StrsOf ((σ 0).xs 0) R) → Sat (E1 β) (fccI β
  (have __src := FC.inf c inf;
  FC.mk (FC.fr0 c) (FC.aS c) (FC.aM c) (FC.aK c) (FC.aI c) (FC.aE c) (FC.aN c) (FC.t1 c) (FC.t2 c) (FC.t3 c) (FC.t4 c) (FC.t5 c) (FC.t6 c) n (FC.frl c) (FC.ct c) (FC.cst c) 1 (FC.el2 c) (FC.eM c) #[BB.d β "self" t (Value.ref (SoD.aS d))] (FC.dl c) (FC.es c) (InfD.ia inf) (InfD.da inf) (fun v => Value.str (InfD.N inf v) (InfD.tn inf v)) (fun v => Value.int (InfD.np inf v) (InfD.tp inf v)) (FC.D c) (InfD.N inf) (InfD.M inf))
  (SoD.mk (SoD.aS d) (SoD.aD d) (SoD.aM d) (SoD.eD d) (SoD.k1 d) (SoD.k2 d) (SoD.k3 d) (SoD.k4 d) (Value.ref (n + (3 : Addr))) (SoD.v3 d) (SoD.v4 d))
  (Sup.mk (Sup.n U) (Sup.t U) (Sup.g U) (Sup.a U) (Sup.b U) (Sup.p U) (Sup.w U) (Sup.v U)
    (fun i =>
      match i with
      | 1 => #[]
      | i => Sup.x U i)
    (Sup.o U) (Sup.k U) (Sup.z U) (Sup.xs U) (Sup.li U) (Sup.pr U) (Sup.tx U) (Sup.tp U) (Sup.s U) (Sup.ds U) (Sup.vv U))
  true P) ∧ ((P (σ 2)) → (Array.size ((σ 2).xs 2) = Array.size ((σ 2).xs 2) - 1 + 1) ∧ (Array.size ((σ 2).xs 2) - 1 + 1 ≤ BIG) ∧ (StrsOf ((σ 0).xs 0) R)))
theorem prx_run (β : BB) (c : FC) (inf : InfD) (d : SoD) (U : Sup) (R : List Str) (P : Sup → Prop) (n t g : Nat) (X : Led) (Y : GL) (σ : Nat → Sup) : See (prx_o β c inf d U R P n t g X Y σ) (prx_v β c inf d U R P n t g X Y σ) := by obtain ⟨b1, b2, b3, w0⟩ := β; cases b2 <;> cases b3 <;> kernel_rfl
end
theorem prI_sat {β : BB} {c : FC} {inf : InfD} {succ : Nat → List Nat} {od : List Nat} (G : GrIs β (c.inf inf) succ) (O : OdIs (c.inf inf) od) (hv : ValsIs c.es inf.ia od) (h6 : od.length ≤ 20) (d : SoD) (U : Sup) : (RingR inf.M succ false → Sat (E1 β) (prI β c inf d U (ready inf.N inf.np od))) ∧ (RingR inf.M succ true → Sat (E1 β) (prRI β c inf d U (ready inf.N inf.np od))) := by
  have pc := fun fr n0 loc aT aA aM eM => pc_sat β fr (n0 := n0) (loc := loc) (aT := aT) (aA := aA) (aM := aM) (eM := eM) (D := c.D) hv O.lt (List.length_pos_of_mem (O.all 0 G.mp)) h6 od.length 0 false 0 .none 0 #[] [] 0 (Nat.zero_add _).symm rfl StrsOf.nil (Nat.le_refl 0)
  have fc := fun {rr : Bool} (hr : RingR inf.M succ rr) (frp ep2 : Nat) (dp : Array DictEntry) (d : SoD) (U : Sup) => fcc_sat (c := { c.inf inf with frp := frp, dp := dp, ep2 := ep2 }) ⟨G.hs, G.cl, G.ek, G.inj, G.mb, G.mp, G.ef⟩ ⟨O.dom, O.lt, O.all⟩ hr d U
  refine ⟨fun hr => ?_, fun hr => ?_⟩
  · exact sat_of (fun n t g X Y σ => pr0_run β c inf d U _ (ringP false) ..) fun n t g X Y σ => ⟨pc _ _ _ _ _ _ _, fun h => ⟨fc hr _ _ _ _ _, fun _ => h⟩⟩
  · exact sat_of (fun n t g X Y σ => prx_run β c inf d U _ (ringP true) ..) fun n t g X Y σ => ⟨pc _ _ _ _ _ _ _, fun h => ⟨fc hr _ _ _ _ _, fun h2 => ⟨by have := (h2 rfl).1; omega, by have := h2 rfl; exact Nat.le_trans (by omega : _ ≤ 2000) (by decide), h⟩⟩⟩
noncomputable section
def InfD.set (d : InfD) (v : Nat) (x : Int) (t : Nat) : InfD := { d with np := upd d.np v x, tp := upd d.tp v t }
def InfD.of (d : InfD) (u : Sup) : InfD := { d with np := u.z 5, tp := u.k 5 }
def grF (β : BB) (aS aR aM t1 t2 t3 : Nat) (q : Bool) (u : Nat) (w : Value) (ef : Nat) : Obj := frD (cond q #[β.d "self" t1 (.ref aS), β.d "result" t2 (.ref aR), β.d "n2i" t3 (.ref aM), β.d "node" u w] #[β.d "self" t1 (.ref aS), β.d "result" t2 (.ref aR), β.d "n2i" t3 (.ref aM)]) ef
def grI (β : BB) (fr : List Env) (n0 aS aT aR aM t1 t2 t3 eM i : Nat) (es : Array DictEntry) (xs : Array Value) (d : InfD) (D : ArrD) (q : Bool) (u : Nat) (w : Value) (ef : Nat) (r2 : Bool) (P : InfD → Prop) : Inst where
  cu := cu0 (loopC (TT β) 171 0 n0 [] (.ref aT))
  fr := fr
  dep := 550
  un := 4000
  pre := [.o n0 (grF β aS aR aM t1 t2 t3 q u w ef), .o aT (itO (.type "tuple_iterator") (.ref aR) (Int.ofNat i) 0), .o aR (tpO xs), .o aM (dO es eM), d.ent D]
  post u := (.ok .next, [.o n0 (grF β aS aR aM t1 t2 t3 r2 (u.k 0 1) (u.vv 0) (u.k 0 0)), .o aR (tpO xs), .o aM (dO es eM), (d.of u).ent D], P (d.of u))
def grS (ef u : Nat) (d : InfD) (w : Value) : Sup := { noS with k := fun a b => (match a with | 0 => (match b with | 0 => ef | _ => u) | _ => d.tp b), z := fun _ => d.np, vv := fun _ => w }
end
noncomputable section
def grN_o (β : BB) (fr : List Env) (n0 aS aT aR aM t1 t2 t3 eM i : Nat) (es : Array DictEntry) (xs : Array Value) (d : InfD) (D : ArrD) (q : Bool) (u : Nat) (w : Value) (ef : Nat) (r2 : Bool) (P : InfD → Prop) (v tz : Nat) (n t g : Nat) (X : Led) (Y : GL) (σ : Nat → Sup) : Out := Go (E1 β) (grI β fr n0 aS aT aR aM t1 t2 t3 eM i es xs d D q u w ef r2 P) (Hs.h 0x10101010105010101010105025701570101010701010157010101070101010101010157015701070157010101015704010f06060603030103030302021904) (.a (.v (.str (d.N v) tz)) (.k fun _ v1 => .a (.v (.ref (d.ia v))) (.k fun _ v2 => .a (.n v) <| .a (.n v) <| .a (.n v) <| .a (.n v) <| .a (.ob ((d.set v (-1) 302).ob D)) <| .a (.i (grI β fr n0 aS aT aR aM t1 t2 t3 eM (i + 1) es xs (d.set v (-1) 302) D true (cond q u v1.t) (.str (d.N v) tz) (cond q ef (ef + 1)) r2 P)) (.k fun u _ => .a (.u u) .nil)))) n t g X Y σ
abbrev grN_v (β : BB) (fr : List Env) (n0 aS aT aR aM t1 t2 t3 eM i : Nat) (es : Array DictEntry) (xs : Array Value) (d : InfD) (D : ArrD) (q : Bool) (u : Nat) (w : Value) (ef : Nat) (r2 : Bool) (P : InfD → Prop) (v tz : Nat) (n t g : Nat) (X : Led) (Y : GL) (σ : Nat → Sup) : Prop :=
  (xs[Int.toNat (Int.ofNat i)]? = some (Value.str (InfD.N d v) tz)) ∧ (KeysOf (strKind Challenge.pw_ij0124_02 (BB.W β)) es) ∧ (findBy Value.isStrOf es (InfD.N d v) = some (Value.ref (InfD.ia d v))) ∧ (v < InfD.M d) ∧ (v < InfD.M d) ∧ (v < InfD.M d) ∧ (v < InfD.M d) ∧ (v < InfD.M d) ∧ (v < InfD.M d) ∧ (v < InfD.M d) ∧ (PutC (InfD.M d) v (InfD.ob d D) (InfD.ob (InfD.set d v (-1 : Int) 302) D) (Obj.mk (Value.ref 112) (some (InfD.da d v)) Data.plain (Array.setIfInBounds (#[some (Value.str (InfD.N d v) (InfD.tn d v)), some (Value.int (InfD.np d v) (InfD.tp d v)), some (Value.ref (ArrD.ad D v))] ++ Array.replicate (List.length [Str.mk (Array.mk [110, 111, 100, 101]), Str.mk (Array.mk [110, 112, 114, 101, 100, 101, 99, 101, 115, 115, 111, 114, 115]), Str.mk (Array.mk [115, 117, 99, 99, 101, 115, 115, 111, 114, 115])] - 1 - Int.toNat 1 + 1 - Array.size #[some (Value.str (InfD.N d v) (InfD.tn d v)), some (Value.int (InfD.np d v) (InfD.tp d v)), some (Value.ref (ArrD.ad D v))]) none) (List.length [Str.mk (Array.mk [110, 111, 100, 101]), Str.mk (Array.mk [110, 112, 114, 101, 100, 101, 99, 101, 115, 115, 111, 114, 115]), Str.mk (Array.mk [115, 117, 99, 99, 101, 115, 115, 111, 114, 115])] - 1 - Int.toNat 1) (some (Value.int (Int.negSucc 0) 302))))) ∧ Sat (E1 β) (grI β fr n0 aS aT aR aM t1 t2 t3 eM (i + 1) es xs (InfD.set d v (-1 : Int) 302) D true (bif q then u else (σ 1).t) (Value.str (InfD.N d v) tz) (bif q then ef else ef + 1) r2 P) ∧ ((P (InfD.of (InfD.set d v (-1 : Int) 302) (σ 4))) → (P (InfD.of d (σ 4))))
theorem grN_run (β : BB) (fr : List Env) (n0 aS aT aR aM t1 t2 t3 eM i : Nat) (es : Array DictEntry) (xs : Array Value) (d : InfD) (D : ArrD) (q : Bool) (u : Nat) (w : Value) (ef : Nat) (r2 : Bool) (P : InfD → Prop) (v tz : Nat) (n t g : Nat) (X : Led) (Y : GL) (σ : Nat → Sup) : See (grN_o β fr n0 aS aT aR aM t1 t2 t3 eM i es xs d D q u w ef r2 P v tz n t g X Y σ) (grN_v β fr n0 aS aT aR aM t1 t2 t3 eM i es xs d D q u w ef r2 P v tz n t g X Y σ) := by obtain ⟨b1, b2, b3, w0⟩ := β; cases q <;> cases b3 <;> kernel_rfl
def grE_o (β : BB) (fr : List Env) (n0 aS aT aR aM t1 t2 t3 eM i : Nat) (es : Array DictEntry) (xs : Array Value) (d : InfD) (D : ArrD) (q : Bool) (u : Nat) (w : Value) (ef : Nat) (P : InfD → Prop) (n t g : Nat) (X : Led) (Y : GL) (σ : Nat → Sup) : Out := Go (E1 β) (grI β fr n0 aS aT aR aM t1 t2 t3 eM i es xs d D q u w ef q P) (Hs.h 0x4040404030501030302021904) (.a (.b false) (.a (.u (grS ef u d w)) .nil)) n t g X Y σ
abbrev grE_v (β : BB) (fr : List Env) (n0 aS aT aR aM t1 t2 t3 eM i : Nat) (es : Array DictEntry) (xs : Array Value) (d : InfD) (D : ArrD) (q : Bool) (u : Nat) (w : Value) (ef : Nat) (P : InfD → Prop) (n t g : Nat) (X : Led) (Y : GL) (σ : Nat → Sup) : Prop :=
  (xs[Int.toNat (Int.ofNat i)]? = none) ∧ (P (InfD.of d (grS ef u d w)))
theorem grE_run (β : BB) (fr : List Env) (n0 aS aT aR aM t1 t2 t3 eM i : Nat) (es : Array DictEntry) (xs : Array Value) (d : InfD) (D : ArrD) (q : Bool) (u : Nat) (w : Value) (ef : Nat) (P : InfD → Prop) (n t g : Nat) (X : Led) (Y : GL) (σ : Nat → Sup) : See (grE_o β fr n0 aS aT aR aM t1 t2 t3 eM i es xs d D q u w ef P n t g X Y σ) (grE_v β fr n0 aS aT aR aM t1 t2 t3 eM i es xs d D q u w ef P n t g X Y σ) := by obtain ⟨b1, b2, b3, w0⟩ := β; cases q <;> cases b3 <;> kernel_rfl
end
theorem InfD.put (d : InfD) (D : ArrD) (v : Nat) (x : Int) (t : Nat) : PutC d.M v (d.ob D) ((d.set v x t).ob D) ⟨.ref 112, some (d.da v), .plain, #[some (.str (d.N v) (d.tn v)), some (.int x t), some (.ref (D.ad v))]⟩ := fun j _ => by
  show (⟨.ref 112, some (d.da j), .plain, #[some (.str (d.N j) (d.tn j)), some (.int (upd d.np v x j) (upd d.tp v t j)), some (.ref (D.ad j))]⟩ : Obj) = _
  by_cases h : j = v
  · rw [h, if_pos rfl, upd_eq, upd_eq]
  · rw [if_neg h, upd_ne h, upd_ne h]; rfl
theorem gr_sat (β : BB) (fr : List Env) {n0 aS aT aR aM t1 t2 t3 eM : Nat} {es : Array DictEntry} {xs : Array Value} {D : ArrD} {d0 : InfD} {l : List Nat} {r2 : Bool} (hx : StrsOf xs (l.map d0.N)) (hl : ∀ v ∈ l, v < d0.M) (ek : KeysOf (strKind Challenge.pw_ij0124_02 β.W) es) (ef : ∀ v, v < d0.M → findBy Value.isStrOf es (d0.N v) = some (.ref (d0.ia v))) :
    ∀ (k i : Nat) (np : Nat → Int) (tp : Nat → Nat) (q : Bool) (u : Nat) (w : Value) (e : Nat), l.length = i + k → r2 = (q || decide (0 < k)) → (∀ v, np v = if v ∈ l.take i then -1 else d0.np v) →
    Sat (E1 β) (grI β fr n0 aS aT aR aM t1 t2 t3 eM i es xs { d0 with np := np, tp := tp } D q u w e r2 fun d => ∀ v, d.np v = if v ∈ l then -1 else d0.np v) := by
  intro k
  induction k with
  | zero =>
    intro i np tp q u w e hk hq hp
    rw [show r2 = q by rw [hq]; cases q <;> rfl]
    refine sat_of (fun n t g X Y σ => grE_run ..) fun n t g X Y σ => ⟨hx.end (by rw [List.length_map]; exact Nat.le_of_eq hk), ?_⟩
    rw [List.take_of_length_le (show l.length ≤ i from Nat.le_of_eq hk)] at hp
    exact hp
  | succ k ih =>
    intro i np tp q u w e hk hq hp
    obtain ⟨v, h1, _⟩ := drop_next hk
    have hv := hl v (List.mem_of_getElem? h1)
    obtain ⟨tz, h2⟩ := hx.at (i := i) (z := d0.N v) (by rw [List.getElem?_map, h1]; rfl)
    refine sat_of (fun n t g X Y σ => grN_run β fr n0 aS aT aR aM t1 t2 t3 eM i es xs _ D q u w e r2 _ v tz ..) fun n t g X Y σ => ⟨h2, ek, ef v hv, hv, hv, hv, hv, hv, hv, hv, InfD.put _ _ _ _ _, ih (i + 1) (upd np v (-1)) (upd tp v 302) true _ _ _ (by omega) (by rw [hq, decide_eq_true (Nat.succ_pos k), Bool.or_true, Bool.true_or]) (fun j => ?_), fun h => h⟩
    have e1 : l.take (i + 1) = l.take i ++ [v] := by rw [List.take_add_one, h1]; rfl
    rw [e1]
    by_cases hj : j = v
    · rw [hj, upd_eq, if_pos (List.mem_append_right _ List.mem_cons_self)]
    · rw [upd_ne hj, hp j]
      have : (j ∈ l.take i ++ [v]) ↔ j ∈ l.take i := by rw [List.mem_append, List.mem_singleton]; exact ⟨fun h => h.resolve_right hj, .inl⟩
      by_cases hm : j ∈ l.take i
      · rw [if_pos hm, if_pos (this.mpr hm)]
      · rw [if_neg hm, if_neg fun h => hm (this.mp h)]
noncomputable section
def clEp (xs : Array Value) (e : Nat) : Nat := epOf ((lsO xs e).mapSeq fun _ => #[])
def grcS (u : Sup) (a e t : Nat) : Sup := { u with k := fun x y => (match x with | 0 => (match y with | 2 => a | 3 => e | 4 => t | y => u.k 0 y) | x + 1 => u.k (x + 1) y) }
def grcI (β : BB) (fr : List Env) (d : SoD) (inf : InfD) (D : ArrD) (es : Array DictEntry) (eM aL eL : Nat) (xs : Array Value) (po : Int) (tp : Nat) (P : InfD → Prop) : Inst where
  cu := cu0 (.call (.ref 171) ⟨[.ref d.aS], []⟩)
  fr := fr
  dep := 470
  un := 3000
  pre := ({ d with v2 := .ref aL, v3 := .int po tp } : SoD).ent β ++ [.o aL (lsO xs eL), .o (d.aM + 3) (dO es eM), inf.ent D]
  post u := (.ok (.ret (.ref (u.k 0 2))), [.o (u.k 0 2) (tpO xs), .o aL (lsO #[] (clEp xs eL)), .o (d.aM + 3) (dO es eM), (inf.of u).ent D] ++ ({ d with v2 := .ref aL, v3 := .int (po + Int.ofNat xs.size) (u.k 0 4) } : SoD).ent β, P (inf.of u))
def grc_o (β : BB) (fr : List Env) (d : SoD) (inf : InfD) (D : ArrD) (es : Array DictEntry) (eM aL eL : Nat) (xs : Array Value) (po : Int) (tp : Nat) (r2 : Bool) (P : InfD → Prop) (n t g : Nat) (X : Led) (Y : GL) (σ : Nat → Sup) : Out := Go (E1 β) (grcI β fr d inf D es eM aL eL xs po tp P) (Hs.h 0x2020202020602070308080801070101010701070101070101010107010102012603010108010707010101070101010107030701150909090908010707010101070101010107030404010103050203010301030304040406010505010101050101010105040404040125050104040101010401010101040301010501040401010104010101010403010203030101) (.k fun a v => .a (.i (grI β (fenv (TT β) 171 n [] :: fr) n d.aS v.n a.a (d.aM + 3) t v.t (v.t + 2) eM 0 es xs inf D false 0 .none 3 r2 P)) (.k fun u _ => .k fun _ c => .a (.n xs.size) (.k fun o w => .a (.u (grcS u a.a 0 w.t)) .nil))) n t g X Y σ
abbrev grc_v (β : BB) (fr : List Env) (d : SoD) (inf : InfD) (D : ArrD) (es : Array DictEntry) (eM aL eL : Nat) (xs : Array Value) (po : Int) (tp : Nat) (r2 : Bool) (P : InfD → Prop) (n t g : Nat) (X : Led) (Y : GL) (σ : Nat → Sup) : Prop :=
  (Array.size xs ≤ BIG) ∧ Sat (E1 β) (grI β (fenv (TT β) (171 : Addr) n [] :: fr) n (SoD.aS d) ((σ 1).n) ((σ 0).a) (SoD.aM d + 3) t ((σ 1).t) ((σ 1).t + 2) eM 0 es xs inf D false 0 Value.none 3 r2 P) ∧ ((P (InfD.of inf (σ 2))) → (Array.size xs ≤ BIG) ∧ (Array.size xs = Array.size xs) ∧ (Array.size xs ≤ BIG) ∧ (P (InfD.of inf (grcS (σ 2) ((σ 0).a) 0 ((σ 7).t)))))
theorem grc_run (β : BB) (fr : List Env) (d : SoD) (inf : InfD) (D : ArrD) (es : Array DictEntry) (eM aL eL : Nat) (xs : Array Value) (po : Int) (tp : Nat) (r2 : Bool) (P : InfD → Prop) (n t g : Nat) (X : Led) (Y : GL) (σ : Nat → Sup) : See (grc_o β fr d inf D es eM aL eL xs po tp r2 P n t g X Y σ) (grc_v β fr d inf D es eM aL eL xs po tp r2 P n t g X Y σ) := by obtain ⟨b1, b2, b3, w0⟩ := β; cases r2 <;> cases b3 <;> kernel_rfl
end
noncomputable section
structure DnC where
  n0 : Nat
  aU : Nat
  aR : Nat
  t1 : Nat
  t2 : Nat
  t3 : Nat
  eM : Nat
  aM : Nat
  es : Array DictEntry
  rs : Array Value
  inf : InfD
  D : ArrD
  d : SoD
def dnF (β : BB) (c : DnC) (q r : Bool) (S : Sup) : Obj := frD (cond q (cond r
  #[β.d "self" c.t1 (.ref c.d.aS), β.d "nodes" c.t2 (.ref c.aU), β.d "n2i" c.t3 (.ref c.aM), β.d "node" (S.k 0 1) (S.vv 1), β.d "nodeinfo" (S.k 0 2) (S.vv 2), β.d "stat" (S.k 0 3) (S.vv 3), β.d "successor" (S.k 0 4) (S.vv 4), β.d "successor_info" (S.k 0 5) (S.vv 5)]
  #[β.d "self" c.t1 (.ref c.d.aS), β.d "nodes" c.t2 (.ref c.aU), β.d "n2i" c.t3 (.ref c.aM), β.d "node" (S.k 0 1) (S.vv 1), β.d "nodeinfo" (S.k 0 2) (S.vv 2), β.d "stat" (S.k 0 3) (S.vv 3)])
  #[β.d "self" c.t1 (.ref c.d.aS), β.d "nodes" c.t2 (.ref c.aU), β.d "n2i" c.t3 (.ref c.aM)]) (S.k 0 0)
def dnB (β : BB) (c : DnC) (q r : Bool) (S : Sup) : List Ent := [.o c.n0 (dnF β c q r S), .o c.aM (dO c.es c.eM), (c.inf.of S).ent c.D, c.D.ent c.inf.M, .o c.aR (lsO (S.xs 0) (S.k 0 6))] ++ ({ c.d with v2 := .ref c.aR } : SoD).ent β
def DnC.nf (c : DnC) (x : Int) (t : Nat) : DnC := { c with d := { c.d with v4 := .int x t } }
def dsI (β : BB) (fr : List Env) (c : DnC) (r : Bool) (S : Sup) (aT z i : Nat) (r' : Bool) (P : Sup → Prop) : Inst where
  cu := cu0 (loopC (TT β) 192 1 c.n0 [] (.ref aT))
  fr := fr
  dep := 630
  un := 5000
  pre := dnB β c true r S ++ [.o aT (itO (.type "list_iterator") (.ref (c.D.ad z)) (Int.ofNat i) 0)]
  post u := (.ok .next, dnB β c true r' u, P u)
def dsS (c : DnC) (S : Sup) (r : Bool) (y t4 t5 tn ty : Nat) (add : Bool) : Sup := { S with
  k := fun a b => (match a with | 0 => (match b with | 0 => cond r (S.k 0 0) (S.k 0 0 + 2) | 4 => cond r (S.k 0 4) t4 | 5 => cond r (S.k 0 5) t5 | 6 => cond add (S.k 0 6 + 1) (S.k 0 6) | b => S.k 0 b) | 5 => upd (S.k 5) y tn b | a => S.k a b)
  vv := fun i => (match i with | 4 => .str (c.inf.N y) ty | 5 => .ref (c.inf.ia y) | i => S.vv i)
  z := fun a => (match a with | 5 => upd (S.z 5) y (S.z 5 y - 1) | a => S.z a)
  xs := fun i => (match i with | 0 => cond add ((S.xs 0).push (.str (c.inf.N y) ty)) (S.xs 0) | i => S.xs i) }
end
noncomputable section
def dsE_o (β : BB) (fr : List Env) (c : DnC) (r : Bool) (S : Sup) (aT z i : Nat) (P : Sup → Prop) (n t g : Nat) (X : Led) (Y : GL) (σ : Nat → Sup) : Out := Go (E1 β) (dsI β fr c r S aT z i r P) (Hs.h 0x403030303030303080103040802130a) (.a (.n z) (.a (.b false) (.a (.u S) .nil))) n t g X Y σ
abbrev dsE_v (β : BB) (fr : List Env) (c : DnC) (r : Bool) (S : Sup) (aT z i : Nat) (P : Sup → Prop) (n t g : Nat) (X : Led) (Y : GL) (σ : Nat → Sup) : Prop :=
  (z < InfD.M (DnC.inf c)) ∧ ((ArrD.xs (DnC.D c) z)[Int.toNat (Int.ofNat i)]? = none) ∧ (P S)
theorem dsE_run (β : BB) (fr : List Env) (c : DnC) (r : Bool) (S : Sup) (aT z i : Nat) (P : Sup → Prop) (n t g : Nat) (X : Led) (Y : GL) (σ : Nat → Sup) : See (dsE_o β fr c r S aT z i P n t g X Y σ) (dsE_v β fr c r S aT z i P n t g X Y σ) := by obtain ⟨b1, b2, b3, w0⟩ := β; cases r <;> cases b3 <;> kernel_rfl
def dsN_o (β : BB) (fr : List Env) (c : DnC) (r : Bool) (S : Sup) (aT z i : Nat) (r2 : Bool) (P : Sup → Prop) (y ty : Nat) (n t g : Nat) (X : Led) (Y : GL) (σ : Nat → Sup) : Out := Go (E1 β) (dsI β fr c r S aT z i r2 P) (Hs.h 0x3075501550101010701010155010101070101010101010101010155010101015503550155010101070101015501010107010101010101015501550107015501010101550101075501550101010701010155010101070101010101010101010155010101015503030302010f04040403030303040802130a) (.a (.n z) (.a (.v (.str (c.inf.N y) ty)) (.k fun _ v1 => .a (.v (.ref (c.inf.ia y))) (.k fun _ v2 => .a (.n y) <| .a (.n y) <| .a (.n y) <| .a (.n y) <| .a (.n y) <| .a (.n y) <| .a (.n y) <| .a (.ob (((c.inf.of S).set y (S.z 5 y - 1) (v2.t + 3)).ob c.D)) <| .a (.n y) <| .a (.n y) <| .a (.n y) <| .sp (S.z 5 y - 1 = 0) (Hs.h 0x1010101010101010801010101010101010802050114030707070709010808010101080101010108030008) (.a (.b true) <| .a (.i (dsI β fr c true (dsS c S r y v1.t v2.t (v2.t + 3) ty true) aT z (i + 1) r2 P)) (.k fun u _ => .a (.u u) .nil)) (Hs.h 0x10101010101010108010101010101010108020008) (.a (.b false) <| .a (.i (dsI β fr c true (dsS c S r y v1.t v2.t (v2.t + 3) ty false) aT z (i + 1) r2 P)) (.k fun u _ => .a (.u u) .nil)))))) n t g X Y σ
abbrev dsN_v (β : BB) (fr : List Env) (c : DnC) (r : Bool) (S : Sup) (aT z i : Nat) (r2 : Bool) (P : Sup → Prop) (y ty : Nat) (n t g : Nat) (X : Led) (Y : GL) (σ : Nat → Sup) : Prop :=
  (z < InfD.M (DnC.inf c)) ∧ ((ArrD.xs (DnC.D c) z)[Int.toNat (Int.ofNat i)]? = some (Value.str (InfD.N (DnC.inf c) y) ty)) ∧ (KeysOf (strKind Challenge.pw_ij0124_02 (BB.W β)) (DnC.es c)) ∧ (findBy Value.isStrOf (DnC.es c) (InfD.N (DnC.inf c) y) = some (Value.ref (InfD.ia (DnC.inf c) y))) ∧ (y < InfD.M (DnC.inf c)) ∧ (y < InfD.M (DnC.inf c)) ∧ (y < InfD.M (DnC.inf c)) ∧ (y < InfD.M (DnC.inf c)) ∧ (y < InfD.M (DnC.inf c)) ∧ (y < InfD.M (DnC.inf c)) ∧ (y < InfD.M (DnC.inf c)) ∧ (y < InfD.M (DnC.inf c)) ∧ (y < InfD.M (DnC.inf c)) ∧ (y < InfD.M (DnC.inf c)) ∧ (y < InfD.M (DnC.inf c)) ∧ (y < InfD.M (DnC.inf c)) ∧ (PutC (InfD.M (DnC.inf c)) y (InfD.ob (InfD.of (DnC.inf c) S) (DnC.D c)) (InfD.ob (InfD.set (InfD.of (DnC.inf c) S) y (Sup.z S 5 y - 1) ((σ 3).t + 3)) (DnC.D c)) (Obj.mk (Value.ref 112) (some (InfD.da (DnC.inf c) y)) Data.plain (Array.setIfInBounds (#[some (Value.str (InfD.N (DnC.inf c) y) (InfD.tn (DnC.inf c) y)), some (Value.int (Sup.z S 5 y) (Sup.k S 5 y)), some (Value.ref (ArrD.ad (DnC.D c) y))] ++ Array.replicate (List.length [Str.mk (Array.mk [110, 111, 100, 101]), Str.mk (Array.mk [110, 112, 114, 101, 100, 101, 99, 101, 115, 115, 111, 114, 115]), Str.mk (Array.mk [115, 117, 99, 99, 101, 115, 115, 111, 114, 115])] - 1 - Int.toNat 1 + 1 - Array.size #[some (Value.str (InfD.N (DnC.inf c) y) (InfD.tn (DnC.inf c) y)), some (Value.int (Sup.z S 5 y) (Sup.k S 5 y)), some (Value.ref (ArrD.ad (DnC.D c) y))]) none) (List.length [Str.mk (Array.mk [110, 111, 100, 101]), Str.mk (Array.mk [110, 112, 114, 101, 100, 101, 99, 101, 115, 115, 111, 114, 115]), Str.mk (Array.mk [115, 117, 99, 99, 101, 115, 115, 111, 114, 115])] - 1 - Int.toNat 1) (some (Value.int (Sup.z S 5 y - 1) ((σ 3).2 + 3)))))) ∧ (y < InfD.M (DnC.inf c)) ∧ (y < InfD.M (DnC.inf c)) ∧ (y < InfD.M (DnC.inf c)) ∧ (y < InfD.M (DnC.inf c)) ∧ (y < InfD.M (DnC.inf c)) ∧ (((Sup.z S 5 y - 1 = 0) → (yesNo true (upd (Sup.z S 5) y (Sup.z S 5 y - 1) y = 0)) ∧ (Array.size (Sup.xs S 0) ≤ BIG) ∧ Sat (E1 β) (dsI β fr c true (dsS c S r y ((σ 1).t) ((σ 3).t) ((σ 3).t + 3) ty true) aT z (i + 1) r2 P) ∧ ((P (σ 8)) → (P (σ 8)))) ∧ (¬ (Sup.z S 5 y - 1 = 0) → (yesNo false (upd (Sup.z S 5) y (Sup.z S 5 y - 1) y = 0)) ∧ Sat (E1 β) (dsI β fr c true (dsS c S r y ((σ 1).t) ((σ 3).t) ((σ 3).t + 3) ty false) aT z (i + 1) r2 P) ∧ ((P (σ 6)) → (P (σ 6)))))
theorem dsN_run (β : BB) (fr : List Env) (c : DnC) (r : Bool) (S : Sup) (aT z i : Nat) (r2 : Bool) (P : Sup → Prop) (y ty : Nat) (n t g : Nat) (X : Led) (Y : GL) (σ : Nat → Sup) : See (dsN_o β fr c r S aT z i r2 P y ty n t g X Y σ) (dsN_v β fr c r S aT z i r2 P y ty n t g X Y σ) := by obtain ⟨b1, b2, b3, w0⟩ := β; cases r <;> cases b3 <;> kernel_rfl
end
def relaxN (p : (Nat → Int) × List Nat) (y : Nat) : (Nat → Int) × List Nat := (upd p.1 y (p.1 y - 1), if p.1 y - 1 = 0 then p.2 ++ [y] else p.2)
def QIs (N : Nat → Str) (S : Sup) (p : (Nat → Int) × List Nat) : Prop := S.z 5 = p.1 ∧ StrsOf (S.xs 0) (p.2.map N)
theorem relaxN_len (p : (Nat → Int) × List Nat) (y : Nat) : (relaxN p y).2.length ≤ p.2.length + 1 := by
  unfold relaxN; dsimp only; split
  · rw [List.length_append]; exact Nat.le_refl _
  · exact Nat.le_succ _
theorem foldl_take {α β : Type} (f : β → α → β) (b : β) {l : List α} {i : Nat} {x : α} (h : l[i]? = some x) : (l.take (i + 1)).foldl f b = f ((l.take i).foldl f b) x := by
  rw [List.take_add_one, h, List.foldl_append]; rfl
theorem ds_sat {β : BB} (fr : List Env) {c : DnC} {z : Nat} {l : List Nat} {p0 : (Nat → Int) × List Nat} (hz : z < c.inf.M) (hx : StrsOf (c.D.xs z) (l.map c.inf.N)) (hl : ∀ v ∈ l, v < c.inf.M) (ek : KeysOf (strKind Challenge.pw_ij0124_02 β.W) c.es) (ef : ∀ v, v < c.inf.M → findBy Value.isStrOf c.es (c.inf.N v) = some (.ref (c.inf.ia v))) {m : Nat} (hm : m + l.length ≤ 1000) {r2 : Bool} :
    ∀ (k i : Nat) (r : Bool) (S : Sup) (aT : Nat), l.length = i + k → r2 = (r || decide (0 < k)) → ((l.take i).foldl relaxN p0).2.length ≤ m + i → QIs c.inf.N S ((l.take i).foldl relaxN p0) →
    Sat (E1 β) (dsI β fr c r S aT z i r2 fun u => QIs c.inf.N u (l.foldl relaxN p0)) := by
  intro k
  induction k with
  | zero =>
    intro i r S aT hk hr _ hq
    rw [show r2 = r by rw [hr]; cases r <;> rfl]
    rw [List.take_of_length_le (show l.length ≤ i from Nat.le_of_eq hk)] at hq
    exact sat_of (fun n t g X Y σ => dsE_run ..) fun n t g X Y σ => ⟨hz, hx.end (by rw [List.length_map]; exact Nat.le_of_eq hk), hq⟩
  | succ k ih =>
    intro i r S aT hk hr hb hq
    obtain ⟨y, h1, _⟩ := drop_next hk
    have hy := hl y (List.mem_of_getElem? h1)
    obtain ⟨ty, h2⟩ := hx.at (i := i) (z := c.inf.N y) (by rw [List.getElem?_map, h1]; rfl)
    have hr2 : r2 = true := by rw [hr, decide_eq_true (Nat.succ_pos k), Bool.or_true]
    have hf := foldl_take relaxN p0 h1
    have hb' : ((l.take (i + 1)).foldl relaxN p0).2.length ≤ m + (i + 1) := by
      rw [hf]; exact Nat.le_trans (relaxN_len _ y) (by omega)
    have hsz : (S.xs 0).size ≤ BIG := by rw [hq.2.len, List.length_map]; exact Nat.le_trans hb (Nat.le_trans (by omega : m + i ≤ 1000) (by decide))
    have nx : ∀ (add : Bool) (t4 t5 tn : Nat), (add = true ↔ S.z 5 y - 1 = 0) → Sat (E1 β) (dsI β fr c true (dsS c S r y t4 t5 tn ty add) aT z (i + 1) r2 fun u => QIs c.inf.N u (l.foldl relaxN p0)) := fun add t4 t5 tn ha => by
      refine ih (i + 1) true _ aT (by omega) (by rw [hr2, Bool.true_or]) hb' ?_
      rw [hf]
      obtain ⟨q1, q2⟩ := hq
      refine ⟨by show upd (S.z 5) y (S.z 5 y - 1) = _; rw [q1]; rfl, ?_⟩
      show StrsOf (cond add ((S.xs 0).push (.str (c.inf.N y) ty)) (S.xs 0)) ((if ((l.take i).foldl relaxN p0).1 y - 1 = 0 then ((l.take i).foldl relaxN p0).2 ++ [y] else ((l.take i).foldl relaxN p0).2).map c.inf.N)
      rw [← q1]
      cases add with
      | true => rw [if_pos (ha.mp rfl), List.map_append]; exact q2.push _ _
      | false => rw [if_neg fun h => Bool.false_ne_true (ha.mpr h)]; exact q2
    exact sat_of (fun n t g X Y σ => dsN_run β fr c r S aT z i r2 _ y ty ..) fun n t g X Y σ => ⟨hz, h2, ek, ef y hy, hy, hy, hy, hy, hy, hy, hy, hy, hy, hy, hy, hy, InfD.put (c.inf.of S) _ _ _ _, hy, hy, hy, hy, hy, fun hQ => ⟨by rw [upd_eq]; exact hQ, hsz, nx true _ _ _ ⟨fun _ => hQ, fun _ => rfl⟩, id⟩, fun hQ => ⟨by rw [upd_eq]; exact hQ, nx false _ _ _ ⟨(fun h => nomatch h), fun h => absurd h hQ⟩, id⟩⟩
noncomputable section
def soE (β : BB) (d : SoD) (es : Array DictEntry) (eM : Nat) (inf : InfD) (D : ArrD) (aR : Nat) (qs : Array Value) (eR : Nat) : List Ent := [.o (d.aM + 3) (dO es eM), inf.ent D, D.ent inf.M, .o aR (lsO qs eR)] ++ ({ d with v2 := .ref aR } : SoD).ent β
def dncI (β : BB) (fr : List Env) (z tz : Nat) (d : SoD) (es : Array DictEntry) (eM : Nat) (inf : InfD) (D : ArrD) (aR : Nat) (qs : Array Value) (eR : Nat) (nf : Int) (tf : Nat) (P : Sup → Prop) : Inst where
  cu := cu0 (.call (.ref 192) ⟨[.ref d.aS, .str (inf.N z) tz], []⟩)
  fr := fr
  dep := 470
  un := 3000
  pre := soE β { d with v4 := .int nf tf } es eM inf D aR qs eR
  post u := (.ok (.ret .none), soE β { d with v4 := .int (nf + 1) (u.k 0 7) } es eM (inf.of u) D aR (u.xs 0) (u.k 0 6), P u)
def dncS (inf : InfD) (z tz t1 t2 e : Nat) (qs : Array Value) (eR tf : Nat) : Sup := { noS with k := fun a b => (match a with | 0 => (match b with | 0 => e | 1 => t1 | 2 => t2 | 3 => t2 + 2 | 6 => eR | _ => tf) | _ => upd inf.tp z 305 b), z := fun _ => upd inf.np z (-2), xs := fun _ => qs, vv := fun i => (match i with | 1 => .str (inf.N z) tz | 2 => .ref (inf.ia z) | _ => .int (inf.np z) (inf.tp z)) }
def dncT (u : Sup) (t : Nat) : Sup := { u with k := fun a b => (match a with | 0 => (match b with | 7 => t | b => u.k 0 b) | a => u.k a b) }
def dnc_o (β : BB) (fr : List Env) (z tz : Nat) (d : SoD) (es : Array DictEntry) (eM : Nat) (inf : InfD) (D : ArrD) (aR : Nat) (qs : Array Value) (eR : Nat) (nf : Int) (tf : Nat) (r2 : Bool) (P : Sup → Prop) (n t g : Nat) (X : Led) (Y : GL) (σ : Nat → Sup) : Out := Go (E1 β) (dncI β fr z tz d es eM inf D aR qs eR nf tf P) (Hs.h 0x6040404040404070103090802190a01090909010801010108010801010801010101080101090108080101010801010101080301040404040404030802030107580158585701570101010701010157010101070101010101010101010157010101015704570157010101070101015701010107010101010101015701570107015701010101570401000907010404045701570101010701010157010101070101010101010101010157010101015704040404010e04060606060404040301021903010301040104040303030a010909010101090101010109030a010909010101090101010109030102030303030101) (.a (.v (.str (inf.N z) tz)) (.k fun _ v1 => .a (.v (.ref (inf.ia z))) (.k fun _ v2 => .a (.n z) <| .a (.n z) <| .a (.n z) <| .a (.b false) (.k fun _ v3 => .a (.n z) <| .a (.n z) <| .a (.n z) <| .a (.n z) <| .a (.ob ((inf.set z (-2) 305).ob D)) <| .a (.n z) <| .a (.n z) <| .a (.n z) <| .a (.i (dsI β (fenv (TT β) 192 (n + 1) [] :: fr) (DnC.mk (n + 1) n aR t (t + 1) (t + 4) eM (d.aM + 3) es #[.str (inf.N z) tz] inf D { d with v4 := .int nf tf }) false (dncS inf z tz v1.t v2.t 6 qs eR tf) v3.n z 0 r2 P)) (.k fun u w => .a (.b false) (.a (.u (dncT u (w.t + 2))) .nil)))))) n t g X Y σ
abbrev dnc_v (β : BB) (fr : List Env) (z tz : Nat) (d : SoD) (es : Array DictEntry) (eM : Nat) (inf : InfD) (D : ArrD) (aR : Nat) (qs : Array Value) (eR : Nat) (nf : Int) (tf : Nat) (r2 : Bool) (P : Sup → Prop) (n t g : Nat) (X : Led) (Y : GL) (σ : Nat → Sup) : Prop :=
  ((List.toArray (List.drop (List.length (W.R.mapR (fun x => Arg.arg x) [] ++ W.R.mapR (fun x => Arg.arg x) [Arg.mk (Str.mk (Array.mk [115, 101, 108, 102])) none (Pos.mk 133 13 133 17)])) [Value.ref d.1, Value.str (InfD.N inf z) tz]))[Int.toNat 0]? = some (Value.str (InfD.N inf z) tz)) ∧ (KeysOf (strKind Challenge.pw_ij0124_02 (BB.W β)) es) ∧ (Option.getD (findBy Value.isStrOf es (InfD.N inf z)) Value.none = Value.ref (InfD.ia inf z)) ∧ (z < InfD.M inf) ∧ (z < InfD.M inf) ∧ (z < InfD.M inf) ∧ (z < InfD.M inf) ∧ (z < InfD.M inf) ∧ (yesNo false (InfD.np inf z = (-1 : Int) → False)) ∧ (z < InfD.M inf) ∧ (z < InfD.M inf) ∧ (z < InfD.M inf) ∧ (z < InfD.M inf) ∧ (z < InfD.M inf) ∧ (z < InfD.M inf) ∧ (z < InfD.M inf) ∧ (PutC (InfD.M inf) z (InfD.ob inf D) (InfD.ob (InfD.set inf z (-2 : Int) 305) D) (Obj.mk (Value.ref 112) (some (InfD.da inf z)) Data.plain (Array.setIfInBounds (#[some (Value.str (InfD.N inf z) (InfD.tn inf z)), some (Value.int (InfD.np inf z) (InfD.tp inf z)), some (Value.ref (ArrD.ad D z))] ++ Array.replicate (List.length [Str.mk (Array.mk [110, 111, 100, 101]), Str.mk (Array.mk [110, 112, 114, 101, 100, 101, 99, 101, 115, 115, 111, 114, 115]), Str.mk (Array.mk [115, 117, 99, 99, 101, 115, 115, 111, 114, 115])] - 1 - Int.toNat 1 + 1 - Array.size #[some (Value.str (InfD.N inf z) (InfD.tn inf z)), some (Value.int (InfD.np inf z) (InfD.tp inf z)), some (Value.ref (ArrD.ad D z))]) none) (List.length [Str.mk (Array.mk [110, 111, 100, 101]), Str.mk (Array.mk [110, 112, 114, 101, 100, 101, 99, 101, 115, 115, 111, 114, 115]), Str.mk (Array.mk [115, 117, 99, 99, 101, 115, 115, 111, 114, 115])] - 1 - Int.toNat 1) (some (Value.int (Int.negSucc 1) 305))))) ∧ (z < InfD.M inf) ∧ (z < InfD.M inf) ∧ (z < InfD.M inf) ∧ (z < InfD.M inf) ∧ (z < InfD.M inf) ∧ (z < InfD.M inf) ∧ (z < InfD.M inf) ∧ (z < InfD.M inf) ∧ Sat (E1 β) (dsI β (fenv (TT β) (192 : Addr) (n + (1 : Addr)) [] :: fr) (DnC.mk (n + 1) n aR t (t + 1) (t + 4) eM (SoD.aM d + 3) es #[Value.str (InfD.N inf z) tz] inf D (SoD.mk (SoD.aS d) (SoD.aD d) (SoD.aM d) (SoD.eD d) (SoD.k1 d) (SoD.k2 d) (SoD.k3 d) (SoD.k4 d) (SoD.v2 d) (SoD.v3 d) (Value.int nf tf))) false (dncS inf z tz ((σ 1).t) ((σ 3).t) 6 qs eR tf) ((σ 5).n) z 0 r2 P) ∧ ((P (σ 6)) → ((List.toArray (List.drop (List.length (W.R.mapR (fun x => Arg.arg x) [] ++ W.R.mapR (fun x => Arg.arg x) [Arg.mk (Str.mk (Array.mk [115, 101, 108, 102])) none (Pos.mk 133 13 133 17)])) [Value.ref d.1, Value.str (InfD.N inf z) tz]))[Int.toNat (0 + 1)]? = none) ∧ (P (dncT (σ 6) ((σ 7).t + 2))))
theorem dnc_run (β : BB) (fr : List Env) (z tz : Nat) (d : SoD) (es : Array DictEntry) (eM : Nat) (inf : InfD) (D : ArrD) (aR : Nat) (qs : Array Value) (eR : Nat) (nf : Int) (tf : Nat) (r2 : Bool) (P : Sup → Prop) (n t g : Nat) (X : Led) (Y : GL) (σ : Nat → Sup) : See (dnc_o β fr z tz d es eM inf D aR qs eR nf tf r2 P n t g X Y σ) (dnc_v β fr z tz d es eM inf D aR qs eR nf tf r2 P n t g X Y σ) := by obtain ⟨b1, b2, b3, w0⟩ := β; cases r2 <;> cases b3 <;> kernel_rfl
end
def doneN (succ : Nat → List Nat) (p : (Nat → Int) × List Nat) (z : Nat) : (Nat → Int) × List Nat := (succ z).foldl relaxN (upd p.1 z (-2), p.2)
theorem dnc_sat {β : BB} (fr : List Env) {d : SoD} {es : Array DictEntry} {eM : Nat} {inf : InfD} {D : ArrD} {succ : Nat → List Nat} {z : Nat} {q0 : List Nat} (hs : ∀ v, v < inf.M → StrsOf (D.xs v) ((succ v).map inf.N)) (hc : ∀ v, v < inf.M → ∀ y ∈ succ v, y < inf.M) (hz : z < inf.M) (ek : KeysOf (strKind Challenge.pw_ij0124_02 β.W) es) (ef : ∀ v, v < inf.M → findBy Value.isStrOf es (inf.N v) = some (.ref (inf.ia v))) (h1 : inf.np z = -1) (hm : q0.length + (succ z).length ≤ 1000) (tz : Nat) {aR : Nat} {qs : Array Value} (hq : StrsOf qs (q0.map inf.N)) (eR : Nat) (nf : Int) (tf : Nat) : Sat (E1 β) (dncI β fr z tz d es eM inf D aR qs eR nf tf fun u => QIs inf.N u (doneN succ (inf.np, q0) z)) :=
  sat_of (fun n t g X Y σ => dnc_run β fr z tz d es eM inf D aR qs eR nf tf (decide (0 < (succ z).length)) _ ..) fun n t g X Y σ => ⟨rfl, ek, by rw [ef z hz]; rfl, hz, hz, hz, hz, hz, fun h => h h1, hz, hz, hz, hz, hz, hz, hz, InfD.put inf _ _ _ _, hz, hz, hz, hz, hz, hz, hz, hz, ds_sat _ (c := DnC.mk (n + 1) n aR t (t + 1) (t + 4) eM (d.aM + 3) es #[.str (inf.N z) tz] inf D { d with v4 := .int nf tf }) (l := succ z) (p0 := (upd inf.np z (-2), q0)) hz (hs z hz) (hc z hz) ek ef hm (succ z).length 0 false _ _ (Nat.zero_add _).symm (Bool.false_or _).symm (Nat.le_refl _) ⟨rfl, hq⟩, fun h => ⟨rfl, h⟩⟩
theorem grc_sat {β : BB} (fr : List Env) {d : SoD} {es : Array DictEntry} {eM : Nat} {inf : InfD} {D : ArrD} {l : List Nat} (hl : ∀ v ∈ l, v < inf.M) (ek : KeysOf (strKind Challenge.pw_ij0124_02 β.W) es) (ef : ∀ v, v < inf.M → findBy Value.isStrOf es (inf.N v) = some (.ref (inf.ia v))) (h6 : l.length ≤ 20) {xs : Array Value} (hx : StrsOf xs (l.map inf.N)) (aL eL : Nat) (po : Int) (tp : Nat) :
    Sat (E1 β) (grcI β fr d inf D es eM aL eL xs po tp fun f => ∀ v, f.np v = if v ∈ l then -1 else inf.np v) := by
  have hs : xs.size ≤ BIG := by rw [hx.len, List.length_map]; exact big7 (Nat.le_succ_of_le h6)
  exact sat_of (fun n t g X Y σ => grc_run β fr d inf D es eM aL eL xs po tp (decide (0 < l.length)) _ ..) fun n t g X Y σ => ⟨hs, gr_sat β _ hx hl ek ef l.length 0 inf.np inf.tp false _ _ _ (Nat.zero_add _).symm (Bool.false_or _).symm (fun v => by rw [List.take_zero, if_neg (List.not_mem_nil)]), fun h => ⟨hs, rfl, hs, h⟩⟩
noncomputable section
def fnC (β : BB) (a fr0 : Nat) : Code := match (fdOf (TT β) a).body with
  | .stmts b => .func b (fenv (TT β) a fr0 [])
  | .expr e => .expr e (fenv (TT β) a fr0 [])
structure GnD where
  aG : Nat
  fr0 : Nat
  g0 : Nat
  tn : Nat
  tq : Nat
def gnO (d : GnD) : Obj := ⟨.type "generator", none, .fields #[.int (Int.ofNat d.g0) 0, .str (Mine.S "_ancestry") d.tn, .str (Mine.S "_ancestry") d.tq], #[]⟩
def GnD.ent (d : GnD) (u : Sup) : List Ent := [.o d.aG (gnO d), .o d.fr0 (u.o 7), .g d.g0 (u.s 0)]
def gnI (β : BB) (fr : List Env) (d : GnD) (u0 : Sup) (y : Str) (P : Sup → Prop) : Inst where
  cu := cu0 (.call (.builtin "generator.__next__") ⟨[.ref d.aG], []⟩)
  fr := fr
  dep := 790
  un := 7000
  pre := d.ent u0
  post u := (.ok (.ret (.str y (u.k 9 0))), d.ent u, P u)
def gnE (β : BB) (fr : List Env) (d : GnD) (u0 : Sup) : Inst where
  cu := cu0 (.call (.builtin "generator.__next__") ⟨[.ref d.aG], []⟩)
  fr := fr
  dep := 790
  un := 7000
  pre := d.ent u0
  post u := (.error (.ref (u.k 9 1)), [.o (u.k 9 1) (stopO (u.k 9 2))], True)
def anF (β : BB) (u1 : Nat) (x : Str) (tx : Nat) (q : Bool) (u2 : Nat) (v2 : Value) (e : Nat) (sl : Array (Option Value)) : Obj := frameO (cond q #[β.d "path" u1 (.str x tx), β.d "tail" u2 v2] #[β.d "path" u1 (.str x tx)]) e sl
def exU (a b : Nat) : Sup := { noS with k := fun _ i => (match i with | 1 => a | _ => b) }
def anU (o : Obj) (s : GenState) (t : Nat) : Sup := { noS with o := fun _ => o, s := fun _ => s, k := fun _ _ => t }
def gsOf (o : Out) : GenState := match o.obs.getLast? with
  | some p => match p.1 with
    | .en es => (es.filterMap fun e => match e with | .g _ s => some s | _ => none).headD .finished
    | _ => .finished
  | none => .finished
end
noncomputable section
def anQ_o (β : BB) (fr : List Env) (d : GnD) (x : Str) (tx u1 e : Nat) (sl : Array (Option Value)) (y : Str) (k : Nat) (P : Sup → Prop) (n t g : Nat) (X : Led) (Y : GL) (σ : Nat → Sup) : Out := Go (E1 β) (gnI β fr d (anU (anF β u1 x tx false 0 .none e sl) (.fresh (fnC β 49 d.fr0)) 0) y P) (Hs.h 0x101010104030400300028010401040400280104030303030103) (.a (.s y) (.k fun _ w => .a (.s y) <| .a (.n (k + 1)) <| .a (.u (anU (anF β u1 y 0 false 0 .none e sl) .finished 0)) .nil)) n t g X Y σ
def ancS (β : BB) (fr0 : Nat) (p1 p2 : Pos) : GenState := gsOf (anQ_o β [] ⟨0, fr0, 0, 0, 0⟩ ⟨#[]⟩ 0 0 0 #[] ⟨#[]⟩ 0 (fun _ => True) 0 0 0 [] [] fun i => { noS with p := cond (Nat.beq i 2) p1 p2 })
def an1_o (β : BB) (fr : List Env) (d : GnD) (x : Str) (tx u1 e : Nat) (sl : Array (Option Value)) (y : Str) (k : Nat) (P : Sup → Prop) (n t g : Nat) (X : Led) (Y : GL) (σ : Nat → Sup) : Out := Go (E1 β) (gnI β fr d (anU (anF β u1 x tx false 0 .none e sl) (.fresh (fnC β 49 d.fr0)) 0) y P) (Hs.h 0x101010104030400300028010401040400280104030303030103) (.a (.s y) (.k fun r _ => .k fun c1 _ => .a (.s y) <| .a (.n (k + 1)) (.k fun _ _ => .k fun c2 _ => .a (.u (anU (anF β u1 y r.a false 0 .none e sl) (ancS β d.fr0 c1.p c2.p) r.a)) .nil))) n t g X Y σ
abbrev an1_v (β : BB) (fr : List Env) (d : GnD) (x : Str) (tx u1 e : Nat) (sl : Array (Option Value)) (y : Str) (k : Nat) (P : Sup → Prop) (n t g : Nat) (X : Led) (Y : GL) (σ : Nat → Sup) : Prop :=
  (rstripOf x (S "/") = y) ∧ (Fits y) ∧ (rstripOf y (S "/") = y) ∧ (Fits y) ∧ (Str.length y = k + 1) ∧ (k + 1 ≤ BIG) ∧ (P (anU (anF β u1 y ((σ 0).a) false 0 Value.none e sl) (ancS β (GnD.fr0 d) ((σ 2).p) ((σ 7).p)) ((σ 0).a)))
theorem an1_run (β : BB) (fr : List Env) (d : GnD) (x : Str) (tx u1 e : Nat) (sl : Array (Option Value)) (y : Str) (k : Nat) (P : Sup → Prop) (n t g : Nat) (X : Led) (Y : GL) (σ : Nat → Sup) : See (an1_o β fr d x tx u1 e sl y k P n t g X Y σ) (an1_v β fr d x tx u1 e sl y k P n t g X Y σ) := by obtain ⟨b1, b2, b3, w0⟩ := β; cases b3 <;> kernel_rfl
def an2_o (β : BB) (fr : List Env) (d : GnD) (x : Str) (tx u1 e : Nat) (sl : Array (Option Value)) (q : Bool) (u2 : Nat) (v2 : Value) (p1 p2 : Pos) (hd tl : Str) (i : Int) (kh : Nat) (se : Str) (tk : Nat) (y : Str) (k : Nat) (P : Sup → Prop) (n t g : Nat) (X : Led) (Y : GL) (σ : Nat → Sup) : Out := Go (E1 β) (gnI β fr d (anU (anF β u1 x tx q u2 v2 e sl) (ancS β d.fr0 p1 p2) tk) y P) (Hs.h 0xe0e0e0e041011003000280111011111111103020102190302010219030201021903030103010303030b0b0b0b00280b0b002a002d0101002f0b01010b0b00300b0b0b0b0b030201021903020102190302010219030301030103030301012e060601012e050505050101002905050505050504010101040404010103030301010301010102030303030101010103030101020303030301010101030101020303010101010401030303030103) (.a (.z i) <| .a (.s hd) (.k fun h1 _ => .a (.s tl) (.k fun l1 _ => .a (.v (.str hd h1.a)) <| .a (.v (.str tl l1.a)) <| .a (.b false) <| .a (.n (kh + 1)) <| .a (.n (kh + 1)) <| .a (.s se) <| .a (.b true) <| .a (.s y) (.k fun r _ => .a (.v (.str y r.a)) <| .a (.v (.str tl l1.a)) <| .a (.b false) (.k fun _ w => .a (.s y) <| .a (.n (k + 1)) (.k fun _ _ => .k fun c2 _ => .a (.u (anU (anF β u1 y r.a true (cond q u2 (w.t + 1)) (.str tl l1.a) (cond q e (e + 1)) sl) (ancS β d.fr0 p1 c2.p) r.a)) .nil)))))) n t g X Y σ
abbrev an2_v (β : BB) (fr : List Env) (d : GnD) (x : Str) (tx u1 e : Nat) (sl : Array (Option Value)) (q : Bool) (u2 : Nat) (v2 : Value) (p1 p2 : Pos) (hd tl : Str) (i : Int) (kh : Nat) (se : Str) (tk : Nat) (y : Str) (k : Nat) (P : Sup → Prop) (n t g : Nat) (X : Led) (Y : GL) (σ : Nat → Sup) : Prop :=
  (rfindOf x (Str.mk (Array.mk [47])) = i) ∧ (sliceS x none (some (i + 1)) = hd) ∧ (Fits hd) ∧ (sliceS x (some (i + 1)) none = tl) ∧ (Fits tl) ∧ ((List.toArray ([Value.str hd (σ 9).4] ++ ([Value.str tl (σ 11).4] ++ [])))[Int.toNat 0]? = some (Value.str hd (σ 9).4)) ∧ ((List.toArray ([Value.str hd (σ 9).4] ++ ([Value.str tl (σ 11).4] ++ [])))[Int.toNat (0 + 1)]? = some (Value.str tl (σ 11).4)) ∧ ((List.toArray ([Value.str hd (σ 9).4] ++ ([Value.str tl (σ 11).4] ++ [])))[Int.toNat (0 + 1 + 1)]? = none) ∧ (Str.length hd = kh + 1) ∧ (kh + 1 ≤ BIG) ∧ (Str.length hd = kh + 1) ∧ (kh + 1 ≤ BIG) ∧ (0 ≤ Int.ofNat (kh + 1) ∧ Int.ofNat (kh + 1) ≤ 100000 ∧ Str.length (Str.mk (Array.mk [47])) ≤ 10) ∧ (mulOf (Str.ofString "/") (Int.ofNat (kh + 1)) = se) ∧ (Fits se) ∧ (yesNo true (hd ≠ se)) ∧ (rstripOf hd (Str.ofString "/") = y) ∧ (Fits y) ∧ ((List.toArray ([Value.str y (σ 29).4] ++ ([Value.str tl (σ 11).4] ++ [])))[Int.toNat 0]? = some (Value.str y (σ 29).4)) ∧ ((List.toArray ([Value.str y (σ 29).4] ++ ([Value.str tl (σ 11).4] ++ [])))[Int.toNat (0 + 1)]? = some (Value.str tl (σ 11).4)) ∧ ((List.toArray ([Value.str y (σ 29).4] ++ ([Value.str tl (σ 11).4] ++ [])))[Int.toNat (0 + 1 + 1)]? = none) ∧ (rstripOf y (S "/") = y) ∧ (Fits y) ∧ (Str.length y = k + 1) ∧ (k + 1 ≤ BIG) ∧ (P (anU (anF β u1 y ((σ 29).a) true (bif q then u2 else (σ 37).t + 1) (Value.str tl (σ 11).4) (bif q then e else e + 1) sl) (ancS β (GnD.fr0 d) p1 ((σ 42).p)) ((σ 29).a)))
theorem an2_run (β : BB) (fr : List Env) (d : GnD) (x : Str) (tx u1 e : Nat) (sl : Array (Option Value)) (q : Bool) (u2 : Nat) (v2 : Value) (p1 p2 : Pos) (hd tl : Str) (i : Int) (kh : Nat) (se : Str) (tk : Nat) (y : Str) (k : Nat) (P : Sup → Prop) (n t g : Nat) (X : Led) (Y : GL) (σ : Nat → Sup) : See (an2_o β fr d x tx u1 e sl q u2 v2 p1 p2 hd tl i kh se tk y k P n t g X Y σ) (an2_v β fr d x tx u1 e sl q u2 v2 p1 p2 hd tl i kh se tk y k P n t g X Y σ) := by obtain ⟨b1, b2, b3, w0⟩ := β; cases q <;> cases b3 <;> kernel_rfl
def an3_o (β : BB) (fr : List Env) (d : GnD) (x : Str) (tx u1 e : Nat) (sl : Array (Option Value)) (q : Bool) (u2 : Nat) (v2 : Value) (p1 p2 : Pos) (hd tl : Str) (i : Int) (kh : Nat) (se : Str) (tk : Nat) (n t g : Nat) (X : Led) (Y : GL) (σ : Nat → Sup) : Out := Go (E1 β) (gnE β fr d (anU (anF β u1 x tx q u2 v2 e sl) (ancS β d.fr0 p1 p2) tk)) (Hs.h 0x12010210003000280111011111111103020102190302010219030201021903030103010303030b0b002a002d0101002f0b01010b0b00300b0b0b0b0b030201021903020102190302010219030301030103030301012e060601012e050505050101002905050505050504010101040404010103030301010301010102030303030101010103030101020303030301010101030101020303010101010401030303030103) (.a (.z i) <| .a (.s hd) (.k fun h1 _ => .a (.s tl) (.k fun l1 _ => .a (.v (.str hd h1.a)) <| .a (.v (.str tl l1.a)) <| .a (.b false) <| .a (.n (kh + 1)) <| .a (.n (kh + 1)) <| .a (.s se) <| .a (.b false) <| .a (.v (.str hd h1.a)) <| .a (.v (.str tl l1.a)) <| .a (.b false) (.k fun _ w => .a (.s ⟨#[]⟩) <| .a (.n 0) (.k fun _ w2 => .a (.u (exU (w2.n + 1) w2.n)) .nil))))) n t g X Y σ
abbrev an3_v (β : BB) (fr : List Env) (d : GnD) (x : Str) (tx u1 e : Nat) (sl : Array (Option Value)) (q : Bool) (u2 : Nat) (v2 : Value) (p1 p2 : Pos) (hd tl : Str) (i : Int) (kh : Nat) (se : Str) (tk : Nat) (n t g : Nat) (X : Led) (Y : GL) (σ : Nat → Sup) : Prop :=
  (rfindOf x (Str.mk (Array.mk [47])) = i) ∧ (sliceS x none (some (i + 1)) = hd) ∧ (Fits hd) ∧ (sliceS x (some (i + 1)) none = tl) ∧ (Fits tl) ∧ ((List.toArray ([Value.str hd (σ 9).4] ++ ([Value.str tl (σ 11).4] ++ [])))[Int.toNat 0]? = some (Value.str hd (σ 9).4)) ∧ ((List.toArray ([Value.str hd (σ 9).4] ++ ([Value.str tl (σ 11).4] ++ [])))[Int.toNat (0 + 1)]? = some (Value.str tl (σ 11).4)) ∧ ((List.toArray ([Value.str hd (σ 9).4] ++ ([Value.str tl (σ 11).4] ++ [])))[Int.toNat (0 + 1 + 1)]? = none) ∧ (Str.length hd = kh + 1) ∧ (kh + 1 ≤ BIG) ∧ (Str.length hd = kh + 1) ∧ (kh + 1 ≤ BIG) ∧ (0 ≤ Int.ofNat (kh + 1) ∧ Int.ofNat (kh + 1) ≤ 100000 ∧ Str.length (Str.mk (Array.mk [47])) ≤ 10) ∧ (mulOf (Str.ofString "/") (Int.ofNat (kh + 1)) = se) ∧ (Fits se) ∧ (yesNo false (hd ≠ se)) ∧ ((List.toArray ([Value.str hd (σ 9).4] ++ ([Value.str tl (σ 11).4] ++ [])))[Int.toNat 0]? = some (Value.str hd (σ 9).4)) ∧ ((List.toArray ([Value.str hd (σ 9).4] ++ ([Value.str tl (σ 11).4] ++ [])))[Int.toNat (0 + 1)]? = some (Value.str tl (σ 11).4)) ∧ ((List.toArray ([Value.str hd (σ 9).4] ++ ([Value.str tl (σ 11).4] ++ [])))[Int.toNat (0 + 1 + 1)]? = none) ∧ (rstripOf hd (S "/") = Str.mk (Array.mk [])) ∧ (Fits (Str.mk (Array.mk []))) ∧ (Str.length (Str.mk (Array.mk [])) = 0) ∧ (0 ≤ BIG) ∧ (True)
theorem an3_run (β : BB) (fr : List Env) (d : GnD) (x : Str) (tx u1 e : Nat) (sl : Array (Option Value)) (q : Bool) (u2 : Nat) (v2 : Value) (p1 p2 : Pos) (hd tl : Str) (i : Int) (kh : Nat) (se : Str) (tk : Nat) (n t g : Nat) (X : Led) (Y : GL) (σ : Nat → Sup) : See (an3_o β fr d x tx u1 e sl q u2 v2 p1 p2 hd tl i kh se tk n t g X Y σ) (an3_v β fr d x tx u1 e sl q u2 v2 p1 p2 hd tl i kh se tk n t g X Y σ) := by obtain ⟨b1, b2, b3, w0⟩ := β; cases q <;> cases b3 <;> kernel_rfl
def an4_o (β : BB) (fr : List Env) (d : GnD) (x : Str) (tx u1 e : Nat) (sl : Array (Option Value)) (q : Bool) (u2 : Nat) (v2 : Value) (p1 p2 : Pos) (tl : Str) (i : Int) (tk : Nat) (n t g : Nat) (X : Led) (Y : GL) (σ : Nat → Sup) : Out := Go (E1 β) (gnE β fr d (anU (anF β u1 x tx q u2 v2 e sl) (ancS β d.fr0 p1 p2) tk)) (Hs.h 0x12010210003000280111011111111103020102190302010219030201021903030103010303030b0b00300b0b0b0b0b030201021903020102190302010219030301030103030301012e060601012e050505050101002905050505050504010101040404010103030301010301010102030303030101010103030101020303030301010101030101020303010101010401030303030103) (.a (.z i) <| .a (.s ⟨#[]⟩) (.k fun h1 _ => .a (.s tl) (.k fun l1 _ => .a (.v (.str ⟨#[]⟩ h1.a)) <| .a (.v (.str tl l1.a)) <| .a (.b false) <| .a (.n 0) <| .a (.v (.str ⟨#[]⟩ h1.a)) <| .a (.v (.str tl l1.a)) <| .a (.b false) (.k fun _ w => .a (.s ⟨#[]⟩) <| .a (.n 0) (.k fun _ w2 => .a (.u (exU (w2.n + 1) w2.n)) .nil))))) n t g X Y σ
abbrev an4_v (β : BB) (fr : List Env) (d : GnD) (x : Str) (tx u1 e : Nat) (sl : Array (Option Value)) (q : Bool) (u2 : Nat) (v2 : Value) (p1 p2 : Pos) (tl : Str) (i : Int) (tk : Nat) (n t g : Nat) (X : Led) (Y : GL) (σ : Nat → Sup) : Prop :=
  (rfindOf x (Str.mk (Array.mk [47])) = i) ∧ (sliceS x none (some (i + 1)) = Str.mk (Array.mk [])) ∧ (Fits (Str.mk (Array.mk []))) ∧ (sliceS x (some (i + 1)) none = tl) ∧ (Fits tl) ∧ ((List.toArray ([Value.str (Str.mk (Array.mk [])) (σ 9).4] ++ ([Value.str tl (σ 11).4] ++ [])))[Int.toNat 0]? = some (Value.str (Str.mk (Array.mk [])) (σ 9).4)) ∧ ((List.toArray ([Value.str (Str.mk (Array.mk [])) (σ 9).4] ++ ([Value.str tl (σ 11).4] ++ [])))[Int.toNat (0 + 1)]? = some (Value.str tl (σ 11).4)) ∧ ((List.toArray ([Value.str (Str.mk (Array.mk [])) (σ 9).4] ++ ([Value.str tl (σ 11).4] ++ [])))[Int.toNat (0 + 1 + 1)]? = none) ∧ (Str.length (Str.mk (Array.mk [])) = 0) ∧ (0 ≤ BIG) ∧ ((List.toArray ([Value.str (Str.mk (Array.mk [])) (σ 9).4] ++ ([Value.str tl (σ 11).4] ++ [])))[Int.toNat 0]? = some (Value.str (Str.mk (Array.mk [])) (σ 9).4)) ∧ ((List.toArray ([Value.str (Str.mk (Array.mk [])) (σ 9).4] ++ ([Value.str tl (σ 11).4] ++ [])))[Int.toNat (0 + 1)]? = some (Value.str tl (σ 11).4)) ∧ ((List.toArray ([Value.str (Str.mk (Array.mk [])) (σ 9).4] ++ ([Value.str tl (σ 11).4] ++ [])))[Int.toNat (0 + 1 + 1)]? = none) ∧ (Str.mk (Array.mk []) = Str.mk (Array.mk [])) ∧ (Fits (Str.mk (Array.mk []))) ∧ (Str.length (Str.mk (Array.mk [])) = 0) ∧ (0 ≤ BIG) ∧ (True)
theorem an4_run (β : BB) (fr : List Env) (d : GnD) (x : Str) (tx u1 e : Nat) (sl : Array (Option Value)) (q : Bool) (u2 : Nat) (v2 : Value) (p1 p2 : Pos) (tl : Str) (i : Int) (tk : Nat) (n t g : Nat) (X : Led) (Y : GL) (σ : Nat → Sup) : See (an4_o β fr d x tx u1 e sl q u2 v2 p1 p2 tl i tk n t g X Y σ) (an4_v β fr d x tx u1 e sl q u2 v2 p1 p2 tl i tk n t g X Y σ) := by obtain ⟨b1, b2, b3, w0⟩ := β; cases q <;> cases b3 <;> kernel_rfl
end
abbrev slash : Str := ⟨#[47]⟩
def Yld (β : BB) (d : GnD) : List Str → Sup → Prop
  | [], u => ∀ fr, Sat (E1 β) (gnE β fr d u)
  | y :: l, u => ∀ fr, Sat (E1 β) (gnI β fr d u y (Yld β d l))
theorem fits_small {x : Str} (h : x.length ≤ 1000) : Fits x := Nat.le_trans h (by decide)
def chn (x : Str) : List Str → Bool
  | [] => let hd := sliceS x none (some (rfindOf x slash + 1))
    let tl := sliceS x (some (rfindOf x slash + 1)) none
    decide (hd.length ≤ 1000) && decide (tl.length ≤ 1000) && (decide (hd.length = 0) || (decide (mulOf slash (Int.ofNat hd.length) = hd) && decide (rstripOf hd slash = ⟨#[]⟩)))
  | y :: l => let hd := sliceS x none (some (rfindOf x slash + 1))
    let tl := sliceS x (some (rfindOf x slash + 1)) none
    decide (hd.length ≤ 1000) && decide (tl.length ≤ 1000) && decide ((mulOf slash (Int.ofNat hd.length)).length ≤ 1000) && decide (hd.length ≠ 0) && decide (hd ≠ mulOf slash (Int.ofNat hd.length)) && decide (rstripOf hd slash = y) && decide (rstripOf y slash = y) && decide (y.length ≠ 0) && decide (y.length ≤ 1000) && chn y l
theorem pos_of {n : Nat} (h : n ≠ 0) : ∃ k, n = k + 1 := ⟨n - 1, by omega⟩
theorem yld_of (β : BB) (d : GnD) : ∀ (l : List Str) (x : Str), chn x l = true → ∀ (u1 tx : Nat) (q : Bool) (u2 : Nat) (v2 : Value) (e : Nat) (sl : Array (Option Value)) (p1 p2 : Pos) (t : Nat), Yld β d l (anU (anF β u1 x tx q u2 v2 e sl) (ancS β d.fr0 p1 p2) t)
  | [], x, h, u1, tx, q, u2, v2, e, sl, p1, p2, t => by
    obtain ⟨hd, hhd⟩ : ∃ hd, sliceS x none (some (rfindOf x slash + 1)) = hd := ⟨_, rfl⟩
    simp only [chn, hhd, Bool.and_eq_true, Bool.or_eq_true, decide_eq_true_eq] at h
    obtain ⟨⟨h1, h2⟩, h3⟩ := h
    intro fr
    by_cases h0 : hd.length = 0
    · have e0 : hd = ⟨#[]⟩ := by
        apply Str.ext'
        exact Array.eq_empty_of_size_eq_zero h0
      subst e0
      exact sat_of (fun n t' g X Y σ => an4_run β fr d x tx u1 e sl q u2 v2 p1 p2 _ _ t n t' g X Y σ) fun n t g X Y σ => ⟨rfl, hhd, fits_small h1, rfl, fits_small h2, rfl, rfl, rfl, rfl, Nat.zero_le _, rfl, rfl, rfl, rfl, Nat.zero_le _, rfl, Nat.zero_le _, trivial⟩
    · obtain ⟨h4, h5⟩ := h3.resolve_left h0
      obtain ⟨k, hk⟩ := pos_of h0
      have hb : k + 1 ≤ BIG := Nat.le_trans (hk ▸ h1) (by decide)
      rw [hk] at h4
      exact sat_of (fun n t' g X Y σ => an3_run β fr d x tx u1 e sl q u2 v2 p1 p2 hd _ _ k hd t n t' g X Y σ) fun n t g X Y σ => ⟨rfl, hhd, fits_small h1, rfl, fits_small h2, rfl, rfl, rfl, hk, hb, hk, hb, ⟨Int.natCast_nonneg _, Int.ofNat_le.mpr (Nat.le_trans (hk ▸ h1) (by decide)), by decide⟩, h4, fits_small h1, fun h => h rfl, rfl, rfl, rfl, h5, Nat.zero_le _, rfl, Nat.zero_le _, trivial⟩
  | y :: l, x, h, u1, tx, q, u2, v2, e, sl, p1, p2, t => by
    obtain ⟨hd, hhd⟩ : ∃ hd, sliceS x none (some (rfindOf x slash + 1)) = hd := ⟨_, rfl⟩
    simp only [chn, hhd, Bool.and_eq_true, decide_eq_true_eq] at h
    obtain ⟨⟨⟨⟨⟨⟨⟨⟨⟨h1, h2⟩, h3⟩, h0⟩, h4⟩, h5⟩, h6⟩, h7⟩, h8⟩, h9⟩ := h
    obtain ⟨k, hk⟩ := pos_of h0
    obtain ⟨ky, hky⟩ := pos_of h7
    have hb : k + 1 ≤ BIG := Nat.le_trans (hk ▸ h1) (by decide)
    have hby : ky + 1 ≤ BIG := Nat.le_trans (hky ▸ h8) (by decide)
    have hfy := fits_small h8
    intro fr
    exact sat_of (fun n t' g X Y σ => an2_run β fr d x tx u1 e sl q u2 v2 p1 p2 hd _ _ k (mulOf slash (Int.ofNat (k + 1))) t y ky (Yld β d l) n t' g X Y σ) fun n t g X Y σ => ⟨rfl, hhd, fits_small h1, rfl, fits_small h2, rfl, rfl, rfl, hk, hb, hk, hb, ⟨Int.natCast_nonneg _, Int.ofNat_le.mpr (Nat.le_trans (hk ▸ h1) (by decide)), by decide⟩, rfl, fits_small (hk ▸ h3), hk ▸ h4, h5, hfy, rfl, rfl, rfl, h6, hfy, hky, hby, yld_of β d l y h9 ..⟩
noncomputable section
def GnD.of (u : Sup) : GnD := ⟨u.k 8 0, u.k 8 1, u.k 8 2, u.k 8 3, u.k 8 4⟩
def ancI (β : BB) (fr : List Env) (x : Str) (tx : Nat) (l : List Str) : Inst where
  cu := cu0 (.call (.ref 49) ⟨[.str x tx], []⟩)
  fr := fr
  dep := 710
  un := 6000
  pre := []
  post u := (.ok (.ret (.ref (u.k 8 0))), (GnD.of u).ent u, Yld β (GnD.of u) l u)
def acU (β : BB) (n g t : Nat) (x : Str) (tx : Nat) : Sup := { noS with k := fun _ i => (match i with | 0 => n + 1 | 1 => n | 2 => g | 3 => t + 1 | _ => t + 2), o := fun _ => anF β t x tx false 0 .none 1 #[], s := fun _ => .fresh (fnC β 49 n) }
def anc_o (β : BB) (fr : List Env) (x : Str) (tx : Nat) (l : List Str) (n t g : Nat) (X : Led) (Y : GL) (σ : Nat → Sup) : Out := Go (E1 β) (ancI β fr x tx l) (Hs.h 0x1010201040203030101) (.a (.u (acU β n g t x tx)) .nil) n t g X Y σ
abbrev anc_v (β : BB) (fr : List Env) (x : Str) (tx : Nat) (l : List Str) (n t g : Nat) (X : Led) (Y : GL) (σ : Nat → Sup) : Prop :=
  (Yld β (GnD.of (acU β n g t x tx)) l (acU β n g t x tx))
theorem anc_run (β : BB) (fr : List Env) (x : Str) (tx : Nat) (l : List Str) (n t g : Nat) (X : Led) (Y : GL) (σ : Nat → Sup) : See (anc_o β fr x tx l n t g X Y σ) (anc_v β fr x tx l n t g X Y σ) := by obtain ⟨b1, b2, b3, w0⟩ := β; cases b3 <;> kernel_rfl
end
def wayOk (x : Str) (l : List Str) : Bool := decide (rstripOf x slash = x) && decide (x.length ≠ 0) && decide (x.length ≤ 1000) && chn x l
theorem anc_sat (β : BB) (fr : List Env) {x : Str} {l : List Str} (h : wayOk x l = true) (tx : Nat) : Sat (E1 β) (ancI β fr x tx (x :: l)) := by
  simp only [wayOk, Bool.and_eq_true, decide_eq_true_eq] at h
  obtain ⟨⟨⟨h1, h0⟩, h2⟩, h3⟩ := h
  obtain ⟨k, hk⟩ := pos_of h0
  have hf := fits_small h2
  have hb : k + 1 ≤ BIG := hk ▸ hf
  refine sat_of (fun n t g X Y σ => anc_run β fr x tx (x :: l) n t g X Y σ) fun n t g X Y σ fr => (?_ : Sat (E1 β) (gnI β fr ⟨n + 1, n, g, t + 1, t + 2⟩ (anU (anF β t x tx false 0 .none 1 #[]) (.fresh (fnC β 49 n)) 0) x (Yld β ⟨n + 1, n, g, t + 1, t + 2⟩ l)))
  exact sat_of (fun n' t' g' X Y σ => an1_run β fr ⟨n + 1, n, g, t + 1, t + 2⟩ x tx t 1 #[] x k (Yld β ⟨n + 1, n, g, t + 1, t + 2⟩ l) n' t' g' X Y σ) fun n' t' g' X Y σ => ⟨h1, hf, h1, hf, hk, hb, yld_of β _ l x h3 ..⟩
noncomputable section
def xsU (xs : Array Value) (e a : Nat) : Sup := { noS with xs := fun _ => xs, k := fun _ i => (match i with | 0 => e | _ => a) }
end
section
variable {E : Wd} {Γ : Gd} {A : Around} {R : Result → Shared → Prop} {s : Shared}
theorem mC_builtin {id : String} {args : Args} {b : Builtin} (hb : entryFor table id = some b)
    (h : wpAny (model E.prog E.w) (A.under (.builtin id args)) (b args) (fun fin s' => match fin with | .done f => R (.ok f) s' | .again c' => c'.quiet = true ∧ codeAny (model E.prog E.w) A c' R s') (fun e s' => R (.error e) s') s) :
    MeansC (mkV E.prog E.w A R) (cu0 (.builtin id args)) s := by
  have z : wpAny (model E.prog E.w) (A.under (.builtin id args)) (denote table (.builtin id args)) (fun fin s' => match fin with | .done f => R (.ok f) s' | .again c' => c'.quiet = true ∧ codeAny (model E.prog E.w) A c' R s') (fun e s' => R (.error e) s') s := by
    show wpAny _ _ (match entryFor table id with | some b => b args | none => unsupported ((withoutEnding? id "#data").getD id)) _ _ s
    rw [hb]; exact h
  have z2 := wpOwn_of_wpAny z
  rw [den_eq] at z2
  exact wpOwn_mono z2 (fun fin s' h => by cases fin <;> exact h) fun _ _ h => h
theorem codeAny_of (c : Code) (h : MeansC (mkV E.prog E.w A R) (cu0 c) s) : codeAny (model E.prog E.w) A c R s := by
  refine y_code E.prog E.w A R s c ?_
  rw [den_eq]
  exact h
theorem Base.in1 {fr : List Env} {d u d' u' : Nat} (B : Base E Γ A fr d u) (h : d ≤ d') (h' : u + 1 ≤ u') : Base E Γ A.in1 fr d' u' :=
  ⟨B.hT, B.hN, B.hh, Nat.le_trans B.hd h, Nat.le_trans (Nat.succ_le_succ B.hu) h', B.hf⟩
theorem pyNext_call {T id : String} {I : Nat} {Q : Option Value → Shared → Prop} {E' : Value → Shared → Prop} (slot : Slot T (Str.ofString "__next__") id) (hT : s.TypeIs (.ref I) T)
    (h : codeAny (model E.prog E.w) A (.call (.builtin id) ⟨[.ref I], []⟩) (fun r s' => (∃ v, r = .ok (.ret v) ∧ Q (some v) s') ∨ ∃ e, r = .error (.ref e) ∧ s'.TypeIs (.ref e) "StopIteration" ∧ Q none s') s) : wpAny (model E.prog E.w) A (pyNext (.ref I)) Q E' s := by
  unfold pyNext
  refine wpAny_bind (wpAny_attempt (wpAny_callSpecial?_slot (name := Str.ofString "__next__") hT slot (wpAny_call (codeAny_mono h fun r s' hr => ?_))))
  rcases hr with ⟨v, rfl, hq⟩ | ⟨e, rfl, ht, hq⟩
  · exact wpAny_pure hq
  · exact wpAny_bind (wpAny_isInstance (T := "StopIteration") (b := true) ht isSubtype_stop (wpAny_pure hq))
end
def Nx (E : Wd) (fr : List Env) (zf : Sup → List Ent) (I : Nat) : List Str → List Ent → Prop
  | [], K => ∀ ⦃Γ : Gd⦄ ⦃A : Around⦄ ⦃X : Led⦄ ⦃Y : GL⦄ ⦃s : Shared⦄ ⦃Q : Option Value → Shared → Prop⦄ ⦃E' : Value → Shared → Prop⦄, Base E Γ A fr 470 3000 → Hx Γ (K ++ [.f X Y]) s →
      (∀ u s', Hx Γ (zf u ++ [.f X Y]) s' → Q none s') → wpAny (model E.prog E.w) A (pyNext (.ref I)) Q E' s
  | y :: l, K => ∀ ⦃Γ : Gd⦄ ⦃A : Around⦄ ⦃X : Led⦄ ⦃Y : GL⦄ ⦃s : Shared⦄ ⦃Q : Option Value → Shared → Prop⦄ ⦃E' : Value → Shared → Prop⦄, Base E Γ A fr 470 3000 → Hx Γ (K ++ [.f X Y]) s →
      (∀ t K' s', Nx E fr zf I l K' → Hx Γ (K' ++ [.f X Y]) s' → Q (some (.str y t)) s') → wpAny (model E.prog E.w) A (pyNext (.ref I)) Q E' s
noncomputable def exI (fr : List Env) (zf : Sup → List Ent) (S I : Nat) (xs : Array Value) (e : Nat) (K : List Ent) (l : List Str) : Inst where
  cu := cu0 (.builtin "list.extend.loop" ⟨[.ref S, .ref I, .none], []⟩)
  fr := fr
  dep := 430
  un := 2500
  pre := .o S (lsO xs e) :: K
  post u := (.ok (.ret .none), .o S (lsO (u.xs 0) (u.k 0 0)) :: zf u, StrsOf (u.xs 0) l)
theorem hx_swap {Γ : Gd} {K : List Ent} {a : Nat} {o : Obj} {X : Led} {Y : GL} {s : Shared} : Hx Γ (.o a o :: K ++ [.f X Y]) s ↔ Hx Γ (K ++ [.f ((a, o) :: X) Y]) s := by
  show Hp _ _ _ _ ↔ Hp _ _ _ _
  have e1 : flat (.o a o :: K ++ [.f X Y]) = (a, o) :: (flat K ++ X) := by
    show flat (.o a o :: (K ++ [.f X Y])) = _
    rw [flat_cons, flat_app]
    show [(a, o)] ++ (flat K ++ flat [.f X Y]) = _
    rw [show flat [Ent.f X Y] = X from List.append_nil X]; rfl
  have e2 : flat (K ++ [.f ((a, o) :: X) Y]) = flat K ++ ((a, o) :: X) := by
    rw [flat_app, show flat [Ent.f ((a, o) :: X) Y] = (a, o) :: X from List.append_nil _]
  have e3 : flatG (.o a o :: K ++ [.f X Y]) = flatG (K ++ [.f ((a, o) :: X) Y]) := by
    show flatG (.o a o :: (K ++ [.f X Y])) = _
    rw [flatG_cons, flatG_app, flatG_app]; rfl
  rw [e1, e2, e3]
  exact ⟨fun H => H.perm List.perm_middle.symm (.refl _), fun H => H.perm List.perm_middle (.refl _)⟩
theorem ex_sat {E : Wd} {fr : List Env} {zf : Sup → List Ent} (hz : ∀ u xs k, zf { u with xs := xs, k := k } = zf u) {S I : Nat} {all : List Str} (hall : all.length ≤ 1000) : ∀ (l done : List Str) {xs : Array Value} {e : Nat} {K : List Ent}, done ++ l = all → StrsOf xs done → Nx E fr zf I l K → Sat E (exI fr zf S I xs e K all) := by
  intro l
  induction l with
  | nil =>
    intro done xs e K hd hv hy Γ A X Y s R B H k
    refine mC_builtin PySem.F.entry_extend_loop ?_
    rw [Around.under_plainId PySem.F.plain_extend_loop _]
    show wpAny _ A.in1 (pyNext (.ref I) >>= _) _ _ s
    refine wpAny_bind ?_
    refine hy (B.in1 (show 430 ≤ 470 by decide) (show 2500 + 1 ≤ 3000 by decide)) (hx_swap.mp H) fun u s' H' => wpAny_pure ?_
    rw [List.append_nil] at hd
    have := k { u with xs := fun _ => xs, k := fun _ _ => e } s' (by rw [← hd]; exact hv)
    refine this ?_
    show Hx Γ (.o S (lsO xs e) :: zf { u with xs := _, k := _ } ++ _) s'
    rw [hz]
    exact hx_swap.mpr H'
  | cons y l ih =>
    intro done xs e K hd hv hy Γ A X Y s R B H k
    refine mC_builtin PySem.F.entry_extend_loop ?_
    rw [Around.under_plainId PySem.F.plain_extend_loop _]
    show wpAny _ A.in1 (pyNext (.ref I) >>= _) _ _ s
    refine wpAny_bind ?_
    refine hy (B.in1 (show 430 ≤ 470 by decide) (show 2500 + 1 ≤ 3000 by decide)) (hx_swap.mp H) fun t K' s' hy' H' => ?_
    have H3 : Hp Γ ((S, lsO xs e) :: flat (K' ++ [.f X Y])) (flatG (K' ++ [.f X Y])) s' := hx_swap.mpr H'
    have hlx : xs.size ≤ 1000 := by
      rw [hv.len]
      have : done.length ≤ all.length := by rw [← hd, List.length_append]; omega
      omega
    show wpAny _ A.in1 (updateSeq S (·.push (.str y t)) >>= _) _ _ _
    refine wpAny_bind ?_
    refine wpAny_updateSeq (H3.led _ List.mem_cons_self) rfl (wpAny_pure ⟨plainId_quiet PySem.F.plain_extend_loop _, ?_⟩) (Nat.le_trans hlx (by decide)) (by
      show (xs.push _).size ≤ sizeLine + 1
      rw [Array.size_push]
      exact Nat.succ_le_succ (Nat.le_trans hlx (by decide)))
    have H4 := H3.head (f := Obj.mapSeq (·.push (.str y t))) (x := lsO (xs.push (.str y t)) (e + 1)) rfl (by
      show (⟨_, _, .seq (xs.push _) (if (xs.push _).size == xs.size then e else e + 1), _⟩ : Obj) = _
      rw [if_neg (by rw [Array.size_push]; simp)]
      rfl)
    exact codeAny_of _ (ih (done ++ [y]) (by rw [List.append_assoc]; exact hd) (hv.push y t) hy' B H4 k)
theorem plain_set_loop : plainId "set.update.loop" = true := by decide +kernel
theorem entry_set_loop : entryFor table "set.update.loop" = some Builtin.«set.update.loop» := entryFor_of_tree (by kernel_rfl)
def sA (o : Obj) : Array (Int × Value) := match o.data with
  | .set es _ _ => es
  | _ => #[]
def sE (o : Obj) : Nat := match o.data with
  | .set _ e _ => e
  | _ => 0
noncomputable def sT (o : Obj) : SetTable := match o.data with
  | .set _ _ t => t
  | _ => SetTable.fresh 0 0 false
noncomputable def seO (o : Obj) : Obj := ⟨.type "set", none, .set (sA o) (sE o) (sT o), #[]⟩
theorem SetL.seo {prog : Program} {w : World} {K : Type} [DecidableEq K] {knd : KeyKind prog w K} {o : Obj} {l : List K} (h : SetL knd o l) : seO o = o := by
  obtain ⟨n, _, es, ep, t, ⟨h1, h2, h3⟩, h4, _⟩ := h
  obtain ⟨a, b, c, d⟩ := o
  cases h1; cases h2; cases h3; cases h4
  rfl
def SetOf (E : Wd) (o : Obj) (all : List Str) : Prop := ∃ l, SetL (strKind E.prog E.w) o l ∧ ∀ k, k ∈ l ↔ k ∈ all
noncomputable def seI (E : Wd) (fr : List Env) (zf : Sup → List Ent) (S I : Nat) (o : Obj) (K : List Ent) (all : List Str) : Inst where
  cu := cu0 (.builtin "set.update.loop" ⟨[.ref S, .ref I], []⟩)
  fr := fr
  dep := 430
  un := 2500
  pre := .o S o :: K
  post u := (.ok (.ret .none), .o S (seO (u.o 0)) :: zf u, SetOf E (seO (u.o 0)) all)
theorem se_sat {E : Wd} {fr : List Env} {zf : Sup → List Ent} (hz : ∀ u o, zf { u with o := o } = zf u) {S I : Nat} {all : List Str} (hall : all.length ≤ 1000) : ∀ (l done : List Str) {o : Obj} {K : List Ent} {dl : List Str}, done ++ l = all → dl.length = done.length → (∀ k, k ∈ dl ↔ k ∈ done) → SetL (strKind E.prog E.w) o dl → Nx E fr zf I l K → Sat E (seI E fr zf S I o K all) := by
  intro l
  induction l with
  | nil =>
    intro done o K dl hd hdl hv hs hy Γ A X Y s R B H k
    refine mC_builtin entry_set_loop ?_
    rw [Around.under_plainId plain_set_loop _]
    show wpAny _ A.in1 (pyNext (.ref I) >>= _) _ _ s
    refine wpAny_bind ?_
    refine hy (B.in1 (show 430 ≤ 470 by decide) (show 2500 + 1 ≤ 3000 by decide)) (hx_swap.mp H) fun u s' H' => wpAny_pure ?_
    rw [List.append_nil] at hd
    have ho : seO o = o := hs.seo
    refine k { u with o := fun _ => o } s' ⟨dl, by show SetL _ (seO o) dl; rw [ho]; exact hs, fun q => by rw [← hd]; exact hv q⟩ ?_
    show Hx Γ (.o S (seO o) :: zf { u with o := _ } ++ _) s'
    rw [hz, ho]
    exact hx_swap.mpr H'
  | cons y l ih =>
    intro done o K dl hd hdl hv hs hy Γ A X Y s R B H k
    refine mC_builtin entry_set_loop ?_
    rw [Around.under_plainId plain_set_loop _]
    show wpAny _ A.in1 (pyNext (.ref I) >>= _) _ _ s
    refine wpAny_bind ?_
    refine hy (B.in1 (show 430 ≤ 470 by decide) (show 2500 + 1 ≤ 3000 by decide)) (hx_swap.mp H) fun t K' s' hy' H' => ?_
    have H3 : Hp Γ ((S, o) :: flat (K' ++ [.f X Y])) (flatG (K' ++ [.f X Y])) s' := hx_swap.mpr H'
    have hlen : dl.length ≤ 1000 := by
      rw [hdl]
      have : done.length ≤ all.length := by rw [← hd, List.length_append]; omega
      omega
    obtain ⟨n, hn, hS0⟩ := hs
    have hkey : (strKind E.prog E.w).is y (.str y t) = true := beq_self_eq_true _
    show wpAny _ A.in1 (holding [Value.str y t] (setAdd S (.str y t)) >>= _) _ _ _
    refine wpAny_bind ?_
    unfold setAdd
    refine wpAny_holding ?_
    refine wpAny_holding ?_
    refine wpAny_bind ((strKind E.prog E.w).pyHash hkey ?_)
    refine wpAny_setAddHashed_of (s := { s' with toks := s'.toks + 1 }) hkey rfl (hS0.of (H3.led _ List.mem_cons_self)) (Nat.lt_of_le_of_lt (Nat.succ_le_succ (Nat.le_trans hn hlen)) (by decide)) fun h' hsb hS' => ?_
    obtain ⟨o', ho', hI⟩ := SetIs.from hS'
    have H4 := (H3.toks (s'.toks + 1)).set List.mem_cons_self hsb ho'
    have nd := (List.nodup_cons.mp H3.nd).1
    have e5 : setAt ((S, o) :: flat (K' ++ [.f X Y])) S o' = (S, o') :: flat (K' ++ [.f X Y]) := by
      show (if S = S then (S, o') else (S, o)) :: setAt _ S o' = _
      rw [if_pos rfl]
      refine congrArg _ ((List.map_congr_left fun p hp => ?_).trans (List.map_id _))
      rw [if_neg (fun h : p.1 = S => nd (List.mem_map.mpr ⟨p, hp, h⟩))]; rfl
    rw [e5] at H4
    refine wpAny_pure ⟨plainId_quiet plain_set_loop _, ?_⟩
    refine codeAny_of _ (ih (done ++ [y]) (dl := y :: dl) (by rw [List.append_assoc]; exact hd) (by rw [List.length_cons, List.length_append, hdl]; rfl) (fun q => by rw [List.mem_cons, hv q, List.mem_append, List.mem_singleton, Or.comm]) ⟨if decide (y ∈ dl) = true then n else n + 1, ?_, ?_⟩ hy' B H4 k)
    · rw [List.length_cons]; split <;> omega
    · have e3 : (fun k' => decide (k' ∈ dl) || decide (k' = y)) = fun k' => decide (k' ∈ y :: dl) := by
        funext k'
        rw [Bool.eq_iff_iff, Bool.or_eq_true, decide_eq_true_iff, decide_eq_true_iff, decide_eq_true_iff, List.mem_cons, Or.comm]
      rw [← e3]
      exact hI
theorem gn_nx {β : BB} {d : GnD} (fr : List Env) : ∀ (l : List Str) (u0 : Sup), Yld β d l u0 → Nx (E1 β) fr (fun _ => []) d.aG l (d.ent u0)
  | [], u0, hy => fun Γ A X Y s Q E' B H K => by
    have Gm : s.heap.get? d.aG = some (gnO d) := H.led (d.aG, gnO d) List.mem_cons_self
    refine pyNext_call slot_gen_next ⟨_, Gm, rfl⟩ (codeAny_of _ (hy fr ⟨B.hT, B.hN, B.hh, Nat.le_trans B.hd (show 470 ≤ 790 by decide), Nat.le_trans B.hu (show 3000 ≤ 7000 by decide), B.hf⟩ H fun u s' _ H' => .inr ⟨_, rfl, ⟨stopO _, H'.led (_, stopO _) List.mem_cons_self, rfl⟩, K noS s' ?_⟩))
    have H2 : Hp Γ ((u.k 9 1, stopO (u.k 9 2)) :: X) Y s' := by
      have e1 : flat ([Ent.o (u.k 9 1) (stopO (u.k 9 2))] ++ [.f X Y]) = (u.k 9 1, stopO (u.k 9 2)) :: X := by
        rw [flat_app, show flat [Ent.f X Y] = X from List.append_nil X]; rfl
      have e2 : flatG ([Ent.o (u.k 9 1) (stopO (u.k 9 2))] ++ [.f X Y]) = Y := by
        rw [flatG_app, show flatG [Ent.f X Y] = Y from List.append_nil Y]; rfl
      rw [← e1, ← e2]; exact H'
    show Hp Γ (flat ([] ++ [Ent.f X Y])) (flatG ([] ++ [Ent.f X Y])) s'
    rw [List.nil_append, show flat [Ent.f X Y] = X from List.append_nil X, show flatG [Ent.f X Y] = Y from List.append_nil Y]
    exact H2.sub (fun _ h => .tail _ h) (List.nodup_cons.mp H2.nd).2 (fun _ h => h) H2.gnd
  | y :: l, u0, hy => fun Γ A X Y s Q E' B H K => by
    have Gm : s.heap.get? d.aG = some (gnO d) := H.led (d.aG, gnO d) List.mem_cons_self
    exact pyNext_call slot_gen_next ⟨_, Gm, rfl⟩ (codeAny_of _ (hy fr ⟨B.hT, B.hN, B.hh, Nat.le_trans B.hd (show 470 ≤ 790 by decide), Nat.le_trans B.hu (show 3000 ≤ 7000 by decide), B.hf⟩ H fun u s' hu H' => .inl ⟨_, rfl, K _ _ s' (gn_nx fr l u hu) H'⟩))
noncomputable section
structure FfD where
  iF : Nat
  dF : Nat
  bF : Nat
  aS : Nat
  frl : Nat
  ct : Nat
  cst : Nat
  el2 : Nat
  dl : Array DictEntry
  so : Obj
  d : GnD
def FfD.fr (β : BB) (c : FfD) : List Env := [fenv (TT β) 252 c.frl [(Mine.S "order", c.ct), (Mine.S "names", c.cst)]]
def ffO (c : FfD) : Obj := ⟨.ref 82, some c.dF, .plain, #[some (.ref c.bF), some (.ref c.d.aG)]⟩
def ffB (c : FfD) : Obj := rcO (.type "builtin_function_or_method") #[.builtin "set.__contains__", .ref c.aS]
def ffFr (c : FfD) (u : Sup) : List Ent := [.o c.frl (frameO c.dl c.el2 (u.x 2))]
def ff5 (c : FfD) (g : Sup) : List Ent := [.o c.iF (ffO c), .o c.bF (ffB c), .o c.aS (seO c.so)] ++ c.d.ent g
def ffE (c : FfD) (g u : Sup) : List Ent := ff5 c g ++ ffFr c u
def FfD.of (c : FfD) (u : Sup) : FfD := { c with iF := u.k 7 0, dF := u.k 7 1, bF := u.k 7 2, aS := u.k 7 4, so := u.o 3 }
def ffZ (c : FfD) (u : Sup) : List Ent := ffFr c u
def sxO (a tb : Nat) : Obj := ⟨.type "StopIteration", none, .fields #[.ref a, .ref tb, .none, .none, .bool false, .none], #[]⟩
def tbI (fr : Nat) (r : List Value) : Obj := ⟨.type "traceback", none, .fields ⟨.none :: .ref fr :: .none :: .int (Int.ofNat fr) 0 :: .none :: r⟩, #[]⟩
def ffF (β : BB) (c : FfD) (u1 u2 : Nat) (q : Bool) (u3 : Nat) (v3 : Value) (e : Nat) (sl : Array (Option Value)) : Obj := frameO (cond q #[β.d "self" u1 (.ref c.iF), β.d "func" u2 (.ref c.bF), β.d "item" u3 v3] #[β.d "self" u1 (.ref c.iF), β.d "func" u2 (.ref c.bF)]) e sl
def fwI (β : BB) (c : FfD) (n0 u1 u2 : Nat) (q : Bool) (u3 : Nat) (v3 : Value) (e : Nat) (g U : Sup) (y : Str) (P : Sup → Prop) : Inst where
  cu := cu0 (loopC (TT β) 78 0 n0 [] .none)
  fr := fenv (TT β) 78 n0 [] :: c.fr β
  dep := 550
  un := 4000
  pre := .o n0 (ffF β c u1 u2 q u3 v3 e #[]) :: ffE c g U
  post u := (.ok (.ret (.str y (u.k 9 0))), ffE c u U, P u)
def fwE (β : BB) (c : FfD) (n0 u1 u2 : Nat) (q : Bool) (u3 : Nat) (v3 : Value) (e : Nat) (g U : Sup) : Inst where
  cu := cu0 (loopC (TT β) 78 0 n0 [] .none)
  fr := fenv (TT β) 78 n0 [] :: c.fr β
  dep := 550
  un := 4000
  pre := .o n0 (ffF β c u1 u2 q u3 v3 e #[]) :: ffE c g U
  post u := (.error (.ref (u.k 0 1)), [.o (u.k 0 1) (sxO (u.k 0 2) (u.k 0 3)), .o (u.k 0 3) (tbI n0 u.v), .o n0 (frameO (u.ds 0) (u.k 0 4) (u.x 0))] ++ ffZ c u, True)
def fnI (β : BB) (c : FfD) (g U : Sup) (y : Str) (P : Sup → Prop) : Inst where
  cu := cu0 (.call (.ref 78) ⟨[.ref c.iF], []⟩)
  fr := c.fr β
  dep := 510
  un := 3500
  pre := ffE c g U
  post u := (.ok (.ret (.str y (u.k 9 0))), ffE c u U, P u)
def fnE (β : BB) (c : FfD) (g U : Sup) : Inst where
  cu := cu0 (.call (.ref 78) ⟨[.ref c.iF], []⟩)
  fr := c.fr β
  dep := 510
  un := 3500
  pre := ffE c g U
  post u := (.error (.ref (u.k 0 1)), .o (u.k 0 1) (sxO (u.k 0 2) (u.k 0 3)) :: ffZ c u, True)
def ffEs (β : BB) (c : FfD) (u1 u2 : Nat) (q : Bool) (u3 : Nat) (v3 : Value) : Array DictEntry := cond q #[β.d "self" u1 (.ref c.iF), β.d "func" u2 (.ref c.bF), β.d "item" u3 v3] #[β.d "self" u1 (.ref c.iF), β.d "func" u2 (.ref c.bF)]
def fxU (r : Sup) (e : Sup) (es : Array DictEntry) (ep : Nat) : Sup := { e with k := fun _ i => (match i with | 1 => r.k 9 1 | 2 => r.k 9 2 | 3 => e.a | _ => ep), ds := fun _ => es, x := fun i => (match i with | 2 => e.x 1 | i => e.x i) }
end
theorem ff_cls (β : BB) : (TT β).get 82 = some (excClassObj (S "filterfalse") (S "filterfalse") 82 81 [.type "object"] [.type "object"] false [S "_func", S "_it"] [] false none none none none (some (.str (S "filterfalse") 239)) (some (.str (S "filterfalse") 247)) (some (.bool false)) "object.__new__") := by
  obtain ⟨b1, b2, b3, w0⟩ := β
  cases b3 <;> kernel_rfl
theorem ob_mro : mroOf (.type "object") = pure [.type "object"] := by rw [mroOf_type]; kernel_rfl
theorem ob_next : typeLookup (.type "object") (S "__next__") = pure none := by rw [typeLookup_type]; kernel_rfl
def nsOk (n : Str) (f : Nat) : Option Obj → Bool
  | some ⟨_, _, .dict es _, _⟩ => es.toList.all (fun e => match e.key with | .str _ _ => true | _ => false) && (nsFind es n == some (.ref f))
  | _ => false
theorem ns_of {n : Str} {f : Nat} {o : Option Obj} (h : nsOk n f o = true) : ∃ x es ep, o = some x ∧ x.data = .dict es ep ∧ StrKeys es ∧ nsFind es n = some (.ref f) := by
  unfold nsOk at h
  split at h
  · rename_i c d es ep sl
    rw [Bool.and_eq_true, List.all_eq_true] at h
    refine ⟨_, es, ep, rfl, rfl, fun e he => ?_, by simpa using h.2⟩
    have := h.1 e (by simpa using he)
    split at this
    · exact ⟨_, _, by assumption⟩
    · cases this
  · cases h
theorem ff_next_ns (β : BB) : nsOk (S "__next__") 78 ((TT β).get 81) = true := by obtain ⟨b1, b2, b3, w0⟩ := β; cases b3 <;> kernel_rfl
def isFn : Option Obj → Bool
  | some ⟨.type t, _, _, _⟩ => t == "function"
  | _ => false
theorem ff_next_fn (β : BB) : isFn ((TT β).get 78) = true := by obtain ⟨b1, b2, b3, w0⟩ := β; cases b3 <;> kernel_rfl
theorem isFn_is {o : Option Obj} (h : isFn o = true) : ∃ x, o = some x ∧ x.cls = .type "function" := by
  unfold isFn at h
  split at h
  · refine ⟨_, rfl, ?_⟩
    rename_i t _ _ _
    have : t = "function" := by simpa using h
    rw [this]
  · cases h
section
variable {β : BB} {Γ : Gd} {A : Around} {L : Led} {G : GL} {s : Shared}
theorem own82 (hT : Γ.T = TT β) {I : Nat} {o : Obj} (H : Hp Γ L G s) (ho : (I, o) ∈ L) (hc : o.cls = .ref 82) : s.heap.OwnSpecial I 82 78 "object" (S "__next__") := by
  obtain ⟨f, e1, e2⟩ := isFn_is (ff_next_fn β)
  obtain ⟨x, es, ep, e3, e4, e5, e6⟩ := ns_of (ff_next_ns β)
  rw [← hT] at e1 e3
  have e7 := ff_cls β
  rw [← hT] at e7
  exact ⟨o, f, _, _, 81, _, _, _, _, _, _, _, _, _, _, _, _, _, _, fun n => nsFind es n, _, H.led _ ho, hc, H.top _ _ e7, ⟨x, es, ep, H.top _ _ e3, e4, e5, fun _ => rfl⟩, e6, H.top _ _ e1, e2, ob_mro, ob_next⟩
theorem pyNext_own (hT : Γ.T = TT β) {I : Nat} {o : Obj} {Q : Option Value → Shared → Prop} {E' : Value → Shared → Prop} (H : Hp Γ L G s) (ho : (I, o) ∈ L) (hc : o.cls = .ref 82)
    (h : codeAny (model (E1 β).prog (E1 β).w) A (.call (.ref 78) ⟨[.ref I], []⟩) (fun r s' => (∃ v, r = .ok (.ret v) ∧ Q (some v) s') ∨ ∃ e, r = .error (.ref e) ∧ s'.TypeIs (.ref e) "StopIteration" ∧ Q none s') s) : wpAny (model (E1 β).prog (E1 β).w) A (pyNext (.ref I)) Q E' s := by
  have X := own82 hT H ho hc
  unfold pyNext
  refine wpAny_bind (wpAny_attempt (wpAny_callSpecial?_own X (wpAny_call (codeAny_mono h fun r s' hr => ?_))))
  rcases hr with ⟨v, rfl, hq⟩ | ⟨e, rfl, ht, hq⟩
  · exact wpAny_pure hq
  · exact wpAny_bind (wpAny_isInstance (T := "StopIteration") (b := true) ht isSubtype_stop (wpAny_pure hq))
end
noncomputable section
def fwN_o (β : BB) (c : FfD) (n0 u1 u2 : Nat) (q : Bool) (u3 : Nat) (v3 : Value) (e : Nat) (g0 U : Sup) (y : Str) (x : Str) (P Q : Sup → Prop) (n t g : Nat) (X : Led) (Y : GL) (σ : Nat → Sup) : Out := Go (E1 β) (fwI β c n0 u1 u2 q u3 v3 e g0 U y P) (Hs.h 0x1010101010101010801010101040404040802070602310806060101060606060505050302070701010401040101010101010401010101010101010101010101040101010104030101) (.a (.i (gnI β (fenv (TT β) 78 n0 [] :: c.fr β) c.d g0 x Q)) (.k fun r w => .a (.b true) <| .a (.i (fwI β c n0 u1 u2 true (cond q u3 w.t) (.str x (r.k 9 0)) (cond q e (e + 1)) r U y P)) (.k fun u _ => .a (.u u) .nil))) n t g X Y σ
abbrev fwN_v (β : BB) (c : FfD) (n0 u1 u2 : Nat) (q : Bool) (u3 : Nat) (v3 : Value) (e : Nat) (g0 U : Sup) (y : Str) (x : Str) (P Q : Sup → Prop) (n t g : Nat) (X : Led) (Y : GL) (σ : Nat → Sup) : Prop :=
  Sat (E1 β) (gnI β (fenv (TT β) (78 : Addr) n0 [] :: FfD.fr β c) (FfD.d c) g0 x Q) ∧ ((Q (σ 0)) → (∃ l, SetL (strKind Challenge.pw_ij0124_02 (BB.W β)) (Obj.mk (Value.type "set") none (Data.set (sA (FfD.so c)) (sE (FfD.so c)) (sT (FfD.so c))) #[]) l ∧ yesNo true (x ∈ l)) ∧ (Value.scannable (Value.str x ((σ 0).k 9 0)) = true) ∧ Sat (E1 β) (fwI β c n0 u1 u2 true (bif q then u3 else (σ 1).t) (Value.str x ((σ 0).k 9 0)) (bif q then e else e + 1) (σ 0) U y P) ∧ ((P (σ 4)) → (P (σ 4))))
theorem fwN_run (β : BB) (c : FfD) (n0 u1 u2 : Nat) (q : Bool) (u3 : Nat) (v3 : Value) (e : Nat) (g0 U : Sup) (y : Str) (x : Str) (P Q : Sup → Prop) (n t g : Nat) (X : Led) (Y : GL) (σ : Nat → Sup) : See (fwN_o β c n0 u1 u2 q u3 v3 e g0 U y x P Q n t g X Y σ) (fwN_v β c n0 u1 u2 q u3 v3 e g0 U y x P Q n t g X Y σ) := by obtain ⟨b1, b2, b3, w0⟩ := β; cases q <;> cases b3 <;> kernel_rfl
def fwM_o (β : BB) (c : FfD) (n0 u1 u2 : Nat) (q : Bool) (u3 : Nat) (v3 : Value) (e : Nat) (g0 U : Sup) (x : Str) (Q : Sup → Prop) (n t g : Nat) (X : Led) (Y : GL) (σ : Nat → Sup) : Out := Go (E1 β) (fwE β c n0 u1 u2 q u3 v3 e g0 U) (Hs.h 0x1010101010501010101040404040802070602310806060101060606060505050302070701010401040101010101010401010101010101010101010101040101010104030101) (.a (.i (gnI β (fenv (TT β) 78 n0 [] :: c.fr β) c.d g0 x Q)) (.k fun r w => .a (.b true) <| .a (.i (fwE β c n0 u1 u2 true (cond q u3 w.t) (.str x (r.k 9 0)) (cond q e (e + 1)) r U)) (.k fun u _ => .a (.u u) .nil))) n t g X Y σ
abbrev fwM_v (β : BB) (c : FfD) (n0 u1 u2 : Nat) (q : Bool) (u3 : Nat) (v3 : Value) (e : Nat) (g0 U : Sup) (x : Str) (Q : Sup → Prop) (n t g : Nat) (X : Led) (Y : GL) (σ : Nat → Sup) : Prop :=
  Sat (E1 β) (gnI β (fenv (TT β) (78 : Addr) n0 [] :: FfD.fr β c) (FfD.d c) g0 x Q) ∧ ((Q (σ 0)) → (∃ l, SetL (strKind Challenge.pw_ij0124_02 (BB.W β)) (Obj.mk (Value.type "set") none (Data.set (sA (FfD.so c)) (sE (FfD.so c)) (sT (FfD.so c))) #[]) l ∧ yesNo true (x ∈ l)) ∧ (Value.scannable (Value.str x ((σ 0).k 9 0)) = true) ∧ Sat (E1 β) (fwE β c n0 u1 u2 true (bif q then u3 else (σ 1).t) (Value.str x ((σ 0).k 9 0)) (bif q then e else e + 1) (σ 0) U) ∧ ((True) → (True)))
theorem fwM_run (β : BB) (c : FfD) (n0 u1 u2 : Nat) (q : Bool) (u3 : Nat) (v3 : Value) (e : Nat) (g0 U : Sup) (x : Str) (Q : Sup → Prop) (n t g : Nat) (X : Led) (Y : GL) (σ : Nat → Sup) : See (fwM_o β c n0 u1 u2 q u3 v3 e g0 U x Q n t g X Y σ) (fwM_v β c n0 u1 u2 q u3 v3 e g0 U x Q n t g X Y σ) := by obtain ⟨b1, b2, b3, w0⟩ := β; cases q <;> cases b3 <;> kernel_rfl
def fwY_o (β : BB) (c : FfD) (n0 u1 u2 : Nat) (q : Bool) (u3 : Nat) (v3 : Value) (e : Nat) (g0 U : Sup) (x : Str) (P : Sup → Prop) (n t g : Nat) (X : Led) (Y : GL) (σ : Nat → Sup) : Out := Go (E1 β) (fwI β c n0 u1 u2 q u3 v3 e g0 U x P) (Hs.h 0x2020101010505050806070602310806060101060606060505050302070701010401040101010101010401010101010101010101010101040101010104030101) (.a (.i (gnI β (fenv (TT β) 78 n0 [] :: c.fr β) c.d g0 x P)) (.k fun r w => .a (.b false) <| .a (.u r) .nil)) n t g X Y σ
abbrev fwY_v (β : BB) (c : FfD) (n0 u1 u2 : Nat) (q : Bool) (u3 : Nat) (v3 : Value) (e : Nat) (g0 U : Sup) (x : Str) (P : Sup → Prop) (n t g : Nat) (X : Led) (Y : GL) (σ : Nat → Sup) : Prop :=
  Sat (E1 β) (gnI β (fenv (TT β) (78 : Addr) n0 [] :: FfD.fr β c) (FfD.d c) g0 x P) ∧ ((P (σ 0)) → (∃ l, SetL (strKind Challenge.pw_ij0124_02 (BB.W β)) (Obj.mk (Value.type "set") none (Data.set (sA (FfD.so c)) (sE (FfD.so c)) (sT (FfD.so c))) #[]) l ∧ yesNo false (x ∈ l)) ∧ (Value.scannable (Value.str x ((σ 0).k 9 0)) = true) ∧ (P (σ 0)))
theorem fwY_run (β : BB) (c : FfD) (n0 u1 u2 : Nat) (q : Bool) (u3 : Nat) (v3 : Value) (e : Nat) (g0 U : Sup) (x : Str) (P : Sup → Prop) (n t g : Nat) (X : Led) (Y : GL) (σ : Nat → Sup) : See (fwY_o β c n0 u1 u2 q u3 v3 e g0 U x P n t g X Y σ) (fwY_v β c n0 u1 u2 q u3 v3 e g0 U x P n t g X Y σ) := by obtain ⟨b1, b2, b3, w0⟩ := β; cases q <;> cases b3 <;> kernel_rfl
def fwX_o (β : BB) (c : FfD) (n0 u1 u2 : Nat) (q : Bool) (u3 : Nat) (v3 : Value) (e : Nat) (g0 U : Sup) (n t g : Nat) (X : Led) (Y : GL) (σ : Nat → Sup) : Out := Go (E1 β) (fwE β c n0 u1 u2 q u3 v3 e g0 U) (Hs.h 0x401010102050401010300020505050302070701010401040101010101010401010101010101010101010101040101010104030101) (.a (.i (gnE β (fenv (TT β) 78 n0 [] :: c.fr β) c.d g0)) (.k fun r _ => .k fun x _ => .a (.u (fxU r x (ffEs β c u1 u2 q u3 v3) e)) .nil)) n t g X Y σ
abbrev fwX_v (β : BB) (c : FfD) (n0 u1 u2 : Nat) (q : Bool) (u3 : Nat) (v3 : Value) (e : Nat) (g0 U : Sup) (n t g : Nat) (X : Led) (Y : GL) (σ : Nat → Sup) : Prop :=
  Sat (E1 β) (gnE β (fenv (TT β) (78 : Addr) n0 [] :: FfD.fr β c) (FfD.d c) g0) ∧ ((True) → (True))
theorem fwX_run (β : BB) (c : FfD) (n0 u1 u2 : Nat) (q : Bool) (u3 : Nat) (v3 : Value) (e : Nat) (g0 U : Sup) (n t g : Nat) (X : Led) (Y : GL) (σ : Nat → Sup) : See (fwX_o β c n0 u1 u2 q u3 v3 e g0 U n t g X Y σ) (fwX_v β c n0 u1 u2 q u3 v3 e g0 U n t g X Y σ) := by obtain ⟨b1, b2, b3, w0⟩ := β; cases q <;> cases b3 <;> kernel_rfl
def fnY_o (β : BB) (c : FfD) (g0 U : Sup) (y : Str) (P : Sup → Prop) (n t g : Nat) (X : Led) (Y : GL) (σ : Nat → Sup) : Out := Go (E1 β) (fnI β c g0 U y P) (Hs.h 0x10101010101010108010101010101010108020303040104010101010101040101010101010101010101010104010101010403010203030101) (.a (.i (fwI β c n t (t + 2) false 0 .none 2 g0 U y P)) (.k fun u _ => .a (.u u) .nil)) n t g X Y σ
abbrev fnY_v (β : BB) (c : FfD) (g0 U : Sup) (y : Str) (P : Sup → Prop) (n t g : Nat) (X : Led) (Y : GL) (σ : Nat → Sup) : Prop :=
  Sat (E1 β) (fwI β c n t (t + 2) false 0 Value.none 2 g0 U y P) ∧ ((P (σ 0)) → (P (σ 0)))
theorem fnY_run (β : BB) (c : FfD) (g0 U : Sup) (y : Str) (P : Sup → Prop) (n t g : Nat) (X : Led) (Y : GL) (σ : Nat → Sup) : See (fnY_o β c g0 U y P n t g X Y σ) (fnY_v β c g0 U y P n t g X Y σ) := by obtain ⟨b1, b2, b3, w0⟩ := β; cases b3 <;> kernel_rfl
def fnX_o (β : BB) (c : FfD) (g0 U : Sup) (n t g : Nat) (X : Led) (Y : GL) (σ : Nat → Sup) : Out := Go (E1 β) (fnE β c g0 U) (Hs.h 0x30301030404030101020d0204040303010101010101010108020303040104010101010101040101010101010101010101010104010101010403010203030101) (.a (.i (fwE β c n t (t + 2) false 0 .none 2 g0 U)) (.k fun u _ => .a (.u u) .nil)) n t g X Y σ
abbrev fnX_v (β : BB) (c : FfD) (g0 U : Sup) (n t g : Nat) (X : Led) (Y : GL) (σ : Nat → Sup) : Prop :=
  Sat (E1 β) (fwE β c n t (t + 2) false 0 Value.none 2 g0 U) ∧ ((True) → (True))
theorem fnX_run (β : BB) (c : FfD) (g0 U : Sup) (n t g : Nat) (X : Led) (Y : GL) (σ : Nat → Sup) : See (fnX_o β c g0 U n t g X Y σ) (fnX_v β c g0 U n t g X Y σ) := by obtain ⟨b1, b2, b3, w0⟩ := β; cases b3 <;> kernel_rfl
end
def lacks (m : List Str) (l : List Str) : List Str := l.filter fun x => decide (x ∉ m)
theorem lacks_yes {m l : List Str} {x : Str} (h : x ∈ m) : lacks m (x :: l) = lacks m l := by
  unfold lacks; rw [List.filter_cons_of_neg (p := fun x => decide (x ∉ m)) (by rw [decide_eq_false (fun c => c h)]; exact Bool.false_ne_true)]
theorem lacks_no {m l : List Str} {x : Str} (h : x ∉ m) : lacks m (x :: l) = x :: lacks m l := by
  unfold lacks; rw [List.filter_cons_of_pos (p := fun x => decide (x ∉ m)) (decide_eq_true h)]
def aft (m : List Str) : List Str → List Str
  | [] => []
  | x :: l => if x ∈ m then aft m l else l
theorem aft_lacks {m : List Str} : ∀ {l : List Str} {y : Str} {r : List Str}, lacks m l = y :: r → lacks m (aft m l) = r
  | [], _, _, h => nomatch h
  | x :: l, y, r, h => by
    by_cases hx : x ∈ m
    · rw [lacks_yes hx] at h
      rw [show aft m (x :: l) = aft m l from if_pos hx]
      exact aft_lacks h
    · rw [lacks_no hx] at h
      cases h
      rw [show aft m (x :: l) = l from if_neg hx]
section
variable {β : BB} {c : FfD} {m : List Str} (hS : SetOf (E1 β) (seO c.so) m)
include hS
theorem fw_sat : ∀ (l : List Str) (g : Sup), Yld β c.d l g →
    (∀ y r, lacks m l = y :: r → lacks m (aft m l) = r ∧ ∀ n0 u1 u2 q u3 v3 e U, Sat (E1 β) (fwI β c n0 u1 u2 q u3 v3 e g U y (Yld β c.d (aft m l)))) ∧
    (lacks m l = [] → ∀ n0 u1 u2 q u3 v3 e U, Sat (E1 β) (fwE β c n0 u1 u2 q u3 v3 e g U)) := by
  obtain ⟨sl, hS, hm⟩ := hS
  intro l
  induction l with
  | nil =>
    intro g hy
    refine ⟨fun y r h => (nomatch h), fun _ n0 u1 u2 q u3 v3 e U => ?_⟩
    exact sat_of (fun n t g' X Y σ => fwX_run β c n0 u1 u2 q u3 v3 e g U n t g' X Y σ) fun n t g' X Y σ => ⟨hy _, id⟩
  | cons x l ih =>
    intro g hy
    by_cases hx : x ∈ m
    · rw [lacks_yes hx, show aft m (x :: l) = aft m l from if_pos hx]
      refine ⟨fun y r h => ⟨aft_lacks h, fun n0 u1 u2 q u3 v3 e U => ?_⟩, fun h n0 u1 u2 q u3 v3 e U => ?_⟩
      · exact sat_of (fun n t g' X Y σ => fwN_run β c n0 u1 u2 q u3 v3 e g U y x _ (Yld β c.d l) n t g' X Y σ) fun n t g' X Y σ => ⟨hy _, fun hQ => ⟨⟨sl, hS, (hm x).mpr hx⟩, rfl, ((ih _ hQ).1 y r h).2 .., id⟩⟩
      · exact sat_of (fun n t g' X Y σ => fwM_run β c n0 u1 u2 q u3 v3 e g U x (Yld β c.d l) n t g' X Y σ) fun n t g' X Y σ => ⟨hy _, fun hQ => ⟨⟨sl, hS, (hm x).mpr hx⟩, rfl, (ih _ hQ).2 h .., id⟩⟩
    · rw [lacks_no hx, show aft m (x :: l) = l from if_neg hx]
      refine ⟨fun y r h => ?_, fun h => nomatch h⟩
      cases h
      exact ⟨rfl, fun n0 u1 u2 q u3 v3 e U => sat_of (fun n t g' X Y σ => fwY_run β c n0 u1 u2 q u3 v3 e g U x (Yld β c.d l) n t g' X Y σ) fun n t g' X Y σ => ⟨hy _, fun hQ => ⟨⟨sl, hS, fun h => hx ((hm x).mp h)⟩, rfl, hQ⟩⟩⟩
theorem ff_nx : ∀ (r l : List Str) (g U : Sup), Yld β c.d l g → lacks m l = r → Nx (E1 β) (c.fr β) (ffZ c) c.iF r (ffE c g U)
  | [], l, g, U, hy, hr => fun Γ A X Y s Q E' B H K => by
    have hw := (fw_sat hS l g hy).2 hr
    have hn : Sat (E1 β) (fnE β c g U) := sat_of (fun n t g' X Y σ => fnX_run β c g U n t g' X Y σ) fun n t g' X Y σ => ⟨hw .., id⟩
    refine pyNext_own (β := β) B.hT (I := c.iF) (o := ffO c) H List.mem_cons_self rfl (codeAny_of _ (hn ⟨B.hT, B.hN, B.hh, Nat.le_trans B.hd (show 470 ≤ 510 by decide), Nat.le_trans B.hu (show 3000 ≤ 3500 by decide), B.hf⟩ H fun u s' _ H' => .inr ⟨_, rfl, ⟨sxO _ _, H'.led (_, sxO _ _) List.mem_cons_self, rfl⟩, K u s' ?_⟩))
    have H2 : Hp Γ ((u.k 0 1, sxO (u.k 0 2) (u.k 0 3)) :: flat (ffZ c u ++ [.f X Y])) (flatG (ffZ c u ++ [.f X Y])) s' := H'
    exact H2.sub (fun _ h => .tail _ h) (List.nodup_cons.mp H2.nd).2 (fun _ h => h) H2.gnd
  | y :: r, l, g, U, hy, hr => fun Γ A X Y s Q E' B H K => by
    obtain ⟨hr', hw⟩ := (fw_sat hS l g hy).1 y r hr
    have hn : Sat (E1 β) (fnI β c g U y (Yld β c.d (aft m l))) := sat_of (fun n t g' X Y σ => fnY_run β c g U y _ n t g' X Y σ) fun n t g' X Y σ => ⟨hw .., id⟩
    exact pyNext_own (β := β) B.hT (I := c.iF) (o := ffO c) H List.mem_cons_self rfl (codeAny_of _ (hn ⟨B.hT, B.hN, B.hh, Nat.le_trans B.hd (show 470 ≤ 510 by decide), Nat.le_trans B.hu (show 3000 ≤ 3500 by decide), B.hf⟩ H fun u s' hu H' => .inl ⟨_, rfl, K _ _ s' (ff_nx r (aft m l) u U hu hr') H'⟩))
end
noncomputable section
def sgI (β : BB) (fr : List Env) (d : GnD) (u0 : Sup) (l : List Str) : Inst where
  cu := cu0 (.call (.type "set") ⟨[.ref d.aG], []⟩)
  fr := fr
  dep := 390
  un := 2000
  pre := d.ent u0
  post u := (.ok (.ret (.ref (u.k 0 1))), [.o (u.k 0 1) (seO (u.o 0))], SetOf (E1 β) (seO (u.o 0)) l)
def dgI (β : BB) (fr : List Env) (c : FfD) (d : GnD) (g1 g2 : Sup) (m : List Str) : Inst where
  cu := cu0 (.call (.ref 93) ⟨[.ref c.d.aG, .ref d.aG], []⟩)
  fr := fr
  dep := 350
  un := 1500
  pre := c.d.ent g1 ++ d.ent g2
  post u := (.ok (.ret (.ref (u.k 7 0))), ff5 (c.of u) g1, SetOf (E1 β) (seO (u.o 3)) m)
def lfI (β : BB) (c : FfD) (g U : Sup) (l : List Str) : Inst where
  cu := cu0 (.call (.type "list") ⟨[.ref c.iF], []⟩)
  fr := c.fr β
  dep := 390
  un := 2000
  pre := ffE c g U
  post u := (.ok (.ret (.ref (u.k 0 1))), .o (u.k 0 1) (lsO (u.xs 0) (u.k 0 0)) :: ffZ c u, StrsOf (u.xs 0) l)
def k1U (u : Sup) (a : Nat) : Sup := { u with k := fun _ i => (match i with | 0 => u.k 0 0 | _ => a) }
def dfU (u w : Sup) : Sup := { noS with k := fun _ i => (match i with | 0 => w.n + 2 | 1 => w.n + 1 | 2 => w.n | _ => u.k 0 1), o := fun _ => u.o 0 }
def sg_o (β : BB) (fr : List Env) (d : GnD) (u0 : Sup) (l : List Str) (n t g : Nat) (X : Led) (Y : GL) (σ : Nat → Sup) : Out := Go (E1 β) (sgI β fr d u0 l) (Hs.h 0x101020101010104020401040104040404040303010303010303010101) (.a (.i (seI (E1 β) fr (fun _ => []) n d.aG (newSet β) (d.ent u0) l)) (.k fun u _ => .a (.u { xsU #[] 0 n with o := u.o }) .nil)) n t g X Y σ
abbrev sg_v (β : BB) (fr : List Env) (d : GnD) (u0 : Sup) (l : List Str) (n t g : Nat) (X : Led) (Y : GL) (σ : Nat → Sup) : Prop :=
  Sat (E1 β) (seI (E1 β) fr (fun x => []) n (GnD.aG d) (newSet β) (GnD.ent d u0) l) ∧ ((SetOf (E1 β) (seO ((σ 0).o 0)) l) → (SetOf (E1 β) (seO ((σ 0).o 0)) l))
theorem sg_run (β : BB) (fr : List Env) (d : GnD) (u0 : Sup) (l : List Str) (n t g : Nat) (X : Led) (Y : GL) (σ : Nat → Sup) : See (sg_o β fr d u0 l n t g X Y σ) (sg_v β fr d u0 l n t g X Y σ) := by obtain ⟨b1, b2, b3, w0⟩ := β; cases b3 <;> kernel_rfl
def dg_o (β : BB) (fr : List Env) (c : FfD) (d : GnD) (g1 g2 : Sup) (m : List Str) (n t g : Nat) (X : Led) (Y : GL) (σ : Nat → Sup) : Out := Go (E1 β) (dgI β fr c d g1 g2 m) (Hs.h 0x404040403030207040104010101010101040101010101010101010104010401010401010101040303040104010101010101040101010101010101010104010401010401010101040309010901090901010301010102030303030303010101010101010301030101010101010101010101010101010101010101010101010101010101010101010501030101030303010301030505050302030101010102030303030101) (.a (.i (sgI β (fenv (TT β) 93 n [] :: fr) d g2 m)) (.k fun u w => .a (.u (dfU u w)) .nil)) n t g X Y σ
abbrev dg_v (β : BB) (fr : List Env) (c : FfD) (d : GnD) (g1 g2 : Sup) (m : List Str) (n t g : Nat) (X : Led) (Y : GL) (σ : Nat → Sup) : Prop :=
  Sat (E1 β) (sgI β (fenv (TT β) (93 : Addr) n [] :: fr) d g2 m) ∧ ((SetOf (E1 β) (seO ((σ 0).o 0)) m) → (SetOf (E1 β) (seO ((σ 0).o 0)) m))
theorem dg_run (β : BB) (fr : List Env) (c : FfD) (d : GnD) (g1 g2 : Sup) (m : List Str) (n t g : Nat) (X : Led) (Y : GL) (σ : Nat → Sup) : See (dg_o β fr c d g1 g2 m n t g X Y σ) (dg_v β fr c d g1 g2 m n t g X Y σ) := by obtain ⟨b1, b2, b3, w0⟩ := β; cases b3 <;> kernel_rfl
def lf_o (β : BB) (c : FfD) (g0 U : Sup) (l : List Str) (n t g : Nat) (X : Led) (Y : GL) (σ : Nat → Sup) : Out := Go (E1 β) (lfI β c g0 U l) (Hs.h 0x201010302020202020202020802040404040404010101050101010501010105030102030301010101010101040101010404030303030101090301030304010101) (.a (.i (exI (c.fr β) (ffZ c) n c.iF #[] 2 (ffE c g0 U) l)) (.k fun u _ => .a (.u (k1U u n)) .nil)) n t g X Y σ
abbrev lf_v (β : BB) (c : FfD) (g0 U : Sup) (l : List Str) (n t g : Nat) (X : Led) (Y : GL) (σ : Nat → Sup) : Prop :=
  Sat (E1 β) (exI (FfD.fr β c) (ffZ c) n (FfD.iF c) #[] 2 (ffE c g0 U) l) ∧ ((StrsOf ((σ 1).xs 0) l) → (StrsOf ((σ 1).xs 0) l))
theorem lf_run (β : BB) (c : FfD) (g0 U : Sup) (l : List Str) (n t g : Nat) (X : Led) (Y : GL) (σ : Nat → Sup) : See (lf_o β c g0 U l n t g X Y σ) (lf_v β c g0 U l n t g X Y σ) := by obtain ⟨b1, b2, b3, w0⟩ := β; cases b3 <;> kernel_rfl
end
theorem setL_new (β : BB) : SetL (strKind (E1 β).prog (E1 β).w) (newSet β) [] := by
  refine ⟨0, Nat.le_refl _, #[], 0, _, ⟨rfl, rfl, rfl⟩, rfl, ?_, by simp, by decide, ?_, rfl⟩
  · intro p hp; simp at hp
  · cases (!(β.W.params.followText "set-order")) <;> decide
theorem sg_sat {β : BB} (fr : List Env) {d : GnD} {l : List Str} {u0 : Sup} (hl : l.length ≤ 1000) (hy : Yld β d l u0) : Sat (E1 β) (sgI β fr d u0 l) :=
  sat_of (fun n t g X Y σ => sg_run β fr d u0 l n t g X Y σ) fun n t g X Y σ => ⟨se_sat (fun _ _ => rfl) hl l [] (dl := []) rfl rfl (fun _ => Iff.rfl) (setL_new β) (gn_nx fr l u0 hy), id⟩
theorem dg_sat {β : BB} (fr : List Env) {c : FfD} {d : GnD} {g1 g2 : Sup} {m : List Str} (hl : m.length ≤ 1000) (hy : Yld β d m g2) : Sat (E1 β) (dgI β fr c d g1 g2 m) :=
  sat_of (fun n t g X Y σ => dg_run β fr c d g1 g2 m n t g X Y σ) fun n t g X Y σ => ⟨sg_sat _ hl hy, id⟩
theorem lacks_le (m l : List Str) : (lacks m l).length ≤ l.length := List.length_filter_le ..
theorem lf_sat {β : BB} {c : FfD} {l m : List Str} {g : Sup} (hy : Yld β c.d l g) (hS : SetOf (E1 β) (seO c.so) m) (hl : l.length ≤ 1000) (U : Sup) : Sat (E1 β) (lfI β c g U (lacks m l)) :=
  sat_of (fun n t g' X Y σ => lf_run β c g U (lacks m l) n t g' X Y σ) fun n t g' X Y σ => ⟨ex_sat (fun _ _ _ => rfl) (Nat.le_trans (lacks_le m l) hl) _ [] rfl StrsOf.nil (ff_nx hS _ l g U hy rfl), id⟩
noncomputable section
def nmOf (l : List Str) (i : Nat) : Str := (l[i]?).getD ⟨Array.replicate (100 + i) 0⟩
def infS (u : Sup) : InfD := ⟨u.k 1, u.k 2, u.k 3, u.k 5, u.z 5, nmOf (u.tx 0), (u.tx 0).length⟩
def arrS (u : Sup) : ArrD := ⟨u.k 4, u.xs, u.k 6⟩
def gE (β : BB) (d : SoD) (u : Sup) : List Ent := [.o (d.aM + 3) (dO (u.ds 0) (u.k 0 2)), (infS u).ent (arrS u), (arrS u).ent (u.tx 0).length] ++ ({ d with v2 := .none } : SoD).ent β
def gNew (β : BB) (S : Sup) (y : Str) (ty a da tp b : Nat) : Sup := { S with
  k := fun x i => (match x with
    | 0 => (match i with | 2 => S.k 0 2 + 1 | i => S.k 0 i)
    | 1 => upd (S.k 1) (S.tx 0).length a i
    | 2 => upd (S.k 2) (S.tx 0).length da i
    | 3 => upd (S.k 3) (S.tx 0).length ty i
    | 4 => upd (S.k 4) (S.tx 0).length b i
    | 5 => upd (S.k 5) (S.tx 0).length tp i
    | 6 => upd (S.k 6) (S.tx 0).length 0 i
    | x => S.k x i)
  z := fun x => (match x with | 5 => upd (S.z 5) (S.tx 0).length 0 | x => S.z x)
  xs := fun i => if i = (S.tx 0).length then #[] else S.xs i
  ds := fun i => (match i with | 0 => (S.ds 0).push ⟨hashStr β.W y, .str y ty, .ref a⟩ | i => S.ds i)
  tx := fun i => (match i with | 0 => S.tx 0 ++ [y] | i => S.tx i) }
def gCnt (S : Sup) (v : Nat) (x : Int) (t : Nat) : Sup := { S with
  k := fun a i => (match a with | 5 => upd (S.k 5) v t i | a => S.k a i)
  z := fun a => (match a with | 5 => upd (S.z 5) v x | a => S.z a) }
def gSuc (S : Sup) (w : Nat) (y : Value) : Sup := { S with
  k := fun a i => (match a with | 6 => upd (S.k 6) w (S.k 6 w + 1) i | a => S.k a i)
  xs := fun i => if i = w then (S.xs w).push y else S.xs i }
def adI (β : BB) (fr : List Env) (d : SoD) (y : Str) (ty : Nat) (S : Sup) (P : Sup → Prop) : Inst where
  cu := cu0 (.call (.ref 159) ⟨[.ref d.aS, .str y ty], []⟩)
  fr := fr
  dep := 470
  un := 3000
  pre := gE β d S
  post u := (.ok (.ret .none), gE β d u, P u)
def ad2I (β : BB) (fr : List Env) (d : SoD) (y : Str) (ty : Nat) (x : Str) (tx : Nat) (S : Sup) (P : Sup → Prop) : Inst where
  cu := cu0 (.call (.ref 159) ⟨[.ref d.aS, .str y ty, .str x tx], []⟩)
  fr := fr
  dep := 470
  un := 3000
  pre := gE β d S
  post u := (.ok (.ret .none), gE β d u, P u)
end
noncomputable section
def adN_o (β : BB) (fr : List Env) (d : SoD) (y : Str) (ty : Nat) (S : Sup) (P : Sup → Prop) (n t g : Nat) (X : Led) (Y : GL) (σ : Nat → Sup) : Out := Go (E1 β) (adI β fr d y ty S P) (Hs.h 0x9090901010b06010a0a0406040503080102190301030109010909080501050101010101010501010101010101010101050105010105010101010501010901090109010108010105010501010101010105010101010101010101010101010501010101050808080707070801110a0a070e010d0d0101010d010101010d0705010501010101010105010101010101010101010501050101050101010105040401040101010101010401010101010101010101040104010104010101010403040104010101010101040101010101010101010104010401010401010101040303010203030303010101010101010301030101010101010101010101010101010101010101010101010101010101010101010301030304010e03060606060a01090901010109010101010903010203030303010101010309080101010108010101080101010803090108080101010801010101080301020303030303030101) (.a (.v .none) (.k fun _ v2 => .a (.b true) (.k fun _ v3 => .a (.b false) <| .a (.cv [.o (v2.n + 1) ⟨.ref 112, some v2.n, .plain, #[some (.str y ty), some (.int 0 (v3.t + 5)), some (.ref (v2.n + 3))]⟩, .o (v2.n + 3) (lsO #[] 0), (infS S).ent (arrS S), (arrS S).ent (S.tx 0).length] [(infS (gNew β S y ty (v2.n + 1) v2.n (v3.t + 5) (v2.n + 3))).ent (arrS (gNew β S y ty (v2.n + 1) v2.n (v3.t + 5) (v2.n + 3))), (arrS (gNew β S y ty (v2.n + 1) v2.n (v3.t + 5) (v2.n + 3))).ent ((gNew β S y ty (v2.n + 1) v2.n (v3.t + 5) (v2.n + 3)).tx 0).length]) <| .a (.u (gNew β S y ty (v2.n + 1) v2.n (v3.t + 5) (v2.n + 3))) .nil))) n t g X Y σ
abbrev adN_v (β : BB) (fr : List Env) (d : SoD) (y : Str) (ty : Nat) (S : Sup) (P : Sup → Prop) (n t g : Nat) (X : Led) (Y : GL) (σ : Nat → Sup) : Prop :=
  (KeysOf (strKind Challenge.pw_ij0124_02 (BB.W β)) (Sup.ds S 0)) ∧ (Option.getD (findBy Value.isStrOf (Sup.ds S 0) y) Value.none = Value.none) ∧ (KeysOf (strKind Challenge.pw_ij0124_02 (BB.W β)) (Sup.ds S 0)) ∧ (Array.findIdx? (fun e => Value.isStrOf y (DictEntry.key e)) (Sup.ds S 0) = inOf (Aux.b true)) ∧ (Array.size (Sup.ds S 0) ≤ 1000000) ∧ ((List.toArray (List.drop (List.length (W.R.mapR (fun x => Arg.arg x) [] ++ W.R.mapR (fun x => Arg.arg x) [Arg.mk (Str.mk (Array.mk [115, 101, 108, 102])) none (Pos.mk 97 12 97 16), Arg.mk (Str.mk (Array.mk [110, 111, 100, 101])) none (Pos.mk 97 18 97 22)])) [Value.ref d.1, Value.str y ty]))[Int.toNat 0]? = none) ∧ (Conv [Ent.o ((σ 1).n + (1 : Addr)) (Obj.mk (Value.ref 112) (some ((σ 1).n)) Data.plain #[some (Value.str y ty), some (Value.int (Int.ofNat 0) ((σ 3).2 + 5)), some (Value.ref ((σ 1).1 + 3))]), Ent.o ((σ 1).n + (3 : Addr)) (lsO #[] 0), InfD.ent (infS S) (arrS S), ArrD.ent (arrS S) (List.length (Sup.tx S 0))] [InfD.ent (infS (gNew β S y ty ((σ 1).n + 1) ((σ 1).n) ((σ 3).t + 5) ((σ 1).n + 3))) (arrS (gNew β S y ty ((σ 1).n + 1) ((σ 1).n) ((σ 3).t + 5) ((σ 1).n + 3))), ArrD.ent (arrS (gNew β S y ty ((σ 1).n + 1) ((σ 1).n) ((σ 3).t + 5) ((σ 1).n + 3))) (List.length (Sup.tx S 0 ++ [y]))]) ∧ (P (gNew β S y ty ((σ 1).n + 1) ((σ 1).n) ((σ 3).t + 5) ((σ 1).n + 3)))
theorem adN_run (β : BB) (fr : List Env) (d : SoD) (y : Str) (ty : Nat) (S : Sup) (P : Sup → Prop) (n t g : Nat) (X : Led) (Y : GL) (σ : Nat → Sup) : See (adN_o β fr d y ty S P n t g X Y σ) (adN_v β fr d y ty S P n t g X Y σ) := by obtain ⟨b1, b2, b3, w0⟩ := β; cases b2 <;> cases b3 <;> kernel_rfl
def adO_o (β : BB) (fr : List Env) (d : SoD) (y : Str) (ty v : Nat) (S : Sup) (P : Sup → Prop) (n t g : Nat) (X : Led) (Y : GL) (σ : Nat → Sup) : Out := Go (E1 β) (adI β fr d y ty S P) (Hs.h 0x7070707070706010304010219030103010501050504570157010101070101015701010107010101010101015701570107015701010101570101030126070401015701570101010701010157010101070101010101010101010157010101015704040403030304010e03060606060a01090901010109010101010903010203030303010101010309080101010108010101080101010803090108080101010801010101080301020303030303030101) (.a (.v (.ref (S.k 1 v))) (.k fun _ v2 => .a (.n v) <| .a (.n v) <| .a (.n v) <| .a (.n 0) (.k fun _ v3 => .a (.n v) <| .a (.n v) <| .a (.n v) <| .a (.n v) <| .a (.ob ((infS (gCnt S v (S.z 5 v + Int.ofNat 0) v3.t)).ob (arrS (gCnt S v (S.z 5 v + Int.ofNat 0) v3.t)))) <| .a (.b false) <| .a (.u (gCnt S v (S.z 5 v + Int.ofNat 0) v3.t)) .nil))) n t g X Y σ
abbrev adO_v (β : BB) (fr : List Env) (d : SoD) (y : Str) (ty v : Nat) (S : Sup) (P : Sup → Prop) (n t g : Nat) (X : Led) (Y : GL) (σ : Nat → Sup) : Prop :=
  (KeysOf (strKind Challenge.pw_ij0124_02 (BB.W β)) (Sup.ds S 0)) ∧ (Option.getD (findBy Value.isStrOf (Sup.ds S 0) y) Value.none = Value.ref (Sup.k S 1 v)) ∧ (v < List.length (Sup.tx S 0)) ∧ (v < List.length (Sup.tx S 0)) ∧ (v < List.length (Sup.tx S 0)) ∧ (v < List.length (Sup.tx S 0)) ∧ (v < List.length (Sup.tx S 0)) ∧ (Array.size (List.toArray (List.drop (List.length (W.R.mapR (fun x => Arg.arg x) [] ++ W.R.mapR (fun x => Arg.arg x) [Arg.mk (Str.mk (Array.mk [115, 101, 108, 102])) none (Pos.mk 97 12 97 16), Arg.mk (Str.mk (Array.mk [110, 111, 100, 101])) none (Pos.mk 97 18 97 22)])) [Value.ref d.1, Value.str y ty])) = 0) ∧ (0 ≤ BIG) ∧ (v < List.length (Sup.tx S 0)) ∧ (v < List.length (Sup.tx S 0)) ∧ (v < List.length (Sup.tx S 0)) ∧ (v < List.length (Sup.tx S 0)) ∧ (v < List.length (Sup.tx S 0)) ∧ (v < List.length (Sup.tx S 0)) ∧ (v < List.length (Sup.tx S 0)) ∧ (PutC (List.length (Sup.tx S 0)) v (InfD.ob (infS S) (arrS S)) (InfD.ob (infS (gCnt S v (Sup.z S 5 v + Int.ofNat 0) ((σ 3).t))) (arrS (gCnt S v (Sup.z S 5 v + Int.ofNat 0) ((σ 3).t)))) (Obj.mk (Value.ref 112) (some (Sup.k S 2 v)) Data.plain (Array.setIfInBounds (#[some (Value.str (nmOf (Sup.tx S 0) v) (Sup.k S 3 v)), some (Value.int (Sup.z S 5 v) (Sup.k S 5 v)), some (Value.ref (Sup.k S 4 v))] ++ Array.replicate (List.length [Str.mk (Array.mk [110, 111, 100, 101]), Str.mk (Array.mk [110, 112, 114, 101, 100, 101, 99, 101, 115, 115, 111, 114, 115]), Str.mk (Array.mk [115, 117, 99, 99, 101, 115, 115, 111, 114, 115])] - 1 - Int.toNat 1 + 1 - Array.size #[some (Value.str (nmOf (Sup.tx S 0) v) (Sup.k S 3 v)), some (Value.int (Sup.z S 5 v) (Sup.k S 5 v)), some (Value.ref (Sup.k S 4 v))]) none) (List.length [Str.mk (Array.mk [110, 111, 100, 101]), Str.mk (Array.mk [110, 112, 114, 101, 100, 101, 99, 101, 115, 115, 111, 114, 115]), Str.mk (Array.mk [115, 117, 99, 99, 101, 115, 115, 111, 114, 115])] - 1 - Int.toNat 1) (some (Value.int (Sup.z S 5 v + Int.ofNat 0) (σ 3).2))))) ∧ ((List.toArray (List.drop (List.length (W.R.mapR (fun x => Arg.arg x) [] ++ W.R.mapR (fun x => Arg.arg x) [Arg.mk (Str.mk (Array.mk [115, 101, 108, 102])) none (Pos.mk 97 12 97 16), Arg.mk (Str.mk (Array.mk [110, 111, 100, 101])) none (Pos.mk 97 18 97 22)])) [Value.ref d.1, Value.str y ty]))[Int.toNat 0]? = none) ∧ (P (gCnt S v (Sup.z S 5 v + Int.ofNat 0) ((σ 3).t)))
theorem adO_run (β : BB) (fr : List Env) (d : SoD) (y : Str) (ty v : Nat) (S : Sup) (P : Sup → Prop) (n t g : Nat) (X : Led) (Y : GL) (σ : Nat → Sup) : See (adO_o β fr d y ty v S P n t g X Y σ) (adO_v β fr d y ty v S P n t g X Y σ) := by obtain ⟨b1, b2, b3, w0⟩ := β; cases b2 <;> cases b3 <;> kernel_rfl
end
noncomputable section
def lob (D : ArrD) : Nat → Obj := fun v => lsO (D.xs v) (D.ep v)
def ad2_o (β : BB) (fr : List Env) (d : SoD) (y : Str) (ty : Nat) (x : Str) (tx : Nat) (v w : Nat) (S : Sup) (P : Sup → Prop) (n t g : Nat) (X : Led) (Y : GL) (σ : Nat → Sup) : Out := Go (E1 β) (ad2I β fr d y ty x tx S P) (Hs.h 0x80808080808060103050202190401080114065a5a5a5a5901590101010701010159010101070101010101010101010159010101015906060603030306010e03080808080c010b0b0101010b010101010b0301020303030301010101050b0a010101010a0101010a0101010a05050504010219030103010501050504570157010101070101015701010107010101010101015701570107015701010101570101030126070401015701570101010701010157010101070101010101010101010157010101015704040403030304010e03060606060a01090901010109010101010903010203030303010101010309080101010108010101080101010803090108080101010801010101080301020303030303030101) (.a (.v (.ref (S.k 1 v))) (.k fun _ v3 => .a (.n v) <| .a (.n v) <| .a (.n v) <| .a (.n 1) (.k fun _ vl => .a (.n v) <| .a (.n v) <| .a (.n v) <| .a (.n v) <| .a (.ob ((infS (gCnt S v (S.z 5 v + 1) vl.t)).ob (arrS (gCnt S v (S.z 5 v + 1) vl.t)))) <| .a (.v (.str x tx)) <| .a (.v (.ref (S.k 1 w))) (.k fun _ v4 => .a (.n w) <| .a (.n w) <| .a (.n w) <| .a (.ob (lob (arrS (gSuc (gCnt S v (S.z 5 v + 1) vl.t) w (.str y ty))))) <| .a (.b false) <| .a (.u (gSuc (gCnt S v (S.z 5 v + 1) vl.t) w (.str y ty))) .nil)))) n t g X Y σ
abbrev ad2_v (β : BB) (fr : List Env) (d : SoD) (y : Str) (ty : Nat) (x : Str) (tx : Nat) (v w : Nat) (S : Sup) (P : Sup → Prop) (n t g : Nat) (X : Led) (Y : GL) (σ : Nat → Sup) : Prop :=
  (KeysOf (strKind Challenge.pw_ij0124_02 (BB.W β)) (Sup.ds S 0)) ∧ (Option.getD (findBy Value.isStrOf (Sup.ds S 0) y) Value.none = Value.ref (Sup.k S 1 v)) ∧ (v < List.length (Sup.tx S 0)) ∧ (v < List.length (Sup.tx S 0)) ∧ (v < List.length (Sup.tx S 0)) ∧ (v < List.length (Sup.tx S 0)) ∧ (v < List.length (Sup.tx S 0)) ∧ (Array.size (List.toArray (List.drop (List.length (W.R.mapR (fun x => Arg.arg x) [] ++ W.R.mapR (fun x => Arg.arg x) [Arg.mk (Str.mk (Array.mk [115, 101, 108, 102])) none (Pos.mk 97 12 97 16), Arg.mk (Str.mk (Array.mk [110, 111, 100, 101])) none (Pos.mk 97 18 97 22)])) [Value.ref d.1, Value.str y ty, Value.str x tx])) = 1) ∧ (1 ≤ BIG) ∧ (v < List.length (Sup.tx S 0)) ∧ (v < List.length (Sup.tx S 0)) ∧ (v < List.length (Sup.tx S 0)) ∧ (v < List.length (Sup.tx S 0)) ∧ (v < List.length (Sup.tx S 0)) ∧ (v < List.length (Sup.tx S 0)) ∧ (v < List.length (Sup.tx S 0)) ∧ (PutC (List.length (Sup.tx S 0)) v (InfD.ob (infS S) (arrS S)) (InfD.ob (infS (gCnt S v (Sup.z S 5 v + 1) ((σ 3).t))) (arrS (gCnt S v (Sup.z S 5 v + 1) ((σ 3).t)))) (Obj.mk (Value.ref 112) (some (Sup.k S 2 v)) Data.plain (Array.setIfInBounds (#[some (Value.str (nmOf (Sup.tx S 0) v) (Sup.k S 3 v)), some (Value.int (Sup.z S 5 v) (Sup.k S 5 v)), some (Value.ref (Sup.k S 4 v))] ++ Array.replicate (List.length [Str.mk (Array.mk [110, 111, 100, 101]), Str.mk (Array.mk [110, 112, 114, 101, 100, 101, 99, 101, 115, 115, 111, 114, 115]), Str.mk (Array.mk [115, 117, 99, 99, 101, 115, 115, 111, 114, 115])] - 1 - Int.toNat 1 + 1 - Array.size #[some (Value.str (nmOf (Sup.tx S 0) v) (Sup.k S 3 v)), some (Value.int (Sup.z S 5 v) (Sup.k S 5 v)), some (Value.ref (Sup.k S 4 v))]) none) (List.length [Str.mk (Array.mk [110, 111, 100, 101]), Str.mk (Array.mk [110, 112, 114, 101, 100, 101, 99, 101, 115, 115, 111, 114, 115]), Str.mk (Array.mk [115, 117, 99, 99, 101, 115, 115, 111, 114, 115])] - 1 - Int.toNat 1) (some (Value.int (Sup.z S 5 v + Int.ofNat 1) (σ 3).2))))) ∧ ((List.toArray (List.drop (List.length (W.R.mapR (fun x => Arg.arg x) [] ++ W.R.mapR (fun x => Arg.arg x) [Arg.mk (Str.mk (Array.mk [115, 101, 108, 102])) none (Pos.mk 97 12 97 16), Arg.mk (Str.mk (Array.mk [110, 111, 100, 101])) none (Pos.mk 97 18 97 22)])) [Value.ref d.1, Value.str y ty, Value.str x tx]))[Int.toNat 0]? = some (Value.str x tx)) ∧ (KeysOf (strKind Challenge.pw_ij0124_02 (BB.W β)) (Sup.ds S 0)) ∧ (Option.getD (findBy Value.isStrOf (Sup.ds S 0) x) Value.none = Value.ref (Sup.k S 1 w)) ∧ (w < List.length (Sup.tx S 0)) ∧ (w < List.length (Sup.tx S 0)) ∧ (w < List.length (Sup.tx S 0)) ∧ (w < List.length (Sup.tx S 0)) ∧ (w < List.length (Sup.tx S 0)) ∧ (w < List.length (Sup.tx S 0)) ∧ (w < List.length (Sup.tx S 0)) ∧ (w < List.length (Sup.tx S 0)) ∧ (w < List.length (Sup.tx S 0)) ∧ (w < List.length (Sup.tx S 0)) ∧ (Array.size (Sup.xs S w) ≤ BIG) ∧ (PutC (List.length (Sup.tx S 0)) w (fun i => lsO (Sup.xs S i) (Sup.k S 6 i)) (lob (arrS (gSuc (gCnt S v (Sup.z S 5 v + 1) ((σ 3).t)) w (Value.str y ty)))) (lsO (Array.push (Sup.xs S w) (Value.str y ty)) (Sup.k S 6 w + 1))) ∧ ((List.toArray (List.drop (List.length (W.R.mapR (fun x => Arg.arg x) [] ++ W.R.mapR (fun x => Arg.arg x) [Arg.mk (Str.mk (Array.mk [115, 101, 108, 102])) none (Pos.mk 97 12 97 16), Arg.mk (Str.mk (Array.mk [110, 111, 100, 101])) none (Pos.mk 97 18 97 22)])) [Value.ref d.1, Value.str y ty, Value.str x tx]))[Int.toNat (0 + 1)]? = none) ∧ (P (gSuc (gCnt S v (Sup.z S 5 v + 1) ((σ 3).t)) w (Value.str y ty)))
theorem ad2_run (β : BB) (fr : List Env) (d : SoD) (y : Str) (ty : Nat) (x : Str) (tx : Nat) (v w : Nat) (S : Sup) (P : Sup → Prop) (n t g : Nat) (X : Led) (Y : GL) (σ : Nat → Sup) : See (ad2_o β fr d y ty x tx v w S P n t g X Y σ) (ad2_v β fr d y ty x tx v w S P n t g X Y σ) := by obtain ⟨b1, b2, b3, w0⟩ := β; cases b2 <;> cases b3 <;> kernel_rfl
end
theorem nmOf_at {l : List Str} {i : Nat} {y : Str} (h : l[i]? = some y) : nmOf l i = y := by unfold nmOf; rw [h]; rfl
theorem nmOf_app {l : List Str} (y : Str) {i : Nat} (h : i < l.length) : nmOf (l ++ [y]) i = nmOf l i := by
  unfold nmOf; rw [List.getElem?_append_left h]
theorem nmOf_new (l : List Str) (y : Str) : nmOf (l ++ [y]) l.length = y := nmOf_at (by rw [List.getElem?_append_right (Nat.le_refl _), Nat.sub_self]; rfl)
theorem nmOf_len {l : List Str} (hs : ∀ y ∈ l, y.length < 100) (i : Nat) : (i < l.length → (nmOf l i).length < 100) ∧ (¬ i < l.length → (nmOf l i).length = 100 + i) := by
  refine ⟨fun h => ?_, fun h => ?_⟩
  · rw [nmOf_at (List.getElem?_eq_getElem h)]; exact hs _ (List.getElem_mem h)
  · unfold nmOf; rw [List.getElem?_eq_none (Nat.le_of_not_lt h)]
    show (Array.replicate (100 + i) 0).size = _
    exact Array.size_replicate
theorem nmOf_inj {l : List Str} (nd : l.Nodup) (hs : ∀ y ∈ l, y.length < 100) (a b : Nat) (h : nmOf l a = nmOf l b) : a = b := by
  have ha := nmOf_len hs a
  have hb := nmOf_len hs b
  rw [h] at ha
  by_cases h1 : a < l.length <;> by_cases h2 : b < l.length
  · rw [nmOf_at (List.getElem?_eq_getElem h1), nmOf_at (List.getElem?_eq_getElem h2)] at h
    have pw := List.pairwise_iff_getElem.mp nd
    rcases Nat.lt_trichotomy a b with q | q | q
    · exact absurd h (pw a b h1 h2 q)
    · exact q
    · exact absurd h.symm (pw b a h2 h1 q)
  · have := ha.1 h1; have := hb.2 h2; omega
  · have := ha.2 h1; have := hb.1 h2; omega
  · have := ha.2 h1; have := hb.2 h2; omega
theorem nmOf_mem {l : List Str} {y : Str} (h : y ∈ l) : ∃ i, i < l.length ∧ nmOf l i = y := by
  obtain ⟨i, hi, e⟩ := List.mem_iff_getElem.mp h
  exact ⟨i, hi, nmOf_at (by rw [List.getElem?_eq_getElem hi, e])⟩
def nodE (β : BB) (S : Sup) (i : Nat) : DictEntry := ⟨hashStr β.W (nmOf (S.tx 0) i), .str (nmOf (S.tx 0) i) (S.k 3 i), .ref (S.k 1 i)⟩
def sucE (E : List (Nat × Nat)) (i : Nat) : List Nat := (E.filter fun p => decide (p.1 = i)).map Prod.snd
def cntE (E : List (Nat × Nat)) (i : Nat) : Int := Int.ofNat (E.filter fun p => decide (p.2 = i)).length
structure GOk (β : BB) (S : Sup) (E : List (Nat × Nat)) : Prop where
  es : (S.ds 0).toList = (List.range (S.tx 0).length).map (nodE β S)
  nd : (S.tx 0).Nodup
  sm : ∀ y ∈ S.tx 0, y.length < 100
  mb : (S.tx 0).length ≤ 20
  ed : ∀ p ∈ E, p.1 < (S.tx 0).length ∧ p.2 < (S.tx 0).length
  xs : ∀ i, i < (S.tx 0).length → StrsOf (S.xs i) ((sucE E i).map (nmOf (S.tx 0)))
  np : ∀ i, i < (S.tx 0).length → S.z 5 i = cntE E i
section
variable {β : BB} {S : Sup} {E : List (Nat × Nat)} (h : GOk β S E)
include h
theorem GOk.size : (S.ds 0).size = (S.tx 0).length := by
  rw [← Array.length_toList, h.es, List.length_map, List.length_range]
theorem GOk.keys (prog : Program) (w : World) (hw : w = β.W) : KeysOf (strKind prog w) (S.ds 0) := fun q hq => by
  subst hw
  have : q ∈ (List.range (S.tx 0).length).map (nodE β S) := by rw [← h.es]; exact Array.mem_toList_iff.mpr hq
  obtain ⟨v, _, rfl⟩ := List.mem_map.mp this
  exact ⟨nmOf (S.tx 0) v, beq_self_eq_true _, rfl⟩
theorem GOk.find (y : Str) : (S.ds 0).find? (fun e => Value.isStrOf y e.key) = ((List.range (S.tx 0).length).find? fun i => nmOf (S.tx 0) i == y).map (nodE β S) := by
  rw [← Array.find?_toList, h.es, List.find?_map]; rfl
theorem GOk.at {v : Nat} (hv : v < (S.tx 0).length) : findBy Value.isStrOf (S.ds 0) (nmOf (S.tx 0) v) = some (.ref (S.k 1 v)) := by
  unfold findBy
  rw [h.find]
  have : (List.range (S.tx 0).length).find? (fun i => nmOf (S.tx 0) i == nmOf (S.tx 0) v) = some v := by
    have e : (fun i => nmOf (S.tx 0) i == nmOf (S.tx 0) v) = fun i => decide (i = v) := by
      funext i
      rw [Bool.eq_iff_iff, beq_iff_eq, decide_eq_true_iff]
      exact ⟨fun e => nmOf_inj h.nd h.sm _ _ e, fun e => by rw [e]⟩
    rw [e, List.find?_eq_some_iff_getElem]
    refine ⟨decide_eq_true rfl, v, by rw [List.length_range]; exact hv, List.getElem_range _, fun j hj => ?_⟩
    rw [List.getElem_range]
    simpa using Nat.ne_of_lt hj
  rw [this]; rfl
theorem GOk.no {y : Str} (hy : y ∉ S.tx 0) : findBy Value.isStrOf (S.ds 0) y = none ∧ (S.ds 0).findIdx? (fun e => Value.isStrOf y e.key) = none := by
  have e : (S.ds 0).find? (fun e => Value.isStrOf y e.key) = none := by
    rw [h.find, Option.map_eq_none_iff, List.find?_eq_none]
    intro i hi hc
    have hl := List.mem_range.mp hi
    rw [beq_iff_eq, nmOf_at (List.getElem?_eq_getElem hl)] at hc
    exact hy (hc ▸ List.getElem_mem hl)
  refine ⟨by unfold findBy; rw [e]; rfl, ?_⟩
  rw [Array.findIdx?_eq_none_iff]
  exact fun x hx => Bool.eq_false_iff.mpr (Array.find?_eq_none.mp e x hx)
theorem GOk.add {y : Str} (hy : y ∉ S.tx 0) (hs : y.length < 100) (hb : (S.tx 0).length < 20) (ty a da tp b : Nat) : GOk β (gNew β S y ty a da tp b) E := by
  have hl : (S.tx 0 ++ [y]).length = (S.tx 0).length + 1 := by rw [List.length_append]; rfl
  refine ⟨?_, ?_, ?_, ?_, ?_, ?_, ?_⟩
  · show ((S.ds 0).push _).toList = (List.range (S.tx 0 ++ [y]).length).map _
    rw [Array.toList_push, h.es, hl, List.range_succ, List.map_append]
    congr 1
    · refine List.map_congr_left fun i hi => ?_
      have hi := List.mem_range.mp hi
      show (⟨_, .str _ _, .ref _⟩ : DictEntry) = ⟨hashStr β.W (nmOf (S.tx 0 ++ [y]) i), .str (nmOf (S.tx 0 ++ [y]) i) (upd (S.k 3) _ _ i), .ref (upd (S.k 1) _ _ i)⟩
      rw [nmOf_app y hi, upd_ne (Nat.ne_of_lt hi), upd_ne (Nat.ne_of_lt hi)]
    · show [_] = [(⟨hashStr β.W (nmOf (S.tx 0 ++ [y]) (S.tx 0).length), .str (nmOf (S.tx 0 ++ [y]) (S.tx 0).length) (upd (S.k 3) _ _ _), .ref (upd (S.k 1) _ _ _)⟩ : DictEntry)]
      rw [nmOf_new, upd_eq, upd_eq]
  · show (S.tx 0 ++ [y]).Nodup
    rw [List.nodup_append]
    exact ⟨h.nd, List.nodup_cons.mpr ⟨List.not_mem_nil, List.nodup_nil⟩, fun a ha b hb e => hy (by rw [List.mem_singleton.mp hb] at e; exact e ▸ ha)⟩
  · intro z hz
    rcases List.mem_append.mp hz with hz | hz
    · exact h.sm z hz
    · rw [List.mem_singleton.mp hz]; exact hs
  · show (S.tx 0 ++ [y]).length ≤ 20
    omega
  · intro p hp
    have := h.ed p hp
    show p.1 < (S.tx 0 ++ [y]).length ∧ p.2 < (S.tx 0 ++ [y]).length
    omega
  · intro i hi
    have hi : i < (S.tx 0 ++ [y]).length := hi
    show StrsOf (if i = (S.tx 0).length then #[] else S.xs i) ((sucE E i).map (nmOf (S.tx 0 ++ [y])))
    by_cases hh : i = (S.tx 0).length
    · rw [if_pos hh]
      have : sucE E i = [] := by
        unfold sucE
        rw [List.map_eq_nil_iff, List.filter_eq_nil_iff]
        intro p hp hc
        have := (h.ed p hp).1
        have := of_decide_eq_true hc
        omega
      rw [this]; exact StrsOf.nil
    · rw [if_neg hh]
      have hi' : i < (S.tx 0).length := by omega
      have e : (sucE E i).map (nmOf (S.tx 0 ++ [y])) = (sucE E i).map (nmOf (S.tx 0)) := List.map_congr_left fun v hv => by
        obtain ⟨p, hp, rfl⟩ := List.mem_map.mp hv
        exact nmOf_app y (h.ed p (List.mem_filter.mp hp).1).2
      rw [e]; exact h.xs i hi'
  · intro i hi
    have hi : i < (S.tx 0 ++ [y]).length := hi
    show upd (S.z 5) _ 0 i = _
    by_cases hh : i = (S.tx 0).length
    · rw [hh, upd_eq]
      have : E.filter (fun p => decide (p.2 = (S.tx 0).length)) = [] := by
        rw [List.filter_eq_nil_iff]
        intro p hp hc
        have := (h.ed p hp).2
        have := of_decide_eq_true hc
        omega
      unfold cntE
      rw [this]; rfl
    · rw [upd_ne hh]; exact h.np i (by omega)
theorem GOk.cnt0 {v : Nat} (t : Nat) : GOk β (gCnt S v (S.z 5 v + Int.ofNat 0) t) E :=
  ⟨h.es, h.nd, h.sm, h.mb, h.ed, h.xs, fun i hi => by
    show upd (S.z 5) v (S.z 5 v + 0) i = _
    by_cases e : i = v
    · rw [e, upd_eq, Int.add_zero]; exact h.np v (e ▸ hi)
    · rw [upd_ne e]; exact h.np i hi⟩
theorem GOk.edge {v w : Nat} (hv : v < (S.tx 0).length) (hw : w < (S.tx 0).length) (t ty : Nat) : GOk β (gSuc (gCnt S v (S.z 5 v + 1) t) w (.str (nmOf (S.tx 0) v) ty)) (E ++ [(w, v)]) :=
  ⟨h.es, h.nd, h.sm, h.mb, fun p hp => (List.mem_append.mp hp).elim (h.ed p) fun hp => by rw [List.mem_singleton.mp hp]; exact ⟨hw, hv⟩, fun i hi => by
    show StrsOf (if i = w then (S.xs w).push _ else S.xs i) ((sucE (E ++ [(w, v)]) i).map (nmOf (S.tx 0)))
    unfold sucE
    rw [List.filter_append]
    by_cases e : i = w
    · subst e
      rw [if_pos rfl, show List.filter (fun p => decide (p.1 = i)) [(i, v)] = [(i, v)] from List.filter_cons_of_pos (decide_eq_true rfl), List.map_append, List.map_append]
      exact (h.xs i hi).push _ _
    · rw [if_neg e, show List.filter (fun p => decide (p.1 = i)) [(w, v)] = [] from List.filter_cons_of_neg (by simpa using fun c : w = i => e c.symm), List.append_nil]
      exact h.xs i hi, fun i hi => by
    show upd (S.z 5) v (S.z 5 v + 1) i = _
    unfold cntE
    rw [List.filter_append, List.length_append]
    by_cases e : i = v
    · subst e
      rw [upd_eq, show List.filter (fun p => decide (p.2 = i)) [(w, i)] = [(w, i)] from List.filter_cons_of_pos (decide_eq_true rfl), h.np i hi]; rfl
    · rw [upd_ne e, show List.filter (fun p => decide (p.2 = i)) [(w, v)] = [] from List.filter_cons_of_neg (by simpa using fun c : v = i => e c.symm)]
      exact h.np i hi⟩
end
theorem conv_two {x y m k m' k' : Ent} (h1 : Conv [x, m] [m']) (h2 : Conv [y, k] [k']) (hg : flatG [x, y, m, k] = flatG [m', k']) : Conv [x, y, m, k] [m', k'] := by
  haveI : DecidableEq (Addr × Obj) := fun a b => Classical.propDecidable (a = b)
  refine ⟨List.perm_iff_count.mpr fun z => ?_, hg⟩
  have e1 := List.perm_iff_count.mp h1.1 z
  have e2 := List.perm_iff_count.mp h2.1 z
  simp only [flat_cons, List.count_append] at e1 e2 ⊢
  omega
theorem gNew_conv (β : BB) (S : Sup) (y : Str) (ty a da tp b : Nat) :
    Conv [.o a ⟨.ref 112, some da, .plain, #[some (.str y ty), some (.int (Int.ofNat 0) tp), some (.ref b)]⟩, .o b (lsO #[] 0), (infS S).ent (arrS S), (arrS S).ent (S.tx 0).length] [(infS (gNew β S y ty a da tp b)).ent (arrS (gNew β S y ty a da tp b)), (arrS (gNew β S y ty a da tp b)).ent (S.tx 0 ++ [y]).length] := by
  have hl : (S.tx 0 ++ [y]).length = (S.tx 0).length + 1 := by rw [List.length_append]; rfl
  have e1 : (infS (gNew β S y ty a da tp b)).ent (arrS (gNew β S y ty a da tp b)) = .m ((S.tx 0).length + 1) (infS (gNew β S y ty a da tp b)).ia ((infS (gNew β S y ty a da tp b)).ob (arrS (gNew β S y ty a da tp b))) := by rw [← hl]; rfl
  rw [e1, hl]
  refine conv_two (conv_snoc _ _ _ _ _ _ _ (fun j hj => ?_) ?_) (conv_snoc _ _ _ _ _ _ _ (fun j hj => ?_) ?_) rfl
  · have hj : j < (S.tx 0).length := hj
    have hne := Nat.ne_of_lt hj
    refine ⟨upd_ne hne, ?_⟩
    show (⟨_, some (upd (S.k 2) _ da j), _, #[some (.str (nmOf (S.tx 0 ++ [y]) j) (upd (S.k 3) _ ty j)), some (.int (upd (S.z 5) _ 0 j) (upd (S.k 5) _ tp j)), some (.ref (upd (S.k 4) _ b j))]⟩ : Obj) = _
    rw [upd_ne hne, upd_ne hne, upd_ne hne, upd_ne hne, upd_ne hne, nmOf_app y hj]; rfl
  · refine ⟨upd_eq .., ?_⟩
    show (⟨_, some (upd (S.k 2) (S.tx 0).length da (S.tx 0).length), _, #[some (.str (nmOf (S.tx 0 ++ [y]) (S.tx 0).length) (upd (S.k 3) (S.tx 0).length ty (S.tx 0).length)), some (.int (upd (S.z 5) (S.tx 0).length 0 (S.tx 0).length) (upd (S.k 5) (S.tx 0).length tp (S.tx 0).length)), some (.ref (upd (S.k 4) (S.tx 0).length b (S.tx 0).length))]⟩ : Obj) = _
    rw [upd_eq, upd_eq, upd_eq, upd_eq, upd_eq, nmOf_new]; rfl
  · have hne := Nat.ne_of_lt hj
    refine ⟨upd_ne hne, ?_⟩
    show lsO (if j = _ then #[] else S.xs j) (upd (S.k 6) _ 0 j) = _
    rw [if_neg hne, upd_ne hne]; rfl
  · refine ⟨upd_eq .., ?_⟩
    show lsO (if _ = _ then #[] else S.xs _) (upd (S.k 6) _ 0 _) = _
    rw [if_pos rfl, upd_eq]
theorem gCnt_put (S : Sup) (v : Nat) (x : Int) (t M : Nat) : PutC M v ((infS S).ob (arrS S)) ((infS (gCnt S v x t)).ob (arrS (gCnt S v x t))) ⟨.ref 112, some (S.k 2 v), .plain, #[some (.str (nmOf (S.tx 0) v) (S.k 3 v)), some (.int x t), some (.ref (S.k 4 v))]⟩ := fun j _ => by
  show (⟨.ref 112, some (S.k 2 j), .plain, #[some (.str (nmOf (S.tx 0) j) (S.k 3 j)), some (.int (upd (S.z 5) v x j) (upd (S.k 5) v t j)), some (.ref (S.k 4 j))]⟩ : Obj) = _
  by_cases h : j = v
  · rw [h, if_pos rfl, upd_eq, upd_eq]
  · rw [if_neg h, upd_ne h, upd_ne h]; rfl
theorem gSuc_put (S : Sup) (w : Nat) (y : Value) (M : Nat) : PutC M w (lob (arrS S)) (lob (arrS (gSuc S w y))) (lsO ((S.xs w).push y) (S.k 6 w + 1)) := fun j _ => by
  show lsO (if j = w then (S.xs w).push y else S.xs j) (upd (S.k 6) w (S.k 6 w + 1) j) = _
  by_cases h : j = w
  · rw [h, if_pos rfl, if_pos rfl, upd_eq]
  · rw [if_neg h, if_neg h, upd_ne h]; rfl
def addL (l : List Str) (y : Str) : List Str := if y ∈ l then l else l ++ [y]
theorem ad_sat {β : BB} (fr : List Env) (d : SoD) {y : Str} (ty : Nat) {S : Sup} {E : List (Nat × Nat)} (G : GOk β S E) (hs : y.length < 100) (hb : (addL (S.tx 0) y).length ≤ 20) : Sat (E1 β) (adI β fr d y ty S fun u => GOk β u E ∧ u.tx 0 = addL (S.tx 0) y) := by
  by_cases hy : y ∈ S.tx 0
  · obtain ⟨v, hv, e⟩ := nmOf_mem hy
    have ef := G.at hv
    rw [e] at ef
    exact sat_of (fun n t g X Y σ => adO_run β fr d y ty v S _ n t g X Y σ) fun n t g X Y σ => ⟨G.keys _ _ rfl, by rw [ef]; rfl, hv, hv, hv, hv, hv, rfl, Nat.zero_le _, hv, hv, hv, hv, hv, hv, hv, gCnt_put S v _ _ _, rfl, G.cnt0 _, (if_pos hy).symm⟩
  · have hno := G.no hy
    have e : addL (S.tx 0) y = S.tx 0 ++ [y] := if_neg hy
    rw [e] at hb ⊢
    have hb' : (S.tx 0).length < 20 := by rw [List.length_append] at hb; exact hb
    have hz : (S.ds 0).size ≤ 1000000 := by rw [G.size]; exact Nat.le_trans G.mb (by decide)
    exact sat_of (fun n t g X Y σ => adN_run β fr d y ty S _ n t g X Y σ) fun n t g X Y σ => ⟨G.keys _ _ rfl, by rw [hno.1]; rfl, G.keys _ _ rfl, hno.2, hz, rfl, gNew_conv .., G.add hy hs hb' .., rfl⟩
theorem ad2_sat {β : BB} (fr : List Env) (d : SoD) {S : Sup} {E : List (Nat × Nat)} (G : GOk β S E) {v w : Nat} (hv : v < (S.tx 0).length) (hw : w < (S.tx 0).length) (ty tx : Nat) (hE : E.length ≤ 1000) : Sat (E1 β) (ad2I β fr d (nmOf (S.tx 0) v) ty (nmOf (S.tx 0) w) tx S fun u => GOk β u (E ++ [(w, v)]) ∧ u.tx 0 = S.tx 0) := by
  have e1 := G.at hv
  have e2 := G.at hw
  have hx : (S.xs w).size ≤ BIG := by
    rw [(G.xs w hw).len, List.length_map]
    unfold sucE
    rw [List.length_map]
    exact Nat.le_trans (Nat.le_trans (List.length_filter_le ..) hE) (by decide)
  exact sat_of (fun n t g X Y σ => ad2_run β fr d _ ty _ tx v w S _ n t g X Y σ) fun n t g X Y σ => ⟨G.keys _ _ rfl, by rw [e1]; rfl, hv, hv, hv, hv, hv, rfl, by decide, hv, hv, hv, hv, hv, hv, hv, gCnt_put S v _ _ _, rfl, G.keys _ _ rfl, by rw [e2]; rfl, hw, hw, hw, hw, hw, hw, hw, hw, hw, hw, hx, gSuc_put (gCnt S v (S.z 5 v + 1) _) w (.str (nmOf (S.tx 0) v) ty) _, rfl, G.edge hv hw _ _, rfl⟩
noncomputable section
structure LwC where
  n0 : Nat
  ct : Nat
  cst : Nat
  t0 : Nat
  t1 : Nat
  t2 : Nat
  t3 : Nat
  t4 : Nat
  t5 : Nat
  a0 : Nat
  a1 : Nat
  a2 : Nat
  a3 : Nat
  a4 : Nat
def LwC.cells (c : LwC) : List (Str × Addr) := [(Mine.S "order", c.ct), (Mine.S "names", c.cst)]
def lwF (β : BB) (c : LwC) (d : SoD) (nt : Nat) (nv : Value) (q : Bool) (u : Nat) (w : Value) (e : Nat) : Obj := frD (cond q
  #[β.d "script" c.t0 (.ref c.a0), β.d "cells" c.t1 (.ref c.a1), β.d "codes" c.t2 (.ref c.a2), β.d "groups" c.t3 (.ref c.a3), β.d "needs" c.t4 (.ref c.a4), β.d "sorter" c.t5 (.ref d.aS), β.d "name" nt nv, β.d "place" u w]
  #[β.d "script" c.t0 (.ref c.a0), β.d "cells" c.t1 (.ref c.a1), β.d "codes" c.t2 (.ref c.a2), β.d "groups" c.t3 (.ref c.a3), β.d "needs" c.t4 (.ref c.a4), β.d "sorter" c.t5 (.ref d.aS), β.d "name" nt nv]) e
def plI (β : BB) (fr : List Env) (c : LwC) (d : SoD) (nt : Nat) (nv : Value) (gd : GnD) (g : Sup) (q : Bool) (u : Nat) (w : Value) (e : Nat) (S : Sup) (r2 : Bool) (P : Sup → Prop) : Inst where
  cu := cu0 (loopC (TT β) 252 2 c.n0 c.cells (.ref gd.aG))
  fr := fr
  dep := 430
  un := 2500
  pre := .o c.n0 (lwF β c d nt nv q u w e) :: gd.ent g ++ gE β d S
  post u := (.ok .next, .o c.n0 (lwF β c d nt nv r2 (u.k 7 0) (u.vv 7) (u.k 7 1)) :: gE β d u, P u)
def plU (S : Sup) (u : Nat) (w : Value) (e : Nat) : Sup := { S with k := fun a b => (match a with | 7 => (match b with | 0 => u | _ => e) | a => S.k a b), vv := fun i => (match i with | 7 => w | i => S.vv i) }
end
noncomputable section
def plE_o (β : BB) (fr : List Env) (c : LwC) (d : SoD) (nt : Nat) (nv : Value) (gd : GnD) (g0 : Sup) (q : Bool) (u : Nat) (w : Value) (e : Nat) (S : Sup) (P : Sup → Prop) (n t g : Nat) (X : Led) (Y : GL) (σ : Nat → Sup) : Out := Go (E1 β) (plI β fr c d nt nv gd g0 q u w e S q P) (Hs.h 0x2020202020202070103020202030204) (.a (.i (gnE β fr gd g0)) (.k fun _ _ => .a (.u (plU S u w e)) .nil)) n t g X Y σ
abbrev plE_v (β : BB) (fr : List Env) (c : LwC) (d : SoD) (nt : Nat) (nv : Value) (gd : GnD) (g0 : Sup) (q : Bool) (u : Nat) (w : Value) (e : Nat) (S : Sup) (P : Sup → Prop) (n t g : Nat) (X : Led) (Y : GL) (σ : Nat → Sup) : Prop :=
  Sat (E1 β) (gnE β fr gd g0) ∧ ((True) → (P (plU S u w e)))
theorem plE_run (β : BB) (fr : List Env) (c : LwC) (d : SoD) (nt : Nat) (nv : Value) (gd : GnD) (g0 : Sup) (q : Bool) (u : Nat) (w : Value) (e : Nat) (S : Sup) (P : Sup → Prop) (n t g : Nat) (X : Led) (Y : GL) (σ : Nat → Sup) : See (plE_o β fr c d nt nv gd g0 q u w e S P n t g X Y σ) (plE_v β fr c d nt nv gd g0 q u w e S P n t g X Y σ) := by obtain ⟨b1, b2, b3, w0⟩ := β; cases q <;> cases b3 <;> kernel_rfl
def plN_o (β : BB) (fr : List Env) (c : LwC) (d : SoD) (nt : Nat) (nv : Value) (gd : GnD) (g0 : Sup) (q : Bool) (u : Nat) (w : Value) (e : Nat) (S : Sup) (r2 : Bool) (P : Sup → Prop) (y : Str) (Q Q2 : Sup → Prop) (n t g : Nat) (X : Led) (Y : GL) (σ : Nat → Sup) : Out := Go (E1 β) (plI β fr c d nt nv gd g0 q u w e S r2 P) (Hs.h 0x10101010101010701010101010606060909020505050505050201060b0a010101010a0101010a0101010a060606020202030204) (.a (.i (gnI β fr gd g0 y Q)) (.k fun r v1 => .a (.i (adI β fr d y (r.k 9 0) S Q2)) (.k fun s _ => .a (.i (plI β fr c d nt nv gd r true (cond q u v1.t) (.str y (r.k 9 0)) (cond q e (e + 1)) s r2 P)) (.k fun u _ => .a (.u u) .nil)))) n t g X Y σ
abbrev plN_v (β : BB) (fr : List Env) (c : LwC) (d : SoD) (nt : Nat) (nv : Value) (gd : GnD) (g0 : Sup) (q : Bool) (u : Nat) (w : Value) (e : Nat) (S : Sup) (r2 : Bool) (P : Sup → Prop) (y : Str) (Q Q2 : Sup → Prop) (n t g : Nat) (X : Led) (Y : GL) (σ : Nat → Sup) : Prop :=
  Sat (E1 β) (gnI β fr gd g0 y Q) ∧ ((Q (σ 0)) → Sat (E1 β) (adI β fr d y ((σ 0).k 9 0) S Q2) ∧ ((Q2 (σ 2)) → Sat (E1 β) (plI β fr c d nt nv gd (σ 0) true (bif q then u else (σ 1).t) (Value.str y ((σ 0).k 9 0)) (bif q then e else e + 1) (σ 2) r2 P) ∧ ((P (σ 4)) → (P (σ 4)))))
theorem plN_run (β : BB) (fr : List Env) (c : LwC) (d : SoD) (nt : Nat) (nv : Value) (gd : GnD) (g0 : Sup) (q : Bool) (u : Nat) (w : Value) (e : Nat) (S : Sup) (r2 : Bool) (P : Sup → Prop) (y : Str) (Q Q2 : Sup → Prop) (n t g : Nat) (X : Led) (Y : GL) (σ : Nat → Sup) : See (plN_o β fr c d nt nv gd g0 q u w e S r2 P y Q Q2 n t g X Y σ) (plN_v β fr c d nt nv gd g0 q u w e S r2 P y Q Q2 n t g X Y σ) := by obtain ⟨b1, b2, b3, w0⟩ := β; cases q <;> cases b3 <;> kernel_rfl
end
theorem addL_mono (l : List Str) (y : Str) : l.length ≤ (addL l y).length := by
  unfold addL; split
  · exact Nat.le_refl _
  · rw [List.length_append]; exact Nat.le_add_right _ _
theorem addL_fold_mono : ∀ (w l : List Str), l.length ≤ (w.foldl addL l).length
  | [], _ => Nat.le_refl _
  | y :: w, l => Nat.le_trans (addL_mono l y) (addL_fold_mono w (addL l y))
theorem pl_sat {β : BB} (fr : List Env) {c : LwC} {d : SoD} {nt : Nat} {nv : Value} {gd : GnD} {E : List (Nat × Nat)} {r2 : Bool} : ∀ (l : List Str) (g : Sup) (q : Bool) (u : Nat) (w : Value) (e : Nat) (S : Sup), Yld β gd l g → GOk β S E → (∀ y ∈ l, y.length < 100) → (l.foldl addL (S.tx 0)).length ≤ 20 → r2 = (q || decide (0 < l.length)) →
    Sat (E1 β) (plI β fr c d nt nv gd g q u w e S r2 fun v => GOk β v E ∧ v.tx 0 = l.foldl addL (S.tx 0))
  | [], g, q, u, w, e, S, hy, G, hs, hb, hr => by
    rw [show r2 = q by rw [hr]; cases q <;> rfl]
    exact sat_of (fun n t g' X Y σ => plE_run β fr c d nt nv gd g q u w e S _ n t g' X Y σ) fun n t g' X Y σ => ⟨hy _, fun _ => ⟨⟨G.es, G.nd, G.sm, G.mb, G.ed, G.xs, G.np⟩, rfl⟩⟩
  | y :: l, g, q, u, w, e, S, hy, G, hs, hb, hr => by
    have hr2 : r2 = true := by rw [hr, decide_eq_true (show 0 < (y :: l).length from Nat.succ_pos _), Bool.or_true]
    refine sat_of (fun n t g' X Y σ => plN_run β fr c d nt nv gd g q u w e S r2 _ y (Yld β gd l) (fun u => GOk β u E ∧ u.tx 0 = addL (S.tx 0) y) n t g' X Y σ) fun n t g' X Y σ => ⟨hy _, fun hQ => ⟨ad_sat fr d _ G (hs y List.mem_cons_self) (Nat.le_trans (addL_fold_mono l _) hb), fun hS => ⟨?_, id⟩⟩⟩
    have := pl_sat fr (c := c) (d := d) (nt := nt) (nv := nv) (r2 := r2) l (σ 0) true (bif q then u else (σ 1).t) (.str y ((σ 0).k 9 0)) (bif q then e else e + 1) (σ 2) hQ hS.1 (fun z hz => hs z (.tail _ hz)) (by rw [hS.2]; exact hb) (by rw [hr2]; rfl)
    rw [hS.2] at this
    exact this
noncomputable section
def lwG (β : BB) (c : LwC) (d : SoD) (q : Bool) (nt : Nat) (nv : Value) (u : Nat) (w : Value) (e : Nat) : Obj := frD (cond q
  #[β.d "script" c.t0 (.ref c.a0), β.d "cells" c.t1 (.ref c.a1), β.d "codes" c.t2 (.ref c.a2), β.d "groups" c.t3 (.ref c.a3), β.d "needs" c.t4 (.ref c.a4), β.d "sorter" c.t5 (.ref d.aS), β.d "name" nt nv, β.d "place" u w]
  #[β.d "script" c.t0 (.ref c.a0), β.d "cells" c.t1 (.ref c.a1), β.d "codes" c.t2 (.ref c.a2), β.d "groups" c.t3 (.ref c.a3), β.d "needs" c.t4 (.ref c.a4), β.d "sorter" c.t5 (.ref d.aS)]) e
def noI (β : BB) (fr : List Env) (c : LwC) (d : SoD) (aT aN eN i : Nat) (xs : Array Value) (q : Bool) (nt : Nat) (nv : Value) (u : Nat) (w : Value) (e : Nat) (S : Sup) (P : Sup → Prop) : Inst where
  cu := cu0 (loopC (TT β) 252 1 c.n0 c.cells (.ref aT))
  fr := fr
  dep := 390
  un := 2000
  pre := [.o c.n0 (lwG β c d q nt nv u w e), .o aT (liO aN (Int.ofNat i)), .o aN (lsO xs eN)] ++ gE β d S
  post u := (.ok .next, .o c.n0 (lwG β c d true (u.k 7 2) (u.vv 6) (u.k 7 0) (u.vv 7) (u.k 7 1)) :: gE β d u, P u)
def noU (S : Sup) (nt : Nat) (nv : Value) (u : Nat) (w : Value) (e : Nat) : Sup := { S with k := fun a b => (match a with | 7 => (match b with | 0 => u | 1 => e | _ => nt) | a => S.k a b), vv := fun i => (match i with | 7 => w | 6 => nv | i => S.vv i) }
end
noncomputable section
def noE_o (β : BB) (fr : List Env) (c : LwC) (d : SoD) (aT aN eN i : Nat) (xs : Array Value) (nt : Nat) (nv : Value) (u : Nat) (w : Value) (e : Nat) (S : Sup) (P : Sup → Prop) (n t g : Nat) (X : Led) (Y : GL) (σ : Nat → Sup) : Out := Go (E1 β) (noI β fr c d aT aN eN i xs true nt nv u w e S P) (Hs.h 0x50505050505030701030302021304) (.a (.b false) (.a (.u (noU S nt nv u w e)) .nil)) n t g X Y σ
abbrev noE_v (β : BB) (fr : List Env) (c : LwC) (d : SoD) (aT aN eN i : Nat) (xs : Array Value) (nt : Nat) (nv : Value) (u : Nat) (w : Value) (e : Nat) (S : Sup) (P : Sup → Prop) (n t g : Nat) (X : Led) (Y : GL) (σ : Nat → Sup) : Prop :=
  (xs[Int.toNat (Int.ofNat i)]? = none) ∧ (P (noU S nt nv u w e))
theorem noE_run (β : BB) (fr : List Env) (c : LwC) (d : SoD) (aT aN eN i : Nat) (xs : Array Value) (nt : Nat) (nv : Value) (u : Nat) (w : Value) (e : Nat) (S : Sup) (P : Sup → Prop) (n t g : Nat) (X : Led) (Y : GL) (σ : Nat → Sup) : See (noE_o β fr c d aT aN eN i xs nt nv u w e S P n t g X Y σ) (noE_v β fr c d aT aN eN i xs nt nv u w e S P n t g X Y σ) := by obtain ⟨b1, b2, b3, w0⟩ := β; cases b3 <;> kernel_rfl
def noN_o (β : BB) (fr : List Env) (c : LwC) (d : SoD) (aT aN eN i : Nat) (xs : Array Value) (q : Bool) (nt : Nat) (nv : Value) (u : Nat) (w : Value) (e : Nat) (S : Sup) (P : Sup → Prop) (x : Str) (tx : Nat) (l : List Str) (Q : Sup → Prop) (n t g : Nat) (X : Led) (Y : GL) (σ : Nat → Sup) : Out := Go (E1 β) (noI β fr c d aT aN eN i xs q nt nv u w e S P) (Hs.h 0x101010101010107010101010106060108020303030303010101040902030103010303000201030103030302021304) (.a (.v (.str x tx)) (.k fun _ v1 => .a (.i (ancI β fr x tx l)) (.k fun r w2 => .a (.i (plI β fr c d (cond q nt v1.t) (.str x tx) (GnD.of r) r q u w (cond q e (e + 1)) S true Q)) (.k fun s _ => .a (.i (noI β fr c d aT aN eN (i + 1) xs true (cond q nt v1.t) (.str x tx) (s.k 7 0) (s.vv 7) (s.k 7 1) s P)) (.k fun u _ => .a (.u u) .nil))))) n t g X Y σ
abbrev noN_v (β : BB) (fr : List Env) (c : LwC) (d : SoD) (aT aN eN i : Nat) (xs : Array Value) (q : Bool) (nt : Nat) (nv : Value) (u : Nat) (w : Value) (e : Nat) (S : Sup) (P : Sup → Prop) (x : Str) (tx : Nat) (l : List Str) (Q : Sup → Prop) (n t g : Nat) (X : Led) (Y : GL) (σ : Nat → Sup) : Prop :=
  (xs[Int.toNat (Int.ofNat i)]? = some (Value.str x tx)) ∧ Sat (E1 β) (ancI β fr x tx l) ∧ ((Yld β (GnD.of (σ 2)) l (σ 2)) → Sat (E1 β) (plI β fr c d (bif q then nt else (σ 1).t) (Value.str x tx) (GnD.of (σ 2)) (σ 2) q u w (bif q then e else e + 1) S true Q) ∧ ((Q (σ 4)) → Sat (E1 β) (noI β fr c d aT aN eN (i + 1) xs true (bif q then nt else (σ 1).t) (Value.str x tx) ((σ 4).k 7 0) ((σ 4).vv 7) ((σ 4).k 7 1) (σ 4) P) ∧ ((P (σ 6)) → (P (σ 6)))))
theorem noN_run (β : BB) (fr : List Env) (c : LwC) (d : SoD) (aT aN eN i : Nat) (xs : Array Value) (q : Bool) (nt : Nat) (nv : Value) (u : Nat) (w : Value) (e : Nat) (S : Sup) (P : Sup → Prop) (x : Str) (tx : Nat) (l : List Str) (Q : Sup → Prop) (n t g : Nat) (X : Led) (Y : GL) (σ : Nat → Sup) : See (noN_o β fr c d aT aN eN i xs q nt nv u w e S P x tx l Q n t g X Y σ) (noN_v β fr c d aT aN eN i xs q nt nv u w e S P x tx l Q n t g X Y σ) := by obtain ⟨b1, b2, b3, w0⟩ := β; cases q <;> cases b3 <;> kernel_rfl
end
def addW (W : Str → List Str) (l : List Str) (x : Str) : List Str := (x :: W x).foldl addL l
theorem addW_mono (W : Str → List Str) : ∀ (w l : List Str), l.length ≤ (w.foldl (addW W) l).length
  | [], _ => Nat.le_refl _
  | x :: w, l => Nat.le_trans (addL_fold_mono (x :: W x) l) (addW_mono W w (addW W l x))
theorem no_sat {β : BB} (fr : List Env) {c : LwC} {d : SoD} {aT aN eN : Nat} {xs : Array Value} {ns : List Str} {E : List (Nat × Nat)} (W : Str → List Str) (hx : StrsOf xs ns) (hw : ∀ x ∈ ns, wayOk x (W x) = true ∧ ∀ y ∈ x :: W x, y.length < 100) (h0 : 0 < ns.length) : ∀ (k i : Nat) (q : Bool) (nt : Nat) (nv : Value) (u : Nat) (w : Value) (e : Nat) (S : Sup), ns.length = i + k → q = decide (0 < i) → GOk β S E → ((ns.drop i).foldl (addW W) (S.tx 0)).length ≤ 20 →
    Sat (E1 β) (noI β fr c d aT aN eN i xs q nt nv u w e S fun v => GOk β v E ∧ v.tx 0 = (ns.drop i).foldl (addW W) (S.tx 0)) := by
  intro k
  induction k with
  | zero =>
    intro i q nt nv u w e S hk hq G hb
    rw [hq, decide_eq_true (show 0 < i by omega), List.drop_of_length_le (show ns.length ≤ i from Nat.le_of_eq hk)]
    exact sat_of (fun n t g X Y σ => noE_run β fr c d aT aN eN i xs nt nv u w e S _ n t g X Y σ) fun n t g X Y σ => ⟨hx.end (Nat.le_of_eq hk), ⟨G.es, G.nd, G.sm, G.mb, G.ed, G.xs, G.np⟩, rfl⟩
  | succ k ih =>
    intro i q nt nv u w e S hk hq G hb
    obtain ⟨x, h1, h2⟩ := drop_next hk
    obtain ⟨tx, h3⟩ := hx.at h1
    have hwx := hw x (List.mem_of_getElem? h1)
    rw [h2] at hb ⊢
    refine sat_of (fun n t g X Y σ => noN_run β fr c d aT aN eN i xs q nt nv u w e S _ x tx (x :: W x) (fun v => GOk β v E ∧ v.tx 0 = addW W (S.tx 0) x) n t g X Y σ) fun n t g X Y σ => ⟨h3, anc_sat β fr hwx.1 tx, fun hy => ⟨pl_sat fr (x :: W x) _ q u w _ S hy G hwx.2 (Nat.le_trans (addW_mono W _ _) hb) (by rw [show decide (0 < (x :: W x).length) = true from decide_eq_true (Nat.succ_pos _), Bool.or_true]), fun hS => ⟨?_, id⟩⟩⟩
    have := ih (i + 1) true (bif q then nt else (σ 1).t) (.str x tx) ((σ 4).k 7 0) ((σ 4).vv 7) ((σ 4).k 7 1) (σ 4) (by omega) (decide_eq_true (Nat.succ_pos i)).symm hS.1 (by rw [hS.2]; exact hb)
    rw [hS.2] at this
    exact this
noncomputable section
structure NlF where
  q : Bool
  u1 : Nat
  u2 : Nat
  u3 : Nat
  u4 : Nat
  e : Nat
  w1 : Value
  w2 : Value
  w3 : Value
  w4 : Value
  sl : Array (Option Value)
def LwC.b8 (β : BB) (c : LwC) (d : SoD) (nt : Nat) (nv : Value) (u : Nat) (w : Value) (r : List DictEntry) : Array DictEntry := ⟨β.d "script" c.t0 (.ref c.a0) :: β.d "cells" c.t1 (.ref c.a1) :: β.d "codes" c.t2 (.ref c.a2) :: β.d "groups" c.t3 (.ref c.a3) :: β.d "needs" c.t4 (.ref c.a4) :: β.d "sorter" c.t5 (.ref d.aS) :: β.d "name" nt nv :: β.d "place" u w :: r⟩
def nlE (β : BB) (c : LwC) (d : SoD) (nt : Nat) (nv : Value) (u : Nat) (w : Value) (f : NlF) : Array DictEntry := c.b8 β d nt nv u w (cond f.q [β.d "later" f.u1 f.w1, β.d "earlier" f.u2 f.w2, β.d "below" f.u3 f.w3, β.d "above" f.u4 f.w4] [])
def NlF.of (q : Bool) (u : Sup) : NlF := ⟨q, u.k 7 0, u.k 7 1, u.k 7 2, u.k 7 3, u.k 7 4, u.vv 1, u.vv 2, u.vv 3, u.vv 4, u.x 7⟩
def NlF.up (f : NlF) (S : Sup) : Sup := { S with k := fun a b => (match a with | 7 => (match b with | 0 => f.u1 | 1 => f.u2 | 2 => f.u3 | 3 => f.u4 | _ => f.e) | a => S.k a b), vv := fun i => (match i with | 1 => f.w1 | 2 => f.w2 | 3 => f.w3 | 4 => f.w4 | i => S.vv i), x := fun i => (match i with | 7 => f.sl | i => S.x i) }
def LwC.fr (β : BB) (c : LwC) : List Env := [fenv (TT β) 252 c.n0 c.cells]
def nlI (β : BB) (c : LwC) (d : SoD) (nt : Nat) (nv : Value) (u : Nat) (w : Value) (aT aS eS aN eN i m : Nat) (ks xs : Array Value) (p : PairsD) (f : NlF) (S : Sup) (Rq : Bool) (P : Sup → Prop) : Inst where
  cu := cu0 (loopC (TT β) 252 3 c.n0 c.cells (.ref aT))
  fr := c.fr β
  dep := 330
  un := 1000
  pre := [.o c.n0 (frameO (nlE β c d nt nv u w f) f.e f.sl), .o aT (liO aS (Int.ofNat i)), .o aS (lsO ks eS), p.ent m, .o c.cst (ceO aN), .o aN (lsO xs eN)] ++ gE β d S
  post r := (.ok .next, [.o c.n0 (frameO (nlE β c d nt nv u w (NlF.of Rq r)) (r.k 7 4) (r.x 7)), .o aS (lsO ks eS), p.ent m, .o c.cst (ceO aN), .o aN (lsO xs eN)] ++ gE β d r, P r)
def FfD.mk0 (c : LwC) (e : Nat) (dl : Array DictEntry) (d : GnD) : FfD := ⟨0, 0, 0, 0, c.n0, c.ct, c.cst, e, dl, default, d⟩
def tokL (xs : Array Value) : Nat := match xs.back? with | some (.str _ t) => t | _ => 0
def x2U (sl : Array (Option Value)) : Sup := { noS with x := fun _ => sl }
end
noncomputable section
def nlE_o (β : BB) (c : LwC) (d : SoD) (nt : Nat) (nv : Value) (u : Nat) (w : Value) (aT aS eS aN eN i m : Nat) (ks xs : Array Value) (p : PairsD) (q : Bool) (u1 u2 u3 u4 e : Nat) (w1 w2 w3 w4 : Value) (sl : Array (Option Value)) (S : Sup) (P : Sup → Prop) (n t g : Nat) (X : Led) (Y : GL) (σ : Nat → Sup) : Out := Go (E1 β) (nlI β c d nt nv u w aT aS eS aN eN i m ks xs p (NlF.mk q u1 u2 u3 u4 e w1 w2 w3 w4 sl) S q P) (Hs.h 0x4040404040404040404030b01030302021304) (.a (.b false) (.a (.u ((NlF.mk q u1 u2 u3 u4 e w1 w2 w3 w4 sl).up S)) .nil)) n t g X Y σ
abbrev nlE_v (β : BB) (c : LwC) (d : SoD) (nt : Nat) (nv : Value) (u : Nat) (w : Value) (aT aS eS aN eN i m : Nat) (ks xs : Array Value) (p : PairsD) (q : Bool) (u1 u2 u3 u4 e : Nat) (w1 w2 w3 w4 : Value) (sl : Array (Option Value)) (S : Sup) (P : Sup → Prop) (n t g : Nat) (X : Led) (Y : GL) (σ : Nat → Sup) : Prop :=
  (ks[Int.toNat (Int.ofNat i)]? = none) ∧ (P (NlF.up (NlF.mk q u1 u2 u3 u4 e w1 w2 w3 w4 sl) S))
theorem nlE_run (β : BB) (c : LwC) (d : SoD) (nt : Nat) (nv : Value) (u : Nat) (w : Value) (aT aS eS aN eN i m : Nat) (ks xs : Array Value) (p : PairsD) (q : Bool) (u1 u2 u3 u4 e : Nat) (w1 w2 w3 w4 : Value) (sl : Array (Option Value)) (S : Sup) (P : Sup → Prop) (n t g : Nat) (X : Led) (Y : GL) (σ : Nat → Sup) : See (nlE_o β c d nt nv u w aT aS eS aN eN i m ks xs p q u1 u2 u3 u4 e w1 w2 w3 w4 sl S P n t g X Y σ) (nlE_v β c d nt nv u w aT aS eS aN eN i m ks xs p q u1 u2 u3 u4 e w1 w2 w3 w4 sl S P n t g X Y σ) := by obtain ⟨b1, b2, b3, w0⟩ := β; cases q <;> cases b3 <;> kernel_rfl
def nlN_o (β : BB) (c : LwC) (d : SoD) (nt : Nat) (nv : Value) (u : Nat) (w : Value) (aT aS eS aN eN i m : Nat) (ks xs : Array Value) (p : PairsD) (q : Bool) (u1 u2 u3 u4 e : Nat) (w1 w2 w3 w4 : Value) (sl : Array (Option Value)) (S : Sup) (Rq : Bool) (P : Sup → Prop) (x y : Str) (tx ty : Nat) (l1 l2 : List Str) (yb ya : Str) (Q : Sup → Prop) (n t g : Nat) (X : Led) (Y : GL) (σ : Nat → Sup) : Out := Go (E1 β) (nlI β c d nt nv u w aT aS eS aN eN i m ks xs p (NlF.mk q u1 u2 u3 u4 e w1 w2 w3 w4 sl) S Rq P) (Hs.h 0x6010101010101010101010b01010101010b0b0b0b0b070b020c0c0c0c0c0502010101180303030101040301180505050101041211010101011101010111010101110404040201010101010107020101010404040602010002010d01180f0f0f070e010002010a01180c0c0c040b0101010104040401010101010107020101010404040602010002010c01180e0e0e090d010002010901180b0b0b060a0101010106060606030501021903050102190305010219030301075601565656040302021304) (.a (.v (.ref (p.ad i))) (.k fun _ v1 => .a (.n i) <| .a (.n i) <| .a (.v (.int (p.x i) (p.tx i))) <| .a (.n i) <| .a (.v (.int (p.y i) (p.ty i))) <| .a (.n i) <| .a (.b false) (.k fun _ v2 => .a (.v (.str x tx)) <| .a (.i (ancI β (c.fr β) x tx l1)) (.k fun r1 _ => .a (.v (.str y ty)) <| .a (.i (ancI β (c.fr β) y ty l2)) (.k fun r2 _ => .a (.i (dgI β (c.fr β) (FfD.mk0 c (cond q e (e + 2)) (c.b8 β d nt nv u w (cond q [β.d "later" u1 (.int (p.x i) (p.tx i)), β.d "earlier" u2 (.int (p.y i) (p.ty i)), β.d "below" u3 w3, β.d "above" u4 w4] [β.d "later" v2.t (.int (p.x i) (p.tx i)), β.d "earlier" (v2.t + 1) (.int (p.y i) (p.ty i))])) (GnD.of r1)) (GnD.of r2) r1 r2 l2)) (.k fun s1 _ => .a (.i (lfI β ((FfD.mk0 c (cond q e (e + 2)) (c.b8 β d nt nv u w (cond q [β.d "later" u1 (.int (p.x i) (p.tx i)), β.d "earlier" u2 (.int (p.y i) (p.ty i)), β.d "below" u3 w3, β.d "above" u4 w4] [β.d "later" v2.t (.int (p.x i) (p.tx i)), β.d "earlier" (v2.t + 1) (.int (p.y i) (p.ty i))])) (GnD.of r1)).of s1) r1 (x2U sl) (lacks l2 l1))) (.k fun b1 k1 => .a (.v (.str y ty)) <| .a (.i (ancI β (c.fr β) y ty l2)) (.k fun r3 _ => .a (.v (.str x tx)) <| .a (.i (ancI β (c.fr β) x tx l1)) (.k fun r4 _ => .a (.i (dgI β (c.fr β) (FfD.mk0 c (cond q e (e + 3)) (c.b8 β d nt nv u w (cond q [β.d "later" u1 (.int (p.x i) (p.tx i)), β.d "earlier" u2 (.int (p.y i) (p.ty i)), β.d "below" u3 (.ref (b1.k 0 1)), β.d "above" u4 w4] [β.d "later" v2.t (.int (p.x i) (p.tx i)), β.d "earlier" (v2.t + 1) (.int (p.y i) (p.ty i)), β.d "below" k1.t (.ref (b1.k 0 1))])) (GnD.of r3)) (GnD.of r4) r3 r4 l1)) (.k fun s2 _ => .a (.i (lfI β ((FfD.mk0 c (cond q e (e + 3)) (c.b8 β d nt nv u w (cond q [β.d "later" u1 (.int (p.x i) (p.tx i)), β.d "earlier" u2 (.int (p.y i) (p.ty i)), β.d "below" u3 (.ref (b1.k 0 1)), β.d "above" u4 w4] [β.d "later" v2.t (.int (p.x i) (p.tx i)), β.d "earlier" (v2.t + 1) (.int (p.y i) (p.ty i)), β.d "below" k1.t (.ref (b1.k 0 1))])) (GnD.of r3)).of s2) r3 (x2U (b1.x 2)) (lacks l1 l2))) (.k fun b2 k2 => .a (.v (.str yb (tokL (b1.xs 0)))) <| .a (.v (.str ya (tokL (b2.xs 0)))) <| .a (.i (ad2I β (c.fr β) d yb (tokL (b1.xs 0)) ya (tokL (b2.xs 0)) S Q)) (.k fun s _ => .a (.i (nlI β c d nt nv u w aT aS eS aN eN (i + 1) m ks xs p (NlF.mk true (cond q u1 v2.t) (cond q u2 (v2.t + 1)) (cond q u3 k1.t) (cond q u4 k2.t) (cond q e (e + 4)) (.int (p.x i) (p.tx i)) (.int (p.y i) (p.ty i)) (.ref (b1.k 0 1)) (.ref (b2.k 0 1)) (b2.x 2)) s Rq P)) (.k fun u _ => .a (.u u) .nil))))))))))))) n t g X Y σ
abbrev nlN_v (β : BB) (c : LwC) (d : SoD) (nt : Nat) (nv : Value) (u : Nat) (w : Value) (aT aS eS aN eN i m : Nat) (ks xs : Array Value) (p : PairsD) (q : Bool) (u1 u2 u3 u4 e : Nat) (w1 w2 w3 w4 : Value) (sl : Array (Option Value)) (S : Sup) (Rq : Bool) (P : Sup → Prop) (x y : Str) (tx ty : Nat) (l1 l2 : List Str) (yb ya : Str) (Q : Sup → Prop) (n t g : Nat) (X : Led) (Y : GL) (σ : Nat → Sup) : Prop :=
  (ks[Int.toNat (Int.ofNat i)]? = some (Value.ref (PairsD.ad p i))) ∧ (i < m) ∧ (i < m) ∧ (i < m) ∧ (i < m) ∧ (i < m) ∧ (#[Value.int (PairsD.x p i) (PairsD.tx p i), Value.int (PairsD.y p i) (PairsD.ty p i)][Int.toNat 0]? = some (Value.int (PairsD.x p i) (PairsD.tx p i))) ∧ (i < m) ∧ (#[Value.int (PairsD.x p i) (PairsD.tx p i), Value.int (PairsD.y p i) (PairsD.ty p i)][Int.toNat (0 + 1)]? = some (Value.int (PairsD.y p i) (PairsD.ty p i))) ∧ (i < m) ∧ (#[Value.int (PairsD.x p i) (PairsD.tx p i), Value.int (PairsD.y p i) (PairsD.ty p i)][Int.toNat (0 + 1 + 1)]? = none) ∧ (IdxIs xs (PairsD.x p i) (Aux.v (Value.str x tx))) ∧ Sat (E1 β) (ancI β (LwC.fr β c) x tx l1) ∧ ((Yld β (GnD.of (σ 10)) l1 (σ 10)) → (IdxIs xs (PairsD.y p i) (Aux.v (Value.str y ty))) ∧ Sat (E1 β) (ancI β (LwC.fr β c) y ty l2) ∧ ((Yld β (GnD.of (σ 14)) l2 (σ 14)) → Sat (E1 β) (dgI β (LwC.fr β c) (FfD.mk0 c (bif q then e else e + 2) (LwC.b8 β c d nt nv u w (bif q then [BB.d β "later" u1 (Value.int (PairsD.x p i) (PairsD.tx p i)), BB.d β "earlier" u2 (Value.int (PairsD.y p i) (PairsD.ty p i)), BB.d β "below" u3 w3, BB.d β "above" u4 w4] else [BB.d β "later" ((σ 7).t) (Value.int (PairsD.x p i) (PairsD.tx p i)), BB.d β "earlier" ((σ 7).t + 1) (Value.int (PairsD.y p i) (PairsD.ty p i))])) (GnD.of (σ 10))) (GnD.of (σ 14)) (σ 10) (σ 14) l2) ∧ ((SetOf (E1 β) (seO ((σ 16).o 3)) l2) → Sat (E1 β) (lfI β (FfD.of (FfD.mk0 c (bif q then e else e + 2) (LwC.b8 β c d nt nv u w (bif q then [BB.d β "later" u1 (Value.int (PairsD.x p i) (PairsD.tx p i)), BB.d β "earlier" u2 (Value.int (PairsD.y p i) (PairsD.ty p i)), BB.d β "below" u3 w3, BB.d β "above" u4 w4] else [BB.d β "later" ((σ 7).t) (Value.int (PairsD.x p i) (PairsD.tx p i)), BB.d β "earlier" ((σ 7).t + 1) (Value.int (PairsD.y p i) (PairsD.ty p i))])) (GnD.of (σ 10))) (σ 16)) (σ 10) (x2U sl) (lacks l2 l1)) ∧ ((StrsOf ((σ 18).xs 0) (lacks l2 l1)) → (IdxIs xs (PairsD.y p i) (Aux.v (Value.str y ty))) ∧ Sat (E1 β) (ancI β (LwC.fr β c) y ty l2) ∧ ((Yld β (GnD.of (σ 22)) l2 (σ 22)) → (IdxIs xs (PairsD.x p i) (Aux.v (Value.str x tx))) ∧ Sat (E1 β) (ancI β (LwC.fr β c) x tx l1) ∧ ((Yld β (GnD.of (σ 26)) l1 (σ 26)) → Sat (E1 β) (dgI β (LwC.fr β c) (FfD.mk0 c (bif q then e else e + 3) (LwC.b8 β c d nt nv u w (bif q then [BB.d β "later" u1 (Value.int (PairsD.x p i) (PairsD.tx p i)), BB.d β "earlier" u2 (Value.int (PairsD.y p i) (PairsD.ty p i)), BB.d β "below" u3 (Value.ref ((σ 18).k 0 1)), BB.d β "above" u4 w4] else [BB.d β "later" ((σ 7).t) (Value.int (PairsD.x p i) (PairsD.tx p i)), BB.d β "earlier" ((σ 7).t + 1) (Value.int (PairsD.y p i) (PairsD.ty p i)), BB.d β "below" ((σ 19).t) (Value.ref ((σ 18).k 0 1))])) (GnD.of (σ 22))) (GnD.of (σ 26)) (σ 22) (σ 26) l1) ∧ ((SetOf (E1 β) (seO ((σ 28).o 3)) l1) → Sat (E1 β) (lfI β (FfD.of (FfD.mk0 c (bif q then e else e + 3) (LwC.b8 β c d nt nv u w (bif q then [BB.d β "later" u1 (Value.int (PairsD.x p i) (PairsD.tx p i)), BB.d β "earlier" u2 (Value.int (PairsD.y p i) (PairsD.ty p i)), BB.d β "below" u3 (Value.ref ((σ 18).k 0 1)), BB.d β "above" u4 w4] else [BB.d β "later" ((σ 7).t) (Value.int (PairsD.x p i) (PairsD.tx p i)), BB.d β "earlier" ((σ 7).t + 1) (Value.int (PairsD.y p i) (PairsD.ty p i)), BB.d β "below" ((σ 19).t) (Value.ref ((σ 18).k 0 1))])) (GnD.of (σ 22))) (σ 28)) (σ 22) (x2U ((σ 18).x 2)) (lacks l1 l2)) ∧ ((StrsOf ((σ 30).xs 0) (lacks l1 l2)) → (IdxIs ((σ 18).xs 0) (-1 : Int) (Aux.v (Value.str yb (tokL ((σ 18).xs 0))))) ∧ (IdxIs ((σ 30).xs 0) (-1 : Int) (Aux.v (Value.str ya (tokL ((σ 30).xs 0))))) ∧ Sat (E1 β) (ad2I β (LwC.fr β c) d yb (tokL ((σ 18).xs 0)) ya (tokL ((σ 30).xs 0)) S Q) ∧ ((Q (σ 36)) → Sat (E1 β) (nlI β c d nt nv u w aT aS eS aN eN (i + 1) m ks xs p (NlF.mk true (bif q then u1 else (σ 7).t) (bif q then u2 else (σ 7).t + 1) (bif q then u3 else (σ 19).t) (bif q then u4 else (σ 31).t) (bif q then e else e + 4) (Value.int (PairsD.x p i) (PairsD.tx p i)) (Value.int (PairsD.y p i) (PairsD.ty p i)) (Value.ref ((σ 18).k 0 1)) (Value.ref ((σ 30).k 0 1)) ((σ 30).x 2)) (σ 36) Rq P) ∧ ((P (σ 38)) → (P (σ 38))))))))))))
theorem nlN_run (β : BB) (c : LwC) (d : SoD) (nt : Nat) (nv : Value) (u : Nat) (w : Value) (aT aS eS aN eN i m : Nat) (ks xs : Array Value) (p : PairsD) (q : Bool) (u1 u2 u3 u4 e : Nat) (w1 w2 w3 w4 : Value) (sl : Array (Option Value)) (S : Sup) (Rq : Bool) (P : Sup → Prop) (x y : Str) (tx ty : Nat) (l1 l2 : List Str) (yb ya : Str) (Q : Sup → Prop) (n t g : Nat) (X : Led) (Y : GL) (σ : Nat → Sup) : See (nlN_o β c d nt nv u w aT aS eS aN eN i m ks xs p q u1 u2 u3 u4 e w1 w2 w3 w4 sl S Rq P x y tx ty l1 l2 yb ya Q n t g X Y σ) (nlN_v β c d nt nv u w aT aS eS aN eN i m ks xs p q u1 u2 u3 u4 e w1 w2 w3 w4 sl S Rq P x y tx ty l1 l2 yb ya Q n t g X Y σ) := by obtain ⟨b1, b2, b3, w0⟩ := β; cases q <;> cases b3 <;> kernel_rfl
end
theorem StrsOf.last {xs : Array Value} {l : List Str} (h : StrsOf xs l) {z : Str} (hz : l.getLast? = some z) (hl : l.length ≤ 60) : IdxIs xs (-1) (.v (.str z (tokL xs))) := by
  have hp : 0 < l.length := by
    cases l with
    | nil => cases hz
    | cons => exact Nat.succ_pos _
  have hg : l[l.length - 1]? = some z := by rw [← List.getLast?_eq_getElem?]; exact hz
  obtain ⟨t, ht⟩ := h.at hg
  have hb : xs.back? = some (.str z t) := by rw [Array.back?_eq_getElem?, h.len]; exact ht
  have he : tokL xs = t := by unfold tokL; rw [hb]
  refine ⟨⟨0, ?_⟩, ?_, ?_⟩
  · rw [he]
    unfold atK
    rw [if_neg (by decide), h.len, show ((-1 : Int) + (l.length : Int)).toNat = l.length - 1 by omega]
    exact ht
  · rw [h.len]; constructor
    · omega
    · decide
  · rw [h.len]; exact Nat.le_trans hl (by decide)
theorem StrsOf.idx {xs : Array Value} {l : List Str} (h : StrsOf xs l) {k : Nat} {c : Str} (hk : l[k]? = some c) (hb : l.length ≤ 60) : ∃ t, IdxIs xs (Int.ofNat k) (.v (.str c t)) := by
  obtain ⟨t, ht⟩ := h.at hk
  have hlt := (List.getElem?_eq_some_iff.mp hk).1
  refine ⟨t, ⟨0, ?_⟩, ?_, ?_⟩
  · unfold atK; rw [if_pos (show (0 : Int) ≤ Int.ofNat k from Int.natCast_nonneg k)]; exact ht
  · rw [h.len]; constructor
    · exact Int.le_trans (by omega : -(l.length : Int) ≤ 0) (Int.natCast_nonneg k)
    · show (k : Int) < 1000000; omega
  · rw [h.len]; exact Nat.le_trans hb (by decide)
def topOf (W : Str → List Str) (x y : Str) : Str := (lacks (y :: W y) (x :: W x)).getLast?.getD x
def edOf (W : Str → List Str) (ns T : List Str) (a b : Nat) : Nat × Nat := (T.idxOf (topOf W (ns.getD b ⟨#[]⟩) (ns.getD a ⟨#[]⟩)), T.idxOf (topOf W (ns.getD a ⟨#[]⟩) (ns.getD b ⟨#[]⟩)))
theorem topOf_last {W : Str → List Str} {x y : Str} (h : x ∉ y :: W y) : (lacks (y :: W y) (x :: W x)).getLast? = some (topOf W x y) ∧ topOf W x y ∈ x :: W x ∧ topOf W x y ∉ y :: W y := by
  have e := lacks_no (m := y :: W y) (l := W x) h
  have hg : (lacks (y :: W y) (x :: W x)).getLast? = some (topOf W x y) := by
    unfold topOf
    cases hq : (lacks (y :: W y) (x :: W x)).getLast? with
    | none => rw [List.getLast?_eq_none_iff, e] at hq; cases hq
    | some z => rfl
  have hm := List.mem_filter.mp (List.mem_of_getLast? hg)
  exact ⟨hg, hm.1, of_decide_eq_true hm.2⟩
theorem nmOf_idx {T : List Str} {z : Str} (h : z ∈ T) : T.idxOf z < T.length ∧ nmOf T (T.idxOf z) = z := by
  have hl := List.idxOf_lt_length_iff.mpr h
  exact ⟨hl, nmOf_at (by rw [List.getElem?_eq_getElem hl, List.getElem_idxOf])⟩
theorem nl_sat {β : BB} {c : LwC} {d : SoD} {nt : Nat} {nv : Value} {u : Nat} {w : Value} {aT aS eS aN eN m m5 : Nat} {ks xs : Array Value} {p : PairsD} {ns T : List Str} (W : Str → List Str) (hx : StrsOf xs ns) (h5 : ns.length = 5) (hn : ns.Nodup) (hp : NdIs p m m5 ks) (hm5 : m5 ≤ 5)
    (hw : ∀ x ∈ ns, wayOk x (W x) = true ∧ (W x).length ≤ 10) (hT : ∀ x ∈ ns, ∀ y ∈ x :: W x, y ∈ T) (hs : ∀ x ∈ ns, ∀ y ∈ ns, x ≠ y → x ∉ y :: W y) : ∀ (k i : Nat) (f : NlF) (S : Sup) (Rq : Bool), i + k = m → Rq = (f.q || decide (0 < k)) → GOk β S ((List.range i).map fun j => edOf W ns T (p.x j).toNat (p.y j).toNat) → S.tx 0 = T →
    Sat (E1 β) (nlI β c d nt nv u w aT aS eS aN eN i m ks xs p f S Rq fun v => GOk β v ((List.range m).map fun j => edOf W ns T (p.x j).toNat (p.y j).toNat) ∧ v.tx 0 = T) := by
  obtain ⟨hm, hk, hr⟩ := hp
  intro k
  induction k with
  | zero =>
    intro i f S Rq hi hq G hS
    obtain rfl : i = m := hi
    obtain ⟨q, u1, u2, u3, u4, e, w1, w2, w3, w4, sl⟩ := f
    rw [show Rq = q by rw [hq]; exact Bool.or_false q]
    exact sat_of (fun n t g X Y σ => nlE_run β c d nt nv u w aT aS eS aN eN i i ks xs p q u1 u2 u3 u4 e w1 w2 w3 w4 sl S _ n t g X Y σ) fun n t g X Y σ => ⟨by rw [hk, Array.getElem?_eq_none_iff, refsN_size]; exact Nat.le_refl _, ⟨G.es, G.nd, G.sm, G.mb, G.ed, G.xs, G.np⟩, hS⟩
  | succ k ih =>
    intro i f S Rq hi hq G hS
    obtain ⟨q, u1, u2, u3, u4, e, w1, w2, w3, w4, sl⟩ := f
    have him : i < m := by omega
    obtain ⟨⟨a0, a5⟩, ⟨b0, b5⟩, ab⟩ := hr i him
    obtain ⟨a, ha⟩ : ∃ a : Nat, p.x i = Int.ofNat a := ⟨(p.x i).toNat, (Int.toNat_of_nonneg a0).symm⟩
    obtain ⟨b, hb⟩ : ∃ b : Nat, p.y i = Int.ofNat b := ⟨(p.y i).toNat, (Int.toNat_of_nonneg b0).symm⟩
    have ha5 : a < ns.length := by rw [ha] at a5; rw [h5]; exact Int.ofNat_lt.mp a5
    have hb5 : b < ns.length := by rw [hb] at b5; rw [h5]; exact Int.ofNat_lt.mp b5
    have hab : a ≠ b := fun h => ab (by rw [ha, hb, h])
    obtain ⟨x, hxa⟩ : ∃ x, ns[a]? = some x := ⟨_, List.getElem?_eq_getElem ha5⟩
    obtain ⟨y, hyb⟩ : ∃ y, ns[b]? = some y := ⟨_, List.getElem?_eq_getElem hb5⟩
    have hxy : x ≠ y := fun h => by
      rw [List.getElem?_eq_getElem ha5] at hxa
      rw [List.getElem?_eq_getElem hb5] at hyb
      have h2 : ns[a] = ns[b] := by rw [Option.some.inj hxa, Option.some.inj hyb, h]
      have pw := List.pairwise_iff_getElem.mp hn
      rcases Nat.lt_trichotomy a b with q | q | q
      · exact pw a b ha5 hb5 q h2
      · exact hab q
      · exact pw b a hb5 ha5 q h2.symm
    obtain ⟨tx, hix⟩ := hx.idx hxa (by omega)
    obtain ⟨ty, hiy⟩ := hx.idx hyb (by omega)
    rw [← ha] at hix
    rw [← hb] at hiy
    have mx := List.mem_of_getElem? hxa
    have my := List.mem_of_getElem? hyb
    obtain ⟨x1, x2⟩ := hw x mx
    obtain ⟨y1, y2⟩ := hw y my
    obtain ⟨gb, gb2, _⟩ := topOf_last (W := W) (hs x mx y my hxy)
    obtain ⟨ga, ga2, _⟩ := topOf_last (W := W) (hs y my x mx hxy.symm)
    have lx : (x :: W x).length ≤ 60 := by rw [List.length_cons]; omega
    have ly : (y :: W y).length ≤ 60 := by rw [List.length_cons]; omega
    obtain ⟨iv, ev⟩ := nmOf_idx (hT x mx _ gb2)
    obtain ⟨iw, ew⟩ := nmOf_idx (hT y my _ ga2)
    have hed : edOf W ns T (p.x i).toNat (p.y i).toNat = (T.idxOf (topOf W y x), T.idxOf (topOf W x y)) := by
      rw [ha, hb]
      show edOf W ns T a b = _
      unfold edOf
      rw [List.getD_eq_getElem?_getD, List.getD_eq_getElem?_getD, hxa, hyb]; rfl
    have hE : ((List.range i).map fun j => edOf W ns T (p.x j).toNat (p.y j).toNat).length ≤ 1000 := by rw [List.length_map, List.length_range]; omega
    have had := fun t1 t2 => ad2_sat (β := β) (c.fr β) d G (v := T.idxOf (topOf W x y)) (w := T.idxOf (topOf W y x)) (by rw [hS]; exact iv) (by rw [hS]; exact iw) t1 t2 hE
    rw [hS, ev, ew, ← hed, show ((List.range i).map fun j => edOf W ns T (p.x j).toNat (p.y j).toNat) ++ [edOf W ns T (p.x i).toNat (p.y i).toNat] = (List.range (i + 1)).map fun j => edOf W ns T (p.x j).toNat (p.y j).toNat by rw [List.range_succ, List.map_append]; rfl] at had
    have hRq : Rq = true := by rw [hq, decide_eq_true (Nat.succ_pos k), Bool.or_true]
    refine sat_of (fun n t g X Y σ => nlN_run β c d nt nv u w aT aS eS aN eN i m ks xs p q u1 u2 u3 u4 e w1 w2 w3 w4 sl S Rq _ x y tx ty (x :: W x) (y :: W y) (topOf W x y) (topOf W y x) _ n t g X Y σ) fun n t g X Y σ => ⟨by rw [hk]; exact refsN_at _ him, him, him, him, him, him, rfl, him, rfl, him, rfl, hix, anc_sat β _ x1 tx, fun hy1 => ⟨hiy, anc_sat β _ y1 ty, fun hy2 => ⟨dg_sat _ (by omega) hy2, fun hs1 => ⟨lf_sat hy1 hs1 (by omega) _, fun hb1 => ⟨hiy, anc_sat β _ y1 ty, fun hy3 => ⟨hix, anc_sat β _ x1 tx, fun hy4 => ⟨dg_sat _ (by omega) hy4, fun hs2 => ⟨lf_sat hy3 hs2 (by omega) _, fun hb2 => ⟨hb1.last gb (Nat.le_trans (lacks_le _ _) lx), hb2.last ga (Nat.le_trans (lacks_le _ _) ly), had _ _, fun hQ => ⟨ih (i + 1) _ _ Rq (by omega) (by rw [hRq]; rfl) hQ.1 hQ.2, id⟩⟩⟩⟩⟩⟩⟩⟩⟩⟩
def kRun {α : Type} (lt : Nat → Nat → Bool) : KasT α → α
  | .ret a => a
  | .ask i j k => kRun lt (k (lt i j))
def seqs : Nat → List (List Nat)
  | 0 => [[]]
  | n + 1 => (List.range 6).flatMap fun x => ((seqs n).filter fun l => !l.contains x).map (x :: ·)
theorem mem_seqs : ∀ (l : List Nat), l.Nodup → (∀ v ∈ l, v < 6) → l ∈ seqs l.length
  | [], _, _ => List.mem_singleton.mpr rfl
  | x :: l, hn, hl => by
    have h := List.nodup_cons.mp hn
    refine List.mem_flatMap.mpr ⟨x, List.mem_range.mpr (hl x List.mem_cons_self), List.mem_map.mpr ⟨l, List.mem_filter.mpr ⟨mem_seqs l h.2 fun v hv => hl v (.tail _ hv), ?_⟩, rfl⟩⟩
    simp [h.1]
def ltOf (l : List Nat) (i j : Nat) : Bool := Nat.blt (l.getD i 0) (l.getD j 0)
def sortedOf (l : List Nat) : List Nat := (kRun (ltOf l) (kas_sort l.length)).toList
def sortOk (l : List Nat) : Bool := ((sortedOf l).map fun i => l.getD i 9) == (List.range 6).filter fun v => l.contains v
theorem s5 : (seqs 5).all sortOk = true := by decide +kernel
theorem sorted_is {l : List Nat} (hn : l.Nodup) (hl : ∀ v ∈ l, v < 6) (h2 : 5 ≤ l.length) (h6 : l.length ≤ 5) : (sortedOf l).map (fun i => l.getD i 9) = (List.range 6).filter fun v => l.contains v := by
  have hm := mem_seqs l hn hl
  rw [Nat.le_antisymm h6 h2] at hm
  exact eq_of_beq (List.all_eq_true.mp s5 l hm)
theorem setAt_out {L : Led} {a : Addr} {x : Obj} (h : a ∉ L.map Prod.fst) : setAt L a x = L := by
  refine (List.map_congr_left fun p hp => ?_).trans (List.map_id _)
  rw [if_neg (fun e : p.1 = a => h (List.mem_map.mpr ⟨p, hp, e⟩))]; rfl
section
variable {prog : Program} {w : World} {A : Around} {E : Value → Shared → Prop} {s : Shared} {Γ : Gd} {L : Led} {G : GL}
theorem Hp.list {a : Addr} {xs : Array Value} {e : Nat} (H : Hp Γ ((a, lsO xs e) :: L) G s) (f : Array Value → Array Value) : ∃ e', Hp Γ ((a, lsO (f xs) e') :: L) G { s with heap := s.heap.update a (Obj.mapSeq f) } := by
  have nd := (List.nodup_cons.mp H.nd).1
  have z := fun e' (h : (lsO xs e).mapSeq f = lsO (f xs) e') => H.setF (f := Obj.mapSeq f) (x := lsO (f xs) e') List.mem_cons_self rfl h
  refine ⟨if (f xs).size == xs.size then e else e + 1, ?_⟩
  have z := z (if (f xs).size == xs.size then e else e + 1) rfl
  have e5 : setAt ((a, lsO xs e) :: L) a (lsO (f xs) (if (f xs).size == xs.size then e else e + 1)) = (a, lsO (f xs) (if (f xs).size == xs.size then e else e + 1)) :: L := by
    show (if a = a then _ else _) :: setAt L a _ = _
    rw [if_pos rfl, setAt_out nd]
  rw [e5] at z
  exact z
theorem Hp.swap {p q : Addr × Obj} (H : Hp Γ (p :: q :: L) G s) : Hp Γ (q :: p :: L) G s := H.perm (List.Perm.swap ..) (List.Perm.refl _)
theorem Hp.drop1 {p : Addr × Obj} (H : Hp Γ (p :: L) G s) : Hp Γ L G s := H.sub (fun _ h => .tail _ h) (List.nodup_cons.mp H.nd).2 (fun _ h => h) H.gnd
theorem sk_tail {a kS : Addr} {keys out : Array Value} {e e1 : Nat} {st : SortSt} {P : PySem.Fin → Shared → Prop} (H : Hp Γ ((kS, lsO keys e) :: (a, lsO #[] e1) :: L) G s) (hk : keys.size ≤ 1000) (hz : out.size ≤ 1000)
    (hout : (arrOf st).map (·.2) = out) (hf : failedOf st = none) (h : ∀ c s', Hp Γ ((a, lsO out c) :: L) G s' → P (.done (.ret .none)) s') : wpAny (model prog w) A (ksk_tail a false e1 (.ref kS) st) P E s := by
  unfold ksk_tail
  simp only [hout]
  refine wpAny_bind (listUpdate_at (H.led _ List.mem_cons_self) rfl ?_ (by rw [sizeLine_eq]; exact Nat.le_trans hk (by decide)) (Nat.zero_le _))
  obtain ⟨e2, H2⟩ := H.list fun _ => #[]
  refine wpAny_bind (wpAny_letGo ?_)
  have H3 := H2.swap
  refine wpAny_bind (seqEpoch_at (H3.led _ List.mem_cons_self) rfl ?_)
  refine wpAny_bind (listUpdate_at (H3.led _ List.mem_cons_self) rfl ?_ (Nat.zero_le _) (by rw [sizeLine_eq]; exact Nat.le_trans hz (by decide)))
  obtain ⟨e4, H4⟩ := H3.list fun _ => out
  rw [hf]
  simp only [bne_self_eq_false, Bool.false_eq_true, if_false]
  exact wpAny_pure (h e4 _ (H4.swap.drop1))
theorem raw_of_call {f : Value} {args : List Value} {kw : List (Str × Value)} {R : Result → Shared → Prop} (h : wpAny (model prog w) A (call f args kw) (fun v s' => R (.ok (.ret v)) s') (fun e s' => R (.error e) s') s) : wpAny (model prog w) A (rawCall (.call f ⟨args, kw⟩)) R (fun _ _ => False) s := by
  intro Γ' p hΓ
  have z := h Γ' p hΓ
  unfold call at z
  rw [Sem.wp_runValue] at z
  unfold rawCall
  rw [Sem.wp_call]
  refine wpCode_mono (fun r s' hr => ?_) z
  cases r with
  | error e => exact hr
  | ok f => cases f with
    | ret v => exact hr
    | _ => exact hr.elim
end
noncomputable def popI (fr : List Env) (a : Nat) (xs : Array Value) (e : Nat) (i : Int) (t k : Nat) (y : Value) : Inst where
  cu := cu0 (.call (.builtin "list.pop") ⟨[.ref a, .int i t], []⟩)
  fr := fr
  dep := 470
  un := 3000
  pre := [.o a (lsO xs e)]
  post _ := (.ok (.ret y), [.o a (lsO (xs.eraseIdxIfInBounds k) (e + 1))], True)
theorem pop_sat {β : BB} (fr : List Env) {a e t k : Nat} {xs : Array Value} {i : Int} {y : Value} (hf : Builtin.List.listFitsIndex i = true) (hk : seqIndex? i xs.size = some k) (hy : xs[k]? = some y) (hz : xs.size ≤ 1000) : SatW (E1 β) (popI fr a xs e i t k y) := by
  intro Γ Ar X Y s Q Bs H K
  have ha : s.heap.get? a = some (lsO xs e) := H.led (a, lsO xs e) List.mem_cons_self
  have hzl : xs.size ≤ sizeLine := Nat.le_trans hz (by decide)
  have hlt : k < xs.size := (Array.getElem?_eq_some_iff.mp hy).1
  refine raw_of_call (call_meets (E := fun e s' => Q (.error e) s') F.slot_list_pop ⟨_, ha, rfl⟩ F.entry_list_pop (F.args_list_pop_2 _ _) (PySem.MeetsSeq.list_pop_at a xs e i t k y hf hk hy hzl) ⟨ha, ?_⟩)
  refine K noS _ trivial ?_
  have H3 : Hp Γ ((a, lsO xs e) :: flat [.f X Y]) (flatG [.f X Y]) s := H
  have H4 := H3.head (f := Obj.mapSeq fun xs => xs.eraseIdxIfInBounds k) (x := lsO (xs.eraseIdxIfInBounds k) (e + 1)) rfl (by
    show (⟨_, _, .seq (xs.eraseIdxIfInBounds k) (if (xs.eraseIdxIfInBounds k).size == xs.size then e else e + 1), _⟩ : Obj) = _
    rw [if_neg (by
      rw [Array.eraseIdxIfInBounds_eq, dif_pos hlt, Array.size_eraseIdx, beq_iff_eq]
      omega)]
    rfl)
  exact H4
theorem Hp.grow1 {Γ : Gd} {L : Led} {G : GL} {s : Shared} (H : Hp Γ L G s) {h' : Heap} {x : Obj} (hk : ∀ b o', s.heap.get? b = some o' → h'.get? b = some o') (hx : h'.get? s.heap.objs.size = some x) : Hp Γ ((s.heap.objs.size, x) :: L) G { s with heap := h' } := by
  have new : ∀ x, s.heap.get? s.heap.objs.size = some x → False := fun x e => Nat.lt_irrefl _ (Heap.lt_size e)
  refine ⟨fun j o e => hk _ _ (H.top j o e), List.forall_mem_cons.mpr ⟨hx, fun p hp => hk _ _ (H.led p hp)⟩, ?_, ?_, fun b o e hb => hk _ _ (H.keep b o e hb), fun b o e => let ⟨o2, h2⟩ := H.kin b o e; ⟨o2, hk _ _ h2⟩, ?_, ?_, List.forall_mem_cons.mpr ⟨H.big, H.hi⟩, H.gens, H.gnd, H.bare, H.dr, H.os⟩
  · refine List.nodup_cons.mpr ⟨fun hm => ?_, H.nd⟩
    obtain ⟨p, hp, e⟩ := List.mem_map.mp hm
    have e : p.1 = s.heap.objs.size := e
    exact new p.2 (by rw [← e]; exact H.led p hp)
  · refine List.forall_mem_cons.mpr ⟨?_, H.off⟩
    cases h : Γ.T.get s.heap.objs.size with
    | none => rfl
    | some o => exact (new o (H.top _ _ h)).elim
  · refine List.forall_mem_cons.mpr ⟨fun o e => ?_, H.own⟩
    obtain ⟨o', h⟩ := H.kin _ _ e
    exact (new o' h).elim
  · exact Nat.le_trans H.big (Nat.le_of_lt (Heap.lt_size hx))
noncomputable def ltI (fr : List Env) (a : Nat) (xs : Array Value) : Inst where
  cu := cu0 (.call (.type "list") ⟨[.ref a], []⟩)
  fr := fr
  dep := 470
  un := 3000
  pre := [.o a (tpO xs)]
  post u := (.ok (.ret (.ref (u.k 0 1))), [.o (u.k 0 1) (lsO xs (u.k 0 0))], True)
theorem lt_sat {β : BB} (fr : List Env) {a : Nat} {xs : Array Value} (hz : xs.size ≤ 1000) : SatW (E1 β) (ltI fr a xs) := by
  intro Γ Ar X Y s Q Bs H K
  have ha : s.heap.get? a = some (tpO xs) := H.led (a, tpO xs) List.mem_cons_self
  have hzl : xs.size ≤ sizeLine := Nat.le_trans hz (by decide)
  refine raw_of_call (call_list_seq (hsz := hzl) a (.inr rfl) ha rfl rfl fun h' c' hk hD => ?_)
  refine K { noS with k := fun _ i => (match i with | 0 => c' | _ => s.heap.objs.size) } _ trivial ?_
  have H2 : Hp Γ ((a, tpO xs) :: flat [.f X Y]) (flatG [.f X Y]) s := H
  have H3 := H2.grow1 hk hD
  have nd := H3.nd
  rw [List.map_cons, List.map_cons] at nd
  have n1 := List.nodup_cons.mp nd
  have n2 := List.nodup_cons.mp n1.2
  exact H3.sub (fun p hp => (List.mem_cons.mp hp).elim (fun h => h ▸ List.mem_cons_self) fun h => .tail _ (.tail _ h)) (List.nodup_cons.mpr ⟨fun h => n1.1 (.tail _ h), n2.2⟩) (fun _ h => h) H3.gnd
noncomputable def fdI (fr : List Env) (x : Int) (t1 : Nat) (y : Int) (t2 : Nat) : Inst where
  cu := cu0 (.call (.builtin "int.__floordiv__") ⟨[.int x t1, .int y t2], []⟩)
  fr := fr
  dep := 470
  un := 3000
  pre := []
  post u := (.ok (.ret (.int (x.fdiv y) (u.k 0 0))), [], True)
theorem fd_sat {β : BB} (fr : List Env) {x y : Int} {t1 t2 : Nat} (h0 : y ≠ 0) (hy : y.natAbs < 0x40000000) : SatW (E1 β) (fdI fr x t1 y t2) := by
  intro Γ Ar X Y s Q Bs H K
  refine raw_of_call (call_meets (E := fun e s' => Q (.error e) s') F.slot_int_floordiv (typeIs_int s x t1) F.entry_int_floordiv (F.args_int_floordiv_2 _ _) (PySem.AutoIntG4.int___floordiv___int_int_1 x t1 y t2 (by simpa using h0) (by rw [PyProof.noPylong_small hy]; exact Bool.false_ne_true)).meets ?_)
  exact K { noS with k := fun _ _ => s.toks } { s with toks := s.toks + 1 } trivial (H.same rfl rfl rfl rfl)
noncomputable section
structure SqD where
  d : SoD
  es : Array DictEntry
  eM : Nat
  inf : InfD
  D : ArrD
  aR : Nat
  eR : Nat
  po : Int
  tp : Nat
  nf : Int
  tf : Nat
def SqD.so (s : SqD) : SoD := { s.d with v3 := .int s.po s.tp, v4 := .int s.nf s.tf }
structure WhC where
  nt : Nat
  nv : Value
  u : Nat
  f : NlF
  tl : Nat
  tw : Nat
  aO : Nat
structure WhV where
  w : Value
  lk : Int
  tk : Nat
  aW : Nat
  ws : Array Value
  eW : Nat
  tc : Nat
  wc : Value
  e : Nat
def whD (β : BB) (c : LwC) (d : SoD) (x : WhC) (v : WhV) (gs : Bool) : Array DictEntry := c.b8 β d x.nt x.nv x.u v.w (cond x.f.q
  [β.d "later" x.f.u1 x.f.w1, β.d "earlier" x.f.u2 x.f.w2, β.d "below" x.f.u3 x.f.w3, β.d "above" x.f.u4 x.f.w4, β.d "luck" x.tl (.int v.lk v.tk), β.d "waiting" x.tw (.ref v.aW)]
  [β.d "luck" x.tl (.int v.lk v.tk), β.d "waiting" x.tw (.ref v.aW)] ++ cond gs [β.d "count" v.tc v.wc] [])
def iaI (β : BB) (fr : List Env) (s : SqD) (qs : Array Value) (b : Bool) : Inst where
  cu := cu0 (.call (.ref 178) ⟨[.ref s.d.aS], []⟩)
  fr := fr
  dep := 470
  un := 3000
  pre := .o s.aR (lsO qs s.eR) :: ({ s.so with v2 := .ref s.aR } : SoD).ent β
  post _ := (.ok (.ret (.bool b)), .o s.aR (lsO qs s.eR) :: ({ s.so with v2 := .ref s.aR } : SoD).ent β, True)
def whI (β : BB) (c : LwC) (x : WhC) (v : WhV) (gs : Bool) (os : Array Value) (eO : Nat) (s : SqD) (qs : Array Value) (gF : Bool) (P : Sup → Prop) : Inst where
  cu := cu0 (loopC (TT β) 252 4 c.n0 c.cells .none)
  fr := c.fr β
  dep := 330
  un := 1000
  pre := [.o c.n0 (frameO (whD β c s.d x v gs) v.e x.f.sl), .o v.aW (lsO v.ws v.eW), .o c.ct (ceO x.aO), .o x.aO (lsO os eO)] ++ soE β s.so s.es s.eM s.inf s.D s.aR qs s.eR
  post r := (.ok .next, [.o c.n0 (frameO (whD β c s.d x ⟨r.vv 1, r.z 1 0, r.k 7 0, r.k 7 1, #[], 0, r.k 7 2, r.vv 2, 0⟩ gF) (r.k 7 3) x.f.sl), .o c.ct (ceO x.aO), .o x.aO (lsO (r.xs 1) (r.k 7 4))], P r)
def whU (v : WhV) (os : Array Value) (eO : Nat) : Sup := { noS with vv := fun i => (match i with | 1 => v.w | _ => v.wc), z := fun _ _ => v.lk, k := fun _ i => (match i with | 0 => v.tk | 1 => v.aW | 2 => v.tc | 3 => v.e | _ => eO), xs := fun _ => os }
end
noncomputable section
def iaA_o (β : BB) (fr : List Env) (s : SqD) (qs : Array Value) (n t g : Nat) (X : Led) (Y : GL) (σ : Nat → Sup) : Out := Go (E1 β) (iaI β fr s qs true) (Hs.h 0x202020204000a060105050101010501010101050306010505010101050101010105030601050501010105010101010503010203030101) (.a (.b true) <| .a (.u noS) .nil) n t g X Y σ
abbrev iaA_v (β : BB) (fr : List Env) (s : SqD) (qs : Array Value) (n t g : Nat) (X : Led) (Y : GL) (σ : Nat → Sup) : Prop :=
  (yesNo true (Int.NonNeg (SqD.po s - (SqD.nf s + 1)))) ∧ (True)
theorem iaA_run (β : BB) (fr : List Env) (s : SqD) (qs : Array Value) (n t g : Nat) (X : Led) (Y : GL) (σ : Nat → Sup) : See (iaA_o β fr s qs n t g X Y σ) (iaA_v β fr s qs n t g X Y σ) := by obtain ⟨b1, b2, b3, w0⟩ := β; cases b3 <;> kernel_rfl
def iaB_o (β : BB) (fr : List Env) (s : SqD) (qs : Array Value) (m : Nat) (n t g : Nat) (X : Led) (Y : GL) (σ : Nat → Sup) : Out := Go (E1 β) (iaI β fr s qs true) (Hs.h 0x202020204010102012004040101010106010505010101050101010105030101000a060105050101010501010101050306010505010101050101010105030601050501010105010101010503010203030101) (.a (.b false) <| .a (.n (m + 1)) <| .a (.u noS) .nil) n t g X Y σ
abbrev iaB_v (β : BB) (fr : List Env) (s : SqD) (qs : Array Value) (m : Nat) (n t g : Nat) (X : Led) (Y : GL) (σ : Nat → Sup) : Prop :=
  (yesNo false (Int.NonNeg (SqD.po s - (SqD.nf s + 1)))) ∧ (Array.size qs = m + 1) ∧ (m + 1 ≤ BIG) ∧ (True)
theorem iaB_run (β : BB) (fr : List Env) (s : SqD) (qs : Array Value) (m : Nat) (n t g : Nat) (X : Led) (Y : GL) (σ : Nat → Sup) : See (iaB_o β fr s qs m n t g X Y σ) (iaB_v β fr s qs m n t g X Y σ) := by obtain ⟨b1, b2, b3, w0⟩ := β; cases b3 <;> kernel_rfl
def iaC_o (β : BB) (fr : List Env) (s : SqD) (qs : Array Value) (n t g : Nat) (X : Led) (Y : GL) (σ : Nat → Sup) : Out := Go (E1 β) (iaI β fr s qs false) (Hs.h 0x202020204010102012004040101010106010505010101050101010105030101000a060105050101010501010101050306010505010101050101010105030601050501010105010101010503010203030101) (.a (.b false) <| .a (.n 0) <| .a (.u noS) .nil) n t g X Y σ
abbrev iaC_v (β : BB) (fr : List Env) (s : SqD) (qs : Array Value) (n t g : Nat) (X : Led) (Y : GL) (σ : Nat → Sup) : Prop :=
  (yesNo false (Int.NonNeg (SqD.po s - (SqD.nf s + 1)))) ∧ (Array.size qs = 0) ∧ (0 ≤ BIG) ∧ (True)
theorem iaC_run (β : BB) (fr : List Env) (s : SqD) (qs : Array Value) (n t g : Nat) (X : Led) (Y : GL) (σ : Nat → Sup) : See (iaC_o β fr s qs n t g X Y σ) (iaC_v β fr s qs n t g X Y σ) := by obtain ⟨b1, b2, b3, w0⟩ := β; cases b3 <;> kernel_rfl
def whN_o (β : BB) (c : LwC) (nt : Nat) (nv : Value) (u : Nat) (q : Bool) (u1 u2 u3 u4 e0 : Nat) (w1 w2 w3 w4 : Value) (sl : Array (Option Value)) (tl tw aO : Nat) (v : WhV) (gs : Bool) (os : Array Value) (eO : Nat) (s : SqD) (qs : Array Value) (gF : Bool) (P : Sup → Prop) (m k z : Nat) (ty : Nat) (Pg : InfD → Prop) (P3 : Sup → Prop) (n t g : Nat) (X : Led) (Y : GL) (σ : Nat → Sup) : Out := Go (E1 β) (whI β c (WhC.mk nt nv u (NlF.mk q u1 u2 u3 u4 e0 w1 w2 w3 w4 sl) tl tw aO) v gs os eO s qs gF P) (Hs.h 0x301010104010101010101090907090a020303030a04040602010a0908010101010801010108010101080a0b01140a0d0d0d0d0c0a0a00070a0a0a0a01010701010a0a030303030a0a0a01011f0a01010a0a010802160a030a0101070505010202050201050401010101040101010401010104060101060808080302010c0b010101010b0101010b0101010b03) (.a (.i (iaI β (c.fr β) s qs true)) (.k fun _ _ => .a (.i (grcI β (c.fr β) s.so s.inf s.D s.es s.eM s.aR s.eR qs s.po s.tp Pg)) (.k fun gu wg => .a (.iw (ltI (c.fr β) (gu.k 0 2) qs)) (.k fun lu _ => .k fun au wl => .a (.n (m + 1)) (.k fun lc wc => .a (.iw (popI (c.fr β) au.a (v.ws ++ qs) 0 (Int.fmod v.lk (Int.ofNat (m + 1))) (wc.t + 1) k (.str (s.inf.N z) ty))) (.k fun pu wp => .a (.iw (fdI (c.fr β) v.lk v.tk (Int.ofNat (m + 1)) lc.a)) (.k fun fu wf => .a (.i (dncI β (c.fr β) z ty ({ s.so with v3 := .int (s.po + Int.ofNat qs.size) (gu.k 0 4) } : SoD) s.es s.eM (s.inf.of gu) s.D s.aR #[] (clEp qs s.eR) s.nf s.tf P3)) (.k fun du _ => .a (.i (whI β c (WhC.mk nt nv u (NlF.mk q u1 u2 u3 u4 e0 w1 w2 w3 w4 sl) tl tw aO) (WhV.mk (.str (s.inf.N z) ty) (Int.fdiv v.lk (Int.ofNat (m + 1))) (fu.k 0 0) au.a ((v.ws ++ qs).eraseIdxIfInBounds k) 1 (cond gs v.tc wc.t) (.int (Int.ofNat (m + 1)) lc.a) (cond gs v.e (v.e + 1))) true (os.push (.str (s.inf.N z) ty)) (eO + 1) ({ s with inf := (s.inf.of gu).of du, eR := du.k 0 6, po := s.po + Int.ofNat qs.size, tp := gu.k 0 4, nf := s.nf + 1, tf := du.k 0 7 } : SqD) (du.xs 0) gF P)) (.k fun u _ => .a (.u u) .nil))))))))) n t g X Y σ
abbrev whN_v (β : BB) (c : LwC) (nt : Nat) (nv : Value) (u : Nat) (q : Bool) (u1 u2 u3 u4 e0 : Nat) (w1 w2 w3 w4 : Value) (sl : Array (Option Value)) (tl tw aO : Nat) (v : WhV) (gs : Bool) (os : Array Value) (eO : Nat) (s : SqD) (qs : Array Value) (gF : Bool) (P : Sup → Prop) (m k z : Nat) (ty : Nat) (Pg : InfD → Prop) (P3 : Sup → Prop) (n t g : Nat) (X : Led) (Y : GL) (σ : Nat → Sup) : Prop :=
  Sat (E1 β) (iaI β (LwC.fr β c) s qs true) ∧ ((True) → Sat (E1 β) (grcI β (LwC.fr β c) (SqD.so s) (SqD.inf s) (SqD.D s) (SqD.es s) (SqD.eM s) (SqD.aR s) (SqD.eR s) qs (SqD.po s) (SqD.tp s) Pg) ∧ ((Pg (InfD.of (SqD.inf s) (σ 2))) → SatW (E1 β) (ltI (LwC.fr β c) ((σ 2).k 0 2) qs) ∧ ((True) → (Array.size (WhV.ws v) + Array.size qs ≤ BIG) ∧ (Array.size (WhV.ws v ++ qs) = m + 1) ∧ (m + 1 ≤ BIG) ∧ SatW (E1 β) (popI (LwC.fr β c) ((σ 6).a) (WhV.ws v ++ qs) 0 (Int.fmod (WhV.lk v) (Int.ofNat (m + 1))) ((σ 9).t + 1) k (Value.str (InfD.N (SqD.inf s) z) ty)) ∧ ((True) → SatW (E1 β) (fdI (LwC.fr β c) (WhV.lk v) (WhV.tk v) (Int.ofNat (m + 1)) ((σ 8).a)) ∧ ((True) → (Array.size os ≤ BIG) ∧ Sat (E1 β) (dncI β (LwC.fr β c) z ty
  (have __src := SqD.so s;
  SoD.mk (SoD.aS (SqD.d s)) (SoD.aD (SqD.d s)) (SoD.aM (SqD.d s)) (SoD.eD (SqD.d s)) (SoD.k1 (SqD.d s)) (SoD.k2 (SqD.d s)) (SoD.k3 (SqD.d s)) (SoD.k4 (SqD.d s)) (SoD.v2 (SqD.d s)) (Value.int (SqD.po s + Int.ofNat (Array.size qs)) ((σ 2).k 0 4)) (Value.int (SqD.nf s) (SqD.tf s)))
  (SqD.es s) (SqD.eM s) (InfD.of (SqD.inf s) (σ 2)) (SqD.D s) (SqD.aR s) #[] (clEp qs (SqD.eR s)) (SqD.nf s) (SqD.tf s) P3) ∧ ((P3 (σ 16)) → Sat (E1 β) (whI β c (WhC.mk nt nv u (NlF.mk q u1 u2 u3 u4 e0 w1 w2 w3 w4 sl) tl tw aO) (WhV.mk (Value.str (InfD.N (SqD.inf s) z) ty) (Int.fdiv (WhV.lk v) (Int.ofNat (m + 1))) ((σ 12).k 0 0) ((σ 6).a) (Array.eraseIdxIfInBounds (WhV.ws v ++ qs) k) 1 (bif gs then WhV.tc v else (σ 9).t) (Value.int (Int.ofNat (m + 1)) ((σ 8).a)) (bif gs then WhV.e v else WhV.e v + 1)) true (Array.push os (Value.str (InfD.N (SqD.inf s) z) ty)) (eO + 1) (SqD.mk (SqD.d s) (SqD.es s) (SqD.eM s) (InfD.of (InfD.of (SqD.inf s) (σ 2)) (σ 16)) (SqD.D s) (SqD.aR s) ((σ 16).k 0 6) (SqD.po s + Int.ofNat (Array.size qs)) ((σ 2).k 0 4) (SqD.nf s + 1) ((σ 16).k 0 7)) ((σ 16).xs 0) gF P) ∧ ((P (σ 18)) → (P (σ 18)))))))))
theorem whN_run (β : BB) (c : LwC) (nt : Nat) (nv : Value) (u : Nat) (q : Bool) (u1 u2 u3 u4 e0 : Nat) (w1 w2 w3 w4 : Value) (sl : Array (Option Value)) (tl tw aO : Nat) (v : WhV) (gs : Bool) (os : Array Value) (eO : Nat) (s : SqD) (qs : Array Value) (gF : Bool) (P : Sup → Prop) (m k z : Nat) (ty : Nat) (Pg : InfD → Prop) (P3 : Sup → Prop) (n t g : Nat) (X : Led) (Y : GL) (σ : Nat → Sup) : See (whN_o β c nt nv u q u1 u2 u3 u4 e0 w1 w2 w3 w4 sl tl tw aO v gs os eO s qs gF P m k z ty Pg P3 n t g X Y σ) (whN_v β c nt nv u q u1 u2 u3 u4 e0 w1 w2 w3 w4 sl tl tw aO v gs os eO s qs gF P m k z ty Pg P3 n t g X Y σ) := by obtain ⟨b1, b2, b3, w0⟩ := β; cases q <;> cases gs <;> cases b3 <;> kernel_rfl
def whE_o (β : BB) (c : LwC) (nt : Nat) (nv : Value) (u : Nat) (q : Bool) (u1 u2 u3 u4 e0 : Nat) (w1 w2 w3 w4 : Value) (sl : Array (Option Value)) (tl tw aO : Nat) (v : WhV) (gs : Bool) (os : Array Value) (eO : Nat) (s : SqD) (qs : Array Value) (P : Sup → Prop) (n t g : Nat) (X : Led) (Y : GL) (σ : Nat → Sup) : Out := Go (E1 β) (whI β c (WhC.mk nt nv u (NlF.mk q u1 u2 u3 u4 e0 w1 w2 w3 w4 sl) tl tw aO) v gs os eO s qs gs P) (Hs.h 0x8050504040808080302010c0b010101010b0101010b0101010b03) (.a (.i (iaI β (c.fr β) s qs false)) (.k fun _ _ => .a (.u (whU v os eO)) .nil)) n t g X Y σ
abbrev whE_v (β : BB) (c : LwC) (nt : Nat) (nv : Value) (u : Nat) (q : Bool) (u1 u2 u3 u4 e0 : Nat) (w1 w2 w3 w4 : Value) (sl : Array (Option Value)) (tl tw aO : Nat) (v : WhV) (gs : Bool) (os : Array Value) (eO : Nat) (s : SqD) (qs : Array Value) (P : Sup → Prop) (n t g : Nat) (X : Led) (Y : GL) (σ : Nat → Sup) : Prop :=
  Sat (E1 β) (iaI β (LwC.fr β c) s qs false) ∧ ((True) → (P (whU v os eO)))
theorem whE_run (β : BB) (c : LwC) (nt : Nat) (nv : Value) (u : Nat) (q : Bool) (u1 u2 u3 u4 e0 : Nat) (w1 w2 w3 w4 : Value) (sl : Array (Option Value)) (tl tw aO : Nat) (v : WhV) (gs : Bool) (os : Array Value) (eO : Nat) (s : SqD) (qs : Array Value) (P : Sup → Prop) (n t g : Nat) (X : Led) (Y : GL) (σ : Nat → Sup) : See (whE_o β c nt nv u q u1 u2 u3 u4 e0 w1 w2 w3 w4 sl tl tw aO v gs os eO s qs P n t g X Y σ) (whE_v β c nt nv u q u1 u2 u3 u4 e0 w1 w2 w3 w4 sl tl tw aO v gs os eO s qs P n t g X Y σ) := by obtain ⟨b1, b2, b3, w0⟩ := β; cases q <;> cases gs <;> cases b3 <;> kernel_rfl
end
structure KS where
  np : Nat → Int
  w : List Nat
  q : List Nat
  lk : Int
  o : List Nat
def KS.all (st : KS) : List Nat := st.w ++ st.q
def KS.ix (st : KS) : Nat := (Int.fmod st.lk (Int.ofNat st.all.length)).toNat
def KS.z (st : KS) : Nat := st.all.getD st.ix 0
def KS.mk1 (st : KS) : Nat → Int := fun v => if v ∈ st.q then -1 else st.np v
def KS.dn (succ : Nat → List Nat) (st : KS) : (Nat → Int) × List Nat := doneN succ (st.mk1, []) st.z
def KS.turn (succ : Nat → List Nat) (st : KS) : KS := ⟨(st.dn succ).1, st.all.eraseIdx st.ix, (st.dn succ).2, Int.fdiv st.lk (Int.ofNat st.all.length), st.o ++ [st.z]⟩
inductive Turns (succ : Nat → List Nat) (M : Nat) : KS → KS → Prop
  | stop {st : KS} : st.w = [] → st.q = [] → Turns succ M st st
  | turn {st st' : KS} : st.all ≠ [] → st.all.length ≤ 20 → st.o.length ≤ 100 → (∀ v ∈ st.all, v < M) → st.mk1 st.z = -1 → (succ st.z).length ≤ 900 → Turns succ M (st.turn succ) st' → Turns succ M st st'
theorem map_erase {α γ : Type} (f : α → γ) : ∀ (l : List α) (k : Nat), (l.eraseIdx k).map f = (l.map f).eraseIdx k
  | [], _ => rfl
  | _ :: _, 0 => rfl
  | a :: l, k + 1 => by
    show f a :: (l.eraseIdx k).map f = f a :: (l.map f).eraseIdx k
    rw [map_erase f l k]
theorem StrsOf.erase {xs : Array Value} {l : List Str} (h : StrsOf xs l) (k : Nat) : StrsOf (xs.eraseIdxIfInBounds k) (l.eraseIdx k) := by
  unfold StrsOf at h ⊢
  have e : (xs.eraseIdxIfInBounds k).toList = xs.toList.eraseIdx k := by
    rw [Array.eraseIdxIfInBounds_eq]
    split
    · rw [Array.toList_eraseIdx]
    · rename_i hk
      rw [List.eraseIdx_of_length_le]
      rw [Array.length_toList]; omega
  rw [e, map_erase, h, map_erase]
theorem ia_sat {β : BB} (fr : List Env) (s : SqD) {qs : Array Value} {b : Bool} {a q : Nat} (hp : s.po = s.nf + Int.ofNat a) (hq : qs.size = q) (hb : q ≤ 1000) (h : b = decide (0 < a + q)) : Sat (E1 β) (iaI β fr s qs b) := by
  by_cases ha : 0 < a
  · obtain rfl : b = true := by rw [h]; exact decide_eq_true (by omega)
    exact sat_of (fun n t g X Y σ => iaA_run β fr s qs n t g X Y σ) fun n t g X Y σ => ⟨show s.nf < s.po by rw [hp]; have : (0 : Int) < Int.ofNat a := Int.ofNat_lt.mpr ha; omega, trivial⟩
  · obtain rfl : a = 0 := by omega
    have hn : ¬ s.nf < s.po := by rw [hp]; show ¬ s.nf < s.nf + 0; omega
    cases q with
    | zero =>
      obtain rfl : b = false := by rw [h]; rfl
      exact sat_of (fun n t g X Y σ => iaC_run β fr s qs n t g X Y σ) fun n t g X Y σ => ⟨hn, hq, Nat.zero_le _, trivial⟩
    | succ q =>
      obtain rfl : b = true := by rw [h]; exact decide_eq_true (by omega)
      exact sat_of (fun n t g X Y σ => iaB_run β fr s qs q n t g X Y σ) fun n t g X Y σ => ⟨hn, hq, Nat.le_trans hb (by decide), trivial⟩
structure UseIs (β : BB) (s : SqD) (succ : Nat → List Nat) : Prop where
  hs : ∀ v, v < s.inf.M → StrsOf (s.D.xs v) ((succ v).map s.inf.N)
  hc : ∀ v, v < s.inf.M → ∀ y ∈ succ v, y < s.inf.M
  ek : KeysOf (strKind Challenge.pw_ij0124_02 β.W) s.es
  ef : ∀ v, v < s.inf.M → findBy Value.isStrOf s.es (s.inf.N v) = some (.ref (s.inf.ia v))
theorem wh_sat {β : BB} {c : LwC} {nt : Nat} {nv : Value} {u : Nat} {q : Bool} {u1 u2 u3 u4 e0 : Nat} {w1 w2 w3 w4 : Value} {sl : Array (Option Value)} {tl tw aO : Nat} {succ : Nat → List Nat} {M : Nat} {N : Nat → Str} {st st' : KS} (T : Turns succ M st st') :
    ∀ (v : WhV) (gs : Bool) (os : Array Value) (eO : Nat) (s : SqD) (qs : Array Value), UseIs β s succ → s.inf.M = M → s.inf.N = N → (gs = true ∨ st.all ≠ []) → StrsOf v.ws (st.w.map N) → StrsOf qs (st.q.map N) → StrsOf os (st.o.map N) → s.inf.np = st.np → v.lk = st.lk → s.po = s.nf + Int.ofNat st.w.length →
    Sat (E1 β) (whI β c (WhC.mk nt nv u (NlF.mk q u1 u2 u3 u4 e0 w1 w2 w3 w4 sl) tl tw aO) v gs os eO s qs true fun r => StrsOf (r.xs 1) (st'.o.map N)) := by
  induction T with
  | @stop st hw hq0 =>
    intro v gs os eO s qs U hM hN hg hws hqs hos hnp hlk hpo
    have hgs : gs = true := hg.resolve_right fun h => h (by unfold KS.all; rw [hw, hq0]; rfl)
    subst hgs
    have hz : qs.size = 0 := by rw [hqs.len, hq0]; rfl
    exact sat_of (fun n t g X Y σ => whE_run β c nt nv u q u1 u2 u3 u4 e0 w1 w2 w3 w4 sl tl tw aO v true os eO s qs _ n t g X Y σ) fun n t g X Y σ => ⟨ia_sat _ s (a := st.w.length) (q := 0) hpo hz (Nat.zero_le _) (by rw [hw]; rfl), fun _ => hos⟩
  | @turn st st' hne h20 ho100 hlt h1 hsz T ih =>
    intro v gs os eO s qs U hM hN hg hws hqs hos hnp hlk hpo
    subst hM hN
    have hlen : st.all.length = st.w.length + st.q.length := List.length_append
    obtain ⟨m, hm⟩ : ∃ m, st.all.length = m + 1 := ⟨st.all.length - 1, by have := List.length_pos_iff.mpr hne; omega⟩
    have hall : StrsOf (v.ws ++ qs) (st.all.map s.inf.N) := by unfold KS.all; rw [List.map_append]; exact hws.app hqs
    have hsize : (v.ws ++ qs).size = m + 1 := by rw [hall.len, List.length_map, hm]
    have hpos : (0 : Int) < Int.ofNat (m + 1) := Int.ofNat_lt.mpr (Nat.succ_pos m)
    obtain ⟨k0, k1⟩ := mod_lt st.lk hpos
    have hix : st.ix = (Int.fmod st.lk (Int.ofNat (m + 1))).toNat := by unfold KS.ix; rw [hm]
    have hixl : st.ix < st.all.length := by rw [hm, hix]; have : (Int.ofNat (m + 1) : Int) = ((m + 1 : Nat) : Int) := rfl; omega
    have hz0 : st.all[st.ix]? = some st.z := by unfold KS.z; rw [List.getD_eq_getElem?_getD, List.getElem?_eq_getElem hixl]; rfl
    have hzM : st.z < s.inf.M := hlt _ (List.mem_of_getElem? hz0)
    obtain ⟨ty, hy⟩ := hall.at (i := st.ix) (z := s.inf.N st.z) (by rw [List.getElem?_map, hz0]; rfl)
    have hqm : ∀ v ∈ st.q, v < s.inf.M := fun v hv => hlt v (List.mem_append_right _ hv)
    have hql : st.q.length ≤ 20 := by omega
    have hqs2 : qs.size = st.q.length := by rw [hqs.len, List.length_map]
    have hos2 : os.size ≤ BIG := by rw [hos.len, List.length_map]; exact Nat.le_trans ho100 (by decide)
    refine sat_of (fun n t g X Y σ => whN_run β c nt nv u q u1 u2 u3 u4 e0 w1 w2 w3 w4 sl tl tw aO v gs os eO s qs true _ m st.ix st.z ty (fun f => ∀ v, f.np v = if v ∈ st.q then -1 else s.inf.np v) (fun r => QIs s.inf.N r (st.dn succ)) n t g X Y σ) fun n t g X Y σ => ⟨ia_sat _ s (a := st.w.length) (q := st.q.length) hpo hqs2 (by omega) (decide_eq_true (by omega)).symm, fun _ => ⟨grc_sat _ hqm U.ek U.ef hql hqs _ _ _ _, fun hPg => ⟨lt_sat _ (by rw [hqs2]; omega), fun _ => ⟨by rw [← Array.size_append, hsize]; exact Nat.le_trans (by omega : m + 1 ≤ 20) (by decide), hsize, Nat.le_trans (by omega : m + 1 ≤ 20) (by decide), ?_, fun _ => ⟨fd_sat _ (by omega) (by show (Int.natAbs (Int.ofNat (m + 1))) < _; have : Int.natAbs (Int.ofNat (m + 1)) = m + 1 := rfl; omega), fun _ => ⟨hos2, ?_, fun hP3 => ⟨?_, id⟩⟩⟩⟩⟩⟩⟩
    · rw [hlk]
      refine pop_sat _ ?_ ?_ hy (by rw [hsize]; omega)
      · unfold Builtin.List.listFitsIndex
        have : (Int.ofNat (m + 1) : Int) ≤ 20 := by show ((m + 1 : Nat) : Int) ≤ 20; omega
        rw [Bool.and_eq_true, decide_eq_true_iff, decide_eq_true_iff]
        omega
      · rw [hsize, hix]
        exact seqIndex_of k0 k1
    · have hnp2 : (InfD.of s.inf (σ 2)).np = st.mk1 := funext fun x => by rw [hPg x, hnp]; rfl
      have := dnc_sat (β := β) (c.fr β) (d := { s.so with v3 := .int (s.po + Int.ofNat qs.size) ((σ 2).k 0 4) }) (es := s.es) (eM := s.eM) (inf := InfD.of s.inf (σ 2)) (D := s.D) (succ := succ) (z := st.z) (q0 := []) U.hs U.hc hzM U.ek U.ef (by rw [hnp2]; exact h1) (by show 0 + _ ≤ 1000; omega) ty (aR := s.aR) (qs := #[]) StrsOf.nil (clEp qs s.eR) s.nf s.tf
      rw [hnp2] at this
      exact this
    · exact ih _ true _ _ _ _ ⟨U.hs, U.hc, U.ek, U.ef⟩ rfl rfl (.inl rfl) (by show StrsOf ((v.ws ++ qs).eraseIdxIfInBounds st.ix) ((st.all.eraseIdx st.ix).map _); rw [map_erase]; exact hall.erase _) hP3.2 (by show StrsOf (os.push _) ((st.o ++ [st.z]).map _); rw [List.map_append]; exact hos.push _ _) hP3.1 (by show Int.fdiv v.lk _ = Int.fdiv st.lk _; rw [hlk, hm]) (by
        show s.po + Int.ofNat qs.size = s.nf + 1 + Int.ofNat (st.all.eraseIdx st.ix).length
        rw [List.length_eraseIdx_of_lt hixl, hpo, hqs2, hlen]
        show s.nf + ((st.w.length : Nat) : Int) + ((st.q.length : Nat) : Int) = s.nf + 1 + ((st.w.length + st.q.length - 1 : Nat) : Int)
        omega)
noncomputable section
structure FtC where
  n0 : Nat
  ch : Nat
  t1 : Nat
  t2 : Nat
  t3 : Nat
  aH : Nat
  k : Int
  tk : Nat
  aG : Nat
  aS : Nat
  hs : Array Value
  eH : Nat
  ks : Array Value
  eS : Nat
  m : Nat
  p : PairsD
def ftF (β : BB) (c : FtC) (q : Bool) (u1 u2 : Nat) (w1 w2 : Value) (e : Nat) : Obj := frD (cond q
  #[β.d "k" c.t1 (.int c.k c.tk), β.d "groups" c.t2 (.ref c.aG), β.d "needs" c.t3 (.ref c.aS), β.d "later" u1 w1, β.d "earlier" u2 w2]
  #[β.d "k" c.t1 (.int c.k c.tk), β.d "groups" c.t2 (.ref c.aG), β.d "needs" c.t3 (.ref c.aS)]) e
def ftnI (β : BB) (fr : List Env) (c : FtC) (aT i : Nat) (q : Bool) (u1 u2 : Nat) (w1 w2 : Value) (e : Nat) (R q2 : Bool) : Inst where
  cu := cu0 (loopC (TT β) 240 0 c.n0 [(Mine.S "head", c.ch)] (.ref aT))
  fr := fr
  dep := 470
  un := 3000
  pre := [.o c.n0 (ftF β c q u1 u2 w1 w2 e), .o aT (liO c.aS (Int.ofNat i)), .o c.aS (lsO c.ks c.eS), c.p.ent c.m, .o c.ch (ceO c.aH), .o c.aH (lsO c.hs c.eH)]
  post u := (.ok (cond R .next (.ret (.bool false))), [.o c.n0 (ftF β c q2 (u.k 0 0) (u.k 0 1) (u.vv 0) (u.vv 1) (u.k 0 2)), .o c.aS (lsO c.ks c.eS), c.p.ent c.m, .o c.ch (ceO c.aH), .o c.aH (lsO c.hs c.eH)], True)
def ftU (u1 u2 : Nat) (w1 w2 : Value) (e : Nat) : Sup := { noS with k := fun _ i => (match i with | 0 => u1 | 1 => u2 | _ => e), vv := fun i => (match i with | 0 => w1 | _ => w2) }
end
noncomputable section
def fnE_o (β : BB) (fr : List Env) (c : FtC) (aT i : Nat) (q : Bool) (u1 u2 : Nat) (w1 w2 : Value) (e : Nat) (n t g : Nat) (X : Led) (Y : GL) (σ : Nat → Sup) : Out := Go (E2 β) (ftnI β fr c aT i q u1 u2 w1 w2 e true q) (Hs.h 0x404040404030601030302021304) (.a (.b false) (.a (.u (ftU u1 u2 w1 w2 e)) .nil)) n t g X Y σ
abbrev fnE_v (β : BB) (fr : List Env) (c : FtC) (aT i : Nat) (q : Bool) (u1 u2 : Nat) (w1 w2 : Value) (e : Nat) (n t g : Nat) (X : Led) (Y : GL) (σ : Nat → Sup) : Prop :=
  ((FtC.ks c)[Int.toNat (Int.ofNat i)]? = none) ∧ (True)
theorem fnE_run (β : BB) (fr : List Env) (c : FtC) (aT i : Nat) (q : Bool) (u1 u2 : Nat) (w1 w2 : Value) (e : Nat) (n t g : Nat) (X : Led) (Y : GL) (σ : Nat → Sup) : See (fnE_o β fr c aT i q u1 u2 w1 w2 e n t g X Y σ) (fnE_v β fr c aT i q u1 u2 w1 w2 e n t g X Y σ) := by obtain ⟨b1, b2, b3, w0⟩ := β; cases q <;> cases b3 <;> kernel_rfl
def fnR_o (β : BB) (fr : List Env) (c : FtC) (aT i : Nat) (q : Bool) (u1 u2 : Nat) (w1 w2 : Value) (e : Nat) (n t g : Nat) (X : Led) (Y : GL) (σ : Nat → Sup) : Out := Go (E2 β) (ftnI β fr c aT i q u1 u2 w1 w2 e false true) (Hs.h 0x505050505040609011a0b0b0a060008060606060606030501021903050102190305010219030301075601565656040302021304) (.a (.v (.ref (c.p.ad i))) (.k fun _ v1 => .a (.n i) <| .a (.n i) <| .a (.v (.int (c.p.x i) (c.p.tx i))) <| .a (.n i) <| .a (.v (.int (c.p.y i) (c.p.ty i))) <| .a (.n i) <| .a (.b false) (.k fun _ v2 => .a (.b true) <| .a (.b false) <| .a (.u (ftU (cond q u1 v2.t) (cond q u2 (v2.t + 1)) (.int (c.p.x i) (c.p.tx i)) (.int (c.p.y i) (c.p.ty i)) (cond q e (e + 2)))) .nil))) n t g X Y σ
abbrev fnR_v (β : BB) (fr : List Env) (c : FtC) (aT i : Nat) (q : Bool) (u1 u2 : Nat) (w1 w2 : Value) (e : Nat) (n t g : Nat) (X : Led) (Y : GL) (σ : Nat → Sup) : Prop :=
  ((FtC.ks c)[Int.toNat (Int.ofNat i)]? = some (Value.ref (PairsD.ad (FtC.p c) i))) ∧ (i < FtC.m c) ∧ (i < FtC.m c) ∧ (i < FtC.m c) ∧ (i < FtC.m c) ∧ (i < FtC.m c) ∧ (#[Value.int (PairsD.x (FtC.p c) i) (PairsD.tx (FtC.p c) i), Value.int (PairsD.y (FtC.p c) i) (PairsD.ty (FtC.p c) i)][Int.toNat 0]? = some (Value.int (PairsD.x (FtC.p c) i) (PairsD.tx (FtC.p c) i))) ∧ (i < FtC.m c) ∧ (#[Value.int (PairsD.x (FtC.p c) i) (PairsD.tx (FtC.p c) i), Value.int (PairsD.y (FtC.p c) i) (PairsD.ty (FtC.p c) i)][Int.toNat (0 + 1)]? = some (Value.int (PairsD.y (FtC.p c) i) (PairsD.ty (FtC.p c) i))) ∧ (i < FtC.m c) ∧ (#[Value.int (PairsD.x (FtC.p c) i) (PairsD.tx (FtC.p c) i), Value.int (PairsD.y (FtC.p c) i) (PairsD.ty (FtC.p c) i)][Int.toNat (0 + 1 + 1)]? = none) ∧ (yesNo true (PairsD.x (FtC.p c) i = FtC.k c)) ∧ (∃ l, IntsOf (FtC.hs c) l ∧ yesNo false (PairsD.y (FtC.p c) i ∈ l)) ∧ (True)
theorem fnR_run (β : BB) (fr : List Env) (c : FtC) (aT i : Nat) (q : Bool) (u1 u2 : Nat) (w1 w2 : Value) (e : Nat) (n t g : Nat) (X : Led) (Y : GL) (σ : Nat → Sup) : See (fnR_o β fr c aT i q u1 u2 w1 w2 e n t g X Y σ) (fnR_v β fr c aT i q u1 u2 w1 w2 e n t g X Y σ) := by obtain ⟨b1, b2, b3, w0⟩ := β; cases q <;> cases b3 <;> kernel_rfl
def fnN_o (β : BB) (fr : List Env) (c : FtC) (aT i : Nat) (q : Bool) (u1 u2 : Nat) (w1 w2 : Value) (e : Nat) (R q2 : Bool) (n t g : Nat) (X : Led) (Y : GL) (σ : Nat → Sup) : Out := Go (E2 β) (ftnI β fr c aT i q u1 u2 w1 w2 e R q2) (Hs.h 0x3060606060606030501021903050102190305010219030301075601565656040302021304) (.a (.v (.ref (c.p.ad i))) (.k fun _ v1 => .a (.n i) <| .a (.n i) <| .a (.v (.int (c.p.x i) (c.p.tx i))) <| .a (.n i) <| .a (.v (.int (c.p.y i) (c.p.ty i))) <| .a (.n i) <| .a (.b false) (.k fun _ v2 => .sp (c.p.x i = c.k) (Hs.h 0x4010101010106040404040404060209011a0b0b0a060008) (.a (.b true) <| .a (.b true) <| .a (.i (ftnI β fr c aT (i + 1) true (cond q u1 v2.t) (cond q u2 (v2.t + 1)) (.int (c.p.x i) (c.p.tx i)) (.int (c.p.y i) (c.p.ty i)) (cond q e (e + 2)) R q2)) (.k fun u _ => .a (.u u) .nil)) (Hs.h 0x401010101010604040404040406020008) (.a (.b false) <| .a (.i (ftnI β fr c aT (i + 1) true (cond q u1 v2.t) (cond q u2 (v2.t + 1)) (.int (c.p.x i) (c.p.tx i)) (.int (c.p.y i) (c.p.ty i)) (cond q e (e + 2)) R q2)) (.k fun u _ => .a (.u u) .nil))))) n t g X Y σ
abbrev fnN_v (β : BB) (fr : List Env) (c : FtC) (aT i : Nat) (q : Bool) (u1 u2 : Nat) (w1 w2 : Value) (e : Nat) (R q2 : Bool) (n t g : Nat) (X : Led) (Y : GL) (σ : Nat → Sup) : Prop :=
  ((FtC.ks c)[Int.toNat (Int.ofNat i)]? = some (Value.ref (PairsD.ad (FtC.p c) i))) ∧ (i < FtC.m c) ∧ (i < FtC.m c) ∧ (i < FtC.m c) ∧ (i < FtC.m c) ∧ (i < FtC.m c) ∧ (#[Value.int (PairsD.x (FtC.p c) i) (PairsD.tx (FtC.p c) i), Value.int (PairsD.y (FtC.p c) i) (PairsD.ty (FtC.p c) i)][Int.toNat 0]? = some (Value.int (PairsD.x (FtC.p c) i) (PairsD.tx (FtC.p c) i))) ∧ (i < FtC.m c) ∧ (#[Value.int (PairsD.x (FtC.p c) i) (PairsD.tx (FtC.p c) i), Value.int (PairsD.y (FtC.p c) i) (PairsD.ty (FtC.p c) i)][Int.toNat (0 + 1)]? = some (Value.int (PairsD.y (FtC.p c) i) (PairsD.ty (FtC.p c) i))) ∧ (i < FtC.m c) ∧ (#[Value.int (PairsD.x (FtC.p c) i) (PairsD.tx (FtC.p c) i), Value.int (PairsD.y (FtC.p c) i) (PairsD.ty (FtC.p c) i)][Int.toNat (0 + 1 + 1)]? = none) ∧ (((PairsD.x (FtC.p c) i = FtC.k c) → (yesNo true (PairsD.x (FtC.p c) i = FtC.k c)) ∧ (∃ l, IntsOf (FtC.hs c) l ∧ yesNo true (PairsD.y (FtC.p c) i ∈ l)) ∧ Sat (E2 β) (ftnI β fr c aT (i + 1) true (bif q then u1 else (σ 7).t) (bif q then u2 else (σ 7).t + 1) (Value.int (PairsD.x (FtC.p c) i) (PairsD.tx (FtC.p c) i)) (Value.int (PairsD.y (FtC.p c) i) (PairsD.ty (FtC.p c) i)) (bif q then e else e + 2) R q2) ∧ ((True) → (True))) ∧ (¬ (PairsD.x (FtC.p c) i = FtC.k c) → (yesNo false (PairsD.x (FtC.p c) i = FtC.k c)) ∧ Sat (E2 β) (ftnI β fr c aT (i + 1) true (bif q then u1 else (σ 7).t) (bif q then u2 else (σ 7).t + 1) (Value.int (PairsD.x (FtC.p c) i) (PairsD.tx (FtC.p c) i)) (Value.int (PairsD.y (FtC.p c) i) (PairsD.ty (FtC.p c) i)) (bif q then e else e + 2) R q2) ∧ ((True) → (True))))
theorem fnN_run (β : BB) (fr : List Env) (c : FtC) (aT i : Nat) (q : Bool) (u1 u2 : Nat) (w1 w2 : Value) (e : Nat) (R q2 : Bool) (n t g : Nat) (X : Led) (Y : GL) (σ : Nat → Sup) : See (fnN_o β fr c aT i q u1 u2 w1 w2 e R q2 n t g X Y σ) (fnN_v β fr c aT i q u1 u2 w1 w2 e R q2 n t g X Y σ) := by obtain ⟨b1, b2, b3, w0⟩ := β; cases q <;> cases R <;> cases b3 <;> kernel_rfl
end
theorem fn_sat {β : BB} (fr : List Env) {c : FtC} {aT : Nat} {hl : List Int} (hk : c.ks = refsN c.p.ad c.m) (hh : IntsOf c.hs hl) : ∀ (n i : Nat) (q : Bool) (u1 u2 : Nat) (w1 w2 : Value) (e : Nat) (R q2 : Bool), i + n = c.m → q2 = (q || decide (0 < n)) → (R = true ↔ ∀ j, i ≤ j → j < c.m → c.p.x j = c.k → c.p.y j ∈ hl) →
    Sat (E2 β) (ftnI β fr c aT i q u1 u2 w1 w2 e R q2) := by
  intro n
  induction n with
  | zero =>
    intro i q u1 u2 w1 w2 e R q2 hi hq hR
    obtain rfl : R = true := hR.mpr fun j h1 h2 => by omega
    rw [show q2 = q by rw [hq]; exact Bool.or_false q]
    exact sat_of (fun n t g X Y σ => fnE_run β fr c aT i q u1 u2 w1 w2 e n t g X Y σ) fun n t g X Y σ => ⟨by rw [hk, Array.getElem?_eq_none_iff, refsN_size]; show c.m ≤ i; omega, trivial⟩
  | succ n ih =>
    intro i q u1 u2 w1 w2 e R q2 hi hq hR
    have him : i < c.m := by omega
    have hq2 : q2 = true := by rw [hq, decide_eq_true (Nat.succ_pos n), Bool.or_true]
    have hg : c.ks[i]? = some (.ref (c.p.ad i)) := by rw [hk]; exact refsN_at _ him
    have go : (c.p.x i = c.k → c.p.y i ∈ hl) → (R = true ↔ ∀ j, i + 1 ≤ j → j < c.m → c.p.x j = c.k → c.p.y j ∈ hl) := fun h => hR.trans ⟨fun f j h1 h2 => f j (by omega) h2, fun f j h1 h2 h3 => by
      by_cases e : j = i
      · subst e; exact h h3
      · exact f j (by omega) h2 h3⟩
    by_cases hx : c.p.x i = c.k
    · by_cases hy : c.p.y i ∈ hl
      · exact sat_of (fun n t g X Y σ => fnN_run β fr c aT i q u1 u2 w1 w2 e R q2 n t g X Y σ) fun n t g X Y σ => ⟨hg, him, him, him, him, him, rfl, him, rfl, him, rfl, fun _ => ⟨hx, ⟨hl, hh, hy⟩, ih (i + 1) true _ _ _ _ _ R q2 (by omega) (by rw [hq2]; rfl) (go fun _ => hy), id⟩, fun h => absurd hx h⟩
      · obtain rfl : R = false := Bool.eq_false_iff.mpr fun h => hy (hR.mp h i (Nat.le_refl i) him hx)
        subst hq2
        exact sat_of (fun n t g X Y σ => fnR_run β fr c aT i q u1 u2 w1 w2 e n t g X Y σ) fun n t g X Y σ => ⟨hg, him, him, him, him, him, rfl, him, rfl, him, rfl, hx, ⟨hl, hh, hy⟩, trivial⟩
    · exact sat_of (fun n t g X Y σ => fnN_run β fr c aT i q u1 u2 w1 w2 e R q2 n t g X Y σ) fun n t g X Y σ => ⟨hg, him, him, him, him, him, rfl, him, rfl, him, rfl, fun h => absurd h hx, fun _ => ⟨hx, ih (i + 1) true _ _ _ _ _ R q2 (by omega) (by rw [hq2]; rfl) (go fun h => absurd h hx), id⟩⟩
noncomputable section
def ocI (β : BB) (fr : List Env) (n0 loc aT aA aH eH ch i j : Nat) (D : ArrD) (hs as : Array Value) (ea el : Nat) (q : Bool) (u : Nat) (w : Value) (q2 : Bool) (R : List Int) : Inst where
  cu := cu0 (compC (TT β) 240 2 n0 loc [(Mine.S "head", ch)] 0 (.ref aT) (.ref aA))
  fr := fr
  dep := 510
  un := 3500
  pre := [.o loc (dO (cond q #[β.d "other" u w] #[]) el), .o aT (liO (D.ad j) (Int.ofNat i)), D.ent 6, .o ch (ceO aH), .o aH (lsO hs eH), .o aA (lsO as ea)]
  post u := (.ok .next, [.o loc (dO (cond q2 #[β.d "other" (u.k 0 2) (u.vv 0)] #[]) (u.k 0 1)), D.ent 6, .o ch (ceO aH), .o aH (lsO hs eH), .o aA (lsO (u.xs 0) (u.k 0 0))], IntsOf (u.xs 0) R)
def ocE_o (β : BB) (fr : List Env) (n0 loc aT aA aH eH ch i j : Nat) (D : ArrD) (hs as : Array Value) (ea el : Nat) (q : Bool) (u : Nat) (w : Value) (R : List Int) (n t g : Nat) (X : Led) (Y : GL) (σ : Nat → Sup) : Out := Go (E2 β) (ocI β fr n0 loc aT aA aH eH ch i j D hs as ea el q u w q R) (Hs.h 0x4040404040306030302021304) (.a (.n j) <| .a (.b false) (.a (.u { mkU noS [ea, el, u] w with xs := fun _ => as }) .nil)) n t g X Y σ
abbrev ocE_v (β : BB) (fr : List Env) (n0 loc aT aA aH eH ch i j : Nat) (D : ArrD) (hs as : Array Value) (ea el : Nat) (q : Bool) (u : Nat) (w : Value) (R : List Int) (n t g : Nat) (X : Led) (Y : GL) (σ : Nat → Sup) : Prop :=
  (j < 6) ∧ ((ArrD.xs D j)[Int.toNat (Int.ofNat i)]? = none) ∧ (IntsOf as R)
theorem ocE_run (β : BB) (fr : List Env) (n0 loc aT aA aH eH ch i j : Nat) (D : ArrD) (hs as : Array Value) (ea el : Nat) (q : Bool) (u : Nat) (w : Value) (R : List Int) (n t g : Nat) (X : Led) (Y : GL) (σ : Nat → Sup) : See (ocE_o β fr n0 loc aT aA aH eH ch i j D hs as ea el q u w R n t g X Y σ) (ocE_v β fr n0 loc aT aA aH eH ch i j D hs as ea el q u w R n t g X Y σ) := by obtain ⟨b1, b2, b3, w0⟩ := β; cases q <;> cases b3 <;> kernel_rfl
def ocN_o (β : BB) (fr : List Env) (n0 loc aT aA aH eH ch i j : Nat) (D : ArrD) (hs as : Array Value) (ea el : Nat) (q : Bool) (u : Nat) (w : Value) (q2 : Bool) (R : List Int) (z : Int) (tz : Nat) (l : List Int) (n t g : Nat) (X : Led) (Y : GL) (σ : Nat → Sup) : Out := Go (E2 β) (ocI β fr n0 loc aT aA aH eH ch i j D hs as ea el q u w q2 R) (Hs.h 0x30707060303030302021304) (.a (.n j) <| .a (.v (.int z tz)) (.k fun _ v1 => .sp (z ∈ l) (Hs.h 0x101010101010601010101010106020601140305011a) (.a (.b true) <| .a (.i (ocI β fr n0 loc aT aA aH eH ch (i + 1) j D hs (as.push (.int z tz)) (ea + 1) (cond q el (el + 1)) true (cond q u v1.t) (.int z tz) q2 R)) (.k fun u3 _ => .a (.u u3) .nil)) (Hs.h 0x1010101010106010101010101060205011a) (.a (.b false) <| .a (.i (ocI β fr n0 loc aT aA aH eH ch (i + 1) j D hs as ea (cond q el (el + 1)) true (cond q u v1.t) (.int z tz) q2 R)) (.k fun u3 _ => .a (.u u3) .nil)))) n t g X Y σ
abbrev ocN_v (β : BB) (fr : List Env) (n0 loc aT aA aH eH ch i j : Nat) (D : ArrD) (hs as : Array Value) (ea el : Nat) (q : Bool) (u : Nat) (w : Value) (q2 : Bool) (R : List Int) (z : Int) (tz : Nat) (l : List Int) (n t g : Nat) (X : Led) (Y : GL) (σ : Nat → Sup) : Prop :=
  (j < 6) ∧ ((ArrD.xs D j)[Int.toNat (Int.ofNat i)]? = some (Value.int z tz)) ∧ (((z ∈ l) → (∃ l, IntsOf hs l ∧ yesNo true (z ∈ l)) ∧ (Array.size as ≤ BIG) ∧ Sat (E2 β) (ocI β fr n0 loc aT aA aH eH ch (i + 1) j D hs (Array.push as (Value.int z tz)) (ea + 1) (bif q then el else el + 1) true (bif q then u else (σ 1).t) (Value.int z tz) q2 R) ∧ ((IntsOf ((σ 6).xs 0) R) → (IntsOf ((σ 6).xs 0) R))) ∧ (¬ (z ∈ l) → (∃ l, IntsOf hs l ∧ yesNo false (z ∈ l)) ∧ Sat (E2 β) (ocI β fr n0 loc aT aA aH eH ch (i + 1) j D hs as ea (bif q then el else el + 1) true (bif q then u else (σ 1).t) (Value.int z tz) q2 R) ∧ ((IntsOf ((σ 4).xs 0) R) → (IntsOf ((σ 4).xs 0) R))))
theorem ocN_run (β : BB) (fr : List Env) (n0 loc aT aA aH eH ch i j : Nat) (D : ArrD) (hs as : Array Value) (ea el : Nat) (q : Bool) (u : Nat) (w : Value) (q2 : Bool) (R : List Int) (z : Int) (tz : Nat) (l : List Int) (n t g : Nat) (X : Led) (Y : GL) (σ : Nat → Sup) : See (ocN_o β fr n0 loc aT aA aH eH ch i j D hs as ea el q u w q2 R z tz l n t g X Y σ) (ocN_v β fr n0 loc aT aA aH eH ch i j D hs as ea el q u w q2 R z tz l n t g X Y σ) := by obtain ⟨b1, b2, b3, w0⟩ := β; cases q <;> cases b3 <;> kernel_rfl
end
def inH (hl l : List Int) : List Int := l.filter fun z => decide (z ∈ hl)
theorem oc_sat {β : BB} (fr : List Env) {n0 loc aT aA aH eH ch j : Nat} {D : ArrD} {hs : Array Value} {gl hl : List Int} (hj : j < 6) (hg : IntsOf (D.xs j) gl) (hh : IntsOf hs hl) (h60 : gl.length ≤ 60) : ∀ (k i : Nat) (as : Array Value) (acc : List Int) (ea el : Nat) (q : Bool) (u : Nat) (w : Value) (q2 : Bool), gl.length = i + k → q2 = (q || decide (0 < k)) → IntsOf as acc → acc.length ≤ i →
    Sat (E2 β) (ocI β fr n0 loc aT aA aH eH ch i j D hs as ea el q u w q2 (acc ++ inH hl (gl.drop i))) := by
  intro k
  induction k with
  | zero =>
    intro i as acc ea el q u w q2 hk hq ha hi
    rw [show q2 = q by rw [hq]; exact Bool.or_false q, List.drop_of_length_le (show gl.length ≤ i from Nat.le_of_eq hk), show inH hl [] = [] from rfl, List.append_nil]
    exact sat_of (fun n t g X Y σ => ocE_run β fr n0 loc aT aA aH eH ch i j D hs as ea el q u w acc n t g X Y σ) fun n t g X Y σ => ⟨hj, hg.end (Nat.le_of_eq hk), ha⟩
  | succ k ih =>
    intro i as acc ea el q u w q2 hk hq ha hi
    obtain ⟨z, h1, h2⟩ := drop_next hk
    obtain ⟨tz, h3⟩ := hg.at h1
    have hq2 : q2 = true := by rw [hq, decide_eq_true (Nat.succ_pos k), Bool.or_true]
    have hsz : as.size ≤ BIG := by rw [ha.len]; exact Nat.le_trans (by omega : acc.length ≤ 60) (by decide)
    rw [h2]
    refine sat_of (fun n t g X Y σ => ocN_run β fr n0 loc aT aA aH eH ch i j D hs as ea el q u w q2 _ z tz hl n t g X Y σ) fun n t g X Y σ => ⟨hj, h3, fun hz => ⟨⟨hl, hh, hz⟩, hsz, ?_, id⟩, fun hz => ⟨⟨hl, hh, hz⟩, ?_, id⟩⟩
    · rw [show inH hl (z :: gl.drop (i + 1)) = [z] ++ inH hl (gl.drop (i + 1)) from List.filter_cons_of_pos (decide_eq_true hz), ← List.append_assoc]
      exact ih (i + 1) _ _ _ _ true _ _ q2 (by omega) (by rw [hq2]; rfl) (ha.push z tz) (by rw [List.length_append, List.length_singleton]; omega)
    · rw [show inH hl (z :: gl.drop (i + 1)) = inH hl (gl.drop (i + 1)) from List.filter_cons_of_neg (by simpa using hz)]
      exact ih (i + 1) _ _ _ _ true _ _ q2 (by omega) (by rw [hq2]; rfl) ha (by omega)
noncomputable section
def andT (m : Sem Bool) (rest : List Expr) (env : Env) : Sem Bool := PySem.W.R.bindR m fun b => match BoolOp.And, b with
  | .And, false => .pure false
  | .Or, true => .pure true
  | _, _ => isTrueT (.BoolOp .And rest default) env (.pure .none)
def ctxIf (c : Code) (j k : Nat) (m : Sem Bool) : Sem Fin := match c with
  | .forLoop t it b o env => match b.drop j with
    | s :: rest => match s with
      | .If test body orelse _ => match test with
        | .BoolOp _ vs _ => PySem.W.R.onRaiseR (PySem.W.R.bindR (PySem.W.R.bindR (PySem.W.R.bindR (andT m (vs.drop (k + 1)) env) fun ok => if ok = true then execsT body env else execsT orelse env) fun f : Flow => match f with
            | .next => execsT rest env
            | f => .pure f) fun f : Flow => match f with
            | .next => .pure (.again (.forLoop t it b o env))
            | .cont => .pure (.again (.forLoop t it b o env))
            | .brk => .pure (.done .next)
            | .ret v => .pure (.done (.ret v))) fun x => PySem.W.R.bindR (noteT x env) fun _ => treesT x
        | _ => .unsupported ""
      | _ => .unsupported ""
    | [] => .unsupported ""
  | _ => .unsupported ""
def hdU (xs : Array Value) : Sup := { noS with v := xs.toList.tail, vv := fun _ => xs.toList.headD .none }
end
noncomputable section
def glF (β : BB) (c : FtC) (q : Bool) (u1 u2 : Nat) (w1 w2 : Value) (gs : Bool) (u3 u4 : Nat) (w3 w4 : Value) (e : Nat) : Obj := frD (cond q (cond gs
  #[β.d "k" c.t1 (.int c.k c.tk), β.d "groups" c.t2 (.ref c.aG), β.d "needs" c.t3 (.ref c.aS), β.d "later" u1 w1, β.d "earlier" u2 w2, β.d "group" u3 w3, β.d "begun" u4 w4]
  #[β.d "k" c.t1 (.int c.k c.tk), β.d "groups" c.t2 (.ref c.aG), β.d "needs" c.t3 (.ref c.aS), β.d "later" u1 w1, β.d "earlier" u2 w2]) (cond gs
  #[β.d "k" c.t1 (.int c.k c.tk), β.d "groups" c.t2 (.ref c.aG), β.d "needs" c.t3 (.ref c.aS), β.d "group" u3 w3, β.d "begun" u4 w4]
  #[β.d "k" c.t1 (.int c.k c.tk), β.d "groups" c.t2 (.ref c.aG), β.d "needs" c.t3 (.ref c.aS)])) e
def glI (β : BB) (fr : List Env) (c : FtC) (aT i : Nat) (D : ArrD) (q : Bool) (u1 u2 : Nat) (w1 w2 : Value) (gs : Bool) (u3 u4 : Nat) (w3 w4 : Value) (e : Nat) (R : Bool) : Inst where
  cu := cu0 (loopC (TT β) 240 1 c.n0 [(Mine.S "head", c.ch)] (.ref aT))
  fr := fr
  dep := 470
  un := 3000
  pre := [.o c.n0 (glF β c q u1 u2 w1 w2 gs u3 u4 w3 w4 e), .o aT (liO c.aG (Int.ofNat i)), .o c.aG (lsO D.refs 6), D.ent 6, .o c.ch (ceO c.aH), .o c.aH (lsO c.hs c.eH)]
  post u := (.ok (cond R .next (.ret (.bool false))), [.o c.aG (lsO D.refs 6), D.ent 6, .o c.ch (ceO c.aH), .o c.aH (lsO c.hs c.eH)], True)
def glN_o (β : BB) (fr : List Env) (c : FtC) (aT i : Nat) (D : ArrD) (q : Bool) (u1 u2 : Nat) (w1 w2 : Value) (gs : Bool) (u3 u4 : Nat) (w3 w4 : Value) (e : Nat) (R : Bool) (qg : Bool) (L gl : List Int) (n t g : Nat) (X : Led) (Y : GL) (σ : Nat → Sup) : Out := Go (E2 β) (glI β fr c aT i D q u1 u2 w1 w2 gs u3 u4 w3 w4 e R) (Hs.h 772) (.sp (c.k ∈ gl) (cond β.b2 (cond qg (Hs.h 0x30101010105020202060606060202011a5454080803030308080105050502010602010301075601565603030303020213) (Hs.h 0x30101010105020202060606060202011a545408080308080105050502010602010301075601565603030303020213)) (cond qg (Hs.h 0x30101010105020202060606060202011a5454080803030308080105050502010602050105010505010301075601565603030303020213) (Hs.h 0x30101010105020202060606060202011a545408080308080105050502010602050105010505010301075601565603030303020213))) (.a (.v (.ref (D.ad i))) (.k fun _ v1 => .a (.n i) <| .a (.i (ocI β fr c.n0 (v1.n + 2) v1.n (v1.n + 1) c.aH c.eH c.ch 0 i D c.hs #[] 0 0 false 0 .none qg L)) (.k fun b bw => .a (.n i) <| .a (.b true) <| .a (.i (glI β fr c aT (i + 1) D q u1 u2 w1 w2 true (cond gs u3 v1.t) (cond gs u4 bw.t) (.ref (D.ad i)) (.ref (v1.n + 1)) (cond gs e (e + 2)) R)) (.k fun z _ => .a (.u z) .nil)))) (cond β.b2 (cond qg (Hs.h 0x3080308050802011a5454080803030308080105050502010602010301075601565603030303020213) (Hs.h 0x3080308050802011a545408080308080105050502010602010301075601565603030303020213)) (cond qg (Hs.h 0x3080308050802011a5454080803030308080105050502010602050105010505010301075601565603030303020213) (Hs.h 0x3080308050802011a545408080308080105050502010602050105010505010301075601565603030303020213))) (.a (.v (.ref (D.ad i))) (.k fun _ v1 => .a (.n i) <| .a (.i (ocI β fr c.n0 (v1.n + 2) v1.n (v1.n + 1) c.aH c.eH c.ch 0 i D c.hs #[] 0 0 false 0 .none qg L)) (.k fun b bw => .a (.n i) <| .a (.b false) (.k fun _ wn => .a (.rm (fun m => ctxIf (loopC (TT β) 240 1 c.n0 [(Mine.S "head", c.ch)] (.ref aT)) 1 1 (askT m)) (cmpF .NotEq (v1.n + 1) wn.n)) <| .sp (L = []) (Hs.h 0x4010101010504040407070706020403040301040304010301060105) (.a (.cv [.o (v1.n + 1) (lsO (b.xs 0) (b.k 0 0))] [.o (v1.n + 1) (lsO (arrB false (hdU (b.xs 0))) (b.k 0 0))]) <| .a (.i (glI β fr c aT (i + 1) D q u1 u2 w1 w2 true (cond gs u3 v1.t) (cond gs u4 bw.t) (.ref (D.ad i)) (.ref (v1.n + 1)) (cond gs e (e + 2)) R)) (.k fun z _ => .a (.u z) .nil)) (Hs.h 0x401010101050404040707070602000a04011f09010101011f090101040304010301060105) (.a (.cv [.o (v1.n + 1) (lsO (b.xs 0) (b.k 0 0))] [.o (v1.n + 1) (lsO (arrB true (hdU (b.xs 0))) (b.k 0 0))]) <| .a (.n L.length) <| .a (.n i) <| .a (.n gl.length) <| .a (.b false) <| .a (.i (glI β fr c aT (i + 1) D q u1 u2 w1 w2 true (cond gs u3 v1.t) (cond gs u4 bw.t) (.ref (D.ad i)) (.ref (v1.n + 1)) (cond gs e (e + 2)) R)) (.k fun z _ => .a (.u z) .nil))))))) n t g X Y σ
abbrev glN_v (β : BB) (fr : List Env) (c : FtC) (aT i : Nat) (D : ArrD) (q : Bool) (u1 u2 : Nat) (w1 w2 : Value) (gs : Bool) (u3 u4 : Nat) (w3 w4 : Value) (e : Nat) (R : Bool) (qg : Bool) (L gl : List Int) (n t g : Nat) (X : Led) (Y : GL) (σ : Nat → Sup) : Prop :=
  (((FtC.k c ∈ gl) → ((ArrD.refs D)[Int.toNat (Int.ofNat i)]? = some (Value.ref (ArrD.ad D i))) ∧ (i < 6) ∧ (i < 6) ∧ (i < 6) ∧ Sat (E2 β) (ocI β fr (FtC.n0 c) ((σ 1).n + 2) ((σ 1).n) ((σ 1).n + 1) (FtC.aH c) (FtC.eH c) (FtC.ch c) 0 i D (FtC.hs c) #[] 0 0 false 0 Value.none qg L) ∧ ((IntsOf ((σ 2).xs 0) L) → (i < 6) ∧ (i < 6) ∧ (i < 6) ∧ (∃ l, IntsOf (ArrD.xs D i) l ∧ yesNo true (FtC.k c ∈ l)) ∧ Sat (E2 β) (glI β fr c aT (i + 1) D q u1 u2 w1 w2 true (bif gs then u3 else (σ 1).t) (bif gs then u4 else (σ 3).t) (Value.ref (ArrD.ad D i)) (Value.ref ((σ 1).n + (1 : Addr))) (bif gs then e else e + 2) R) ∧ ((True) → (True)))) ∧ (¬ (FtC.k c ∈ gl) → ((ArrD.refs D)[Int.toNat (Int.ofNat i)]? = some (Value.ref (ArrD.ad D i))) ∧ (i < 6) ∧ (i < 6) ∧ (i < 6) ∧ Sat (E2 β) (ocI β fr (FtC.n0 c) ((σ 1).n + 2) ((σ 1).n) ((σ 1).n + 1) (FtC.aH c) (FtC.eH c) (FtC.ch c) 0 i D (FtC.hs c) #[] 0 0 false 0 Value.none qg L) ∧ ((IntsOf ((σ 2).xs 0) L) → (i < 6) ∧ (i < 6) ∧ (i < 6) ∧ (∃ l, IntsOf (ArrD.xs D i) l ∧ yesNo false (FtC.k c ∈ l)) ∧ (RoomF (cmpF CmpOp.NotEq ((σ 1).n + 1) ((σ 5).n))) ∧ (((L = []) → (Conv [Ent.o ((σ 1).n + (1 : Addr)) (lsO ((σ 2).xs 0) ((σ 2).k 0 0))] [Ent.o ((σ 1).n + (1 : Addr)) (lsO (arrB false (hdU ((σ 2).xs 0))) ((σ 2).k 0 0))]) ∧ Sat (E2 β) (glI β fr c aT (i + 1) D q u1 u2 w1 w2 true (bif gs then u3 else (σ 1).t) (bif gs then u4 else (σ 3).t) (Value.ref (ArrD.ad D i)) (Value.ref ((σ 1).n + (1 : Addr))) (bif gs then e else e + 2) R) ∧ ((True) → (True))) ∧ (¬ (L = []) → (Conv [Ent.o ((σ 1).n + (1 : Addr)) (lsO ((σ 2).xs 0) ((σ 2).k 0 0))] [Ent.o ((σ 1).n + (1 : Addr)) (lsO (arrB true (hdU ((σ 2).xs 0))) ((σ 2).k 0 0))]) ∧ (Array.size (arrB true (hdU ((σ 2).xs 0))) = List.length L) ∧ (List.length L ≤ BIG) ∧ (i < 6) ∧ (Array.size (ArrD.xs D i) = List.length gl) ∧ (List.length gl ≤ BIG) ∧ (yesNo false (Int.NonNeg (Int.ofNat (List.length gl) - (Int.ofNat (List.length L) + 1)))) ∧ Sat (E2 β) (glI β fr c aT (i + 1) D q u1 u2 w1 w2 true (bif gs then u3 else (σ 1).t) (bif gs then u4 else (σ 3).t) (Value.ref (ArrD.ad D i)) (Value.ref ((σ 1).n + (1 : Addr))) (bif gs then e else e + 2) R) ∧ ((True) → (True)))))))
theorem glN_run (β : BB) (fr : List Env) (c : FtC) (aT i : Nat) (D : ArrD) (q : Bool) (u1 u2 : Nat) (w1 w2 : Value) (gs : Bool) (u3 u4 : Nat) (w3 w4 : Value) (e : Nat) (R : Bool) (qg : Bool) (L gl : List Int) (n t g : Nat) (X : Led) (Y : GL) (σ : Nat → Sup) : See (glN_o β fr c aT i D q u1 u2 w1 w2 gs u3 u4 w3 w4 e R qg L gl n t g X Y σ) (glN_v β fr c aT i D q u1 u2 w1 w2 gs u3 u4 w3 w4 e R qg L gl n t g X Y σ) := by obtain ⟨b1, b2, b3, w0⟩ := β; cases q <;> cases gs <;> cases R <;> cases qg <;> cases b2 <;> cases b3 <;> kernel_rfl
def glR_o (β : BB) (fr : List Env) (c : FtC) (aT i : Nat) (D : ArrD) (q : Bool) (u1 u2 : Nat) (w1 w2 : Value) (gs : Bool) (u3 u4 : Nat) (w3 w4 : Value) (e : Nat) (qg : Bool) (L gl : List Int) (n t g : Nat) (X : Led) (Y : GL) (σ : Nat → Sup) : Out := Go (E2 β) (glI β fr c aT i D q u1 u2 w1 w2 gs u3 u4 w3 w4 e false) (cond β.b2 (cond qg (Hs.h 0x60404040905000a04011f09010101011f090101040304010301060105080308050802011a545408080303030808010505050201060201030107560156560303030302021304) (Hs.h 0x60404040905000a04011f09010101011f090101040304010301060105080308050802011a54540808030808010505050201060201030107560156560303030302021304)) (cond qg (Hs.h 0x60404040905000a04011f09010101011f090101040304010301060105080308050802011a545408080303030808010505050201060205010501050501030107560156560303030302021304) (Hs.h 0x60404040905000a04011f09010101011f090101040304010301060105080308050802011a54540808030808010505050201060205010501050501030107560156560303030302021304))) (.a (.v (.ref (D.ad i))) (.k fun _ v1 => .a (.n i) <| .a (.i (ocI β fr c.n0 (v1.n + 2) v1.n (v1.n + 1) c.aH c.eH c.ch 0 i D c.hs #[] 0 0 false 0 .none qg L)) (.k fun b bw => .a (.n i) <| .a (.b false) (.k fun _ wn => .a (.rm (fun m => ctxIf (loopC (TT β) 240 1 c.n0 [(Mine.S "head", c.ch)] (.ref aT)) 1 1 (askT m)) (cmpF .NotEq (v1.n + 1) wn.n)) <| .a (.cv [.o (v1.n + 1) (lsO (b.xs 0) (b.k 0 0))] [.o (v1.n + 1) (lsO (arrB true (hdU (b.xs 0))) (b.k 0 0))]) <| .a (.n L.length) <| .a (.n i) <| .a (.n gl.length) <| .a (.b true) <| .a (.u noS) .nil)))) n t g X Y σ
abbrev glR_v (β : BB) (fr : List Env) (c : FtC) (aT i : Nat) (D : ArrD) (q : Bool) (u1 u2 : Nat) (w1 w2 : Value) (gs : Bool) (u3 u4 : Nat) (w3 w4 : Value) (e : Nat) (qg : Bool) (L gl : List Int) (n t g : Nat) (X : Led) (Y : GL) (σ : Nat → Sup) : Prop :=
  ((ArrD.refs D)[Int.toNat (Int.ofNat i)]? = some (Value.ref (ArrD.ad D i))) ∧ (i < 6) ∧ (i < 6) ∧ (i < 6) ∧ Sat (E2 β) (ocI β fr (FtC.n0 c) ((σ 1).n + 2) ((σ 1).n) ((σ 1).n + 1) (FtC.aH c) (FtC.eH c) (FtC.ch c) 0 i D (FtC.hs c) #[] 0 0 false 0 Value.none qg L) ∧ ((IntsOf ((σ 2).xs 0) L) → (i < 6) ∧ (i < 6) ∧ (i < 6) ∧ (∃ l, IntsOf (ArrD.xs D i) l ∧ yesNo false (FtC.k c ∈ l)) ∧ (RoomF (cmpF CmpOp.NotEq ((σ 1).n + 1) ((σ 5).n))) ∧ (Conv [Ent.o ((σ 1).n + (1 : Addr)) (lsO ((σ 2).xs 0) ((σ 2).k 0 0))] [Ent.o ((σ 1).n + (1 : Addr)) (lsO (arrB true (hdU ((σ 2).xs 0))) ((σ 2).k 0 0))]) ∧ (Array.size (arrB true (hdU ((σ 2).xs 0))) = List.length L) ∧ (List.length L ≤ BIG) ∧ (i < 6) ∧ (Array.size (ArrD.xs D i) = List.length gl) ∧ (List.length gl ≤ BIG) ∧ (yesNo true (Int.NonNeg (Int.ofNat (List.length gl) - (Int.ofNat (List.length L) + 1)))) ∧ (True))
theorem glR_run (β : BB) (fr : List Env) (c : FtC) (aT i : Nat) (D : ArrD) (q : Bool) (u1 u2 : Nat) (w1 w2 : Value) (gs : Bool) (u3 u4 : Nat) (w3 w4 : Value) (e : Nat) (qg : Bool) (L gl : List Int) (n t g : Nat) (X : Led) (Y : GL) (σ : Nat → Sup) : See (glR_o β fr c aT i D q u1 u2 w1 w2 gs u3 u4 w3 w4 e qg L gl n t g X Y σ) (glR_v β fr c aT i D q u1 u2 w1 w2 gs u3 u4 w3 w4 e qg L gl n t g X Y σ) := by obtain ⟨b1, b2, b3, w0⟩ := β; cases q <;> cases gs <;> cases qg <;> cases b2 <;> cases b3 <;> kernel_rfl
def glE_o (β : BB) (fr : List Env) (c : FtC) (aT i : Nat) (D : ArrD) (q : Bool) (u1 u2 : Nat) (w1 w2 : Value) (gs : Bool) (u3 u4 : Nat) (w3 w4 : Value) (e : Nat) (n t g : Nat) (X : Led) (Y : GL) (σ : Nat → Sup) : Out := Go (E2 β) (glI β fr c aT i D q u1 u2 w1 w2 gs u3 u4 w3 w4 e true) (Hs.h 0x5050505050501030302021304) (.a (.b false) (.a (.u noS) .nil)) n t g X Y σ
abbrev glE_v (β : BB) (fr : List Env) (c : FtC) (aT i : Nat) (D : ArrD) (q : Bool) (u1 u2 : Nat) (w1 w2 : Value) (gs : Bool) (u3 u4 : Nat) (w3 w4 : Value) (e : Nat) (n t g : Nat) (X : Led) (Y : GL) (σ : Nat → Sup) : Prop :=
  ((ArrD.refs D)[Int.toNat (Int.ofNat i)]? = none) ∧ (True)
theorem glE_run (β : BB) (fr : List Env) (c : FtC) (aT i : Nat) (D : ArrD) (q : Bool) (u1 u2 : Nat) (w1 w2 : Value) (gs : Bool) (u3 u4 : Nat) (w3 w4 : Value) (e : Nat) (n t g : Nat) (X : Led) (Y : GL) (σ : Nat → Sup) : See (glE_o β fr c aT i D q u1 u2 w1 w2 gs u3 u4 w3 w4 e n t g X Y σ) (glE_v β fr c aT i D q u1 u2 w1 w2 gs u3 u4 w3 w4 e n t g X Y σ) := by obtain ⟨b1, b2, b3, w0⟩ := β; cases q <;> cases gs <;> cases b3 <;> kernel_rfl
end
def gok (hl : List Int) (k : Int) (gl : List Int) : Prop := k ∈ gl ∨ inH hl gl = [] ∨ gl.length ≤ (inH hl gl).length
theorem arrB_hd {xs : Array Value} {l : List Int} (h : IntsOf xs l) {b : Bool} (hb : b = !l.isEmpty) : arrB b (hdU xs) = xs := by
  obtain ⟨xs⟩ := xs
  have h : xs.map ofInt = l.map some := h
  cases l with
  | nil =>
    cases xs with
    | nil => rw [hb]; rfl
    | cons => cases h
  | cons z l =>
    cases xs with
    | nil => cases h
    | cons v vs => rw [hb]; rfl
theorem conv_hd {xs : Array Value} {l : List Int} (h : IntsOf xs l) {b : Bool} (hb : b = !l.isEmpty) (a e : Nat) : Conv [.o a (lsO xs e)] [.o a (lsO (arrB b (hdU xs)) e)] := by
  rw [arrB_hd h hb]; exact ⟨.refl _, rfl⟩
theorem refs6_end (D : ArrD) : D.refs[(Int.ofNat 6).toNat]? = none := rfl
theorem refs6_at (D : ArrD) : ∀ i, i < 6 → D.refs[(Int.ofNat i).toNat]? = some (.ref (D.ad i)) := six_of rfl rfl rfl rfl rfl rfl
theorem gl_sat {β : BB} (fr : List Env) {c : FtC} {aT : Nat} {D : ArrD} {hl : List Int} {gls : Nat → List Int} (hh : IntsOf c.hs hl) (hg : ∀ j, j < 6 → IntsOf (D.xs j) (gls j) ∧ (gls j).length ≤ 60) {q : Bool} {u1 u2 : Nat} {w1 w2 : Value} : ∀ (n i : Nat) (gs : Bool) (u3 u4 : Nat) (w3 w4 : Value) (e : Nat) (R : Bool), i + n = 6 → (R = true ↔ ∀ j, i ≤ j → j < 6 → gok hl c.k (gls j)) →
    Sat (E2 β) (glI β fr c aT i D q u1 u2 w1 w2 gs u3 u4 w3 w4 e R) := by
  intro n
  induction n with
  | zero =>
    intro i gs u3 u4 w3 w4 e R hi hR
    obtain rfl : i = 6 := hi
    obtain rfl : R = true := hR.mpr fun j h1 h2 => by omega
    exact sat_of (fun n t g X Y σ => glE_run β fr c aT 6 D q u1 u2 w1 w2 gs u3 u4 w3 w4 e n t g X Y σ) fun n t g X Y σ => ⟨refs6_end D, trivial⟩
  | succ n ih =>
    intro i gs u3 u4 w3 w4 e R hi hR
    have h6 : i < 6 := by omega
    obtain ⟨hx, h60⟩ := hg i h6
    have hr := refs6_at D i h6
    have oc := fun n0 loc aT aA => oc_sat (β := β) fr (n0 := n0) (loc := loc) (aT := aT) (aA := aA) (aH := c.aH) (eH := c.eH) (ch := c.ch) (D := D) h6 hx hh h60 (gls i).length 0 #[] [] 0 0 false 0 .none _ (Nat.zero_add _).symm rfl IntsOf.nil (Nat.le_refl 0)
    have go : gok hl c.k (gls i) → (R = true ↔ ∀ j, i + 1 ≤ j → j < 6 → gok hl c.k (gls j)) := fun h => hR.trans ⟨fun f j h1 h2 => f j (by omega) h2, fun f j h1 h2 => by
      by_cases e : j = i
      · rw [e]; exact h
      · exact f j (by omega) h2⟩
    have big : ∀ l : List Int, l.length ≤ 60 → l.length ≤ BIG := fun l h => Nat.le_trans h (by decide)
    have hle : (inH hl (gls i)).length ≤ 60 := Nat.le_trans (List.length_filter_le ..) h60
    by_cases hc : gok hl c.k (gls i)
    · refine sat_of (fun n t g X Y σ => glN_run β fr c aT i D q u1 u2 w1 w2 gs u3 u4 w3 w4 e R _ (inH hl (gls i)) (gls i) n t g X Y σ) fun n t g X Y σ => ⟨fun hk => ⟨hr, h6, h6, h6, oc _ _ _ _, fun hb => ⟨h6, h6, h6, ⟨_, hx, hk⟩, ih (i + 1) true _ _ _ _ _ R (by omega) (go hc), id⟩⟩, fun hk => ⟨hr, h6, h6, h6, oc _ _ _ _, fun hb => ⟨h6, h6, h6, ⟨_, hx, hk⟩, cmpF_ne _ _, fun hL => ⟨conv_hd hb (by rw [hL]; rfl) _ _, ih (i + 1) true _ _ _ _ _ R (by omega) (go hc), id⟩, fun hL => ?_⟩⟩⟩
      have he : true = !(inH hl (gls i)).isEmpty := by rw [List.isEmpty_eq_false_iff.mpr hL]; rfl
      refine ⟨conv_hd hb he _ _, by rw [arrB_hd hb he]; exact hb.len, big _ hle, h6, hx.len, big _ h60, fun h => ?_, ih (i + 1) true _ _ _ _ _ R (by omega) (go hc), id⟩
      have h : Int.ofNat (inH hl (gls i)).length < Int.ofNat (gls i).length := h
      exact absurd (Int.ofNat_lt.mp h) (Nat.not_lt.mpr ((hc.resolve_left hk).resolve_left hL))
    · obtain rfl : R = false := Bool.eq_false_iff.mpr fun h => hc (hR.mp h i (Nat.le_refl i) h6)
      have hk : c.k ∉ gls i := fun h => hc (.inl h)
      have hL : inH hl (gls i) ≠ [] := fun h => hc (.inr (.inl h))
      have he : true = !(inH hl (gls i)).isEmpty := by rw [List.isEmpty_eq_false_iff.mpr hL]; rfl
      refine sat_of (fun n t g X Y σ => glR_run β fr c aT i D q u1 u2 w1 w2 gs u3 u4 w3 w4 e _ (inH hl (gls i)) (gls i) n t g X Y σ) fun n t g X Y σ => ⟨hr, h6, h6, h6, oc _ _ _ _, fun hb => ⟨h6, h6, h6, ⟨_, hx, hk⟩, cmpF_ne _ _, conv_hd hb he _ _, by rw [arrB_hd hb he]; exact hb.len, big _ hle, h6, hx.len, big _ h60, ?_, trivial⟩⟩
      show Int.ofNat (inH hl (gls i)).length < Int.ofNat (gls i).length
      exact Int.ofNat_lt.mpr (Nat.not_le.mp fun h => hc (.inr (.inr h)))
noncomputable section
def fitI (β : BB) (fr : List Env) (aH eH : Nat) (hs : Array Value) (k : Int) (tk aG aS eS m : Nat) (ks : Array Value) (p : PairsD) (D : ArrD) (R : Bool) : Inst where
  cu := cu0 (.call (.ref 240) ⟨[.ref aH, .int k tk, .ref aG, .ref aS], []⟩)
  fr := fr
  dep := 430
  un := 2500
  pre := [.o aH (lsO hs eH), .o aG (lsO D.refs 6), D.ent 6, .o aS (lsO ks eS), p.ent m]
  post _ := (.ok (.ret (.bool R)), [.o aH (lsO hs eH), .o aG (lsO D.refs 6), D.ent 6, .o aS (lsO ks eS), p.ent m], True)
def fit_o (β : BB) (fr : List Env) (aH eH : Nat) (hs : Array Value) (k : Int) (tk aG aS eS m : Nat) (ks : Array Value) (p : PairsD) (D : ArrD) (R q2 : Bool) (n t g : Nat) (X : Led) (Y : GL) (σ : Nat → Sup) : Out := Go (E2 β) (fitI β fr aH eH hs k tk aG aS eS m ks p D R) (Hs.h 0x2020201010406030305050102060203010801080803010105050103060203010801080804010204040404040403030101) (.a (.i (ftnI β (fenv (TT β) 240 n [(Mine.S "head", n + 1)] :: fr) (FtC.mk n (n + 1) t (t + 1) (t + 2) aH k tk aG aS hs eH ks eS m p) (n + 2) 0 false 0 0 .none .none 3 true q2)) (.k fun u v => .a (.i (glI β (fenv (TT β) 240 n [(Mine.S "head", n + 1)] :: fr) (FtC.mk n (n + 1) t (t + 1) (t + 2) aH k tk aG aS hs eH ks eS m p) v.n 0 D q2 (u.k 0 0) (u.k 0 1) (u.vv 0) (u.vv 1) false 0 0 .none .none (u.k 0 2) R)) (.k fun _ _ => .a (.u noS) .nil))) n t g X Y σ
abbrev fit_v (β : BB) (fr : List Env) (aH eH : Nat) (hs : Array Value) (k : Int) (tk aG aS eS m : Nat) (ks : Array Value) (p : PairsD) (D : ArrD) (R q2 : Bool) (n t g : Nat) (X : Led) (Y : GL) (σ : Nat → Sup) : Prop :=
  Sat (E2 β) (ftnI β (fenv (TT β) (240 : Addr) n [(S "head", n + (1 : Addr))] :: fr) (FtC.mk n (n + 1) t (t + 1) (t + 2) aH k tk aG aS hs eH ks eS m p) (n + 2) 0 false 0 0 Value.none Value.none 3 true q2) ∧ ((True) → Sat (E2 β) (glI β (fenv (TT β) (240 : Addr) n [(S "head", n + (1 : Addr))] :: fr) (FtC.mk n (n + 1) t (t + 1) (t + 2) aH k tk aG aS hs eH ks eS m p) ((σ 1).n) 0 D q2 ((σ 0).k 0 0) ((σ 0).k 0 1) ((σ 0).vv 0) ((σ 0).vv 1) false 0 0 Value.none Value.none ((σ 0).k 0 2) R) ∧ ((True) → (True)))
theorem fit_run (β : BB) (fr : List Env) (aH eH : Nat) (hs : Array Value) (k : Int) (tk aG aS eS m : Nat) (ks : Array Value) (p : PairsD) (D : ArrD) (R q2 : Bool) (n t g : Nat) (X : Led) (Y : GL) (σ : Nat → Sup) : See (fit_o β fr aH eH hs k tk aG aS eS m ks p D R q2 n t g X Y σ) (fit_v β fr aH eH hs k tk aG aS eS m ks p D R q2 n t g X Y σ) := by obtain ⟨b1, b2, b3, w0⟩ := β; cases R <;> cases q2 <;> cases b3 <;> kernel_rfl
def fit0_o (β : BB) (fr : List Env) (aH eH : Nat) (hs : Array Value) (k : Int) (tk aG aS eS m : Nat) (ks : Array Value) (p : PairsD) (D : ArrD) (q2 : Bool) (n t g : Nat) (X : Led) (Y : GL) (σ : Nat → Sup) : Out := Go (E2 β) (fitI β fr aH eH hs k tk aG aS eS m ks p D false) (Hs.h 0x3020205050506010105050103060203010801080804010204040404040403030101) (.a (.i (ftnI β (fenv (TT β) 240 n [(Mine.S "head", n + 1)] :: fr) (FtC.mk n (n + 1) t (t + 1) (t + 2) aH k tk aG aS hs eH ks eS m p) (n + 2) 0 false 0 0 .none .none 3 false q2)) (.k fun u v => .a (.u noS) .nil)) n t g X Y σ
abbrev fit0_v (β : BB) (fr : List Env) (aH eH : Nat) (hs : Array Value) (k : Int) (tk aG aS eS m : Nat) (ks : Array Value) (p : PairsD) (D : ArrD) (q2 : Bool) (n t g : Nat) (X : Led) (Y : GL) (σ : Nat → Sup) : Prop :=
  Sat (E2 β) (ftnI β (fenv (TT β) (240 : Addr) n [(S "head", n + (1 : Addr))] :: fr) (FtC.mk n (n + 1) t (t + 1) (t + 2) aH k tk aG aS hs eH ks eS m p) (n + 2) 0 false 0 0 Value.none Value.none 3 false q2) ∧ ((True) → (True))
theorem fit0_run (β : BB) (fr : List Env) (aH eH : Nat) (hs : Array Value) (k : Int) (tk aG aS eS m : Nat) (ks : Array Value) (p : PairsD) (D : ArrD) (q2 : Bool) (n t g : Nat) (X : Led) (Y : GL) (σ : Nat → Sup) : See (fit0_o β fr aH eH hs k tk aG aS eS m ks p D q2 n t g X Y σ) (fit0_v β fr aH eH hs k tk aG aS eS m ks p D q2 n t g X Y σ) := by obtain ⟨b1, b2, b3, w0⟩ := β; cases q2 <;> cases b3 <;> kernel_rfl
end
def FitsAt (nd : List (Int × Int)) (gls : Nat → List Int) (hl : List Int) (k : Int) : Prop := (∀ q ∈ nd, q.1 = k → q.2 ∈ hl) ∧ ∀ j, j < 6 → gok hl k (gls j)
def PairsD.list (p : PairsD) (m : Nat) : List (Int × Int) := (List.range m).map fun i => (p.x i, p.y i)
theorem fit_sat {β : BB} (fr : List Env) {aH eH : Nat} {hs : Array Value} {k : Int} {tk aG aS eS m : Nat} {ks : Array Value} {p : PairsD} {D : ArrD} {R : Bool} {hl : List Int} {gls : Nat → List Int} (hk : ks = refsN p.ad m) (hh : IntsOf hs hl) (hg : ∀ j, j < 6 → IntsOf (D.xs j) (gls j) ∧ (gls j).length ≤ 60) (hR : R = true ↔ FitsAt (p.list m) gls hl k) : Sat (E2 β) (fitI β fr aH eH hs k tk aG aS eS m ks p D R) := by
  have hn : (∀ q ∈ p.list m, q.1 = k → q.2 ∈ hl) ↔ ∀ j, 0 ≤ j → j < m → p.x j = k → p.y j ∈ hl := ⟨fun h j _ hj => h _ (List.mem_map.mpr ⟨j, List.mem_range.mpr hj, rfl⟩), fun h q hq => by
    obtain ⟨j, hj, rfl⟩ := List.mem_map.mp hq
    exact h j (Nat.zero_le _) (List.mem_range.mp hj)⟩
  by_cases h1 : ∀ q ∈ p.list m, q.1 = k → q.2 ∈ hl
  · exact sat_of (fun n t g X Y σ => fit_run β fr aH eH hs k tk aG aS eS m ks p D R _ n t g X Y σ) fun n t g X Y σ => ⟨fn_sat _ (c := FtC.mk n (n + 1) t (t + 1) (t + 2) aH k tk aG aS hs eH ks eS m p) hk hh m 0 false 0 0 .none .none 3 true _ (Nat.zero_add _) rfl ⟨fun _ => hn.mp h1, fun _ => rfl⟩, fun _ => ⟨gl_sat _ (c := FtC.mk n (n + 1) t (t + 1) (t + 2) aH k tk aG aS hs eH ks eS m p) hh hg 6 0 false 0 0 .none .none _ R rfl (hR.trans ⟨fun h j _ hj => h.2 j hj, fun h => ⟨h1, fun j hj => h j (Nat.zero_le _) hj⟩⟩), id⟩⟩
  · obtain rfl : R = false := Bool.eq_false_iff.mpr fun h => h1 (hR.mp h).1
    exact sat_of (fun n t g X Y σ => fit0_run β fr aH eH hs k tk aG aS eS m ks p D _ n t g X Y σ) fun n t g X Y σ => ⟨fn_sat _ (c := FtC.mk n (n + 1) t (t + 1) (t + 2) aH k tk aG aS hs eH ks eS m p) hk hh m 0 false 0 0 .none .none 3 false _ (Nat.zero_add _) rfl ⟨nofun, fun h => absurd (hn.mpr h) h1⟩, id⟩
theorem Hp.growAt {Γ : Gd} {L : Led} {G : GL} {s : Shared} (H : Hp Γ L G s) {h' : Heap} {a : Addr} {x : Obj} (ha : s.heap.objs.size ≤ a) (hk : ∀ b o', s.heap.get? b = some o' → h'.get? b = some o') (hx : h'.get? a = some x) : Hp Γ ((a, x) :: L) G { s with heap := h' } := by
  have new : ∀ x, s.heap.get? a = some x → False := fun x e => Nat.lt_irrefl _ (Nat.lt_of_lt_of_le (Heap.lt_size e) ha)
  refine ⟨fun j o e => hk _ _ (H.top j o e), List.forall_mem_cons.mpr ⟨hx, fun p hp => hk _ _ (H.led p hp)⟩, ?_, ?_, fun b o e hb => hk _ _ (H.keep b o e hb), fun b o e => let ⟨o2, h2⟩ := H.kin b o e; ⟨o2, hk _ _ h2⟩, ?_, ?_, List.forall_mem_cons.mpr ⟨Nat.le_trans H.big ha, H.hi⟩, H.gens, H.gnd, H.bare, H.dr, H.os⟩
  · refine List.nodup_cons.mpr ⟨fun hm => ?_, H.nd⟩
    obtain ⟨p, hp, e⟩ := List.mem_map.mp hm
    have e : p.1 = a := e
    exact new p.2 (by rw [← e]; exact H.led p hp)
  · refine List.forall_mem_cons.mpr ⟨?_, H.off⟩
    cases h : Γ.T.get a with
    | none => rfl
    | some o => exact (new o (H.top _ _ h)).elim
  · refine List.forall_mem_cons.mpr ⟨fun o e => ?_, H.own⟩
    obtain ⟨o', h⟩ := H.kin _ _ e
    exact (new o' h).elim
  · exact Nat.le_trans (Nat.le_trans H.big ha) (Nat.le_of_lt (Heap.lt_size hx))
theorem IntsOf.are : ∀ {vs : List Value} {l : List Int}, vs.map ofInt = l.map some → IntsAre vs l
  | [], [], _ => .nil
  | [], _ :: _, h => by cases h
  | _ :: _, [], h => by cases h
  | v :: vs, z :: l, h => by
    have h1 : ofInt v = some z := (List.cons.inj h).1
    cases v <;> cases h1
    exact .cons _ _ (IntsOf.are (List.cons.inj h).2)
theorem IntsAre.of : ∀ {vs : List Value} {l : List Int}, IntsAre vs l → vs.map ofInt = l.map some
  | _, _, .nil => rfl
  | _, _, .cons _ _ h => by rw [List.map_cons, IntsAre.of h]; rfl
theorem StrsOf.are : ∀ {vs : List Value} {l : List Str}, vs.map ofStr = l.map some → StrsAre vs l
  | [], [], _ => .nil
  | [], _ :: _, h => by cases h
  | _ :: _, [], h => by cases h
  | v :: vs, z :: l, h => by
    have h1 : ofStr v = some z := (List.cons.inj h).1
    cases v <;> cases h1
    exact .cons _ _ (StrsOf.are (List.cons.inj h).2)
theorem StrsAre.of : ∀ {vs : List Value} {l : List Str}, StrsAre vs l → vs.map ofStr = l.map some
  | _, _, .nil => rfl
  | _, _, .cons _ _ h => by rw [List.map_cons, StrsAre.of h]; rfl
noncomputable def srtI (fr : List Env) (a : Nat) (xs : Array Value) (e : Nat) (P : Array Value → Prop) : Inst where
  cu := cu0 (.call (.builtin "sorted") ⟨[.ref a], []⟩)
  fr := fr
  dep := 470
  un := 3000
  pre := [.o a (lsO xs e)]
  post u := (.ok (.ret (.ref (u.k 0 1))), [.o (u.k 0 1) (lsO (u.xs 0) (u.k 0 0)), .o a (lsO xs e)], P (u.xs 0))
theorem srt_out {fr : List Env} {a e : Nat} {xs : Array Value} {P : Array Value → Prop} {Γ : Gd} {X : Led} {Y : GL} {s : Shared} {Q : Result → Shared → Prop} (H : Hx Γ ((srtI fr a xs e P).pre ++ [.f X Y]) s) (K : ∀ u s', ((srtI fr a xs e P).post u).2.2 → Hx Γ (((srtI fr a xs e P).post u).2.1 ++ [.f X Y]) s' → Q ((srtI fr a xs e P).post u).1 s') {vs : List Value} {out : Array Value} (hp : P out) : Q (.ok (.ret (.ref (s.heap.objs.size + 1)))) { s with heap := sortedAll s.heap vs out } := by
  obtain ⟨c, hc⟩ := sortedAll_at s.heap vs out
  refine K { noS with k := fun _ i => (match i with | 0 => c | _ => s.heap.objs.size + 1), xs := fun _ => out } _ hp ?_
  have H2 : Hp Γ ((a, lsO xs e) :: flat [.f X Y]) (flatG [.f X Y]) s := H
  exact H2.growAt (Nat.le_succ _) (fun _ _ => sortedAll_old) hc
theorem srti_sat {β : BB} (fr : List Env) {a e : Nat} {xs : Array Value} {l : List Int} (h : IntsOf xs l) (h6 : l.length < 64) : SatW (E2 β) (srtI fr a xs e fun o => ∃ m, IntsOf o m ∧ m.Perm l ∧ m.Pairwise (· ≤ ·)) := by
  intro Γ Ar X Y s Q Bs H K
  have ha : s.heap.get? a = some (lsO xs e) := H.led (a, lsO xs e) List.mem_cons_self
  exact raw_of_call (sorted_ints (vs := xs.toList) ⟨_, ha, rfl, e, by rw [Array.toArray_toList]; rfl⟩ (IntsOf.are h) (by rw [Array.length_toList, h.len]; exact h6) fun out m h1 h2 h3 => srt_out H K ⟨m, IntsAre.of h1, h2, h3⟩)
theorem srts_sat {β : BB} (fr : List Env) {a e : Nat} {xs : Array Value} {l : List Str} (h : StrsOf xs l) (h6 : l.length < 64) : SatW (E2 β) (srtI fr a xs e fun o => ∃ m, StrsOf o m ∧ m.Perm l ∧ sortedS m = true) := by
  intro Γ Ar X Y s Q Bs H K
  have ha : s.heap.get? a = some (lsO xs e) := H.led (a, lsO xs e) List.mem_cons_self
  exact raw_of_call (sorted_strs (vs := xs.toList) ⟨_, ha, rfl, e, by rw [Array.toArray_toList]; rfl⟩ (StrsOf.are h) (by rw [Array.length_toList, h.len]; exact h6) fun out m h1 h2 h3 => srt_out H K ⟨m, StrsAre.of h1, h2, h3⟩)
def inL (xs : Array Value) (L : ArrD) (m : Nat) : Prop := ∃ j, j < m ∧ (L.xs j).toList.map ofInt = xs.toList.map ofInt
noncomputable def dcd (p : Prop) : Bool := @decide p (Classical.propDecidable p)
theorem dcd_is {p : Prop} : dcd p = true ↔ p := @decide_eq_true_iff p (Classical.propDecidable p)
noncomputable def cnI (fr : List Env) (aL eL m aM eM : Nat) (ls : Array Value) (L : ArrD) (xs : Array Value) (b : Bool) : Inst where
  cu := cu0 (.call (.builtin "list.__contains__") ⟨[.ref aL, .ref aM], []⟩)
  fr := fr
  dep := 470
  un := 3000
  pre := [.o aM (lsO xs eM), .o aL (lsO ls eL), L.ent m]
  post _ := (.ok (.ret (.bool b)), [.o aM (lsO xs eM), .o aL (lsO ls eL), L.ent m], True)
open PySem.SeqAt in
theorem cn_sat {β : BB} (fr : List Env) {aL eL m aM eM : Nat} {ls : Array Value} {L : ArrD} {xs : Array Value} {b : Bool} {ml : List Int} (hls : ls = refsN L.ad m) (hx : IntsOf xs ml) (hL : ∀ j, j < m → ∃ l, IntsOf (L.xs j) l) (hb : b = true ↔ inL xs L m) : SatW (E2 β) (cnI fr aL eL m aM eM ls L xs b) := by
  subst hls
  intro Γ Ar X Y s Q Bs H K
  have hh : ∀ p ∈ flat (cnI fr aL eL m aM eM (refsN L.ad m) L xs b).pre, s.heap.get? p.1 = some p.2 := fun p hp => H.led p (by rw [flat_app]; exact List.mem_append_left _ hp)
  have hM := hh (aM, lsO xs eM) List.mem_cons_self
  have ha := hh (aL, lsO (refsN L.ad m) eL) (.tail _ List.mem_cons_self)
  have inE : ∀ j, j < m → (L.ad j, lsO (L.xs j) (L.ep j)) ∈ (L.ent m).led := fun j hj => List.mem_map.mpr ⟨j, List.mem_range.mpr hj, rfl⟩
  have nd := H.nd
  have e0 : flat ((cnI fr aL eL m aM eM (refsN L.ad m) L xs b).pre ++ [.f X Y]) = (aM, lsO xs eM) :: (aL, lsO (refsN L.ad m) eL) :: ((L.ent m).led ++ (X ++ [])) := rfl
  rw [e0, List.map_cons, List.map_cons, List.map_append] at nd
  have n1 := List.nodup_cons.mp nd
  have n3 := (List.nodup_append.mp (List.nodup_cons.mp n1.2).2).1
  have ne : ∀ j, j < m → L.ad j ≠ aM := fun j hj e => n1.1 (.tail _ (List.mem_append_left _ (by
    have h := List.mem_map_of_mem (f := Prod.fst) (inE j hj)
    rw [show (L.ad j, lsO (L.xs j) (L.ep j)).1 = aM from e] at h; exact h)))
  have inj : ∀ i j, i < m → j < m → L.ad i = L.ad j → i = j := fun i j hi hj e => by
    rw [show (L.ent m).led.map Prod.fst = (List.range m).map L.ad from List.map_map] at n3
    have li : i < ((List.range m).map L.ad).length := by rw [List.length_map, List.length_range]; exact hi
    have lj : j < ((List.range m).map L.ad).length := by rw [List.length_map, List.length_range]; exact hj
    have z : ((List.range m).map L.ad)[i] = ((List.range m).map L.ad)[j] := by
      rw [List.getElem_map, List.getElem_map, List.getElem_range, List.getElem_range]; exact e
    exact (List.getElem_inj n3).mp z
  have hu : Ar.in1.units < cLine := Nat.lt_of_le_of_lt (Nat.add_le_add_right Bs.hu 1) (by show 3000 + 1 < cLine; decide)
  refine raw_of_call (call_meets (E := fun e s' => Q (.error e) s') F.slot_list_contains ⟨_, ha, rfl⟩ F.entry_list_contains (F.args_list_contains_2 _ _) (list_containsAt aL (refsN L.ad m) eL none #[] (.ref aM) fun y => dcd (∃ j, j < m ∧ y = .ref (L.ad j) ∧ (L.xs j).toList.map ofInt = xs.toList.map ofInt)) ⟨ha, fun y hy => ?_, ?_⟩)
  · obtain ⟨j, hj, rfl⟩ : ∃ j, j < m ∧ y = .ref (L.ad j) := by
      have hy : y ∈ (refsN L.ad m).toList := Array.mem_toList_iff.mpr hy
      obtain ⟨j, hj, rfl⟩ := List.mem_map.mp (show y ∈ (List.range m).map fun i => Value.ref (L.ad i) from hy)
      exact ⟨j, List.mem_range.mp hj, rfl⟩
    obtain ⟨l, hl⟩ := hL j hj
    have hJ := hh _ (mem_flat (e := L.ent m) (.tail _ (.tail _ List.mem_cons_self)) (inE j hj))
    have ee : dcd (∃ i, i < m ∧ Value.ref (L.ad j) = .ref (L.ad i) ∧ (L.xs i).toList.map ofInt = xs.toList.map ofInt) = decide (l = ml) := by
      rw [Bool.eq_iff_iff, dcd_is, decide_eq_true_iff]
      refine ⟨fun ⟨i, hi, h1, h2⟩ => ?_, fun h => ⟨j, hj, rfl, ?_⟩⟩
      · have := inj j i hj hi (Value.ref.inj h1)
        subst this
        have h3 : l.map some = ml.map some := (show (L.xs j).toList.map ofInt = l.map some from hl).symm.trans (h2.trans hx)
        exact List.map_inj_right (fun a b h => Option.some.inj h) |>.mp h3
      · exact (show (L.xs j).toList.map ofInt = l.map some from hl).trans ((congrArg (List.map some) h).trans (show xs.toList.map ofInt = ml.map some from hx).symm)
    rw [ee]
    refine EqAt.of_refs (ne j hj) ?_
    by_cases hz : (L.xs j).size = xs.size
    · have hlen : l.length = ml.length := by rw [← hl.len, ← hx.len]; exact hz
      have hall : ((List.range (L.xs j).size).all fun i => l.getD i 0 == ml.getD i 0) = decide (l = ml) := by
        rw [Bool.eq_iff_iff, List.all_eq_true, decide_eq_true_iff]
        refine ⟨fun h => List.ext_getElem hlen fun i h1 h2 => ?_, fun h i _ => by rw [h]; exact beq_self_eq_true _⟩
        have := eq_of_beq (h i (List.mem_range.mpr (by rw [hl.len]; exact h1)))
        rw [List.getD_eq_getElem?_getD, List.getD_eq_getElem?_getD, List.getElem?_eq_getElem h1, List.getElem?_eq_getElem h2] at this
        exact this
      rw [← hall]
      refine RcAt.lists ⟨_, hJ, rfl, _, rfl⟩ ⟨_, hM, rfl, _, rfl⟩ hz hu fun i i1 i2 => ?_
      have k1 : i < l.length := hl.len ▸ i1
      have k2 : i < ml.length := hx.len ▸ i2
      obtain ⟨t1, y1⟩ := hl.at (List.getElem?_eq_getElem k1)
      obtain ⟨t2, y2⟩ := hx.at (List.getElem?_eq_getElem k2)
      rw [Option.some.inj ((Array.getElem?_eq_getElem i1).symm.trans y1), Option.some.inj ((Array.getElem?_eq_getElem i2).symm.trans y2), List.getD_eq_getElem?_getD, List.getD_eq_getElem?_getD, List.getElem?_eq_getElem k1, List.getElem?_eq_getElem k2]
      exact EqAt.int_int _ _ _ _
    · rw [decide_eq_false fun h : l = ml => hz (by rw [hl.len, hx.len, h])]
      exact RcAt.lists_lengths ⟨_, hJ, rfl, _, rfl⟩ ⟨_, hM, rfl, _, rfl⟩ (bne_iff_ne.mpr hz) hu
  · have hr : (refsN L.ad m).any (fun y => dcd (∃ j, j < m ∧ y = .ref (L.ad j) ∧ (L.xs j).toList.map ofInt = xs.toList.map ofInt)) = b := by
      rw [Bool.eq_iff_iff, hb, ← Array.any_toList, List.any_eq_true]
      refine ⟨fun ⟨y, _, h⟩ => ?_, fun ⟨j, hj, h⟩ => ⟨.ref (L.ad j), List.mem_map.mpr ⟨j, List.mem_range.mpr hj, rfl⟩, dcd_is.mpr ⟨j, hj, rfl, h⟩⟩⟩
      obtain ⟨j, hj, _, h⟩ := dcd_is.mp h
      exact ⟨j, hj, h⟩
    rw [hr]
    exact K noS s trivial H
noncomputable section
structure SmC where
  n0 : Nat
  t1 : Nat
  t2 : Nat
  aG : Nat
  aS : Nat
  eS : Nat
  m : Nat
  ks : Array Value
  p : PairsD
  D : ArrD
structure SmF where
  t3 : Nat
  t4 : Nat
  t5 : Nat
  v3 : Value
  v4 : Value
  aL : Nat
def smF (β : BB) (c : SmC) (f : SmF) (g q : Bool) (th tk tm : Nat) (wh wk wm : Value) (e : Nat) : Obj := frD (cond g (cond q
  #[β.d "groups" c.t1 (.ref c.aG), β.d "needs" c.t2 (.ref c.aS), β.d "heads" f.t3 f.v3, β.d "size" f.t4 f.v4, β.d "longer" f.t5 (.ref f.aL), β.d "head" th wh, β.d "k" tk wk, β.d "more" tm wm]
  #[β.d "groups" c.t1 (.ref c.aG), β.d "needs" c.t2 (.ref c.aS), β.d "heads" f.t3 f.v3, β.d "size" f.t4 f.v4, β.d "longer" f.t5 (.ref f.aL), β.d "head" th wh])
  #[β.d "groups" c.t1 (.ref c.aG), β.d "needs" c.t2 (.ref c.aS), β.d "heads" f.t3 f.v3, β.d "size" f.t4 f.v4, β.d "longer" f.t5 (.ref f.aL)]) e
def SmC.gn (c : SmC) : List Ent := [.o c.aG (lsO c.D.refs 6), c.D.ent 6, .o c.aS (lsO c.ks c.eS), c.p.ent c.m]
def skI (β : BB) (fr : List Env) (c : SmC) (f : SmF) (th aH eH : Nat) (hs : Array Value) (aT : Nat) (k left : Int) (q : Bool) (tk tm : Nat) (wk wm : Value) (e : Nat) (ls : Array Value) (L : ArrD) (m eL : Nat) (q2 : Bool) (P : ArrD → Nat → Prop) : Inst where
  cu := cu0 (loopC (TT β) 247 2 c.n0 [] (.ref aT))
  fr := fr
  dep := 390
  un := 2000
  pre := [.o c.n0 (smF β c f true q th tk tm (.ref aH) wk wm e), .o aT (rgE k left), .o aH (lsO hs eH), .o f.aL (lsO ls eL), L.ent m] ++ c.gn
  post u := (.ok .next, [.o c.n0 (smF β c f true q2 th (u.k 0 1) (u.k 0 2) (.ref aH) (u.vv 0) (u.vv 1) (u.k 0 3)), .o f.aL (lsO ⟨u.v⟩ (u.k 0 4)), (⟨u.k 1, u.xs, u.k 2⟩ : ArrD).ent (u.k 0 0)] ++ c.gn, (⟨u.v⟩ : Array Value) = refsN (u.k 1) (u.k 0 0) ∧ P ⟨u.k 1, u.xs, u.k 2⟩ (u.k 0 0))
def skU (tk tm : Nat) (wk wm : Value) (e : Nat) (ls : Array Value) (L : ArrD) (m eL : Nat) : Sup := { noS with v := ls.toList, k := fun a i => (match a with | 0 => (match i with | 0 => m | 1 => tk | 2 => tm | 3 => e | _ => eL) | 1 => L.ad i | _ => L.ep i), xs := L.xs, vv := fun i => (match i with | 0 => wk | _ => wm) }
def ArrD.snoc (D : ArrD) (m a : Nat) (xs : Array Value) (e : Nat) : ArrD := ⟨upd D.ad m a, upd D.xs m xs, upd D.ep m e⟩
theorem ArrD.snoc_conv (D : ArrD) (m a : Nat) (xs : Array Value) (e : Nat) : Conv [.o a (lsO xs e), D.ent m] [(D.snoc m a xs e).ent (m + 1)] :=
  conv_snoc m D.ad (D.snoc m a xs e).ad (fun i => lsO (D.xs i) (D.ep i)) (fun i => lsO ((D.snoc m a xs e).xs i) ((D.snoc m a xs e).ep i)) a (lsO xs e) (fun i hi => by
    have := Nat.ne_of_lt hi
    refine ⟨upd_ne this, ?_⟩
    show lsO (upd D.xs m xs i) (upd D.ep m e i) = _
    rw [upd_ne this, upd_ne this]) ⟨upd_eq .., by
    show lsO (upd D.xs m xs m) (upd D.ep m e m) = _
    rw [upd_eq, upd_eq]⟩
end
noncomputable section
def skE_o (β : BB) (fr : List Env) (c : SmC) (f : SmF) (th aH eH : Nat) (hs : Array Value) (aT : Nat) (k left : Int) (q : Bool) (tk tm : Nat) (wk wm : Value) (e : Nat) (ls : Array Value) (L : ArrD) (m eL : Nat) (P : ArrD → Nat → Prop) (n t g : Nat) (X : Led) (Y : GL) (σ : Nat → Sup) : Out := Go (E2 β) (skI β fr c f th aH eH hs aT k left q tk tm wk wm e ls L m eL q P) (Hs.h 0x50505050505050308010302012304) (.a (.b false) (.a (.u (skU tk tm wk wm e ls L m eL)) .nil)) n t g X Y σ
abbrev skE_v (β : BB) (fr : List Env) (c : SmC) (f : SmF) (th aH eH : Nat) (hs : Array Value) (aT : Nat) (k left : Int) (q : Bool) (tk tm : Nat) (wk wm : Value) (e : Nat) (ls : Array Value) (L : ArrD) (m eL : Nat) (P : ArrD → Nat → Prop) (n t g : Nat) (X : Led) (Y : GL) (σ : Nat → Sup) : Prop :=
  (yesNo false ¬left ≤ 0) ∧ (Array.mk (Array.toList ls) = refsN (fun i => ArrD.ad L i) m ∧ P (ArrD.mk (fun i => ArrD.ad L i) (ArrD.xs L) fun i => ArrD.ep L i) m)
theorem skE_run (β : BB) (fr : List Env) (c : SmC) (f : SmF) (th aH eH : Nat) (hs : Array Value) (aT : Nat) (k left : Int) (q : Bool) (tk tm : Nat) (wk wm : Value) (e : Nat) (ls : Array Value) (L : ArrD) (m eL : Nat) (P : ArrD → Nat → Prop) (n t g : Nat) (X : Led) (Y : GL) (σ : Nat → Sup) : See (skE_o β fr c f th aH eH hs aT k left q tk tm wk wm e ls L m eL P n t g X Y σ) (skE_v β fr c f th aH eH hs aT k left q tk tm wk wm e ls L m eL P n t g X Y σ) := by obtain ⟨b1, b2, b3, w0⟩ := β; cases q <;> cases b3 <;> kernel_rfl
def skN_o (β : BB) (fr : List Env) (c : SmC) (f : SmF) (th aH eH : Nat) (hs : Array Value) (aT : Nat) (k left : Int) (q : Bool) (tk tm : Nat) (wk wm : Value) (e : Nat) (ls : Array Value) (L : ArrD) (m eL : Nat) (q2 : Bool) (P : ArrD → Nat → Prop) (hl : List Int) (F : Prop) (n t g : Nat) (X : Led) (Y : GL) (σ : Nat → Sup) : Out := Go (E2 β) (skI β fr c f th aH eH hs aT k left q tk tm wk wm e ls L m eL q2 P) (Hs.h 0x30808060606060101070104021606030603030101030302012304) (.a (.b true) (.k fun w w1 => .k fun au wa => .a (.iw (srtI fr au.a (hs ++ #[.int k w.a]) 0 fun o => ∃ ml, IntsOf o ml ∧ ml.Perm (hl ++ [k]))) (.k fun s ws => .sp (k ∈ hl) (Hs.h 0x40101010101010108040404040404040404090206011a) (.a (.b true) <| .a (.i (skI β fr c f th aH eH hs aT (k + 1) (left - 1) true (cond q tk w1.t) (cond q tm ws.t) (.int k w.a) (.ref (s.k 0 1)) (cond q e (e + 2)) ls L m eL q2 P)) (.k fun z _ => .a (.u z) .nil)) (Hs.h 0x30909060606011a) (.a (.b false) <| .sp (inL (s.xs 0) L m) (Hs.h 0x4010101010101010804040404020206060609020606010307) (.a (.iw (cnI fr f.aL eL m (s.k 0 1) (s.k 0 0) ls L (s.xs 0) true)) <| .a (.i (skI β fr c f th aH eH hs aT (k + 1) (left - 1) true (cond q tk w1.t) (cond q tm ws.t) (.int k w.a) (.ref (s.k 0 1)) (cond q e (e + 2)) ls L m eL q2 P)) (.k fun z _ => .a (.u z) .nil)) (Hs.h 0x30108080808010606010307) (.a (.iw (cnI fr f.aL eL m (s.k 0 1) (s.k 0 0) ls L (s.xs 0) false)) <| .sp F (Hs.h 0x30101010101010108010101010106020a0a0902070114070602050d090909090d08080808080502) (.a (.i (fitI β fr aH eH hs k w.a c.aG c.aS c.eS c.m c.ks c.p c.D true)) <| .a (.cv [.o (s.k 0 1) (lsO (s.xs 0) (s.k 0 0)), L.ent m] [(L.snoc m (s.k 0 1) (s.xs 0) (s.k 0 0)).ent (m + 1)]) <| .a (.i (skI β fr c f th aH eH hs aT (k + 1) (left - 1) true (cond q tk w1.t) (cond q tm ws.t) (.int k w.a) (.ref (s.k 0 1)) (cond q e (e + 2)) (ls.push (.ref (s.k 0 1))) (L.snoc m (s.k 0 1) (s.xs 0) (s.k 0 0)) (m + 1) (eL + 1) q2 P)) (.k fun z _ => .a (.u z) .nil)) (Hs.h 0x40101010101010108010101010606010b0b090208080808080502) (.a (.i (fitI β fr aH eH hs k w.a c.aG c.aS c.eS c.m c.ks c.p c.D false)) <| .a (.i (skI β fr c f th aH eH hs aT (k + 1) (left - 1) true (cond q tk w1.t) (cond q tm ws.t) (.int k w.a) (.ref (s.k 0 1)) (cond q e (e + 2)) ls L m eL q2 P)) (.k fun z _ => .a (.u z) .nil))))))) n t g X Y σ
abbrev skN_v (β : BB) (fr : List Env) (c : SmC) (f : SmF) (th aH eH : Nat) (hs : Array Value) (aT : Nat) (k left : Int) (q : Bool) (tk tm : Nat) (wk wm : Value) (e : Nat) (ls : Array Value) (L : ArrD) (m eL : Nat) (q2 : Bool) (P : ArrD → Nat → Prop) (hl : List Int) (F : Prop) (n t g : Nat) (X : Led) (Y : GL) (σ : Nat → Sup) : Prop :=
  (yesNo true ¬left ≤ 0) ∧ (Array.size hs + Array.size (List.toArray ([Value.int k (σ 0).4] ++ [])) ≤ BIG) ∧ SatW (E2 β) (srtI fr ((σ 2).a) (hs ++ #[Value.int k ((σ 0).a)]) 0 fun o => ∃ ml, IntsOf o ml ∧ List.Perm ml (hl ++ [k])) ∧ ((∃ ml, IntsOf ((σ 4).xs 0) ml ∧ List.Perm ml (hl ++ [k])) → (((k ∈ hl) → (∃ l, IntsOf hs l ∧ yesNo true (k ∈ l)) ∧ Sat (E2 β) (skI β fr c f th aH eH hs aT (k + 1) (left - 1) true (bif q then tk else (σ 1).t) (bif q then tm else (σ 5).t) (Value.int k ((σ 0).a)) (Value.ref ((σ 4).k 0 1)) (bif q then e else e + 2) ls L m eL q2 P) ∧ ((Array.mk ((σ 8).v) = refsN ((σ 8).k 1) ((σ 8).k 0 0) ∧ P (ArrD.mk ((σ 8).k 1) ((σ 8).xs) ((σ 8).k 2)) ((σ 8).k 0 0)) → (Array.mk ((σ 8).v) = refsN ((σ 8).k 1) ((σ 8).k 0 0) ∧ P (ArrD.mk ((σ 8).k 1) ((σ 8).xs) ((σ 8).k 2)) ((σ 8).k 0 0)))) ∧ (¬ (k ∈ hl) → (∃ l, IntsOf hs l ∧ yesNo false (k ∈ l)) ∧ (((inL ((σ 4).xs 0) L m) → SatW (E2 β) (cnI fr (SmF.aL f) eL m ((σ 4).k 0 1) ((σ 4).k 0 0) ls L ((σ 4).xs 0) true) ∧ ((True) → Sat (E2 β) (skI β fr c f th aH eH hs aT (k + 1) (left - 1) true (bif q then tk else (σ 1).t) (bif q then tm else (σ 5).t) (Value.int k ((σ 0).a)) (Value.ref ((σ 4).k 0 1)) (bif q then e else e + 2) ls L m eL q2 P) ∧ ((Array.mk ((σ 10).v) = refsN ((σ 10).k 1) ((σ 10).k 0 0) ∧ P (ArrD.mk ((σ 10).k 1) ((σ 10).xs) ((σ 10).k 2)) ((σ 10).k 0 0)) → (Array.mk ((σ 10).v) = refsN ((σ 10).k 1) ((σ 10).k 0 0) ∧ P (ArrD.mk ((σ 10).k 1) ((σ 10).xs) ((σ 10).k 2)) ((σ 10).k 0 0))))) ∧ (¬ (inL ((σ 4).xs 0) L m) → SatW (E2 β) (cnI fr (SmF.aL f) eL m ((σ 4).k 0 1) ((σ 4).k 0 0) ls L ((σ 4).xs 0) false) ∧ ((True) → (((F) → Sat (E2 β) (fitI β fr aH eH hs k ((σ 0).a) (SmC.aG c) (SmC.aS c) (SmC.eS c) (SmC.m c) (SmC.ks c) (SmC.p c) (SmC.D c) true) ∧ ((True) → (Conv [Ent.o ((σ 4).k 0 1) (lsO ((σ 4).xs 0) ((σ 4).k 0 0)), ArrD.ent L m] [ArrD.ent (ArrD.snoc L m ((σ 4).k 0 1) ((σ 4).xs 0) ((σ 4).k 0 0)) (m + 1)]) ∧ (Array.size ls ≤ BIG) ∧ Sat (E2 β) (skI β fr c f th aH eH hs aT (k + 1) (left - 1) true (bif q then tk else (σ 1).t) (bif q then tm else (σ 5).t) (Value.int k ((σ 0).a)) (Value.ref ((σ 4).k 0 1)) (bif q then e else e + 2) (Array.push ls (Value.ref ((σ 4).k 0 1))) (ArrD.snoc L m ((σ 4).k 0 1) ((σ 4).xs 0) ((σ 4).k 0 0)) (m + 1) (eL + 1) q2 P) ∧ ((Array.mk ((σ 14).v) = refsN ((σ 14).k 1) ((σ 14).k 0 0) ∧ P (ArrD.mk ((σ 14).k 1) ((σ 14).xs) ((σ 14).k 2)) ((σ 14).k 0 0)) → (Array.mk ((σ 14).v) = refsN ((σ 14).k 1) ((σ 14).k 0 0) ∧ P (ArrD.mk ((σ 14).k 1) ((σ 14).xs) ((σ 14).k 2)) ((σ 14).k 0 0))))) ∧ (¬ (F) → Sat (E2 β) (fitI β fr aH eH hs k ((σ 0).a) (SmC.aG c) (SmC.aS c) (SmC.eS c) (SmC.m c) (SmC.ks c) (SmC.p c) (SmC.D c) false) ∧ ((True) → Sat (E2 β) (skI β fr c f th aH eH hs aT (k + 1) (left - 1) true (bif q then tk else (σ 1).t) (bif q then tm else (σ 5).t) (Value.int k ((σ 0).a)) (Value.ref ((σ 4).k 0 1)) (bif q then e else e + 2) ls L m eL q2 P) ∧ ((Array.mk ((σ 12).v) = refsN ((σ 12).k 1) ((σ 12).k 0 0) ∧ P (ArrD.mk ((σ 12).k 1) ((σ 12).xs) ((σ 12).k 2)) ((σ 12).k 0 0)) → (Array.mk ((σ 12).v) = refsN ((σ 12).k 1) ((σ 12).k 0 0) ∧ P (ArrD.mk ((σ 12).k 1) ((σ 12).xs) ((σ 12).k 2)) ((σ 12).k 0 0))))))))))))
theorem skN_run (β : BB) (fr : List Env) (c : SmC) (f : SmF) (th aH eH : Nat) (hs : Array Value) (aT : Nat) (k left : Int) (q : Bool) (tk tm : Nat) (wk wm : Value) (e : Nat) (ls : Array Value) (L : ArrD) (m eL : Nat) (q2 : Bool) (P : ArrD → Nat → Prop) (hl : List Int) (F : Prop) (n t g : Nat) (X : Led) (Y : GL) (σ : Nat → Sup) : See (skN_o β fr c f th aH eH hs aT k left q tk tm wk wm e ls L m eL q2 P hl F n t g X Y σ) (skN_v β fr c f th aH eH hs aT k left q tk tm wk wm e ls L m eL q2 P hl F n t g X Y σ) := by obtain ⟨b1, b2, b3, w0⟩ := β; cases q <;> cases b3 <;> kernel_rfl
end
def Heads (Q : List Int → Prop) (L : ArrD) (m : Nat) : Prop := ∀ j, j < m → ∃ l, IntsOf (L.xs j) l ∧ Q l
theorem Heads.snoc {Q : List Int → Prop} {L : ArrD} {m : Nat} (h : Heads Q L m) {xs : Array Value} {ml : List Int} (hx : IntsOf xs ml) (hq : Q ml) (a e : Nat) : Heads Q (L.snoc m a xs e) (m + 1) := fun j hj => by
  show ∃ l, IntsOf (upd L.xs m xs j) l ∧ Q l
  by_cases hm : j = m
  · rw [hm, upd_eq]; exact ⟨ml, hx, hq⟩
  · rw [upd_ne hm]; exact h j (by omega)
theorem srtk_sat {β : BB} (fr : List Env) {a e : Nat} {hs : Array Value} {hl : List Int} {k : Int} {tk : Nat} (hh : IntsOf hs hl) (h10 : hl.length ≤ 10) : SatW (E2 β) (srtI fr a (hs ++ #[.int k tk]) e fun o => ∃ ml, IntsOf o ml ∧ ml.Perm (hl ++ [k])) := by
  have h1 : IntsOf (hs ++ #[.int k tk]) (hl ++ [k]) := by rw [show hs ++ #[Value.int k tk] = hs.push (.int k tk) from rfl]; exact hh.push k tk
  have h2 := srti_sat (β := β) fr (a := a) (e := e) h1 (by rw [List.length_append, List.length_singleton]; omega)
  exact fun Γ A X Y s Q B H K => h2 B H fun u s' hp H' => K u s' (hp.elim fun m h => ⟨m, h.1, h.2.1⟩) H'
theorem sk_sat {β : BB} (fr : List Env) {c : SmC} {f : SmF} {th aH eH aT : Nat} {hs : Array Value} {hl : List Int} {gls : Nat → List Int} {Q : List Int → Prop} {b : Nat} (hk : c.ks = refsN c.p.ad c.m) (hg : ∀ j, j < 6 → IntsOf (c.D.xs j) (gls j) ∧ (gls j).length ≤ 60) (hh : IntsOf hs hl) (h10 : hl.length ≤ 10)
    (hQ : ∀ z : Nat, z < 5 → Int.ofNat z ∉ hl → FitsAt (c.p.list c.m) gls hl (Int.ofNat z) → ∀ ml, ml.Perm (hl ++ [Int.ofNat z]) → Q ml) (hb : b ≤ 5000) : ∀ (n k : Nat) (q : Bool) (tk tm : Nat) (wk wm : Value) (e : Nat) (ls : Array Value) (L : ArrD) (m eL : Nat), k + n = 5 → ls = refsN L.ad m → Heads Q L m → m + n ≤ b →
    Sat (E2 β) (skI β fr c f th aH eH hs aT (Int.ofNat k) (Int.ofNat n) q tk tm wk wm e ls L m eL (q || decide (0 < n)) fun L' m' => Heads Q L' m' ∧ m' ≤ b) := by
  intro n
  induction n with
  | zero =>
    intro k q tk tm wk wm e ls L m eL _ hls hH hm
    rw [show (q || decide (0 < 0)) = q from Bool.or_false q]
    exact sat_of (fun n t g X Y σ => skE_run β fr c f th aH eH hs aT _ _ q tk tm wk wm e ls L m eL _ n t g X Y σ) fun n t g X Y σ => ⟨left_end, hls, hH, by omega⟩
  | succ n ih =>
    intro k q tk tm wk wm e ls L m eL hn hls hH hm
    have hq2 : (q || decide (0 < n + 1)) = (true || decide (0 < n)) := by rw [decide_eq_true (Nat.succ_pos n), Bool.or_true, Bool.true_or]
    rw [hq2]
    have nx := fun tk tm wk wm e eL => ih (k + 1) true tk tm wk wm e ls L m eL (by omega) hls hH (by omega)
    refine sat_of (fun n' t g X Y σ => skN_run β fr c f th aH eH hs aT _ _ q tk tm wk wm e ls L m eL _ _ hl (FitsAt (c.p.list c.m) gls hl (Int.ofNat k)) n' t g X Y σ) fun n' t g X Y σ => ⟨left_pos n, ?_, srtk_sat fr hh h10, fun hs => ?_⟩
    · rw [hh.len]; show hl.length + 1 ≤ BIG; exact Nat.le_trans (by omega : _ ≤ 11) (by decide)
    · obtain ⟨ml, hml, hp⟩ := hs
      have hL : ∀ j, j < m → ∃ l, IntsOf (L.xs j) l := fun j hj => (hH j hj).elim fun l h => ⟨l, h.1⟩
      refine ⟨fun hk' => ⟨⟨hl, hh, hk'⟩, ?_, id⟩, fun hk' => ⟨⟨hl, hh, hk'⟩, fun hi => ⟨cn_sat fr hls hml hL ⟨fun _ => hi, fun _ => rfl⟩, fun _ => ⟨?_, id⟩⟩, fun hi => ⟨cn_sat fr hls hml hL ⟨nofun, fun h => absurd h hi⟩, fun _ => ⟨fun hF => ⟨fit_sat fr hk hh hg ⟨fun _ => hF, fun _ => rfl⟩, fun _ => ⟨L.snoc_conv .., ?_, ?_, id⟩⟩, fun hF => ⟨fit_sat fr hk hh hg ⟨nofun, fun h => absurd h hF⟩, fun _ => ⟨?_, id⟩⟩⟩⟩⟩⟩
      · rw [left_sub]; exact nx ..
      · rw [left_sub]; exact nx ..
      · rw [hls, refsN_size]; exact Nat.le_trans (by omega : m ≤ 5000) (by decide)
      · rw [left_sub]
        refine ih (k + 1) true _ _ _ _ _ _ _ _ _ (by omega) ?_ (hH.snoc hml (hQ k (by omega) hk' hF ml hp) _ _) (by omega)
        rw [hls]
        exact (refsN_snoc (fun i hi => upd_ne (Nat.ne_of_lt hi)) (upd_eq ..)).symm
      · rw [left_sub]; exact nx ..
noncomputable section
def ArrD.sh (H : ArrD) (i : Nat) : ArrD := ⟨fun j => H.ad (i + j), fun j => H.xs (i + j), fun j => H.ep (i + j)⟩
theorem ArrD.sh_conv (H : ArrD) (i k : Nat) : Conv [(H.sh i).ent (k + 1)] [.o (H.ad i) (lsO (H.xs i) (H.ep i)), (H.sh (i + 1)).ent k] := by
  refine ⟨?_, rfl⟩
  show ((List.range (k + 1)).map (fun j => (H.ad (i + j), lsO (H.xs (i + j)) (H.ep (i + j)))) ++ []).Perm ((H.ad i, lsO (H.xs i) (H.ep i)) :: ((List.range k).map (fun j => (H.ad (i + 1 + j), lsO (H.xs (i + 1 + j)) (H.ep (i + 1 + j)))) ++ []))
  rw [List.range_succ_eq_map, List.map_cons, List.map_map, List.append_nil, List.append_nil]
  have e : (List.range k).map ((fun j => (H.ad (i + j), lsO (H.xs (i + j)) (H.ep (i + j)))) ∘ Nat.succ) = (List.range k).map fun j => (H.ad (i + 1 + j), lsO (H.xs (i + 1 + j)) (H.ep (i + 1 + j))) := List.map_congr_left fun j _ => by
    show (H.ad (i + (j + 1)), lsO (H.xs (i + (j + 1))) (H.ep (i + (j + 1)))) = _
    rw [show i + (j + 1) = i + 1 + j by omega]
  rw [e]
  exact .refl _
def shI (β : BB) (fr : List Env) (c : SmC) (f : SmF) (aT aH eH i : Nat) (hr : Array Value) (H : ArrD) (k : Nat) (q : Bool) (th tk tm : Nat) (wh wk wm : Value) (e : Nat) (ls : Array Value) (L : ArrD) (m eL : Nat) (q2 : Bool) (P : ArrD → Nat → Prop) : Inst where
  cu := cu0 (loopC (TT β) 247 1 c.n0 [] (.ref aT))
  fr := fr
  dep := 370
  un := 1800
  pre := [.o c.n0 (smF β c f q q th tk tm wh wk wm e), .o aT (liO aH (Int.ofNat i)), .o aH (lsO hr eH), (H.sh i).ent k, .o f.aL (lsO ls eL), L.ent m] ++ c.gn
  post u := (.ok .next, [.o c.n0 (smF β c f q2 q2 (u.k 0 5) (u.k 0 1) (u.k 0 2) (u.vv 2) (u.vv 0) (u.vv 1) (u.k 0 3)), .o f.aL (lsO ⟨u.v⟩ (u.k 0 4)), (⟨u.k 1, u.xs, u.k 2⟩ : ArrD).ent (u.k 0 0)] ++ c.gn, (⟨u.v⟩ : Array Value) = refsN (u.k 1) (u.k 0 0) ∧ P ⟨u.k 1, u.xs, u.k 2⟩ (u.k 0 0))
def shU (th tk tm : Nat) (wh wk wm : Value) (e : Nat) (ls : Array Value) (L : ArrD) (m eL : Nat) : Sup := { noS with v := ls.toList, k := fun a i => (match a with | 0 => (match i with | 0 => m | 1 => tk | 2 => tm | 3 => e | 4 => eL | _ => th) | 1 => L.ad i | _ => L.ep i), xs := L.xs, vv := fun i => (match i with | 0 => wk | 1 => wm | _ => wh) }
end
noncomputable section
def shE_o (β : BB) (fr : List Env) (c : SmC) (f : SmF) (aT aH eH i : Nat) (hr : Array Value) (H : ArrD) (k : Nat) (q : Bool) (th tk tm : Nat) (wh wk wm : Value) (e : Nat) (ls : Array Value) (L : ArrD) (m eL : Nat) (P : ArrD → Nat → Prop) (n t g : Nat) (X : Led) (Y : GL) (σ : Nat → Sup) : Out := Go (E2 β) (shI β fr c f aT aH eH i hr H k q th tk tm wh wk wm e ls L m eL q P) (Hs.h 0x6060606060606030801030302021304) (.a (.b false) (.a (.u (shU th tk tm wh wk wm e ls L m eL)) .nil)) n t g X Y σ
abbrev shE_v (β : BB) (fr : List Env) (c : SmC) (f : SmF) (aT aH eH i : Nat) (hr : Array Value) (H : ArrD) (k : Nat) (q : Bool) (th tk tm : Nat) (wh wk wm : Value) (e : Nat) (ls : Array Value) (L : ArrD) (m eL : Nat) (P : ArrD → Nat → Prop) (n t g : Nat) (X : Led) (Y : GL) (σ : Nat → Sup) : Prop :=
  (hr[Int.toNat (Int.ofNat i)]? = none) ∧ (Array.mk (Array.toList ls) = refsN (fun i => ArrD.ad L i) m ∧ P (ArrD.mk (fun i => ArrD.ad L i) (ArrD.xs L) fun i => ArrD.ep L i) m)
theorem shE_run (β : BB) (fr : List Env) (c : SmC) (f : SmF) (aT aH eH i : Nat) (hr : Array Value) (H : ArrD) (k : Nat) (q : Bool) (th tk tm : Nat) (wh wk wm : Value) (e : Nat) (ls : Array Value) (L : ArrD) (m eL : Nat) (P : ArrD → Nat → Prop) (n t g : Nat) (X : Led) (Y : GL) (σ : Nat → Sup) : See (shE_o β fr c f aT aH eH i hr H k q th tk tm wh wk wm e ls L m eL P n t g X Y σ) (shE_v β fr c f aT aH eH i hr H k q th tk tm wh wk wm e ls L m eL P n t g X Y σ) := by obtain ⟨b1, b2, b3, w0⟩ := β; cases q <;> cases b3 <;> kernel_rfl
def shN_o (β : BB) (fr : List Env) (c : SmC) (f : SmF) (aT aH eH i : Nat) (hr : Array Value) (H : ArrD) (k : Nat) (q : Bool) (th tk tm : Nat) (wh wk wm : Value) (e : Nat) (ls : Array Value) (L : ArrD) (m eL : Nat) (q2 : Bool) (P : ArrD → Nat → Prop) (P1 : ArrD → Nat → Prop) (n t g : Nat) (X : Led) (Y : GL) (σ : Nat → Sup) : Out := Go (E2 β) (shI β fr c f aT aH eH i hr H (k + 1) q th tk tm wh wk wm e ls L m eL q2 P) (Hs.h 0x20101010101010108010101010101080909010a02050505050505020105090203030303010301030303010301030301010101040105010103030302021304) (.a (.v (.ref (H.ad i))) (.k fun w w1 => .a (.cv [(H.sh i).ent (k + 1)] [.o (H.ad i) (lsO (H.xs i) (H.ep i)), (H.sh (i + 1)).ent k]) <| .a (.i (skI β fr c f (cond q th w1.t) (H.ad i) (H.ep i) (H.xs i) (w1.n + 1) 0 5 q tk tm wk wm (cond q e (e + 1)) ls L m eL true P1)) (.k fun s ws => .a (.i (shI β fr c f aT aH eH (i + 1) hr H k true (cond q th w1.t) (s.k 0 1) (s.k 0 2) (.ref (H.ad i)) (s.vv 0) (s.vv 1) (s.k 0 3) ⟨s.v⟩ ⟨s.k 1, s.xs, s.k 2⟩ (s.k 0 0) (s.k 0 4) q2 P)) (.k fun z _ => .a (.u z) .nil)))) n t g X Y σ
abbrev shN_v (β : BB) (fr : List Env) (c : SmC) (f : SmF) (aT aH eH i : Nat) (hr : Array Value) (H : ArrD) (k : Nat) (q : Bool) (th tk tm : Nat) (wh wk wm : Value) (e : Nat) (ls : Array Value) (L : ArrD) (m eL : Nat) (q2 : Bool) (P : ArrD → Nat → Prop) (P1 : ArrD → Nat → Prop) (n t g : Nat) (X : Led) (Y : GL) (σ : Nat → Sup) : Prop :=
  (hr[Int.toNat (Int.ofNat i)]? = some (Value.ref (ArrD.ad H i))) ∧ (Conv [ArrD.ent (ArrD.sh H i) (k + 1)] [Ent.o (ArrD.ad H i) (lsO (ArrD.xs H i) (ArrD.ep H i)), ArrD.ent (ArrD.sh H (i + 1)) k]) ∧ Sat (E2 β) (skI β fr c f (bif q then th else (σ 1).t) (ArrD.ad H i) (ArrD.ep H i) (ArrD.xs H i) ((σ 1).n + 1) 0 5 q tk tm wk wm (bif q then e else e + 1) ls L m eL true P1) ∧ ((Array.mk ((σ 2).v) = refsN ((σ 2).k 1) ((σ 2).k 0 0) ∧ P1 (ArrD.mk ((σ 2).k 1) ((σ 2).xs) ((σ 2).k 2)) ((σ 2).k 0 0)) → Sat (E2 β) (shI β fr c f aT aH eH (i + 1) hr H k true (bif q then th else (σ 1).t) ((σ 2).k 0 1) ((σ 2).k 0 2) (Value.ref (ArrD.ad H i)) ((σ 2).vv 0) ((σ 2).vv 1) ((σ 2).k 0 3) (Array.mk ((σ 2).v)) (ArrD.mk ((σ 2).k 1) ((σ 2).xs) ((σ 2).k 2)) ((σ 2).k 0 0) ((σ 2).k 0 4) q2 P) ∧ ((Array.mk ((σ 4).v) = refsN ((σ 4).k 1) ((σ 4).k 0 0) ∧ P (ArrD.mk ((σ 4).k 1) ((σ 4).xs) ((σ 4).k 2)) ((σ 4).k 0 0)) → (Array.mk ((σ 4).v) = refsN ((σ 4).k 1) ((σ 4).k 0 0) ∧ P (ArrD.mk ((σ 4).k 1) ((σ 4).xs) ((σ 4).k 2)) ((σ 4).k 0 0))))
theorem shN_run (β : BB) (fr : List Env) (c : SmC) (f : SmF) (aT aH eH i : Nat) (hr : Array Value) (H : ArrD) (k : Nat) (q : Bool) (th tk tm : Nat) (wh wk wm : Value) (e : Nat) (ls : Array Value) (L : ArrD) (m eL : Nat) (q2 : Bool) (P : ArrD → Nat → Prop) (P1 : ArrD → Nat → Prop) (n t g : Nat) (X : Led) (Y : GL) (σ : Nat → Sup) : See (shN_o β fr c f aT aH eH i hr H k q th tk tm wh wk wm e ls L m eL q2 P P1 n t g X Y σ) (shN_v β fr c f aT aH eH i hr H k q th tk tm wh wk wm e ls L m eL q2 P P1 n t g X Y σ) := by obtain ⟨b1, b2, b3, w0⟩ := β; cases q <;> cases b3 <;> kernel_rfl
end
def Grows (nd : List (Int × Int)) (gls : Nat → List Int) (Q : List Int → Prop) (hl : List Int) : Prop := hl.length ≤ 10 ∧ ∀ z : Nat, z < 5 → Int.ofNat z ∉ hl → FitsAt nd gls hl (Int.ofNat z) → ∀ ml, ml.Perm (hl ++ [Int.ofNat z]) → Q ml
theorem sh_sat {β : BB} (fr : List Env) {c : SmC} {f : SmF} {aT aH eH N : Nat} {hr : Array Value} {H : ArrD} {gls : Nat → List Int} {Q : List Int → Prop} {b : Nat} (hk : c.ks = refsN c.p.ad c.m) (hg : ∀ j, j < 6 → IntsOf (c.D.xs j) (gls j) ∧ (gls j).length ≤ 60) (hr' : hr = refsN H.ad N) (hH : Heads (Grows (c.p.list c.m) gls Q) H N) (hb : b ≤ 5000) : ∀ (k i : Nat) (q : Bool) (th tk tm : Nat) (wh wk wm : Value) (e : Nat) (ls : Array Value) (L : ArrD) (m eL : Nat), i + k = N → ls = refsN L.ad m → Heads Q L m → m + 5 * k ≤ b →
    Sat (E2 β) (shI β fr c f aT aH eH i hr H k q th tk tm wh wk wm e ls L m eL (q || decide (0 < k)) fun L' m' => Heads Q L' m' ∧ m' ≤ b) := by
  intro k
  induction k with
  | zero =>
    intro i q th tk tm wh wk wm e ls L m eL hi hls hL hm
    rw [show (q || decide (0 < 0)) = q from Bool.or_false q]
    exact sat_of (fun n t g X Y σ => shE_run β fr c f aT aH eH i hr H 0 q th tk tm wh wk wm e ls L m eL _ n t g X Y σ) fun n t g X Y σ => ⟨by rw [hr', Array.getElem?_eq_none_iff, refsN_size]; exact Nat.le_of_eq hi.symm, hls, hL, by omega⟩
  | succ k ih =>
    intro i q th tk tm wh wk wm e ls L m eL hi hls hL hm
    rw [show (q || decide (0 < k + 1)) = (true || decide (0 < k)) by rw [decide_eq_true (Nat.succ_pos k), Bool.or_true, Bool.true_or]]
    obtain ⟨hl, hx, h10, hQ⟩ := hH i (by omega)
    have hiN : i < N := by omega
    have sk := fun th aT e => sk_sat (β := β) fr (c := c) (f := f) (th := th) (aH := H.ad i) (eH := H.ep i) (aT := aT) hk hg hx h10 hQ (b := m + 5) (by omega) 5 0 q tk tm wk wm e ls L m eL rfl hls hL (Nat.le_refl _)
    rw [show (q || decide (0 < 5)) = true from Bool.or_true q] at sk
    exact sat_of (fun n t g X Y σ => shN_run β fr c f aT aH eH i hr H k q th tk tm wh wk wm e ls L m eL _ _ (fun L' m' => Heads Q L' m' ∧ m' ≤ m + 5) n t g X Y σ) fun n t g X Y σ => ⟨by rw [hr']; exact refsN_at _ hiN, H.sh_conv i k, sk _ _ _, fun h => ⟨ih (i + 1) true _ _ _ _ _ _ _ _ _ _ _ (by omega) h.1 h.2.1 (by have := h.2.2; omega), id⟩⟩
noncomputable section
def noA : ArrD := ⟨fun _ => 0, fun _ => #[], fun _ => 0⟩
def oneA (a : Nat) : ArrD := ⟨fun _ => a, fun _ => #[], fun _ => 0⟩
def arrH (u : Sup) : ArrD := ⟨u.k 1, u.xs, u.k 2⟩
theorem ArrD.sh0 (D : ArrD) (k : Nat) : Conv [D.ent k] [(D.sh 0).ent k] := by
  have e : (D.sh 0).ent k = D.ent k := by
    unfold ArrD.sh ArrD.ent
    simp only [Nat.zero_add]
  rw [e]; exact ⟨.refl _, rfl⟩
def ctxRet (T : KT) (a fr : Nat) (cells : List (Str × Addr)) (k : Nat) (f : Expr → Env → Sem Value) : Sem Fin := match (fdOf T a).body with
  | .stmts b => match b.drop k with
    | s :: rest => match s with
      | .Return v _ => match v with
        | some v => PySem.W.R.bindR (PySem.W.R.onRaiseR (PySem.W.R.bindR (PySem.W.R.bindR (f v (fenv T a fr cells)) fun x => .pure (Flow.ret x)) fun f : Flow => match f with
          | .next => execsT rest (fenv T a fr cells)
          | f => .pure f) (leavingT (fenv T a fr cells))) fun f : Flow => match f with
          | .ret v => .pure (.done (.ret v))
          | _ => .pure (.done (.ret .none))
        | none => .unsupported ""
      | _ => .unsupported ""
    | [] => .unsupported ""
  | _ => .unsupported ""
def smeI (β : BB) (fr : List Env) (aG aS eS m : Nat) (ks : Array Value) (p : PairsD) (D : ArrD) : Inst where
  cu := cu0 (.call (.ref 247) ⟨[.ref aG, .ref aS], []⟩)
  fr := fr
  dep := 350
  un := 1500
  pre := [.o aG (lsO D.refs 6), D.ent 6, .o aS (lsO ks eS), p.ent m]
  post _ := (.ok (.ret (.bool false)), [.o aG (lsO D.refs 6), D.ent 6, .o aS (lsO ks eS), p.ent m], True)
end
noncomputable section
def sme_o (β : BB) (fr : List Env) (aG aS eS m : Nat) (ks : Array Value) (p : PairsD) (D : ArrD) (P0 P1 P2 P3 P4 : ArrD → Nat → Prop) (n t g : Nat) (X : Led) (Y : GL) (σ : Nat → Sup) : Out := Go (E2 β) (smeI β fr aG aS eS m ks p D) (Hs.h 0x907070707050403040301040304010301050105070307050501030801230a01030303010101010102020401050a02030107010005040105050504040403030801230a01030303010101010102020401050a02030107010005040105050504040403030801230a01030303010101010102020401050a02030107010005040105050504040403030801230a01030303010101010102020401050a02030107010005040105050504040403030801230a01030303030303030102020601080a0203010801000505010506060808080707010123030103030303010301030303010301030301010101010105050102030303030101) (.a (.b true) (.k fun a0 b0 => .a (.cv [.o (n + 1) (lsO #[] 0)] [((oneA (n + 1)).sh 0).ent 1]) <| .a (.cv [] [noA.ent 0]) <| .a (.i (shI β (fenv (TT β) 247 n [] :: fr) (SmC.mk n t (t + 1) aG aS eS m ks p D) (SmF.mk (t + 2) b0.t (b0.t + 1) (.ref (n + 2)) (.int 0 a0.a) b0.n) (b0.n + 1) (n + 2) 0 0 #[.ref (n + 1)] (oneA (n + 1)) 1 false 0 0 0 .none .none .none 5 #[] noA 0 0 true P0)) (.k fun s0 _ => .a (.b true) (.k fun a1 b1 => .a (.cv [(arrH s0).ent (s0.k 0 0)] [((arrH s0).sh 0).ent (s0.k 0 0)]) <| .a (.cv [] [noA.ent 0]) <| .a (.i (shI β (fenv (TT β) 247 n [] :: fr) (SmC.mk n t (t + 1) aG aS eS m ks p D) (SmF.mk (t + 2) b0.t (b0.t + 1) (.ref b0.n) (.int 1 a1.a) b1.n) (b1.n + 1) b0.n (s0.k 0 4) 0 ⟨s0.v⟩ (arrH s0) (s0.k 0 0) true (s0.k 0 5) (s0.k 0 1) (s0.k 0 2) (s0.vv 2) (s0.vv 0) (s0.vv 1) (s0.k 0 3) #[] noA 0 0 true P1)) (.k fun s1 _ => .a (.b true) (.k fun a2 b2 => .a (.cv [(arrH s1).ent (s1.k 0 0)] [((arrH s1).sh 0).ent (s1.k 0 0)]) <| .a (.cv [] [noA.ent 0]) <| .a (.i (shI β (fenv (TT β) 247 n [] :: fr) (SmC.mk n t (t + 1) aG aS eS m ks p D) (SmF.mk (t + 2) b0.t (b0.t + 1) (.ref b1.n) (.int 2 a2.a) b2.n) (b2.n + 1) b1.n (s1.k 0 4) 0 ⟨s1.v⟩ (arrH s1) (s1.k 0 0) true (s1.k 0 5) (s1.k 0 1) (s1.k 0 2) (s1.vv 2) (s1.vv 0) (s1.vv 1) (s1.k 0 3) #[] noA 0 0 true P2)) (.k fun s2 _ => .a (.b true) (.k fun a3 b3 => .a (.cv [(arrH s2).ent (s2.k 0 0)] [((arrH s2).sh 0).ent (s2.k 0 0)]) <| .a (.cv [] [noA.ent 0]) <| .a (.i (shI β (fenv (TT β) 247 n [] :: fr) (SmC.mk n t (t + 1) aG aS eS m ks p D) (SmF.mk (t + 2) b0.t (b0.t + 1) (.ref b2.n) (.int 3 a3.a) b3.n) (b3.n + 1) b2.n (s2.k 0 4) 0 ⟨s2.v⟩ (arrH s2) (s2.k 0 0) true (s2.k 0 5) (s2.k 0 1) (s2.k 0 2) (s2.vv 2) (s2.vv 0) (s2.vv 1) (s2.k 0 3) #[] noA 0 0 true P3)) (.k fun s3 _ => .a (.b true) (.k fun a4 b4 => .a (.cv [(arrH s3).ent (s3.k 0 0)] [((arrH s3).sh 0).ent (s3.k 0 0)]) <| .a (.cv [] [noA.ent 0]) <| .a (.i (shI β (fenv (TT β) 247 n [] :: fr) (SmC.mk n t (t + 1) aG aS eS m ks p D) (SmF.mk (t + 2) b0.t (b0.t + 1) (.ref b3.n) (.int 4 a4.a) b4.n) (b4.n + 1) b3.n (s3.k 0 4) 0 ⟨s3.v⟩ (arrH s3) (s3.k 0 0) true (s3.k 0 5) (s3.k 0 1) (s3.k 0 2) (s3.vv 2) (s3.vv 0) (s3.vv 1) (s3.k 0 3) #[] noA 0 0 true P4)) (.k fun s4 _ => .a (.b false) (.k fun _ z => .a (.rm (fun m => ctxRet (TT β) 247 n [] 2 fun _ _ => m) (cmpF .NotEq b4.n z.n)) <| .a (.cv [.o b4.n (lsO ⟨s4.v⟩ (s4.k 0 4))] [.o b4.n (lsO #[] (s4.k 0 4))]) <| .a (.u noS) .nil)))))))))))) n t g X Y σ
abbrev sme_v (β : BB) (fr : List Env) (aG aS eS m : Nat) (ks : Array Value) (p : PairsD) (D : ArrD) (P0 P1 P2 P3 P4 : ArrD → Nat → Prop) (n t g : Nat) (X : Led) (Y : GL) (σ : Nat → Sup) : Prop :=
  (yesNo true ¬Builtin.Range.rangeSize 0 5 1 ≤ 0) ∧ (Conv [Ent.o (n + (1 : Addr)) (lsO #[] 0)] [ArrD.ent (ArrD.sh (oneA (n + 1)) 0) 1]) ∧ (Conv [] [ArrD.ent noA 0]) ∧ Sat (E2 β) (shI β (fenv (TT β) (247 : Addr) n [] :: fr) (SmC.mk n t (t + 1) aG aS eS m ks p D) (SmF.mk (t + 2) ((σ 1).t) ((σ 1).t + 1) (Value.ref (n + (2 : Addr))) (Value.int 0 ((σ 0).a)) ((σ 1).n)) ((σ 1).n + 1) (n + 2) 0 0 #[Value.ref (n + (1 : Addr))] (oneA (n + 1)) 1 false 0 0 0 Value.none Value.none Value.none 5 #[] noA 0 0 true P0) ∧ ((Array.mk ((σ 2).v) = refsN ((σ 2).k 1) ((σ 2).k 0 0) ∧ P0 (ArrD.mk ((σ 2).k 1) ((σ 2).xs) ((σ 2).k 2)) ((σ 2).k 0 0)) → (yesNo true ¬Builtin.Range.rangeSize 0 5 1 - 1 ≤ 0) ∧ (Conv [ArrD.ent (arrH (σ 2)) ((σ 2).k 0 0)] [ArrD.ent (ArrD.sh (arrH (σ 2)) 0) ((σ 2).k 0 0)]) ∧ (Conv [] [ArrD.ent noA 0]) ∧ Sat (E2 β) (shI β (fenv (TT β) (247 : Addr) n [] :: fr) (SmC.mk n t (t + 1) aG aS eS m ks p D) (SmF.mk (t + 2) ((σ 1).t) ((σ 1).t + 1) (Value.ref ((σ 1).n)) (Value.int 1 ((σ 4).a)) ((σ 5).n)) ((σ 5).n + 1) ((σ 1).n) ((σ 2).k 0 4) 0 (Array.mk ((σ 2).v)) (arrH (σ 2)) ((σ 2).k 0 0) true ((σ 2).k 0 5) ((σ 2).k 0 1) ((σ 2).k 0 2) ((σ 2).vv 2) ((σ 2).vv 0) ((σ 2).vv 1) ((σ 2).k 0 3) #[] noA 0 0 true P1) ∧ ((Array.mk ((σ 6).v) = refsN ((σ 6).k 1) ((σ 6).k 0 0) ∧ P1 (ArrD.mk ((σ 6).k 1) ((σ 6).xs) ((σ 6).k 2)) ((σ 6).k 0 0)) → (yesNo true ¬Builtin.Range.rangeSize 0 5 1 - 1 - 1 ≤ 0) ∧ (Conv [ArrD.ent (arrH (σ 6)) ((σ 6).k 0 0)] [ArrD.ent (ArrD.sh (arrH (σ 6)) 0) ((σ 6).k 0 0)]) ∧ (Conv [] [ArrD.ent noA 0]) ∧ Sat (E2 β) (shI β (fenv (TT β) (247 : Addr) n [] :: fr) (SmC.mk n t (t + 1) aG aS eS m ks p D) (SmF.mk (t + 2) ((σ 1).t) ((σ 1).t + 1) (Value.ref ((σ 5).n)) (Value.int 2 ((σ 8).a)) ((σ 9).n)) ((σ 9).n + 1) ((σ 5).n) ((σ 6).k 0 4) 0 (Array.mk ((σ 6).v)) (arrH (σ 6)) ((σ 6).k 0 0) true ((σ 6).k 0 5) ((σ 6).k 0 1) ((σ 6).k 0 2) ((σ 6).vv 2) ((σ 6).vv 0) ((σ 6).vv 1) ((σ 6).k 0 3) #[] noA 0 0 true P2) ∧ ((Array.mk ((σ 10).v) = refsN ((σ 10).k 1) ((σ 10).k 0 0) ∧ P2 (ArrD.mk ((σ 10).k 1) ((σ 10).xs) ((σ 10).k 2)) ((σ 10).k 0 0)) → (yesNo true ¬Builtin.Range.rangeSize 0 5 1 - 1 - 1 - 1 ≤ 0) ∧ (Conv [ArrD.ent (arrH (σ 10)) ((σ 10).k 0 0)] [ArrD.ent (ArrD.sh (arrH (σ 10)) 0) ((σ 10).k 0 0)]) ∧ (Conv [] [ArrD.ent noA 0]) ∧ Sat (E2 β) (shI β (fenv (TT β) (247 : Addr) n [] :: fr) (SmC.mk n t (t + 1) aG aS eS m ks p D) (SmF.mk (t + 2) ((σ 1).t) ((σ 1).t + 1) (Value.ref ((σ 9).n)) (Value.int 3 ((σ 12).a)) ((σ 13).n)) ((σ 13).n + 1) ((σ 9).n) ((σ 10).k 0 4) 0 (Array.mk ((σ 10).v)) (arrH (σ 10)) ((σ 10).k 0 0) true ((σ 10).k 0 5) ((σ 10).k 0 1) ((σ 10).k 0 2) ((σ 10).vv 2) ((σ 10).vv 0) ((σ 10).vv 1) ((σ 10).k 0 3) #[] noA 0 0 true P3) ∧ ((Array.mk ((σ 14).v) = refsN ((σ 14).k 1) ((σ 14).k 0 0) ∧ P3 (ArrD.mk ((σ 14).k 1) ((σ 14).xs) ((σ 14).k 2)) ((σ 14).k 0 0)) → (yesNo true ¬Builtin.Range.rangeSize 0 5 1 - 1 - 1 - 1 - 1 ≤ 0) ∧ (Conv [ArrD.ent (arrH (σ 14)) ((σ 14).k 0 0)] [ArrD.ent (ArrD.sh (arrH (σ 14)) 0) ((σ 14).k 0 0)]) ∧ (Conv [] [ArrD.ent noA 0]) ∧ Sat (E2 β) (shI β (fenv (TT β) (247 : Addr) n [] :: fr) (SmC.mk n t (t + 1) aG aS eS m ks p D) (SmF.mk (t + 2) ((σ 1).t) ((σ 1).t + 1) (Value.ref ((σ 13).n)) (Value.int 4 ((σ 16).a)) ((σ 17).n)) ((σ 17).n + 1) ((σ 13).n) ((σ 14).k 0 4) 0 (Array.mk ((σ 14).v)) (arrH (σ 14)) ((σ 14).k 0 0) true ((σ 14).k 0 5) ((σ 14).k 0 1) ((σ 14).k 0 2) ((σ 14).vv 2) ((σ 14).vv 0) ((σ 14).vv 1) ((σ 14).k 0 3) #[] noA 0 0 true P4) ∧ ((Array.mk ((σ 18).v) = refsN ((σ 18).k 1) ((σ 18).k 0 0) ∧ P4 (ArrD.mk ((σ 18).k 1) ((σ 18).xs) ((σ 18).k 2)) ((σ 18).k 0 0)) → (yesNo false ¬Builtin.Range.rangeSize 0 5 1 - 1 - 1 - 1 - 1 - 1 ≤ 0) ∧ (RoomF (cmpF CmpOp.NotEq ((σ 17).n) ((σ 21).n))) ∧ (Conv [Ent.o ((σ 17).n) (lsO (Array.mk ((σ 18).v)) ((σ 18).k 0 4))] [Ent.o ((σ 17).n) (lsO #[] ((σ 18).k 0 4))]) ∧ (True))))))
theorem sme_run (β : BB) (fr : List Env) (aG aS eS m : Nat) (ks : Array Value) (p : PairsD) (D : ArrD) (P0 P1 P2 P3 P4 : ArrD → Nat → Prop) (n t g : Nat) (X : Led) (Y : GL) (σ : Nat → Sup) : See (sme_o β fr aG aS eS m ks p D P0 P1 P2 P3 P4 n t g X Y σ) (sme_v β fr aG aS eS m ks p D P0 P1 P2 P3 P4 n t g X Y σ) := by obtain ⟨b1, b2, b3, w0⟩ := β; cases b3 <;> kernel_rfl
end
inductive FitRow (nd : List (Int × Int)) (gls : Nat → List Int) : List Int → Prop
  | nil : FitRow nd gls []
  | snoc {r : List Int} {z : Nat} : FitRow nd gls r → z < 5 → Int.ofNat z ∉ r → FitsAt nd gls r (Int.ofNat z) → FitRow nd gls (r ++ [Int.ofNat z])
def FitN (nd : List (Int × Int)) (gls : Nat → List Int) (s : Nat) (l : List Int) : Prop := ∃ r, FitRow nd gls r ∧ r.Perm l ∧ r.length = s
theorem FitsAt.perm {nd : List (Int × Int)} {gls : Nat → List Int} {a b : List Int} {k : Int} (p : a.Perm b) (h : FitsAt nd gls a k) : FitsAt nd gls b k := by
  refine ⟨fun q hq e => p.mem_iff.mp (h.1 q hq e), fun j hj => ?_⟩
  have : inH b (gls j) = inH a (gls j) := List.filter_congr fun z _ => decide_eq_decide.mpr p.mem_iff.symm
  unfold gok
  rw [this]
  exact h.2 j hj
theorem fitN_grows {nd : List (Int × Int)} {gls : Nat → List Int} {s : Nat} (hs : s ≤ 5) {l : List Int} (h : FitN nd gls s l) : Grows nd gls (FitN nd gls (s + 1)) l := by
  obtain ⟨r, h1, h2, h3⟩ := h
  refine ⟨by rw [← h2.length_eq]; omega, fun z h5 hz hF ml hp => ⟨r ++ [Int.ofNat z], h1.snoc h5 (fun c => hz (h2.mem_iff.mp c)) (hF.perm h2.symm), (h2.append_right _).trans hp.symm, ?_⟩⟩
  rw [List.length_append, h3]; rfl
theorem Heads.mono {Q Q' : List Int → Prop} {L : ArrD} {m : Nat} (h : Heads Q L m) (hq : ∀ l, Q l → Q' l) : Heads Q' L m := fun j hj => (h j hj).elim fun l h => ⟨l, h.1, hq l h.2⟩
theorem sme_sat {β : BB} (fr : List Env) {aG aS eS m : Nat} {ks : Array Value} {p : PairsD} {D : ArrD} {gls : Nat → List Int} (hk : ks = refsN p.ad m) (hg : ∀ j, j < 6 → IntsOf (D.xs j) (gls j) ∧ (gls j).length ≤ 60) (hno : ∀ r, FitRow (p.list m) gls r → r.length ≠ 5) : Sat (E2 β) (smeI β fr aG aS eS m ks p D) := by
  have sh := fun (fr : List Env) (n0 t1 t2 : Nat) (f : SmF) (aT aH eH N : Nat) (hr : Array Value) (H : ArrD) (s b : Nat) (hs : s ≤ 5) (hb : b ≤ 5000) (hr' : hr = refsN H.ad N) (hH : Heads (FitN (p.list m) gls s) H N ∧ 5 * N ≤ b) (q : Bool) (th tk tm : Nat) (wh wk wm : Value) (e : Nat) => sh_sat (β := β) fr (c := SmC.mk n0 t1 t2 aG aS eS m ks p D) (f := f) (aT := aT) (aH := aH) (eH := eH) (N := N) (hr := hr) (H := H) (gls := gls) (Q := FitN (p.list m) gls (s + 1)) (b := b) hk hg hr' (hH.1.mono fun l h => fitN_grows hs h) hb N 0 q th tk tm wh wk wm e #[] noA 0 0 (Nat.zero_add _) rfl (fun j hj => absurd hj (Nat.not_lt_zero j)) (by rw [Nat.zero_add]; exact hH.2)
  have sh1 := fun (fr : List Env) (n0 t1 t2 : Nat) (f : SmF) (aT aH eH N : Nat) (hr : Array Value) (H : ArrD) (s b : Nat) (hs : s ≤ 5) (hb : b ≤ 5000) (hr' : hr = refsN H.ad N) (hH : Heads (FitN (p.list m) gls s) H N ∧ 5 * N ≤ b) (th tk tm : Nat) (wh wk wm : Value) (e : Nat) => sh fr n0 t1 t2 f aT aH eH N hr H s b hs hb hr' hH true th tk tm wh wk wm e
  have h0 : ∀ a, Heads (FitN (p.list m) gls 0) (oneA a) 1 ∧ 5 * 1 ≤ 5 := fun a => ⟨fun j _ => ⟨[], rfl, [], .nil, .refl _, rfl⟩, by omega⟩
  let P (s : Nat) (b : Nat) : ArrD → Nat → Prop := fun L' m' => Heads (FitN (p.list m) gls s) L' m' ∧ m' ≤ b
  refine sat_of (fun n t g X Y σ => sme_run β fr aG aS eS m ks p D (P 1 5) (P 2 25) (P 3 125) (P 4 625) (P 5 3125) n t g X Y σ) fun n t g X Y σ => ⟨left_pos 4, ⟨.refl _, rfl⟩, ⟨.refl _, rfl⟩, sh _ _ _ _ _ _ _ _ 1 _ _ 0 5 (by decide) (by decide) rfl (h0 _) false 0 0 0 .none .none .none 5,
    fun a0 => ⟨left_pos 3, ArrD.sh0 .., ⟨.refl _, rfl⟩, sh1 _ _ _ _ _ _ _ _ _ _ _ 1 25 (by decide) (by decide) a0.1 ⟨a0.2.1, by have := a0.2.2; omega⟩ ..,
    fun a1 => ⟨left_pos 2, ArrD.sh0 .., ⟨.refl _, rfl⟩, sh1 _ _ _ _ _ _ _ _ _ _ _ 2 125 (by decide) (by decide) a1.1 ⟨a1.2.1, by have := a1.2.2; omega⟩ ..,
    fun a2 => ⟨left_pos 1, ArrD.sh0 .., ⟨.refl _, rfl⟩, sh1 _ _ _ _ _ _ _ _ _ _ _ 3 625 (by decide) (by decide) a2.1 ⟨a2.2.1, by have := a2.2.2; omega⟩ ..,
    fun a3 => ⟨left_pos 0, ArrD.sh0 .., ⟨.refl _, rfl⟩, sh1 _ _ _ _ _ _ _ _ _ _ _ 4 3125 (by decide) (by decide) a3.1 ⟨a3.2.1, by have := a3.2.2; omega⟩ ..,
    fun a4 => ⟨left_end, cmpF_ne _ _, ?_, trivial⟩⟩⟩⟩⟩⟩
  have hz : (σ 18).k 0 0 = 0 := by
    rcases Nat.eq_zero_or_pos ((σ 18).k 0 0) with h | h
    · exact h
    · obtain ⟨l, _, r, h1, _, h3⟩ := a4.2.1 0 h
      exact absurd h3 (hno r h1)
  rw [a4.1, hz]
  exact ⟨.refl _, rfl⟩
noncomputable section
def skim : Nat → Sem Fin → Sem Fin
  | 0, t => t
  | n + 1, t => match t with
    | .rule _ k => skim n (k ())
    | .at _ k => skim n (k ())
    | .point _ k => skim n (k ())
    | t => t
def cuR (T : KT) (a fr : Addr) (cells : List (Str × Addr)) (k : Nat) : Cu := match (fdOf T a).body with
  | .stmts b => ⟨.func b (fenv T a fr cells), none, .base, skim 20 (PySem.W.R.bindR (PySem.W.R.onRaiseR (execsT (b.drop k) (fenv T a fr cells)) (leavingT (fenv T a fr cells))) fun f => match f with
    | .ret v => .pure (.done (.ret v))
    | _ => .pure (.done (.ret .none)))⟩
  | _ => ⟨.builtin "" {}, none, .base, .unsupported ""⟩
def tabF (vs : List Value) : Obj := ⟨.none, none, .fields ⟨vs⟩, #[]⟩
def lwbI (β : BB) (c : LwC) (x : WhC) (v : WhV) (s : SqD) (qs : Array Value) (aN eN : Nat) (ns : Array Value) (D : ArrD) (ks : Array Value) (eS m : Nat) (p : PairsD) (aL : Nat) (ss : Array Value) (eL : Nat) : Inst where
  cu := cuR (TT β) 252 c.n0 c.cells 12
  fr := []
  dep := 310
  un := 950
  pre := [.o c.n0 (frameO (whD β c s.d x v false) v.e x.f.sl), .o v.aW (lsO v.ws v.eW), .o c.ct (ceO x.aO), .o x.aO (lsO #[] 0)] ++ soE β s.so s.es s.eM s.inf s.D s.aR qs s.eR ++ [.o c.cst (ceO aN), .o aN (lsO ns eN), .o c.a3 (lsO D.refs 6), D.ent 6, .o c.a4 (lsO ks eS), p.ent m, .o 249 (o249 β.P), .o aL (lsO ss eL)]
  post u := (.ok (.ret (.bool true)), [.o aL (lsO ss eL), .o 249 (tabF u.v)], True)
end
def foT : Nat → Str
  | 0 => ⟨#[97]⟩
  | 1 => ⟨#[47, 47, 98]⟩
  | 2 => ⟨#[97, 47, 47, 97]⟩
  | 3 => ⟨#[97, 47, 98]⟩
  | 4 => ⟨#[47, 47, 98, 47, 97]⟩
  | _ => ⟨#[47, 47, 98, 47, 47, 47, 98]⟩
def chT : Nat → List Str
  | 0 => []
  | 1 => [foT 0]
  | 2 => [foT 1]
  | 3 => [foT 2, foT 0]
  | 4 => [foT 3, foT 0]
  | 5 => [foT 4, foT 1]
  | _ => [foT 5, foT 1]
def allN : List (Nat × Nat) := (List.range 7).flatMap fun c => (List.range 5).map fun k => (c, k)
def wayT (x : Str) : List Str := match allN.find? fun p => nm p.1 p.2 == x with
  | some p => chT p.1
  | none => []
def upT (p : Nat × Nat) : List Str := (chT p.1).reverse ++ [nm p.1 p.2]
theorem mem_allN {c k : Nat} (hc : c < 7) (hk : k < 5) : (c, k) ∈ allN := List.mem_flatMap.mpr ⟨c, List.mem_range.mpr hc, List.mem_map.mpr ⟨k, List.mem_range.mpr hk, rfl⟩⟩
def one1 (p : Nat × Nat) : Bool := decide (wayT (nm p.1 p.2) = chT p.1) && wayOk (nm p.1 p.2) (chT p.1) && (upT p).all (fun y => decide (y.length < 100)) && decide (upT p).Nodup && (upT p).all (fun y => decide (y = nm p.1 p.2) || (List.range 6).any fun j => decide (y = foT j)) && (List.range 6).all fun j => decide (foT j ∈ upT p ↔ p.1 ∈ kd j) && decide (foT j ≠ nm p.1 p.2)
theorem one1_all : allN.all one1 = true := by decide +kernel
def cmnT : List Str → List Str → List Str
  | a :: l, b :: m => if a = b then a :: cmnT l m else []
  | _, _ => []
def two2 (p q : Nat × Nat) : Bool := decide (p.2 = q.2) || (let D := cmnT (upT p) (upT q)
  let F := (upT p).drop D.length
  decide (upT p = D ++ F) && decide (upT q = D ++ (upT q).drop D.length) && F.all (fun y => decide (y ∉ upT q)) && decide (F.head? = some (topOf wayT (nm p.1 p.2) (nm q.1 q.2))) && decide (nm p.1 p.2 ≠ nm q.1 q.2))
theorem two2_all : (allN.all fun p => allN.all (two2 p)) = true := by decide +kernel
noncomputable section
def spE (D : ArrD) (i : Nat) (b : Bool) (B : Nat → Nat) (O : Nat → Obj) : List Ent := [.o (D.ad i) (lsO (arrB b (hdU (D.xs i))) (D.ep i)), .m 5 B O]
def zcI (β : BB) (fr : List Env) (n0 loc aZ aI aW i1 i2 aF eF aG aA i : Nat) (q : Bool) (u1 u2 : Nat) (w1 w2 : Value) (el : Nat) (v1 v2 : Value) (fs : Array Value) (D : ArrD) (K : List Ent) (as : Array Value) (ea : Nat) (R : List Str) : Inst where
  cu := cu0 (compC (TT β) 252 5 n0 loc [] 0 (.ref aZ) (.ref aA))
  fr := fr
  dep := 390
  un := 2000
  pre := [.o loc (dO (cond q #[β.d "folder" u1 w1, β.d "group" u2 w2] #[]) el), .o aZ (zpO .none false aI aW), .o aI (tpO #[.ref i1, .ref i2]), .o aW (tpO #[v1, v2]), .o i1 (liO aF (Int.ofNat i)), .o i2 (liO aG (Int.ofNat i)), .o aF (lsO fs eF), .o aG (lsO D.refs 6), .o aA (lsO as ea)] ++ K
  post u := (.ok .next, [.o loc (dO #[β.d "folder" (u.k 0 1) (u.vv 0), β.d "group" (u.k 0 2) (u.vv 1)] (u.k 0 3)), .o aF (lsO fs eF), .o aG (lsO D.refs 6), D.ent 6, .o aA (lsO (u.xs 0) (u.k 0 0))], StrsOf (u.xs 0) R)
def zcU (xs : Array Value) (ea el u1 u2 : Nat) (w1 w2 : Value) : Sup := { noS with xs := fun _ => xs, k := fun _ i => (match i with | 0 => ea | 1 => u1 | 2 => u2 | _ => el), vv := fun i => (match i with | 0 => w1 | _ => w2) }
end
noncomputable section
def zcN_o (β : BB) (fr : List Env) (n0 loc aZ aI aW i1 i2 aF eF aG aA i : Nat) (q : Bool) (u1 u2 : Nat) (w1 w2 : Value) (el : Nat) (v1 v2 : Value) (fs : Array Value) (D : ArrD) (as : Array Value) (ea : Nat) (R : List Str) (x : Str) (tx : Nat) (B : Nat → Nat) (O : Nat → Obj) (n t g : Nat) (X : Led) (Y : GL) (σ : Nat → Sup) : Out := Go (E1 β) (zcI β fr n0 loc aZ aI aW i1 i2 aF eF aG aA i q u1 u2 w1 w2 el v1 v2 fs D (spE D i true B O) as ea R) (Hs.h 0x601010101010606060606060606060605070b020e0114090311030111011103110508080808080303010219030301021903030102190303010401040404030303010f0205050505060606060608060213080606060607050213070404040405040401040104) (.a (.v (.str x tx)) (.k fun a1 b1 => .a (.v (.ref (D.ad i))) (.k fun a2 b2 => .a (.v (.str x tx)) <| .a (.v (.ref (D.ad i))) <| .a (.b false) (.k fun a3 b3 => .a (.rm (fun m => ctxC (compC (TT β) 252 5 n0 loc [] 0 (.ref aZ) (.ref aA)) (askT m)) (cmpF .NotEq (D.ad i) b3.n)) <| .a (.i (zcI β fr n0 loc aZ aI aW i1 i2 aF eF aG aA (i + 1) true (cond q u1 b3.t) (cond q u2 (b3.t + 1)) (.str x tx) (.ref (D.ad i)) (cond q el (el + 2)) (.str x tx) (.ref (D.ad i)) fs D (spE D i true B O) (as.push (.str x tx)) (ea + 1) R)) (.k fun z _ => .a (.u z) .nil))))) n t g X Y σ
abbrev zcN_v (β : BB) (fr : List Env) (n0 loc aZ aI aW i1 i2 aF eF aG aA i : Nat) (q : Bool) (u1 u2 : Nat) (w1 w2 : Value) (el : Nat) (v1 v2 : Value) (fs : Array Value) (D : ArrD) (as : Array Value) (ea : Nat) (R : List Str) (x : Str) (tx : Nat) (B : Nat → Nat) (O : Nat → Obj) (n t g : Nat) (X : Led) (Y : GL) (σ : Nat → Sup) : Prop :=
  (fs[Int.toNat (Int.ofNat i)]? = some (Value.str x tx)) ∧ ((ArrD.refs D)[Int.toNat (Int.ofNat i)]? = some (Value.ref (ArrD.ad D i))) ∧ ((List.toArray (List.set (List.set [v1, v2] 0 (Value.str x tx)) (0 + 1) (Value.ref (ArrD.ad D i))))[Int.toNat 0]? = some (Value.str x tx)) ∧ ((List.toArray (List.set (List.set [v1, v2] 0 (Value.str x tx)) (0 + 1) (Value.ref (ArrD.ad D i))))[Int.toNat (0 + 1)]? = some (Value.ref (ArrD.ad D i))) ∧ ((List.toArray (List.set (List.set [v1, v2] 0 (Value.str x tx)) (0 + 1) (Value.ref (ArrD.ad D i))))[Int.toNat (0 + 1 + 1)]? = none) ∧ (RoomF (cmpF CmpOp.NotEq (ArrD.ad D i) ((σ 11).n))) ∧ (Array.size as ≤ BIG) ∧ Sat (E1 β) (zcI β fr n0 loc aZ aI aW i1 i2 aF eF aG aA (i + 1) true (bif q then u1 else (σ 11).t) (bif q then u2 else (σ 11).t + 1) (Value.str x tx) (Value.ref (ArrD.ad D i)) (bif q then el else el + 2) (Value.str x tx) (Value.ref (ArrD.ad D i)) fs D (spE D i true B O) (Array.push as (Value.str x tx)) (ea + 1) R) ∧ ((StrsOf ((σ 14).xs 0) R) → (StrsOf ((σ 14).xs 0) R))
theorem zcN_run (β : BB) (fr : List Env) (n0 loc aZ aI aW i1 i2 aF eF aG aA i : Nat) (q : Bool) (u1 u2 : Nat) (w1 w2 : Value) (el : Nat) (v1 v2 : Value) (fs : Array Value) (D : ArrD) (as : Array Value) (ea : Nat) (R : List Str) (x : Str) (tx : Nat) (B : Nat → Nat) (O : Nat → Obj) (n t g : Nat) (X : Led) (Y : GL) (σ : Nat → Sup) : See (zcN_o β fr n0 loc aZ aI aW i1 i2 aF eF aG aA i q u1 u2 w1 w2 el v1 v2 fs D as ea R x tx B O n t g X Y σ) (zcN_v β fr n0 loc aZ aI aW i1 i2 aF eF aG aA i q u1 u2 w1 w2 el v1 v2 fs D as ea R x tx B O n t g X Y σ) := by obtain ⟨b1, b2, b3, w0⟩ := β; cases q <;> cases b3 <;> kernel_rfl
def zcO_o (β : BB) (fr : List Env) (n0 loc aZ aI aW i1 i2 aF eF aG aA i : Nat) (q : Bool) (u1 u2 : Nat) (w1 w2 : Value) (el : Nat) (v1 v2 : Value) (fs : Array Value) (D : ArrD) (as : Array Value) (ea : Nat) (R : List Str) (x : Str) (tx : Nat) (B : Nat → Nat) (O : Nat → Obj) (n t g : Nat) (X : Led) (Y : GL) (σ : Nat → Sup) : Out := Go (E1 β) (zcI β fr n0 loc aZ aI aW i1 i2 aF eF aG aA i q u1 u2 w1 w2 el v1 v2 fs D (spE D i false B O) as ea R) (Hs.h 0x601010101010606060606060606060605070b0203110311010311030111011103110508080808080303010219030301021903030102190303010401040404030303010f0205050505060606060608060213080606060607050213070404040405040401040104) (.a (.v (.str x tx)) (.k fun a1 b1 => .a (.v (.ref (D.ad i))) (.k fun a2 b2 => .a (.v (.str x tx)) <| .a (.v (.ref (D.ad i))) <| .a (.b false) (.k fun a3 b3 => .a (.rm (fun m => ctxC (compC (TT β) 252 5 n0 loc [] 0 (.ref aZ) (.ref aA)) (askT m)) (cmpF .NotEq (D.ad i) b3.n)) <| .a (.i (zcI β fr n0 loc aZ aI aW i1 i2 aF eF aG aA (i + 1) true (cond q u1 b3.t) (cond q u2 (b3.t + 1)) (.str x tx) (.ref (D.ad i)) (cond q el (el + 2)) (.str x tx) (.ref (D.ad i)) fs D (spE D i false B O) as ea R)) (.k fun z _ => .a (.u z) .nil))))) n t g X Y σ
abbrev zcO_v (β : BB) (fr : List Env) (n0 loc aZ aI aW i1 i2 aF eF aG aA i : Nat) (q : Bool) (u1 u2 : Nat) (w1 w2 : Value) (el : Nat) (v1 v2 : Value) (fs : Array Value) (D : ArrD) (as : Array Value) (ea : Nat) (R : List Str) (x : Str) (tx : Nat) (B : Nat → Nat) (O : Nat → Obj) (n t g : Nat) (X : Led) (Y : GL) (σ : Nat → Sup) : Prop :=
  (fs[Int.toNat (Int.ofNat i)]? = some (Value.str x tx)) ∧ ((ArrD.refs D)[Int.toNat (Int.ofNat i)]? = some (Value.ref (ArrD.ad D i))) ∧ ((List.toArray (List.set (List.set [v1, v2] 0 (Value.str x tx)) (0 + 1) (Value.ref (ArrD.ad D i))))[Int.toNat 0]? = some (Value.str x tx)) ∧ ((List.toArray (List.set (List.set [v1, v2] 0 (Value.str x tx)) (0 + 1) (Value.ref (ArrD.ad D i))))[Int.toNat (0 + 1)]? = some (Value.ref (ArrD.ad D i))) ∧ ((List.toArray (List.set (List.set [v1, v2] 0 (Value.str x tx)) (0 + 1) (Value.ref (ArrD.ad D i))))[Int.toNat (0 + 1 + 1)]? = none) ∧ (RoomF (cmpF CmpOp.NotEq (ArrD.ad D i) ((σ 11).n))) ∧ Sat (E1 β) (zcI β fr n0 loc aZ aI aW i1 i2 aF eF aG aA (i + 1) true (bif q then u1 else (σ 11).t) (bif q then u2 else (σ 11).t + 1) (Value.str x tx) (Value.ref (ArrD.ad D i)) (bif q then el else el + 2) (Value.str x tx) (Value.ref (ArrD.ad D i)) fs D (spE D i false B O) as ea R) ∧ ((StrsOf ((σ 12).xs 0) R) → (StrsOf ((σ 12).xs 0) R))
theorem zcO_run (β : BB) (fr : List Env) (n0 loc aZ aI aW i1 i2 aF eF aG aA i : Nat) (q : Bool) (u1 u2 : Nat) (w1 w2 : Value) (el : Nat) (v1 v2 : Value) (fs : Array Value) (D : ArrD) (as : Array Value) (ea : Nat) (R : List Str) (x : Str) (tx : Nat) (B : Nat → Nat) (O : Nat → Obj) (n t g : Nat) (X : Led) (Y : GL) (σ : Nat → Sup) : See (zcO_o β fr n0 loc aZ aI aW i1 i2 aF eF aG aA i q u1 u2 w1 w2 el v1 v2 fs D as ea R x tx B O n t g X Y σ) (zcO_v β fr n0 loc aZ aI aW i1 i2 aF eF aG aA i q u1 u2 w1 w2 el v1 v2 fs D as ea R x tx B O n t g X Y σ) := by obtain ⟨b1, b2, b3, w0⟩ := β; cases q <;> cases b3 <;> kernel_rfl
def zcE_o (β : BB) (fr : List Env) (n0 loc aZ aI aW i1 i2 aF eF aG aA i : Nat) (u1 u2 : Nat) (w1 w2 : Value) (el : Nat) (v1 v2 : Value) (fs : Array Value) (D : ArrD) (as : Array Value) (ea : Nat) (R : List Str) (n t g : Nat) (X : Led) (Y : GL) (σ : Nat → Sup) : Out := Go (E1 β) (zcI β fr n0 loc aZ aI aW i1 i2 aF eF aG aA i true u1 u2 w1 w2 el v1 v2 fs D [D.ent 6] as ea R) (Hs.h 0x808090808030603060607050213070404040405040401040104) (.a (.b false) (.k fun _ _ => .a (.u (zcU as ea el u1 u2 w1 w2)) .nil)) n t g X Y σ
abbrev zcE_v (β : BB) (fr : List Env) (n0 loc aZ aI aW i1 i2 aF eF aG aA i : Nat) (u1 u2 : Nat) (w1 w2 : Value) (el : Nat) (v1 v2 : Value) (fs : Array Value) (D : ArrD) (as : Array Value) (ea : Nat) (R : List Str) (n t g : Nat) (X : Led) (Y : GL) (σ : Nat → Sup) : Prop :=
  (fs[Int.toNat (Int.ofNat i)]? = none) ∧ (StrsOf as R)
theorem zcE_run (β : BB) (fr : List Env) (n0 loc aZ aI aW i1 i2 aF eF aG aA i : Nat) (u1 u2 : Nat) (w1 w2 : Value) (el : Nat) (v1 v2 : Value) (fs : Array Value) (D : ArrD) (as : Array Value) (ea : Nat) (R : List Str) (n t g : Nat) (X : Led) (Y : GL) (σ : Nat → Sup) : See (zcE_o β fr n0 loc aZ aI aW i1 i2 aF eF aG aA i u1 u2 w1 w2 el v1 v2 fs D as ea R n t g X Y σ) (zcE_v β fr n0 loc aZ aI aW i1 i2 aF eF aG aA i u1 u2 w1 w2 el v1 v2 fs D as ea R n t g X Y σ) := by obtain ⟨b1, b2, b3, w0⟩ := β; cases b3 <;> kernel_rfl
end
def skipF {α : Type} (f : Nat → α) (j i : Nat) : α := f (if i < j then i else i + 1)
theorem fam_out {j : Nat} (h : j < 6) (ad : Nat → Nat) (ob : Nat → Obj) : Conv [.m 6 ad ob] [.o (ad j) (ob j), .m 5 (skipF ad j) (skipF ob j)] := by
  haveI : DecidableEq (Addr × Obj) := fun a b => Classical.propDecidable (a = b)
  refine ⟨List.perm_iff_count.mpr fun z => ?_, rfl⟩
  have : j = 0 ∨ j = 1 ∨ j = 2 ∨ j = 3 ∨ j = 4 ∨ j = 5 := by omega
  have e : flat [Ent.m 6 ad ob] = [(ad 0, ob 0), (ad 1, ob 1), (ad 2, ob 2), (ad 3, ob 3), (ad 4, ob 4), (ad 5, ob 5)] := rfl
  have e2 : flat [Ent.o (ad j) (ob j), .m 5 (skipF ad j) (skipF ob j)] = (ad j, ob j) :: [(skipF ad j 0, skipF ob j 0), (skipF ad j 1, skipF ob j 1), (skipF ad j 2, skipF ob j 2), (skipF ad j 3, skipF ob j 3), (skipF ad j 4, skipF ob j 4)] := rfl
  rw [e, e2]
  rcases this with rfl | rfl | rfl | rfl | rfl | rfl <;> simp only [skipF, List.count_cons, List.count_nil] <;> simp <;> omega
theorem sp_conv (D : ArrD) {j : Nat} (h : j < 6) {l : List Int} (hx : IntsOf (D.xs j) l) {b : Bool} (hb : b = !l.isEmpty) : Conv [D.ent 6] (spE D j b (skipF D.ad j) (skipF (fun i => lsO (D.xs i) (D.ep i)) j)) := by
  unfold spE
  rw [arrB_hd hx hb]
  exact fam_out h D.ad fun i => lsO (D.xs i) (D.ep i)
def selF (gls : Nat → List Int) (j : Nat) : List Str := (((List.range 6).drop j).filter fun j => !(gls j).isEmpty).map foT
theorem selF_end (gls : Nat → List Int) : selF gls 6 = [] := rfl
theorem selF_step (gls : Nat → List Int) {j n : Nat} (h : j + (n + 1) = 6) : selF gls j = (if (gls j).isEmpty then [] else [foT j]) ++ selF gls (j + 1) := by
  have hl : (List.range 6).length = j + (n + 1) := by rw [List.length_range, h]
  obtain ⟨x, h1, h2⟩ := drop_next hl
  have hx : x = j := by
    rw [List.getElem?_range (by omega)] at h1
    exact (Option.some.inj h1).symm
  subst hx
  unfold selF
  rw [h2, List.filter_cons]
  cases (gls x).isEmpty <;> rfl
theorem zc_sat {β : BB} (fr : List Env) {n0 loc aZ aI aW i1 i2 aF eF aG aA : Nat} {fs : Array Value} {D : ArrD} {gls : Nat → List Int} (hf : StrsOf fs ((List.range 6).map foT)) (hg : ∀ j, j < 6 → IntsOf (D.xs j) (gls j)) : ∀ (n i : Nat) (q : Bool) (u1 u2 : Nat) (w1 w2 : Value) (el : Nat) (v1 v2 : Value) (as : Array Value) (acc : List Str) (ea : Nat), i + n = 6 → (n = 0 → q = true) → StrsOf as acc → acc.length ≤ i →
    Sat (E1 β) (zcI β fr n0 loc aZ aI aW i1 i2 aF eF aG aA i q u1 u2 w1 w2 el v1 v2 fs D [D.ent 6] as ea (acc ++ selF gls i)) := by
  intro n
  induction n with
  | zero =>
    intro i q u1 u2 w1 w2 el v1 v2 as acc ea hi hq ha _
    obtain rfl : i = 6 := hi
    obtain rfl := hq rfl
    rw [selF_end, List.append_nil]
    exact sat_of (fun n t g X Y σ => zcE_run β fr n0 loc aZ aI aW i1 i2 aF eF aG aA 6 u1 u2 w1 w2 el v1 v2 fs D as ea acc n t g X Y σ) fun n t g X Y σ => ⟨hf.end (Nat.le_refl 6), ha⟩
  | succ n ih =>
    intro i q u1 u2 w1 w2 el v1 v2 as acc ea hi hq ha hl
    have h6 : i < 6 := by omega
    obtain ⟨tx, hx⟩ := hf.at (i := i) (z := foT i) (by rw [List.getElem?_map, List.getElem?_range h6]; rfl)
    have hr := refs6_at D i h6
    have big : as.size ≤ BIG := by rw [ha.len]; exact Nat.le_trans (by omega : acc.length ≤ 6) (by decide)
    cases he : (gls i).isEmpty with
    | false =>
      have e : acc ++ selF gls i = (acc ++ [foT i]) ++ selF gls (i + 1) := by rw [selF_step gls hi, if_neg (by rw [he]; exact Bool.false_ne_true), List.append_assoc]
      rw [e]
      have hc := sp_conv D h6 (hg i h6) (b := true) (by rw [he]; rfl)
      refine sat_conv (J := zcI β fr n0 loc aZ aI aW i1 i2 aF eF aG aA i q u1 u2 w1 w2 el v1 v2 fs D (spE D i true (skipF D.ad i) (skipF (fun i => lsO (D.xs i) (D.ep i)) i)) as ea _) ?_ rfl rfl (conv_app _ hc)
      refine sat_of (fun n t g X Y σ => zcN_run β fr n0 loc aZ aI aW i1 i2 aF eF aG aA i q u1 u2 w1 w2 el v1 v2 fs D as ea _ (foT i) tx _ _ n t g X Y σ) fun n t g X Y σ => ⟨hx, hr, rfl, rfl, rfl, cmpF_ne _ _, big, sat_conv (J := zcI β fr n0 loc aZ aI aW i1 i2 aF eF aG aA (i + 1) true _ _ _ _ _ _ _ fs D [D.ent 6] _ _ _) (ih (i + 1) true _ _ _ _ _ _ _ _ (acc ++ [foT i]) _ (by omega) (fun _ => rfl) (ha.push _ _) (by rw [List.length_append, List.length_singleton]; omega)) rfl rfl (conv_app _ hc.symm), id⟩
    | true =>
      have e : acc ++ selF gls i = acc ++ selF gls (i + 1) := by rw [selF_step gls hi, if_pos he]; rfl
      rw [e]
      have hc := sp_conv D h6 (hg i h6) (b := false) (by rw [he]; rfl)
      refine sat_conv (J := zcI β fr n0 loc aZ aI aW i1 i2 aF eF aG aA i q u1 u2 w1 w2 el v1 v2 fs D (spE D i false (skipF D.ad i) (skipF (fun i => lsO (D.xs i) (D.ep i)) i)) as ea _) ?_ rfl rfl (conv_app _ hc)
      refine sat_of (fun n t g X Y σ => zcO_run β fr n0 loc aZ aI aW i1 i2 aF eF aG aA i q u1 u2 w1 w2 el v1 v2 fs D as ea _ (foT i) tx _ _ n t g X Y σ) fun n t g X Y σ => ⟨hx, hr, rfl, rfl, rfl, cmpF_ne _ _, sat_conv (J := zcI β fr n0 loc aZ aI aW i1 i2 aF eF aG aA (i + 1) true _ _ _ _ _ _ _ fs D [D.ent 6] _ _ _) (ih (i + 1) true _ _ _ _ _ _ _ _ acc _ (by omega) (fun _ => rfl) ha (by omega)) rfl rfl (conv_app _ hc.symm), id⟩
noncomputable section
def ctxIfs (T : KT) (a fr : Nat) (cells : List (Str × Addr)) (k : Nat) (m : Sem Bool) : Sem Fin := match (fdOf T a).body with
  | .stmts b => match b.drop k with
    | s :: rest => match s with
      | .If _ body orelse _ => PySem.W.R.bindR (PySem.W.R.onRaiseR (PySem.W.R.bindR (PySem.W.R.bindR m fun ok => if ok = true then execsT body (fenv T a fr cells) else execsT orelse (fenv T a fr cells)) fun f : Flow => match f with
          | .next => execsT rest (fenv T a fr cells)
          | f => .pure f) (leavingT (fenv T a fr cells))) fun f : Flow => match f with
          | .ret v => .pure (.done (.ret v))
          | _ => .pure (.done (.ret .none))
      | _ => .unsupported ""
    | [] => .unsupported ""
  | _ => .unsupported ""
def neI (fr : List Env) (a b ea eb : Nat) (xs ys : Array Value) : Inst where
  cu := cu0 (.call (.builtin "list.__ne__") ⟨[.ref a, .ref b], []⟩)
  fr := fr
  dep := 470
  un := 3000
  pre := [.o a (lsO xs ea), .o b (lsO ys eb)]
  post _ := (.ok (.ret (.bool false)), [], True)
end
open PySem.SeqAt in
theorem ne_sat {β : BB} (fr : List Env) {a b ea eb : Nat} {xs ys : Array Value} {l : List Str} (hx : StrsOf xs l) (hy : StrsOf ys l) : SatW (E1 β) (neI fr a b ea eb xs ys) := by
  intro Γ Ar X Y s Q Bs H k
  have ha : s.heap.get? a = some (lsO xs ea) := H.led (a, lsO xs ea) List.mem_cons_self
  have hb : s.heap.get? b = some (lsO ys eb) := H.led (b, lsO ys eb) (.tail _ List.mem_cons_self)
  refine raw_of_call (call_meets (E := fun e s' => Q (.error e) s') F.slot_list_ne ⟨_, ha, rfl⟩ F.entry_list_ne (F.args_list_ne_2 _ _) (list_neAt a b xs ys ea eb none none #[] #[] (hx.len.trans hy.len.symm) fun _ => true) ⟨ha, hb, fun i i1 i2 => ?_, ?_⟩)
  · obtain ⟨z, hz⟩ : ∃ z, l[i]? = some z := ⟨_, List.getElem?_eq_getElem (hx.len ▸ i1)⟩
    obtain ⟨t1, y1⟩ := hx.at hz
    obtain ⟨t2, y2⟩ := hy.at hz
    rw [Option.some.inj ((Array.getElem?_eq_getElem i1).symm.trans y1), Option.some.inj ((Array.getElem?_eq_getElem i2).symm.trans y2)]
    have := EqAt.str_str (A := Ar.in1) (s := s) z t1 z t2
    rwa [beq_self_eq_true] at this
  · have hall : ((List.range xs.size).all fun _ => true) = true := List.all_eq_true.mpr fun _ _ => rfl
    rw [hall]
    refine k noS s trivial ?_
    have H2 : Hp Γ ((a, lsO xs ea) :: (b, lsO ys eb) :: flat [.f X Y]) (flatG [.f X Y]) s := H
    exact H2.drop1.drop1
noncomputable section
def lamX : List Stmt → Expr
  | s :: _ => match s with
    | .Assign _ v _ => match v with
      | .Call _ _ kws _ => match kws with
        | k :: _ => k.value
        | [] => default
      | _ => default
    | _ => default
  | [] => default
def lawB (T : KT) : List Stmt := match (fdOf T 252).body with
  | .stmts b => b
  | .expr _ => []
def lamF (T : KT) (ct cst aC aK : Nat) : FuncData := match lamX ((lawB T).drop 15) with
  | .Lambda as b sc _ => ⟨S "<lambda>", S "law.<locals>.<lambda>", as, .expr b, sc, 3, [(S "order", ct), (S "names", cst)], .none, .none, .none, .str (S "law_ij0124_02") 481, none, .ref aC, .ref aK, 0⟩
  | _ => default
def lamO (T : KT) (ct cst aC aK : Nat) : Obj := ⟨.type "function", none, .func (lamF T ct cst aC aK), #[]⟩
def fenvD (f : FuncData) (a fr : Addr) (cells : List (Str × Addr)) : Env := { scope := f.scope, locals := fr, globals := f.globals, cells := cells, qual := f.qualname ++ Str.ofString ".<locals>.", func := some a, code := f.code, frame := some fr, builtins := f.builtins }
def lcC (f : FuncData) (a fr loc : Addr) (cells : List (Str × Addr)) (it acc : Value) : Code := let nd := ((nodesF f)[0]?).getD (.w default [] []); nd.code it acc 0 (nd.env (fenvD f a fr []) loc cells)
structure LmC where
  ct : Nat
  cst : Nat
  a : Nat
  t : Nat
  aO : Nat
  eO : Nat
  aN : Nat
  eN : Nat
  os : Array Value
  ns : Array Value
def LmC.fd (β : BB) (c : LmC) : FuncData := lamF (TT β) c.ct c.cst (c.a + 5) (c.a + 1)
def codO (a t : Nat) : Obj := ⟨.type "code", none, .fields #[.str (S "<lambda>") (t + 3), .str (S "law.<locals>.<lambda>") (t + 4), .str (S "/claim/cut.py") (t + 5), .int 258 0, .int 1 0, .int 0 0, .int 0 0, .int 19 0, .ref (a + 2), .bool true, .int 181 0, .ref (a + 3), .none, .none, .none, .ref (a + 4), .int (Int.ofNat (t + 8)) 0, .int 258 0, .str (S "/claim/cut.py") (t + 9)], #[]⟩
def lamE (β : BB) (c : LmC) : List Ent := [.o (c.a + 6) (lamO (TT β) c.ct c.cst (c.a + 5) (c.a + 1)), .o (c.a + 5) (codO c.a c.t), .o c.ct (ceO c.aO), .o c.cst (ceO c.aN), .o c.aO (lsO c.os c.eO), .o c.aN (lsO c.ns c.eN)]
def lcI (β : BB) (fr : List Env) (c : LmC) (n0 loc aA : Nat) (gd : GnD) (g0 : Sup) (q : Bool) (u : Nat) (w : Value) (el : Nat) (as : Array Value) (ea : Nat) (R : List Int) : Inst where
  cu := cu0 (lcC (c.fd β) (c.a + 6) n0 loc [(Mine.S "order", c.ct)] (.ref gd.aG) (.ref aA))
  fr := fr
  dep := 510
  un := 3500
  pre := [.o loc (dO (cond q #[β.d "place" u w] #[]) el), .o aA (lsO as ea), .o c.ct (ceO c.aO), .o c.aO (lsO c.os c.eO)] ++ gd.ent g0
  post v := (.ok .next, [.o loc (dO #[β.d "place" (v.k 0 1) (v.vv 0)] (v.k 0 2)), .o aA (lsO (v.xs 0) (v.k 0 0)), .o c.ct (ceO c.aO), .o c.aO (lsO c.os c.eO)], IntsOf (v.xs 0) R)
def lamI (β : BB) (fr : List Env) (c : LmC) (k : Int) (tk : Nat) (R : List Int) : Inst where
  cu := cu0 (.call (.ref (c.a + 6)) ⟨[.int k tk], []⟩)
  fr := fr
  dep := 478
  un := 3010
  pre := lamE β c
  post u := (.ok (.ret (.ref (u.k 0 0))), .o (u.k 0 0) (lsO (u.xs 0) (u.k 0 1)) :: lamE β c, IntsOf (u.xs 0) R)
def ixI (fr : List Env) (aO eO : Nat) (os : Array Value) (y : Str) (ty j : Nat) : Inst where
  cu := cu0 (.call (.builtin "list.index") ⟨[.ref aO, .str y ty], []⟩)
  fr := fr
  dep := 530
  un := 3800
  pre := [.o aO (lsO os eO)]
  post u := (.ok (.ret (.int (Int.ofNat j) (u.k 0 0))), [.o aO (lsO os eO)], True)
end
noncomputable section
def lcU (xs : Array Value) (ea u el : Nat) (w : Value) : Sup := { noS with xs := fun _ => xs, k := fun _ i => (match i with | 0 => ea | 1 => u | _ => el), vv := fun _ => w }
def lmU (xs : Array Value) (a : Nat) : Sup := { noS with xs := fun _ => xs, k := fun _ i => (match i with | 0 => a | _ => 0) }
def lcE_o (β : BB) (fr : List Env) (c : LmC) (n0 loc aA : Nat) (gd : GnD) (g0 : Sup) (u : Nat) (w : Value) (el : Nat) (as : Array Value) (ea : Nat) (R : List Int) (n t g : Nat) (X : Led) (Y : GL) (σ : Nat → Sup) : Out := Go (E1 β) (lcI β fr c n0 loc aA gd g0 true u w el as ea R) (Hs.h 0x2020202020503050505030207) (.a (.i (gnE β fr gd g0)) (.k fun _ _ => .a (.u (lcU as ea u el w)) .nil)) n t g X Y σ
abbrev lcE_v (β : BB) (fr : List Env) (c : LmC) (n0 loc aA : Nat) (gd : GnD) (g0 : Sup) (u : Nat) (w : Value) (el : Nat) (as : Array Value) (ea : Nat) (R : List Int) (n t g : Nat) (X : Led) (Y : GL) (σ : Nat → Sup) : Prop :=
  Sat (E1 β) (gnE β fr gd g0) ∧ ((True) → (IntsOf as R))
theorem lcE_run (β : BB) (fr : List Env) (c : LmC) (n0 loc aA : Nat) (gd : GnD) (g0 : Sup) (u : Nat) (w : Value) (el : Nat) (as : Array Value) (ea : Nat) (R : List Int) (n t g : Nat) (X : Led) (Y : GL) (σ : Nat → Sup) : See (lcE_o β fr c n0 loc aA gd g0 u w el as ea R n t g X Y σ) (lcE_v β fr c n0 loc aA gd g0 u w el as ea R n t g X Y σ) := by obtain ⟨b1, b2, b3, w0⟩ := β; cases b3 <;> kernel_rfl
def lcN_o (β : BB) (fr : List Env) (c : LmC) (n0 loc aA : Nat) (gd : GnD) (g0 : Sup) (q : Bool) (u : Nat) (w : Value) (el : Nat) (as : Array Value) (ea : Nat) (R : List Int) (y : Str) (j : Nat) (Q : Sup → Prop) (n t g : Nat) (X : Led) (Y : GL) (σ : Nat → Sup) : Out := Go (E1 β) (lcI β fr c n0 loc aA gd g0 q u w el as ea R) (Hs.h 0x101010101050101010105050507020601140701070609090909080606050505030207) (.a (.i (gnI β fr gd g0 y Q)) (.k fun r v1 => .a (.iw (ixI fr c.aO c.eO c.os y (r.k 9 0) j)) (.k fun x v2 => .a (.i (lcI β fr c n0 loc aA gd r true (cond q u v1.t) (.str y (r.k 9 0)) (cond q el (el + 1)) (as.push (.int (Int.ofNat j) (x.k 0 0))) (ea + 1) R)) (.k fun z _ => .a (.u z) .nil)))) n t g X Y σ
abbrev lcN_v (β : BB) (fr : List Env) (c : LmC) (n0 loc aA : Nat) (gd : GnD) (g0 : Sup) (q : Bool) (u : Nat) (w : Value) (el : Nat) (as : Array Value) (ea : Nat) (R : List Int) (y : Str) (j : Nat) (Q : Sup → Prop) (n t g : Nat) (X : Led) (Y : GL) (σ : Nat → Sup) : Prop :=
  Sat (E1 β) (gnI β fr gd g0 y Q) ∧ ((Q (σ 0)) → SatW (E1 β) (ixI fr (LmC.aO c) (LmC.eO c) (LmC.os c) y ((σ 0).k 9 0) j) ∧ ((True) → (Array.size as ≤ BIG) ∧ Sat (E1 β) (lcI β fr c n0 loc aA gd (σ 0) true (bif q then u else (σ 1).t) (Value.str y ((σ 0).k 9 0)) (bif q then el else el + 1) (Array.push as (Value.int (Int.ofNat j) ((σ 2).k 0 0))) (ea + 1) R) ∧ ((IntsOf ((σ 6).xs 0) R) → (IntsOf ((σ 6).xs 0) R))))
theorem lcN_run (β : BB) (fr : List Env) (c : LmC) (n0 loc aA : Nat) (gd : GnD) (g0 : Sup) (q : Bool) (u : Nat) (w : Value) (el : Nat) (as : Array Value) (ea : Nat) (R : List Int) (y : Str) (j : Nat) (Q : Sup → Prop) (n t g : Nat) (X : Led) (Y : GL) (σ : Nat → Sup) : See (lcN_o β fr c n0 loc aA gd g0 q u w el as ea R y j Q n t g X Y σ) (lcN_v β fr c n0 loc aA gd g0 q u w el as ea R y j Q n t g X Y σ) := by obtain ⟨b1, b2, b3, w0⟩ := β; cases q <;> cases b3 <;> kernel_rfl
def lam_o (β : BB) (fr : List Env) (c : LmC) (k : Int) (tk : Nat) (R : List Int) (x : Str) (tx : Nat) (l : List Str) (R0 : List Int) (n t g : Nat) (X : Led) (Y : GL) (σ : Nat → Sup) : Out := Go (E1 β) (lamI β fr c k tk R) (cond β.b2 (Hs.h 0x505040604070701080101030222050505010103030301010108070101070201030103010303000201070118090909030701010203030403) (Hs.h 0x505040604070701080101030222050505010103030301010108070101070205010501050501030103010303000201070118090909030701010203030403)) (.a (.v (.str x tx)) (.k fun a1 b1 => .a (.i (ancI β (fenvD (c.fd β) (c.a + 6) n [(Mine.S "order", c.ct), (Mine.S "names", c.cst)] :: fr) x tx l)) (.k fun g w => .a (.i (lcI β (fenvD (c.fd β) (c.a + 6) n [(Mine.S "order", c.ct), (Mine.S "names", c.cst)] :: fr) c n (w.n + 1) w.n (GnD.of g) g false 0 .none 0 #[] 0 R0)) (.k fun z zw => .k fun s sw => .a (.u (lmU (slicePick (z.xs 0) none none (some (-1))) s.a)) .nil)))) n t g X Y σ
abbrev lam_v (β : BB) (fr : List Env) (c : LmC) (k : Int) (tk : Nat) (R : List Int) (x : Str) (tx : Nat) (l : List Str) (R0 : List Int) (n t g : Nat) (X : Led) (Y : GL) (σ : Nat → Sup) : Prop :=
  (IdxIs (LmC.ns c) k (Aux.v (Value.str x tx))) ∧ Sat (E1 β) (ancI β (fenvD (LmC.fd β c) (LmC.a c + (6 : Addr)) n [(S "order", LmC.ct c), (S "names", LmC.cst c)] :: fr) x tx l) ∧ ((Yld β (GnD.of (σ 2)) l (σ 2)) → Sat (E1 β) (lcI β (fenvD (LmC.fd β c) (LmC.a c + (6 : Addr)) n [(S "order", LmC.ct c), (S "names", LmC.cst c)] :: fr) c n ((σ 3).n + 1) ((σ 3).n) (GnD.of (σ 2)) (σ 2) false 0 Value.none 0 #[] 0 R0) ∧ ((IntsOf ((σ 4).xs 0) R0) → (some (-1 : Int) ≠ some (0 : Int)) ∧ (Array.size ((σ 4).xs 0) ≤ BIG) ∧ (IntsOf (slicePick ((σ 4).xs 0) none none (some (-1 : Int))) R)))
theorem lam_run (β : BB) (fr : List Env) (c : LmC) (k : Int) (tk : Nat) (R : List Int) (x : Str) (tx : Nat) (l : List Str) (R0 : List Int) (n t g : Nat) (X : Led) (Y : GL) (σ : Nat → Sup) : See (lam_o β fr c k tk R x tx l R0 n t g X Y σ) (lam_v β fr c k tk R x tx l R0 n t g X Y σ) := by obtain ⟨b1, b2, b3, w0⟩ := β; cases b2 <;> cases b3 <;> kernel_rfl
end
theorem rev_rng : ((List.range 21).all fun n => decide (sliceRange (sliceBounds none none (some (-1)) n).1 (sliceBounds none none (some (-1)) n).2.1 (sliceBounds none none (some (-1)) n).2.2 = (List.range n).reverse)) = true := by decide +kernel
theorem slicePick_rev {xs : Array Value} (h : xs.size ≤ 20) : slicePick xs none none (some (-1)) = xs.toList.reverse.toArray := by
  have e := of_decide_eq_true (List.all_eq_true.mp rev_rng xs.size (List.mem_range.mpr (by omega)))
  unfold slicePick
  rw [e, List.filterMap_reverse]
  congr 2
  have : ∀ l : List Value, (List.range l.length).filterMap (fun i => l[i]?) = l := by
    intro l
    induction l with
    | nil => rfl
    | cons a l ih =>
      rw [List.length_cons, List.range_succ_eq_map, List.filterMap_cons, List.filterMap_map]
      exact congrArg (a :: ·) ih
  have h2 := this xs.toList
  rw [Array.length_toList] at h2
  simp only [Array.getElem?_toList] at h2
  exact h2
theorem IntsOf.rev {xs : Array Value} {l : List Int} (h : IntsOf xs l) (hl : l.length ≤ 20) : IntsOf (slicePick xs none none (some (-1))) l.reverse := by
  rw [slicePick_rev (by rw [h.len]; exact hl)]
  show (xs.toList.reverse).map ofInt = _
  rw [List.map_reverse, show xs.toList.map ofInt = l.map some from h, List.map_reverse]
theorem StrsOf.rev {xs : Array Value} {l : List Str} (h : StrsOf xs l) (hl : l.length ≤ 20) : StrsOf (slicePick xs none none (some (-1))) l.reverse := by
  rw [slicePick_rev (by rw [h.len]; exact hl)]
  show (xs.toList.reverse).map ofStr = _
  rw [List.map_reverse, show xs.toList.map ofStr = l.map some from h, List.map_reverse]
open PySem.SeqAt in
theorem ix_sat {β : BB} (fr : List Env) {aO eO : Nat} {os : Array Value} {ol : List Str} {y : Str} (ty : Nat) (h : StrsOf os ol) (hy : y ∈ ol) (hl : ol.length ≤ 100) : SatW (E1 β) (ixI fr aO eO os y ty (ol.idxOf y)) := by
  intro Γ Ar X Y s Q Bs H K
  have ha : s.heap.get? aO = some (lsO os eO) := H.led (aO, lsO os eO) List.mem_cons_self
  have hj : ol.idxOf y < ol.length := List.idxOf_lt_length_iff.mpr hy
  have hjs : ol.idxOf y < os.size := by rw [h.len]; exact hj
  have itm : ∀ i (hi : i < os.size), ∃ z t, ol[i]? = some z ∧ os[i] = .str z t := fun i hi => by
    obtain ⟨z, hz⟩ : ∃ z, ol[i]? = some z := ⟨_, List.getElem?_eq_getElem (h.len ▸ hi)⟩
    obtain ⟨t, ht⟩ := h.at hz
    exact ⟨z, t, hz, Option.some.inj ((Array.getElem?_eq_getElem hi).symm.trans ht)⟩
  let e : Value → Bool := fun v => match v with | .str z _ => z == y | _ => false
  refine raw_of_call (call_meets (E := fun e s' => Q (.error e) s') F.slot_list_index ⟨_, ha, rfl⟩ F.entry_list_index (F.args_list_index_2 _ _) (list_indexAt aO os eO none #[] (.str y ty) e (ol.idxOf y) hjs (by omega) ?_ ?_) ⟨ha, fun v hv => ?_, ?_⟩)
  · obtain ⟨z, t, h1, h2⟩ := itm _ hjs
    rw [h2]
    show (z == y) = true
    rw [List.getElem?_eq_getElem hj, List.getElem_idxOf] at h1
    rw [← Option.some.inj h1]; exact beq_self_eq_true _
  · intro m hm hlt
    obtain ⟨z, t, h1, h2⟩ := itm m hm
    rw [h2]
    show (z == y) = false
    have h3 := List.not_of_lt_findIdx (xs := ol) (p := (· == y)) hlt
    rw [List.getElem?_eq_getElem (h.len ▸ hm)] at h1
    rw [Option.some.inj h1] at h3
    exact h3
  · obtain ⟨i, hi, rfl⟩ := Array.mem_iff_getElem.mp hv
    obtain ⟨z, t, h1, h2⟩ := itm i hi
    rw [h2]
    exact EqAt.str_str z t y ty
  · exact K { noS with k := fun _ _ => s.toks } { s with toks := s.toks + 1 } trivial (H.same rfl rfl rfl rfl)
theorem lc_sat {β : BB} (fr : List Env) {c : LmC} {n0 loc aA : Nat} {gd : GnD} {ol : List Str} (ho : StrsOf c.os ol) (hl : ol.length ≤ 100) : ∀ (l : List Str) (g0 : Sup) (q : Bool) (u : Nat) (w : Value) (el : Nat) (as : Array Value) (acc : List Int) (ea : Nat), Yld β gd l g0 → (∀ y ∈ l, y ∈ ol) → (l = [] → q = true) → IntsOf as acc → acc.length + l.length ≤ 100 →
    Sat (E1 β) (lcI β fr c n0 loc aA gd g0 q u w el as ea (acc ++ l.map fun y => Int.ofNat (ol.idxOf y)))
  | [], g0, q, u, w, el, as, acc, ea, hy, _, hq, ha, _ => by
    obtain rfl := hq rfl
    rw [List.map_nil, List.append_nil]
    exact sat_of (fun n t g X Y σ => lcE_run β fr c n0 loc aA gd g0 u w el as ea acc n t g X Y σ) fun n t g X Y σ => ⟨hy _, fun _ => ha⟩
  | y :: l, g0, q, u, w, el, as, acc, ea, hy, hm, hq, ha, hn => by
    have big : as.size ≤ BIG := by rw [ha.len]; exact Nat.le_trans (by omega : acc.length ≤ 100) (by decide)
    rw [List.map_cons, show acc ++ Int.ofNat (ol.idxOf y) :: l.map (fun y => Int.ofNat (ol.idxOf y)) = (acc ++ [Int.ofNat (ol.idxOf y)]) ++ l.map fun y => Int.ofNat (ol.idxOf y) by rw [List.append_assoc]; rfl]
    exact sat_of (fun n t g X Y σ => lcN_run β fr c n0 loc aA gd g0 q u w el as ea _ y (ol.idxOf y) (Yld β gd l) n t g X Y σ) fun n t g X Y σ => ⟨hy _, fun hQ => ⟨ix_sat fr _ ho (hm y List.mem_cons_self) hl, fun _ => ⟨big, lc_sat fr ho hl l _ true _ _ _ _ _ _ hQ (fun z hz => hm z (.tail _ hz)) (fun _ => rfl) (ha.push _ _) (by rw [List.length_append, List.length_singleton]; rw [List.length_cons] at hn; omega), id⟩⟩⟩
theorem lam_sat {β : BB} (fr : List Env) {c : LmC} {ol nl : List Str} (ho : StrsOf c.os ol) (hl : ol.length ≤ 100) (hn : StrsOf c.ns nl) (h60 : nl.length ≤ 60) {k : Nat} (tk : Nat) {x : Str} (hx : nl[k]? = some x) {W : List Str} (hw : wayOk x W = true) (h10 : W.length ≤ 10) (hm : ∀ y ∈ x :: W, y ∈ ol) :
    Sat (E1 β) (lamI β fr c (Int.ofNat k) tk ((x :: W).map fun y => Int.ofNat (ol.idxOf y)).reverse) := by
  obtain ⟨tx, hix⟩ := hn.idx hx h60
  have hlen : ((x :: W).map fun y => Int.ofNat (ol.idxOf y)).length ≤ 11 := by rw [List.length_map, List.length_cons]; omega
  exact sat_of (fun n t g X Y σ => lam_run β fr c _ tk _ x tx (x :: W) ((x :: W).map fun y => Int.ofNat (ol.idxOf y)) n t g X Y σ) fun n t g X Y σ => ⟨hix, anc_sat β _ hw tx, fun hy => ⟨lc_sat _ ho hl (x :: W) _ false 0 .none 0 #[] [] 0 hy hm (fun h => nomatch h) IntsOf.nil (by rw [List.length_cons]; show 0 + _ ≤ 100; omega), fun h => ⟨by decide, by rw [h.len]; exact Nat.le_trans hlen (by decide), h.rev (Nat.le_trans hlen (by decide))⟩⟩⟩
section
open PySem.SeqAt
open AutoSeq1 (wpAny_loadPart')
open MeetsSeq MeetsSeq2 MeetsSeq3
theorem lt_loopAt (l b : Addr) (items items2 : Array Value) (n n2 : Nat) (x y : Int) (t u : Nat) (j : Nat) (hx : items[j]? = some (.int x t)) (hy : items2[j]? = some (.int y u)) (hne : x ≠ y) (k : Nat) :
    ∀ i : Nat, i + k = j → Meets (Builtin.«list.__eq__.loop» ⟨[.ref l, .ref b, rawInt i, rawInt 0], []⟩)
      (fun A R s => s.heap.get? l = some (lsO items n) ∧ s.heap.get? b = some (lsO items2 n2) ∧
        (∀ m (h1 : m < items.size) (h2 : m < items2.size), m < j → EqAt A.in1 s items[m] items2[m] true) ∧
        R (.ok (.ret (.bool (decide (x < y))))) s) := by
  have hj1 := (Array.getElem?_eq_some_iff.mp hx).1
  have hj2 := (Array.getElem?_eq_some_iff.mp hy).1
  induction k with
  | zero =>
    intro i hk prog w A R s h
    obtain rfl : i = j := hk
    obtain ⟨hp, g, d, tk, os⟩ := s; obtain ⟨hl, hb, he, h⟩ := h
    have hl : hp.get? l = some { cls := .type "list", dict := none, data := .seq items n, slots := #[] } := hl
    have hb : hp.get? b = some { cls := .type "list", dict := none, data := .seq items2 n2, slots := #[] } := hb
    wp_walk using wpAny_loadPart' hl, wpAny_loadPart' hb
    have e1 : items[((i : Nat) : Int).toNat]? = some (.int x t) := hx
    have e2 : items2[((i : Nat) : Int).toNat]? = some (.int y u) := hy
    rw [e1, e2]
    have he2 : EqAt A.in1 ⟨hp, g, d, tk, os⟩ (.int x t) (.int y u) false := by
      have := EqAt.int_int (A := A.in1) (s := ⟨hp, g, d, tk, os⟩) x t y u
      rwa [beq_eq_false_iff_ne.mpr hne] at this
    refine wpAny_bind (he2 prog w _ _ ?_)
    wp_walk using wpAny_loadPart' hl, wpAny_loadPart' hb
    rw [e1, e2]
    refine wpAny_bind (m := richCompare .Lt (.int x t) (.int y u)) (wpAny_lt_int ?_)
    wp_walk
    exact h
  | succ k ih =>
    intro i hk prog w A R s h
    obtain ⟨hp, g, d, tk, os⟩ := s; obtain ⟨hl, hb, he, h⟩ := h
    have hl : hp.get? l = some { cls := .type "list", dict := none, data := .seq items n, slots := #[] } := hl
    have hb : hp.get? b = some { cls := .type "list", dict := none, data := .seq items2 n2, slots := #[] } := hb
    wp_walk using wpAny_loadPart' hl, wpAny_loadPart' hb
    have hlt : i < items.size := by omega
    have hlt2 : i < items2.size := by omega
    have hi1 : items[((i : Nat) : Int).toNat]? = some items[i] := by simp [hlt]
    have hi2 : items2[((i : Nat) : Int).toNat]? = some items2[i] := by simp [hlt2]
    have hc : ((i : Int) + 1) = ((i + 1 : Nat) : Int) := by push_cast; rfl
    rw [hi1, hi2]
    refine wpAny_bind (he i hlt hlt2 (by omega) prog w _ _ ?_)
    wp_walk
    rw [hc]
    exact ⟨plainId_quiet plain_eq_loop _, codeAny_builtin entry_eq_loop (by
      rw [Around.under_plainId plain_eq_loop _]
      exact ih (i + 1) (by omega) prog w A R _ ⟨hl, hb, he, h⟩)⟩
theorem list_ltAt (l b : Addr) (items items2 : Array Value) (n n2 : Nat) (x y : Int) (t u : Nat) (j : Nat) (hx : items[j]? = some (.int x t)) (hy : items2[j]? = some (.int y u)) (hne : x ≠ y) : Meets (Builtin.«list.__lt__» ⟨[.ref l, .ref b], []⟩)
      (fun A R s => s.heap.get? l = some (lsO items n) ∧ s.heap.get? b = some (lsO items2 n2) ∧
        (∀ m (h1 : m < items.size) (h2 : m < items2.size), m < j → EqAt A.in1 s items[m] items2[m] true) ∧
        R (.ok (.ret (.bool (decide (x < y))))) s) := by
  intro prog w A R s h
  obtain ⟨hp, g, d, tk, os⟩ := s; obtain ⟨hl, hb, he, h⟩ := h
  have f3 := AutoSeq1.sub_list_list
  have hl : hp.get? l = some { cls := .type "list", dict := none, data := .seq items n, slots := #[] } := hl
  have hb : hp.get? b = some { cls := .type "list", dict := none, data := .seq items2 n2, slots := #[] } := hb
  wp_walk using wpAny_loadPart' hl, wpAny_loadPart' hb
  exact ⟨plainId_quiet plain_eq_loop _, codeAny_builtin entry_eq_loop (by
    rw [Around.under_plainId plain_eq_loop _]
    exact lt_loopAt l b items items2 n n2 x y t u j hx hy hne j 0 (Nat.zero_add j) prog w A R _ ⟨hl, hb, he, h⟩)⟩
theorem ask_lists {prog : Program} {w : World} {A : Around} {E : Value → Shared → Prop} {s : Shared} {Q : Bool → Shared → Prop} {l b : Addr} {items items2 : Array Value} {n n2 : Nat} {p q : List Int} (hu : A.units < 9000) (hl : s.heap.get? l = some (lsO items n)) (hb : s.heap.get? b = some (lsO items2 n2)) (hp : IntsOf items p) (hq : IntsOf items2 q) {C X Y : List Int} {x y : Int} (e1 : p = C ++ x :: X) (e2 : q = C ++ y :: Y) (hne : x ≠ y) (h : Q (decide (x < y)) s) : wpAny (model prog w) A (keyLt' oneType' (.ref l) (.ref b)) Q E s := by
  subst e1 e2
  obtain ⟨t, hx⟩ := hp.at (i := C.length) (z := x) (by rw [List.getElem?_append_right (Nat.le_refl _), Nat.sub_self]; rfl)
  obtain ⟨u, hy⟩ := hq.at (i := C.length) (z := y) (by rw [List.getElem?_append_right (Nat.le_refl _), Nat.sub_self]; rfl)
  rw [keyLt'_oneType, oneLt'_eq]
  simp only [if_true]
  refine wpAny_bind (wpAny_cRoomFor (Nat.lt_of_lt_of_le hu (by decide)) ?_)
  refine wpAny_bind (wpAny_callSpecialIfBound?_slot (T := "list") (name := Str.ofString "__lt__") ⟨_, hl, rfl⟩ F.slot_list_lt (call_meets F.slot_list_lt ⟨_, hl, rfl⟩ F.entry_list_lt (F.args_list_lt_2 _ _) (list_ltAt l b items items2 n n2 x y t u C.length hx hy hne) ⟨hl, hb, fun m h1 h2 hm => ?_, ?_⟩))
  · obtain ⟨z, hz⟩ : ∃ z, C[m]? = some z := ⟨_, List.getElem?_eq_getElem hm⟩
    obtain ⟨t1, y1⟩ := hp.at (i := m) (z := z) (by rw [List.getElem?_append_left hm]; exact hz)
    obtain ⟨t2, y2⟩ := hq.at (i := m) (z := z) (by rw [List.getElem?_append_left hm]; exact hz)
    rw [Option.some.inj ((Array.getElem?_eq_getElem h1).symm.trans y1), Option.some.inj ((Array.getElem?_eq_getElem h2).symm.trans y2)]
    have := EqAt.int_int (A := A.in1) (s := s) z t1 z t2
    rwa [beq_self_eq_true] at this
  · exact wpAny_truthy_bool h
end
def kOkN {α : Type} (n : Nat) : KasT α → Bool
  | .ret _ => true
  | .ask i j k => Nat.blt i n && Nat.blt j n && !(Nat.beq i j) && kOkN n (k true) && kOkN n (k false)
theorem kRunN_wp {α : Type} {n : Nat} {lt : Nat → Nat → Bool} {cmp : Nat → Nat → (Bool → Shared → Prop) → Shared → Prop} {I : Shared → Prop} {Q : α → Shared → Prop} (hc : ∀ i j C s, i < n → j < n → i ≠ j → I s → (∀ s', I s' → C (lt i j) s') → cmp i j C s) : ∀ (t : KasT α) (s : Shared), kOkN n t = true → I s → (∀ s', I s' → Q (kRun lt t) s') → t.kasWp cmp Q s
  | .ret _, s, _, hi, hq => hq s hi
  | .ask i j k, s, ho, hi, hq => by
    unfold kOkN at ho
    simp only [Bool.and_eq_true, Bool.not_eq_true'] at ho
    obtain ⟨⟨⟨⟨h1, h2⟩, h0⟩, h3⟩, h4⟩ := ho
    refine hc i j _ s (Nat.blt_eq.mp h1) (Nat.blt_eq.mp h2) (fun e => by rw [e, Nat.beq_refl] at h0; cases h0) hi fun s' hi' => kRunN_wp hc (k (lt i j)) s' ?_ hi' hq
    cases lt i j with
    | true => exact h3
    | false => exact h4
theorem sN5 : kOkN 5 (kas_sort 5) = true := by decide +kernel
abbrev KeyLs := List (Nat × Array Value × Nat)
def kRefs (ks : KeyLs) : List Value := ks.map fun k => .ref k.1
noncomputable def kLed (ks : KeyLs) : Led := ks.map fun k => (k.1, lsO k.2.1 k.2.2)
theorem kRefs_getD {ks : KeyLs} {i : Nat} {k : Nat × Array Value × Nat} (h : ks[i]? = some k) : (kRefs ks).getD i .none = .ref k.1 := by
  unfold kRefs; rw [List.getD_eq_getElem?_getD, List.getElem?_map, h]; rfl
section
variable {prog : Program} {w : World} {A : Around} {E : Value → Shared → Prop} {s : Shared} {Γ : Gd} {L : Led} {G : GL}
abbrev KeyL (prog : Program) (w : World) (A : Around) (Γ : Gd) (L : Led) (G : GL) (f : Value) (vs : List Value) (kl : Nat → List Int) : Prop :=
  ∀ (i : Nat) (v : Value) (own : Led) (s' : Shared), vs[i]? = some v → Hp Γ (own ++ L) G s' → wpAny (model prog w) A (call f [v]) (fun r s'' => ∃ a xs e, r = .ref a ∧ IntsOf xs (kl i) ∧ Hp Γ ((a, lsO xs e) :: (own ++ L)) G s'') (fun _ _ => False) s'
theorem sr_rest {a kS : Addr} {vs : List Value} {f : Value} {e1 : Nat} {kl : Nat → List Int} {P : PySem.Fin → Shared → Prop} (H : Hp Γ ((kS, lsO #[] 0) :: (a, lsO #[] e1) :: L) G s) (h64 : vs.length < 64) (turn : KeyL prog w A Γ L G f vs kl)
    (h : ∀ (ks : KeyLs) (e : Nat) s', ks.length = vs.length → (∀ (i : Nat) k, ks[i]? = some k → IntsOf k.2.1 (kl i)) → Hp Γ ((kS, lsO (kRefs ks).toArray e) :: (a, lsO #[] e1) :: (kLed ks ++ L)) G s' → wpAny (model prog w) A (ksk_end a false vs.toArray e1 (.ref kS) (kRefs ks).toArray) P E s') : wpAny (model prog w) A (ksk_rest a f false vs.toArray e1 (.ref kS)) P E s := by
  unfold ksk_rest
  refine wpAny_bind (wpAny_rule ?_)
  first
    | rw [List.forIn_toArray]
    | rw [← Array.forIn_toList]
  refine wpAny_bind (ksk_fold (fun i s' => ∃ (ks : KeyLs) (e : Nat), ks.length = i ∧ (∀ (i : Nat) k, ks[i]? = some k → IntsOf k.2.1 (kl i)) ∧ Hp Γ ((kS, lsO (kRefs ks).toArray e) :: (a, lsO #[] e1) :: (kLed ks ++ L)) G s') vs 0 s ⟨[], 0, rfl, fun i k h => by simp at h, H⟩ ?step ?done)
  case step =>
    rintro j x s' hx ⟨ks, e, hlen, hks, H'⟩
    simp only [Nat.zero_add] at hlen ⊢
    have hj : j < vs.length := (List.getElem?_eq_some_iff.mp hx).1
    have H' : Hp Γ (((kS, lsO (kRefs ks).toArray e) :: (a, lsO #[] e1) :: kLed ks) ++ L) G s' := H'
    have hz : (kRefs ks).toArray.size = j := by rw [List.size_toArray]; unfold kRefs; rw [List.length_map, hlen]
    refine wpAny_bind (wpAny_attempt (wpAny_mono (turn j x _ s' hx H') (fun v s'' he => ?_) fun _ _ hF => hF.elim))
    obtain ⟨a', xs, e', rfl, hxs, H2⟩ := he
    have H3 : Hp Γ ((kS, lsO (kRefs ks).toArray e) :: (a, lsO #[] e1) :: ((kLed ks ++ [(a', lsO xs e')]) ++ L)) G s'' := by
      refine H2.perm ?_ (.refl _)
      rw [List.append_assoc]
      exact (List.perm_middle (l₁ := (kS, lsO (kRefs ks).toArray e) :: (a, lsO #[] e1) :: kLed ks) (a := (a', lsO xs e')) (l₂ := L)).symm
    obtain ⟨e2, H4⟩ := H3.list (·.push (.ref a'))
    refine wpAny_bind (listUpdate_at (H3.led _ List.mem_cons_self) rfl ?_ (by rw [hz, sizeLine_eq]; omega) (Nat.le_trans (Nat.le_of_eq (Array.size_push ..)) (by rw [hz, sizeLine_eq]; omega)))
    refine wpAny_pure ⟨rfl, ks ++ [(a', xs, e')], e2, by rw [List.length_append, hlen]; rfl, fun i k hk => ?_, ?_⟩
    · rcases Nat.lt_trichotomy i ks.length with hi | hi | hi
      · rw [List.getElem?_append_left hi] at hk; exact hks i k hk
      · subst hi
        rw [List.getElem?_append_right (Nat.le_refl _), Nat.sub_self] at hk
        cases hk
        rw [hlen]; exact hxs
      · rw [List.getElem?_eq_none (by rw [List.length_append]; exact hi)] at hk; cases hk
    · have ea : (kRefs (ks ++ [(a', xs, e')])).toArray = (kRefs ks).toArray.push (.ref a') := by
        unfold kRefs; rw [List.map_append, List.push_toArray]; rfl
      have el : kLed (ks ++ [(a', xs, e')]) = kLed ks ++ [(a', lsO xs e')] := by unfold kLed; rw [List.map_append]; rfl
      rw [ea, el]; exact H4
  case done =>
    rintro s' ⟨ks, e, hlen, hks, H'⟩
    refine wpAny_bind (listItems_at (H'.led _ List.mem_cons_self) rfl ?_)
    exact h ks e s' (hlen.trans (Nat.zero_add _)) hks H'
theorem sr_sort {a : Addr} {vs : List Value} {f : Value} {n : Nat} {kl : Nat → List Int} {l : List Nat} {P : PySem.Fin → Shared → Prop} (H : Hp Γ ((a, lsO vs.toArray n) :: L) G s) (h5 : vs.length = 5) (hu : A.units < 9000) (turn : KeyL prog w A Γ L G f vs kl) (hl : l.length = 5) (hn : l.Nodup) (hl6 : ∀ v ∈ l, v < 6)
    (hk : ∀ i j, i < 5 → j < 5 → i ≠ j → ∃ C x X y Y, kl i = C ++ x :: X ∧ kl j = C ++ y :: Y ∧ x ≠ y ∧ decide (x < y) = ltOf l i j)
    (h : ∀ c s', Hp Γ ((a, lsO ((sortedOf l).map fun i => vs.getD i .none).toArray c) :: L) G s' → P (.done (.ret .none)) s') : wpAny (model prog w) A (ksk_tree a f false) P E s := by
  unfold ksk_tree
  refine wpAny_bind (listItems_at (H.led _ List.mem_cons_self) rfl ?_)
  refine wpAny_bind (listUpdate_at (H.led _ List.mem_cons_self) rfl ?_ (by rw [List.size_toArray, sizeLine_eq]; omega) (Nat.zero_le _))
  obtain ⟨e1, H1⟩ := H.list fun _ => #[]
  refine wpAny_bind (seqEpoch_at (H1.led _ List.mem_cons_self) rfl ?_)
  refine wpAny_bind (wpAny_newTuple ?_ (by show vs.length ≤ _; rw [sizeLine_eq]; omega))
  have H2 := H1.alloc (o := { cls := .type "tuple", data := .seq vs.toArray.toList.toArray }) rfl
  refine wpAny_bind (wpAny_newList ?_ (Nat.zero_le _))
  have H3 := H2.alloc (o := { cls := .type "list", data := .seq ([] : List Value).toArray }) rfl
  refine wpAny_holding ?_
  refine sr_rest H3.swap.drop1 (by omega) turn fun ks e s4 hlen hks H4 => ?_
  have hz : (kRefs ks).length = vs.length := by unfold kRefs; rw [List.length_map, hlen]
  have at_ : ∀ i, i < 5 → ∃ k, ks[i]? = some k ∧ IntsOf k.2.1 (kl i) ∧ s4.heap.get? k.1 = some (lsO k.2.1 k.2.2) := fun i hi => by
    obtain ⟨k, hk⟩ : ∃ k, ks[i]? = some k := ⟨_, List.getElem?_eq_getElem (by omega)⟩
    exact ⟨k, hk, hks i k hk, H4.led (k.1, lsO k.2.1 k.2.2) (.tail _ (.tail _ (List.mem_append_left _ (List.mem_map.mpr ⟨k, List.mem_of_getElem? hk, rfl⟩))))⟩
  unfold ksk_end
  dsimp only
  rw [if_neg Bool.false_ne_true, if_neg Bool.false_ne_true, if_neg (by rw [List.size_toArray]; omega), if_neg (by rw [List.size_toArray]; omega)]
  refine wpAny_bind (kas_kind (T := .type "list") (by omega) (fun v hv => ?_) rfl rfl ?_)
  · obtain ⟨k, hk, rfl⟩ := List.mem_map.mp hv
    obtain ⟨i, hi, e⟩ := List.mem_iff_getElem.mp hk
    obtain ⟨k', h1, _, h3⟩ := at_ i (by omega)
    rw [List.getElem?_eq_getElem hi, e] at h1
    cases h1
    exact kitAt_ty _ _ ⟨_, h3, rfl⟩
  have run := kat_run (prog := prog) (w := w) (A := A) (E := E) (s := s4) (κ := oneType') (ks := kRefs ks) (vs := vs)
    (Q := fun st' s' => s' = s4 ∧ (arrOf st').map (·.2) = ((sortedOf l).map fun i => vs.getD i .none).toArray ∧ failedOf st' = none)
    (G := fun p s' => s' = s4 ∧ p = kRun (ltOf l) (kas_sort 5)) hz (by omega) (by omega) (fun p st' s' a1 a2 a3 a4 => ?_) ?_
  · refine wpAny_bind (wpAny_mono run ?_ fun _ _ e => e)
    rintro ⟨⟨⟩, st'⟩ s' ⟨rfl, hout, hf⟩
    have hout5 : ((sortedOf l).map fun i => vs.getD i .none).toArray.size ≤ 1000 := by
      rw [List.size_toArray, List.length_map]
      have := congrArg List.length (sorted_is hn hl6 (by omega) (by omega))
      rw [List.length_map] at this
      rw [this]
      exact Nat.le_trans (List.length_filter_le ..) (by decide)
    refine sk_tail H4 (by rw [List.size_toArray]; omega) hout5 hout hf fun c s' H' => ?_
    refine h c s' ?_
    refine H'.sub (fun p hp => ?_) ?_ (fun _ h => h) H'.gnd
    · rcases List.mem_cons.mp hp with rfl | hp
      · exact List.mem_cons_self
      · exact .tail _ (List.mem_append_right _ hp)
    · have nd := H'.nd
      rw [List.map_cons, List.map_append] at nd
      rw [List.map_cons]
      have n1 := List.nodup_cons.mp nd
      exact List.nodup_cons.mpr ⟨fun hm => n1.1 (List.mem_append_right _ hm), (List.nodup_append.mp n1.2).2.1⟩
  · obtain ⟨rfl, hp⟩ := a4
    refine ⟨rfl, ?_, a3⟩
    rw [kat_snds hz a2, hp]
    unfold sortedOf
    rw [hl]
  · rw [h5]
    refine kRunN_wp (n := 5) (lt := ltOf l) (I := fun s' => s' = s4) (fun i j C s' hi hj hij hs hC => ?_) _ s4 sN5 rfl fun s' hs => ⟨hs, rfl⟩
    subst hs
    obtain ⟨k1, a1, b1, c1⟩ := at_ i hi
    obtain ⟨k2, a2, b2, c2⟩ := at_ j hj
    obtain ⟨Cm, x, X, y, Y, q1, q2, q3, q4⟩ := hk i j hi hj hij
    unfold kas_ask
    rw [kRefs_getD a1, kRefs_getD a2]
    refine ask_lists hu c1 c2 b1 b2 q1 q2 q3 ?_
    rw [q4]
    exact hC _ rfl
end
section
variable {prog : Program} {w : World} {A : Around} {E : Value → Shared → Prop} {s : Shared} {Γ : Gd} {L : Led} {G : GL}
theorem collect_code5 {r : Addr} {t u v : Nat} {R : Result → Shared → Prop} (hh : A.handled = none) (hr : IsRange s.heap r 0 5 1 t u v)
    (hR : ∀ h' tk acc' c', (∀ b o, s.heap.get? b = some o → h'.get? b = some o) → h'.get? s.heap.objs.size = some { cls := .type "list", dict := none, data := .seq acc' c', slots := #[] } → ItemsOf (fun i v => ∃ t, v = .int (0 + i * 1) t) acc' 5 → R (.ok (.ret (.ref s.heap.objs.size))) { s with heap := h', toks := tk }) : codeAny (model prog w) A (.builtin "proto.collect" ⟨[.ref r], []⟩) R s := by
  refine codeAny_builtin F.entry_proto_collect ?_
  rw [Around.under_plainId F.plain_proto_collect _]
  show wpAny _ A.in1 (newList [] >>= fun l => again (.builtin "list.__iadd__" ⟨[l, .ref r], []⟩)) _ _ s
  refine wpAny_bind (wpAny_newObj_type ?_)
  refine wpAny_pure ⟨plainId_quiet F.plain_list_iadd _, codeAny_builtin F.entry_list_iadd ?_⟩
  rw [Around.under_plainId F.plain_list_iadd _]
  have hS : (s.heap.push { cls := .type "list", data := .seq ([] : List Value).toArray }).get? s.heap.objs.size = some { cls := .type "list", data := .seq #[] } := Heap.get?_push_size _ rfl
  show wpAny _ A.in1 (Builtin.List.listExtendWith (.ref s.heap.objs.size) (.ref r) (.ref s.heap.objs.size)) _ _ _
  exact wpAny_extend_range (s := { s with heap := s.heap.push { cls := .type "list", data := .seq ([] : List Value).toArray } }) (a := 0) (b := 5) (c := 1) hh (Heap.get?_push_of_some _ hr) (n := 5) (by decide) rfl (by decide) _ _ _ hS fun h' tk acc' c' hk hS' hacc => hR h' tk acc' c' (fun b o e => hk b o (Nat.ne_of_lt (Heap.lt_size e)) (Heap.get?_push_of_some _ e)) hS' hacc
theorem collect_range5 {r : Addr} {t u v : Nat} {Q : List Value → Shared → Prop} (hh : A.handled = none) (hr : IsRange s.heap r 0 5 1 t u v)
    (hQ : ∀ h' tk acc' c', (∀ b o, s.heap.get? b = some o → h'.get? b = some o) → h'.get? s.heap.objs.size = some (lsO acc' c') → IntsOf acc' [0, 1, 2, 3, 4] → Q acc'.toList { s with heap := h', toks := tk }) : wpAny (model prog w) A (collect (.ref r)) Q E s := by
  unfold collect
  refine wpAny_bind (wpAny_runValue (collect_code5 hh hr fun h' tk acc' c' hk hS' hacc => ?_))
  show wpAny _ A (load s.heap.objs.size >>= _) _ _ _
  refine wpAny_bind (wpAny_load hS' ?_)
  refine wpAny_pure (hQ h' tk acc' c' hk hS' ?_)
  obtain ⟨h1, h2⟩ := hacc
  have at_ : ∀ i, i < 5 → ∃ t, acc'[i]? = some (.int (Int.ofNat i) t) := fun i hi => by
    have hg : acc'[i]? = some acc'[i] := Array.getElem?_eq_getElem (by omega)
    obtain ⟨t, ht⟩ := h2 i _ hg
    exact ⟨t, by rw [hg, ht]; congr 2; show (0 : Int) + (i : Int) * 1 = _; rw [Int.zero_add, Int.mul_one]; rfl⟩
  unfold IntsOf
  refine List.ext_getElem? fun i => ?_
  rw [List.getElem?_map, Array.getElem?_toList]
  by_cases hi : i < 5
  · obtain ⟨t, ht⟩ := at_ i hi
    rw [ht]
    have : ∀ i, i < 5 → some (ofInt (.int (Int.ofNat i) t)) = (([0, 1, 2, 3, 4] : List Int).map some)[i]? := by
      intro i hi
      have h5 : i = 0 ∨ i = 1 ∨ i = 2 ∨ i = 3 ∨ i = 4 := by omega
      rcases h5 with rfl | rfl | rfl | rfl | rfl <;> rfl
    exact this i hi
  · rw [Array.getElem?_eq_none (by omega), List.getElem?_eq_none (by show 5 ≤ i; omega)]; rfl
theorem sr_sorted {r f : Addr} {t u v : Nat} {kl : Nat → List Int} {l : List Nat} {Q : Value → Shared → Prop} (hh : A.handled = none) (H : Hp Γ L G s) (hr : IsRange s.heap r 0 5 1 t u v) (hu : A.in1.in1.units < 9000)
    (turn : ∀ vs : List Value, vs.map ofInt = ([0, 1, 2, 3, 4] : List Int).map some → KeyL prog w A.in1.in1 Γ L G (.ref f) vs kl) (hl : l.length = 5) (hn : l.Nodup) (hl6 : ∀ v ∈ l, v < 6)
    (hk : ∀ i j, i < 5 → j < 5 → i ≠ j → ∃ C x X y Y, kl i = C ++ x :: X ∧ kl j = C ++ y :: Y ∧ x ≠ y ∧ decide (x < y) = ltOf l i j)
    (h : ∀ D c s' out, IntsOf out ((sortedOf l).map Int.ofNat) → Hp Γ ((D, lsO out c) :: L) G s' → Q (.ref D) s') : wpAny (model prog w) A (call (.builtin "sorted") [.ref r] [(Mine.S "key", .ref f)]) Q E s := by
  refine call_function_entry_kw kind_sorted plain_sorted entry_sorted (ksk_s1 _ _) ?_
  unfold Builtin.«sorted»
  refine wpAny_bind (m := checkCount "sorted" 1 1 _) (wpAny_pure ?_)
  refine wpAny_bind (collect_range5 hh hr fun h' tk acc' c' hk' hS' hacc => ?_)
  have H1 : Hp Γ L G { s with heap := h', toks := tk } := (H.growAt (Nat.le_refl _) hk' hS').drop1.same rfl rfl rfl rfl
  have h5 : acc'.toList.length = 5 := by rw [Array.length_toList, hacc.len]; rfl
  refine wpAny_bind (wpAny_newList ?_ (by rw [h5, sizeLine_eq]; omega))
  have H3 := H1.alloc (o := { cls := .type "list", data := .seq acc'.toList.toArray }) rfl
  refine wpAny_bind (wpAny_holding (wpAny_call_entry_kw slot_list_sort ⟨_, H3.led _ List.mem_cons_self, rfl⟩ entry_list_sort ?body (ksk_l1 _ _)))
  case body =>
    show wpAny _ _ (Builtin.«list.sort» ⟨[.ref _], [(Str.ofString "key", .ref f)]⟩) _ _ _
    rw [ksk_t1]
    refine sr_sort (n := 0) (vs := acc'.toList) H3 h5 hu (turn _ hacc) hl hn hl6 hk fun c s' H' => ⟨_, rfl, wpAny_pure ⟨_, rfl, h _ c s' _ ?_ H'⟩⟩
    show (((sortedOf l).map fun i => acc'.toList.getD i .none)).map ofInt = _
    rw [List.map_map, List.map_map]
    refine List.map_congr_left fun i hi => ?_
    have hi5 : i < 5 := by
      have := sorted_is hn hl6 (by omega) (by omega)
      have hm : l.getD i 9 ∈ (List.range 6).filter fun v => l.contains v := this ▸ List.mem_map_of_mem hi
      have h9 := List.mem_range.mp (List.mem_filter.mp hm).1
      by_cases hlt : i < l.length
      · omega
      · rw [List.getD_eq_getElem?_getD, List.getElem?_eq_none (Nat.le_of_not_lt hlt)] at h9
        exact absurd h9 (by decide)
    have hz : ([0, 1, 2, 3, 4] : List Int)[i]? = some (Int.ofNat i) := by
      have h5 : i = 0 ∨ i = 1 ∨ i = 2 ∨ i = 3 ∨ i = 4 := by omega
      rcases h5 with rfl | rfl | rfl | rfl | rfl <;> rfl
    obtain ⟨t, ht⟩ := hacc.at hz
    show ofInt (acc'.toList.getD i .none) = some (Int.ofNat i)
    rw [List.getD_eq_getElem?_getD, Array.getElem?_toList, ht]; rfl
end
noncomputable section
def rngO (t : Nat) : Obj := ⟨.type "range", none, .fields #[.int 0 (t + 1), .int 5 t, .int 1 (t + 2)], #[]⟩
def rowI (β : BB) (fr : List Env) (c : LmC) (R : List Int) : Inst where
  cu := cu0 (.call (.builtin "sorted") ⟨[.ref c.a], [(Mine.S "key", .ref (c.a + 6))]⟩)
  fr := fr
  dep := 470
  un := 3000
  pre := .o c.a (rngO c.t) :: lamE β c
  post u := (.ok (.ret (.ref (u.k 0 0))), [.o (u.k 0 0) (lsO (u.xs 0) (u.k 0 1))], IntsOf (u.xs 0) R)
end
def keyL (ol : List Str) (W : Str → List Str) (x : Str) : List Int := ((x :: W x).map fun y => Int.ofNat (ol.idxOf y)).reverse
theorem row_sat {β : BB} (fr : List Env) {c : LmC} {ol nl : List Str} {W : Str → List Str} {l : List Nat} (ho : StrsOf c.os ol) (hol : ol.length ≤ 100) (hn : StrsOf c.ns nl) (h5 : nl.length = 5) (hw : ∀ x ∈ nl, wayOk x (W x) = true ∧ (W x).length ≤ 10 ∧ ∀ y ∈ x :: W x, y ∈ ol)
    (hl : l.length = 5) (hnd : l.Nodup) (hl6 : ∀ v ∈ l, v < 6)
    (hk : ∀ i j, i < 5 → j < 5 → i ≠ j → ∃ C x X y Y, keyL ol W (nl.getD i ⟨#[]⟩) = C ++ x :: X ∧ keyL ol W (nl.getD j ⟨#[]⟩) = C ++ y :: Y ∧ x ≠ y ∧ decide (x < y) = ltOf l i j) : SatW (E1 β) (rowI β fr c ((sortedOf l).map Int.ofNat)) := by
  intro Γ A X Y s Q B H K
  have e0 : flat ((rowI β fr c ((sortedOf l).map Int.ofNat)).pre ++ [.f X Y]) = (c.a, rngO c.t) :: (flat (lamE β c) ++ X) := by
    show flat (.o c.a (rngO c.t) :: (lamE β c ++ [.f X Y])) = _
    rw [flat_cons, flat_app]
    show [(c.a, rngO c.t)] ++ (flat (lamE β c) ++ (X ++ [])) = _
    rw [List.append_nil]; rfl
  have eg : flatG ((rowI β fr c ((sortedOf l).map Int.ofNat)).pre ++ [.f X Y]) = Y := by
    show flatG (.o c.a (rngO c.t) :: (lamE β c ++ [.f X Y])) = _
    rw [flatG_cons, flatG_app]
    show [] ++ (flatG (lamE β c) ++ (Y ++ [])) = _
    rw [List.append_nil]; rfl
  have H0 : Hp Γ ((c.a, rngO c.t) :: (flat (lamE β c) ++ X)) Y s := by rw [← e0, ← eg]; exact H
  have B2 := (Base.in1 B (show 470 ≤ 478 by decide) (show 3000 + 1 ≤ 3009 by decide)).in1 (Nat.le_refl 478) (show 3009 + 1 ≤ 3010 by decide)
  refine raw_of_call (sr_sorted (kl := fun i => keyL ol W (nl.getD i ⟨#[]⟩)) (l := l) B.hh H0 (H0.led (c.a, rngO c.t) List.mem_cons_self) (Nat.lt_of_le_of_lt B2.hu (show 3010 < 9000 by decide)) ?_ hl hnd hl6 hk fun D cc s' out hout H' => ?_)
  · intro vs hvs i v own s' hv H'
    have hi : i < 5 := by
      have h1 := (List.getElem?_eq_some_iff.mp hv).1
      have h2 := congrArg List.length hvs
      rw [List.length_map, List.length_map] at h2
      exact Nat.lt_of_lt_of_eq h1 h2
    obtain ⟨t, rfl⟩ : ∃ t, v = .int (Int.ofNat i) t := by
      have h1 : (vs.map ofInt)[i]? = some (ofInt v) := by rw [List.getElem?_map, hv]; rfl
      rw [hvs] at h1
      have h5 : i = 0 ∨ i = 1 ∨ i = 2 ∨ i = 3 ∨ i = 4 := by omega
      have h2 : ofInt v = some (Int.ofNat i) := by rcases h5 with rfl | rfl | rfl | rfl | rfl <;> exact (Option.some.inj h1).symm
      cases v <;> cases h2
      exact ⟨_, rfl⟩
    obtain ⟨x, hx⟩ : ∃ x, nl[i]? = some x := ⟨_, List.getElem?_eq_getElem (by omega)⟩
    obtain ⟨w1, w2, w3⟩ := hw x (List.mem_of_getElem? hx)
    have S := lam_sat (β := β) fr ho hol hn (by omega) t hx w1 w2 w3
    have perm : (own ++ ((c.a, rngO c.t) :: (flat (lamE β c) ++ X))).Perm (flat (lamE β c ++ [.f (own ++ (c.a, rngO c.t) :: X) Y])) := by
      rw [flat_app]
      show (own ++ ((c.a, rngO c.t) :: (flat (lamE β c) ++ X))).Perm (flat (lamE β c) ++ ((own ++ (c.a, rngO c.t) :: X) ++ []))
      rw [List.append_nil]
      refine .trans ?_ (List.perm_append_comm_assoc ..)
      refine List.Perm.append_left own ?_
      exact List.perm_middle.symm
    have H1 : Hx Γ (lamE β c ++ [.f (own ++ (c.a, rngO c.t) :: X) Y]) s' := by
      show Hp Γ _ (flatG (lamE β c ++ [.f _ Y])) s'
      have eg2 : flatG (lamE β c ++ [.f (own ++ (c.a, rngO c.t) :: X) Y]) = Y := by
        rw [flatG_app]
        show [] ++ (Y ++ []) = _
        rw [List.append_nil]; rfl
      rw [eg2]
      exact H'.perm perm (.refl _)
    refine wpAny_call (codeAny_of _ (S B2 H1 fun u s'' hu H2 => ?_))
    refine ⟨u.k 0 0, u.xs 0, u.k 0 1, rfl, ?_, ?_⟩
    · show IntsOf (u.xs 0) (keyL ol W (nl.getD i ⟨#[]⟩))
      rw [List.getD_eq_getElem?_getD, hx]; exact hu
    · have H2 : Hp Γ ((u.k 0 0, lsO (u.xs 0) (u.k 0 1)) :: flat (lamE β c ++ [.f (own ++ (c.a, rngO c.t) :: X) Y])) (flatG (lamE β c ++ [.f (own ++ (c.a, rngO c.t) :: X) Y])) s'' := H2
      have eg2 : flatG (lamE β c ++ [.f (own ++ (c.a, rngO c.t) :: X) Y]) = Y := by
        rw [flatG_app]
        show [] ++ (Y ++ []) = _
        rw [List.append_nil]; rfl
      rw [eg2] at H2
      exact H2.perm (perm.symm.cons _) (.refl _)
  · refine K { noS with xs := fun _ => out, k := fun _ i => (match i with | 0 => D | _ => cc) } s' hout ?_
    show Hp Γ (flat ([.o D (lsO out cc)] ++ [.f X Y])) (flatG ([.o D (lsO out cc)] ++ [.f X Y])) s'
    have e1 : flat ([.o D (lsO out cc)] ++ [.f X Y]) = (D, lsO out cc) :: X := by
      show (D, lsO out cc) :: (X ++ []) = _; rw [List.append_nil]
    have e2 : flatG ([.o D (lsO out cc)] ++ [.f X Y]) = Y := by
      show [] ++ (Y ++ []) = _; rw [List.append_nil]; rfl
    rw [e1, e2]
    have nd := H'.nd
    rw [List.map_cons, List.map_cons, List.map_append] at nd
    have n1 := List.nodup_cons.mp nd
    have n2 := List.nodup_cons.mp n1.2
    refine H'.sub (fun p hp => ?_) (List.nodup_cons.mpr ⟨fun hm => n1.1 (.tail _ (List.mem_append_right _ hm)), (List.nodup_append.mp n2.2).2.1⟩) (fun _ h => h) H'.gnd
    rcases List.mem_cons.mp hp with rfl | hp
    · exact List.mem_cons_self
    · exact .tail _ (.tail _ (List.mem_append_right _ hp))
noncomputable section
def cdI (β : BB) (fr : List Env) (n0 loc aT aS eS aA i : Nat) (xs as : Array Value) (ea el : Nat) (q : Bool) (u : Nat) (w : Value) (R : List Int) : Inst where
  cu := cu0 (compC (TT β) 252 0 n0 loc [] 0 (.ref aT) (.ref aA))
  fr := fr
  dep := 390
  un := 2000
  pre := [.o loc (dO (cond q #[β.d "x" u w] #[]) el), .o aT (liO aS (Int.ofNat i)), .o aS (lsO xs eS), .o aA (lsO as ea)]
  post u := (.ok .next, [.o loc (dO #[β.d "x" (u.k 0 2) (u.vv 0)] (u.k 0 1)), .o aS (lsO xs eS), .o aA (lsO (u.xs 0) (u.k 0 0))], IntsOf (u.xs 0) R)
def lawI (β : BB) (aL : Nat) (ss : Array Value) (eL : Nat) : Inst where
  cu := cu0 (.call (.ref 252) ⟨[.ref aL], []⟩)
  fr := []
  dep := 310
  un := 900
  pre := [.o aL (lsO ss eL), .o 249 (o249 β.P)]
  post u := (.ok (.ret (.bool true)), [.o aL (lsO ss eL), .o 249 (tabF u.v)], True)
end
noncomputable section
def cdE_o (β : BB) (fr : List Env) (n0 loc aT aS eS aA i : Nat) (xs as : Array Value) (ea el : Nat) (u : Nat) (w : Value) (R : List Int) (n t g : Nat) (X : Led) (Y : GL) (σ : Nat → Sup) : Out := Go (E1 β) (cdI β fr n0 loc aT aS eS aA i xs as ea el true u w R) (Hs.h 0x404040304030302021304) (.a (.b false) (.a (.u (cmU as ea el u w)) .nil)) n t g X Y σ
abbrev cdE_v (β : BB) (fr : List Env) (n0 loc aT aS eS aA i : Nat) (xs as : Array Value) (ea el : Nat) (u : Nat) (w : Value) (R : List Int) (n t g : Nat) (X : Led) (Y : GL) (σ : Nat → Sup) : Prop :=
  (xs[Int.toNat (Int.ofNat i)]? = none) ∧ (IntsOf as R)
theorem cdE_run (β : BB) (fr : List Env) (n0 loc aT aS eS aA i : Nat) (xs as : Array Value) (ea el : Nat) (u : Nat) (w : Value) (R : List Int) (n t g : Nat) (X : Led) (Y : GL) (σ : Nat → Sup) : See (cdE_o β fr n0 loc aT aS eS aA i xs as ea el u w R n t g X Y σ) (cdE_v β fr n0 loc aT aS eS aA i xs as ea el u w R n t g X Y σ) := by obtain ⟨b1, b2, b3, w0⟩ := β; cases b3 <;> kernel_rfl
def cdN_o (β : BB) (fr : List Env) (n0 loc aT aS eS aA i : Nat) (xs as : Array Value) (ea el : Nat) (q : Bool) (u : Nat) (w : Value) (R : List Int) (z : Int) (tz : Nat) (n t g : Nat) (X : Led) (Y : GL) (σ : Nat → Sup) : Out := Go (E1 β) (cdI β fr n0 loc aT aS eS aA i xs as ea el q u w R) (Hs.h 0x10101010401010101040204011401010303030302021304) (.a (.v (.int z tz)) (.k fun _ v1 => .a (.i (cdI β fr n0 loc aT aS eS aA (i + 1) xs (as.push (.int (Int.fmod z 7) (v1.t + 2))) (ea + 1) (cond q el (el + 1)) true (cond q u v1.t) (.int z tz) R)) (.k fun u3 _ => .a (.u u3) .nil))) n t g X Y σ
abbrev cdN_v (β : BB) (fr : List Env) (n0 loc aT aS eS aA i : Nat) (xs as : Array Value) (ea el : Nat) (q : Bool) (u : Nat) (w : Value) (R : List Int) (z : Int) (tz : Nat) (n t g : Nat) (X : Led) (Y : GL) (σ : Nat → Sup) : Prop :=
  (xs[Int.toNat (Int.ofNat i)]? = some (Value.int z tz)) ∧ (Array.size as ≤ BIG) ∧ Sat (E1 β) (cdI β fr n0 loc aT aS eS aA (i + 1) xs (Array.push as (Value.int (Int.fmod z 7) ((σ 1).t + (2 : Tok)))) (ea + 1) (bif q then el else el + 1) true (bif q then u else (σ 1).t) (Value.int z tz) R) ∧ ((IntsOf ((σ 4).xs 0) R) → (IntsOf ((σ 4).xs 0) R))
theorem cdN_run (β : BB) (fr : List Env) (n0 loc aT aS eS aA i : Nat) (xs as : Array Value) (ea el : Nat) (q : Bool) (u : Nat) (w : Value) (R : List Int) (z : Int) (tz : Nat) (n t g : Nat) (X : Led) (Y : GL) (σ : Nat → Sup) : See (cdN_o β fr n0 loc aT aS eS aA i xs as ea el q u w R z tz n t g X Y σ) (cdN_v β fr n0 loc aT aS eS aA i xs as ea el q u w R z tz n t g X Y σ) := by obtain ⟨b1, b2, b3, w0⟩ := β; cases q <;> cases b3 <;> kernel_rfl
end
theorem cd_sat {β : BB} (fr : List Env) {n0 loc aT aS eS aA : Nat} {xs : Array Value} {l : List Int} (hx : IntsOf xs l) (h60 : l.length ≤ 60) : ∀ (k i : Nat) (as : Array Value) (acc : List Int) (ea el : Nat) (q : Bool) (u : Nat) (w : Value), l.length = i + k → (k = 0 → q = true) → IntsOf as acc → acc.length ≤ i →
    Sat (E1 β) (cdI β fr n0 loc aT aS eS aA i xs as ea el q u w (acc ++ (l.drop i).map fun z => Int.fmod z 7)) := by
  intro k
  induction k with
  | zero =>
    intro i as acc ea el q u w hk hq ha hi
    obtain rfl := hq rfl
    rw [List.drop_of_length_le (show l.length ≤ i from Nat.le_of_eq hk), List.map_nil, List.append_nil]
    exact sat_of (fun n t g X Y σ => cdE_run β fr n0 loc aT aS eS aA i xs as ea el u w acc n t g X Y σ) fun n t g X Y σ => ⟨hx.end (Nat.le_of_eq hk), ha⟩
  | succ k ih =>
    intro i as acc ea el q u w hk hq ha hi
    obtain ⟨z, h1, h2⟩ := drop_next hk
    obtain ⟨tz, h3⟩ := hx.at h1
    have big : as.size ≤ BIG := by rw [ha.len]; exact Nat.le_trans (by omega : acc.length ≤ 60) (by decide)
    rw [h2, List.map_cons, show acc ++ Int.fmod z 7 :: (l.drop (i + 1)).map (fun z => Int.fmod z 7) = (acc ++ [Int.fmod z 7]) ++ (l.drop (i + 1)).map fun z => Int.fmod z 7 by rw [List.append_assoc]; rfl]
    exact sat_of (fun n t g X Y σ => cdN_run β fr n0 loc aT aS eS aA i xs as ea el q u w _ z tz n t g X Y σ) fun n t g X Y σ => ⟨h3, big, ih (i + 1) _ _ _ _ true _ _ (by omega) (fun _ => rfl) (ha.push _ _) (by rw [List.length_append, List.length_singleton]; omega), id⟩
theorem cmnT_symm : ∀ l m : List Str, cmnT l m = cmnT m l
  | [], [] => rfl
  | [], _ :: _ => rfl
  | _ :: _, [] => rfl
  | a :: l, b :: m => by
    unfold cmnT
    by_cases h : a = b
    · rw [if_pos h, if_pos h.symm, h, cmnT_symm l m]
    · rw [if_neg h, if_neg fun e => h e.symm]
section
variable {cl : List Nat} (h5 : cl.length = 5) (h7 : ∀ c ∈ cl, c < 7)
def fN (cl : List Nat) (k : Nat) : Str := nm (cl.getD k 0) k
def up (cl : List Nat) (k : Nat) : List Str := upT (cl.getD k 0, k)
def glsOf (cl : List Nat) (j : Nat) : List Int := (grL cl j).map Int.ofNat
include h5 h7
theorem cd_lt {k : Nat} (hk : k < 5) : cl.getD k 0 < 7 := by
  rw [List.getD_eq_getElem?_getD, List.getElem?_eq_getElem (by omega)]
  exact h7 _ (List.getElem_mem _)
theorem one_of {k : Nat} (hk : k < 5) : wayT (fN cl k) = chT (cl.getD k 0) ∧ wayOk (fN cl k) (chT (cl.getD k 0)) = true ∧ (∀ y ∈ up cl k, y.length < 100) ∧ (up cl k).Nodup ∧ (∀ y ∈ up cl k, y = fN cl k ∨ ∃ j, j < 6 ∧ y = foT j) ∧ ∀ j, j < 6 → (foT j ∈ up cl k ↔ cl.getD k 0 ∈ kd j) ∧ foT j ≠ fN cl k := by
  have h := List.all_eq_true.mp one1_all _ (mem_allN (cd_lt h5 h7 hk) hk)
  unfold one1 at h
  simp only [Bool.and_eq_true, decide_eq_true_eq, List.all_eq_true, Bool.or_eq_true, List.any_eq_true, List.mem_range] at h
  obtain ⟨⟨⟨⟨⟨a1, a2⟩, a3⟩, a4⟩, a5⟩, a6⟩ := h
  exact ⟨a1, a2, a3, a4, a5, a6⟩
theorem up_eq {k : Nat} (hk : k < 5) : (fN cl k :: wayT (fN cl k)).reverse = up cl k := by
  rw [(one_of h5 h7 hk).1, List.reverse_cons]; rfl
theorem mem_up {k : Nat} (hk : k < 5) {y : Str} : y ∈ fN cl k :: wayT (fN cl k) ↔ y ∈ up cl k := by
  rw [← up_eq h5 h7 hk, List.mem_reverse]
theorem fN_up {k : Nat} (hk : k < 5) : fN cl k ∈ up cl k := (mem_up h5 h7 hk).mp List.mem_cons_self
theorem mem_gls {k j : Nat} (hk : k < 5) (hj : j < 6) : Int.ofNat k ∈ glsOf cl j ↔ foT j ∈ up cl k := by
  unfold glsOf grL grP
  rw [mem_ofNat, List.mem_filter, decide_eq_true_iff, ((one_of h5 h7 hk).2.2.2.2.2 j hj).1]
  exact ⟨fun h => h.2, fun h => ⟨List.mem_range.mpr hk, h⟩⟩
theorem gls_of {j : Nat} {z : Int} (h : z ∈ glsOf cl j) : ∃ k, k < 5 ∧ z = Int.ofNat k := by
  obtain ⟨k, hk, rfl⟩ := List.mem_map.mp h
  exact ⟨k, List.mem_range.mp (List.mem_filter.mp hk).1, rfl⟩
theorem two_of {i j : Nat} (hi : i < 5) (hj : j < 5) (hij : i ≠ j) : ∃ D F G, up cl i = D ++ topOf wayT (fN cl i) (fN cl j) :: F ∧ up cl j = D ++ topOf wayT (fN cl j) (fN cl i) :: G ∧ (∀ y ∈ topOf wayT (fN cl i) (fN cl j) :: F, y ∉ up cl j) ∧ (∀ y ∈ topOf wayT (fN cl j) (fN cl i) :: G, y ∉ up cl i) ∧ fN cl i ≠ fN cl j := by
  have get := fun {i j : Nat} (hi : i < 5) (hj : j < 5) (hij : i ≠ j) => (by
    have h := List.all_eq_true.mp (List.all_eq_true.mp two2_all _ (mem_allN (cd_lt h5 h7 hi) hi)) _ (mem_allN (cd_lt h5 h7 hj) hj)
    unfold two2 at h
    simp only [Bool.and_eq_true, decide_eq_true_eq, List.all_eq_true, Bool.or_eq_true] at h
    exact h.resolve_left hij : _)
  obtain ⟨⟨⟨⟨a1, a2⟩, a3⟩, a4⟩, a5⟩ := get hi hj hij
  obtain ⟨⟨⟨⟨b1, b2⟩, b3⟩, b4⟩, b5⟩ := get hj hi (Ne.symm hij)
  rw [cmnT_symm] at b1 b2 b3 b4
  obtain ⟨F, hF⟩ := List.head?_eq_some_iff.mp a4
  obtain ⟨G, hG⟩ := List.head?_eq_some_iff.mp b4
  rw [hF] at a1 a3
  rw [hG] at b1 b3
  exact ⟨_, F, G, a1, b1, a3, b3, a5⟩
end
theorem FitRow.at {nd : List (Int × Int)} {gls : Nat → List Int} {r : List Int} (h : FitRow nd gls r) : ∀ {a b : List Int} {z : Int}, r = a ++ z :: b → FitsAt nd gls a z ∧ z ∉ a := by
  induction h with
  | nil => intro a b z e; cases a <;> cases e
  | @snoc r z _ h5 hz hF ih =>
    intro a b y e
    rcases List.eq_nil_or_concat b with rfl | ⟨b', w, rfl⟩
    · obtain ⟨rfl, e2⟩ := List.append_inj' e rfl
      cases e2
      exact ⟨hF, hz⟩
    · rw [List.concat_eq_append, ← List.cons_append, ← List.append_assoc] at e
      exact ih (List.append_inj' e rfl).1
theorem FitRow.nd {nd : List (Int × Int)} {gls : Nat → List Int} {r : List Int} (h : FitRow nd gls r) : r.Nodup ∧ ∀ z ∈ r, ∃ k, k < 5 ∧ z = Int.ofNat k := by
  induction h with
  | nil => exact ⟨List.nodup_nil, nofun⟩
  | @snoc r z _ h5 hz _ ih =>
    refine ⟨List.nodup_append.mpr ⟨ih.1, List.nodup_cons.mpr ⟨List.not_mem_nil, List.nodup_nil⟩, fun a ha b hb e => hz (by rw [List.mem_singleton.mp hb] at e; exact e ▸ ha)⟩, fun y hy => ?_⟩
    rcases List.mem_append.mp hy with hy | hy
    · exact ih.2 y hy
    · rw [List.mem_singleton.mp hy]; exact ⟨z, h5, rfl⟩
theorem nodup_le {α : Type} [DecidableEq α] : ∀ {l m : List α}, l.Nodup → (∀ x ∈ l, x ∈ m) → l.length ≤ m.length
  | [], _, _, _ => Nat.zero_le _
  | a :: l, m, hn, h => by
    have n := List.nodup_cons.mp hn
    have ha := h a List.mem_cons_self
    have := nodup_le (m := m.erase a) n.2 fun x hx => (List.mem_erase_of_ne (fun e : x = a => n.1 (e ▸ hx))).mpr (h x (.tail _ hx))
    rw [List.length_erase_of_mem ha] at this
    have := List.length_pos_of_mem ha
    rw [List.length_cons]; omega
theorem all_in {r : List Int} (hn : r.Nodup) (hr : ∀ z ∈ r, ∃ k, k < 5 ∧ z = Int.ofNat k) (h5 : r.length = 5) {k : Nat} (hk : k < 5) : Int.ofNat k ∈ r := by
  refine Classical.byContradiction fun h => ?_
  have := nodup_le (l := Int.ofNat k :: r) (m := (List.range 5).map Int.ofNat) (List.nodup_cons.mpr ⟨h, hn⟩) fun z hz => by
    rcases List.mem_cons.mp hz with rfl | hz
    · exact List.mem_map_of_mem (List.mem_range.mpr hk)
    · obtain ⟨j, hj, rfl⟩ := hr z hz
      exact List.mem_map_of_mem (List.mem_range.mpr hj)
  rw [List.length_cons, h5, List.length_map, List.length_range] at this
  omega
theorem filter_lt {α : Type} {p q : α → Bool} {x : α} : ∀ {l : List α}, (∀ y ∈ l, p y = true → q y = true) → x ∈ l → q x = true → p x = false → (l.filter p).length < (l.filter q).length := by
  have le : ∀ {l : List α}, (∀ y ∈ l, p y = true → q y = true) → (l.filter p).length ≤ (l.filter q).length := by
    intro l
    induction l with
    | nil => intro _; exact Nat.le_refl _
    | cons a l ih =>
      intro h
      have ih := ih fun y hy => h y (.tail _ hy)
      rw [List.filter_cons, List.filter_cons]
      cases hp : p a with
      | true => rw [h a List.mem_cons_self hp, if_pos rfl, if_pos rfl]; exact Nat.succ_le_succ ih
      | false =>
        rw [if_neg Bool.false_ne_true]
        split
        · exact Nat.le_succ_of_le ih
        · exact ih
  intro l
  induction l with
  | nil => intro _ h; cases h
  | cons a l ih =>
    intro h hx hq hp
    have hl := le fun y hy => h y (.tail _ hy)
    rw [List.filter_cons, List.filter_cons]
    rcases List.mem_cons.mp hx with rfl | hx
    · rw [hp, hq, if_neg Bool.false_ne_true, if_pos rfl]; exact Nat.lt_succ_of_le hl
    · have ih := ih (fun y hy => h y (.tail _ hy)) hx hq hp
      cases hpa : p a with
      | true => rw [h a List.mem_cons_self hpa, if_pos rfl, if_pos rfl]; exact Nat.succ_lt_succ ih
      | false =>
        rw [if_neg Bool.false_ne_true]
        split
        · exact Nat.lt_succ_of_lt ih
        · exact ih
def bef (cl : List Nat) (r : List Int) (p q : Str) : Prop := ∃ k, k < 5 ∧ p ∈ up cl k ∧ ∀ m, m < 5 → q ∈ up cl m → r.idxOf (Int.ofNat k) < r.idxOf (Int.ofNat m)
theorem bef.trans {cl : List Nat} {r : List Int} {p q s : Str} (h : bef cl r p q) (h' : bef cl r q s) : bef cl r p s := by
  obtain ⟨k, k5, hp, h1⟩ := h
  obtain ⟨m, m5, hq, h2⟩ := h'
  exact ⟨k, k5, hp, fun j hj hs => Nat.lt_trans (h1 m m5 hq) (h2 j hj hs)⟩
theorem bef.irr {cl : List Nat} {r : List Int} {p : Str} (h : bef cl r p p) : False := by
  obtain ⟨k, k5, hp, h1⟩ := h
  exact Nat.lt_irrefl _ (h1 k k5 hp)
def NdOk (nd : List (Int × Int)) : Prop := ∀ q ∈ nd, ∃ x y : Nat, q = (Int.ofNat x, Int.ofNat y) ∧ x < 5 ∧ y < 5 ∧ x ≠ y
section
variable {cl : List Nat} (h5 : cl.length = 5) (h7 : ∀ c ∈ cl, c < 7)
include h5 h7
theorem edge_bef {nd : List (Int × Int)} {r : List Int} (hF : FitRow nd (glsOf cl) r) (hr : r.length = 5) {x y : Nat} (hx : x < 5) (hy : y < 5) (hxy : x ≠ y) (hq : (Int.ofNat x, Int.ofNat y) ∈ nd) : bef cl r (topOf wayT (fN cl y) (fN cl x)) (topOf wayT (fN cl x) (fN cl y)) := by
  obtain ⟨D, F, G, e1, e2, a1, a2, hne⟩ := two_of h5 h7 hx hy hxy
  obtain ⟨hn, hrk⟩ := hF.nd
  have inr := fun {k : Nat} (hk : k < 5) => all_in hn hrk hr hk
  refine ⟨y, hy, by rw [e2]; exact List.mem_append_right _ List.mem_cons_self, fun m hm hb => ?_⟩
  have hmy : m ≠ y := fun e => a1 _ List.mem_cons_self (e ▸ hb)
  refine Classical.byContradiction fun hlt => ?_
  obtain ⟨r1, r2, er⟩ := List.append_of_mem (inr hy)
  obtain ⟨fit, hy1⟩ := hF.at er
  have iy : r.idxOf (Int.ofNat y) = r1.length := by
    rw [er, List.idxOf_append, if_neg hy1, List.idxOf_cons, beq_self_eq_true]; exact Nat.zero_add _
  have hm1 : Int.ofNat m ∈ r1 := by
    refine Classical.byContradiction fun h => hlt ?_
    rw [iy, er, List.idxOf_append, if_neg h, List.idxOf_cons, beq_eq_false_iff_ne.mpr fun e => hmy (Int.ofNat.inj e).symm]
    show r1.length < _ + 1 + r1.length
    omega
  have hx1 : Int.ofNat x ∉ r1 := by
    intro h
    obtain ⟨s1, s2, es⟩ := List.append_of_mem (inr hx)
    have hys : Int.ofNat y ∈ s1 := (hF.at es).1.1 _ hq rfl
    have i1 : r.idxOf (Int.ofNat x) = s1.length := by
      rw [es, List.idxOf_append, if_neg (hF.at es).2, List.idxOf_cons, beq_self_eq_true]; exact Nat.zero_add _
    have i2 : r.idxOf (Int.ofNat y) < s1.length := by
      rw [es, List.idxOf_append, if_pos hys]; exact List.idxOf_lt_length_iff.mpr hys
    have i3 : r.idxOf (Int.ofNat x) < r1.length := by
      rw [er, List.idxOf_append, if_pos h]; exact List.idxOf_lt_length_iff.mpr h
    omega
  have hxu : topOf wayT (fN cl x) (fN cl y) ∈ up cl x := by rw [e1]; exact List.mem_append_right _ List.mem_cons_self
  rcases (one_of h5 h7 hx).2.2.2.2.1 _ hxu with e | ⟨j, hj, e⟩
  · -- a file's own place
    rw [e] at hb
    by_cases hmx : m = x
    · exact hx1 (hmx ▸ hm1)
    · obtain ⟨_, _, _, _, _, _, a4, _⟩ := two_of h5 h7 hm hx hmx
      rcases (one_of h5 h7 hm).2.2.2.2.1 _ hb with e3 | ⟨j, hj, e3⟩
      · obtain ⟨_, _, _, _, _, _, _, q⟩ := two_of h5 h7 hm hx hmx
        exact q e3.symm
      · exact ((one_of h5 h7 hx).2.2.2.2.2 j hj).2 e3.symm
  · rw [e] at hb hxu
    have h1 := fit.2 j hj
    have my : Int.ofNat y ∉ glsOf cl j := fun h => a1 _ List.mem_cons_self (by rw [e]; exact (mem_gls h5 h7 hy hj).mp h)
    have mm := (mem_gls h5 h7 hm hj).mpr hb
    have mx := (mem_gls h5 h7 hx hj).mpr hxu
    rcases h1 with h1 | h1 | h1
    · exact my h1
    · have : Int.ofNat m ∈ inH r1 (glsOf cl j) := List.mem_filter.mpr ⟨mm, decide_eq_true hm1⟩
      rw [h1] at this
      cases this
    · have := filter_lt (l := glsOf cl j) (p := fun z => decide (z ∈ r1)) (q := fun _ => true) (fun _ _ _ => rfl) mx rfl (decide_eq_false hx1)
      rw [List.filter_eq_self.mpr fun _ _ => rfl] at this
      exact Nat.lt_irrefl _ (Nat.lt_of_lt_of_le this h1)
theorem no_row {nd : List (Int × Int)} (hnd : NdOk nd) {E : List (Nat × Nat)} {T : List Str} (hE : ∀ p ∈ E, ∃ x y : Nat, (Int.ofNat x, Int.ofNat y) ∈ nd ∧ x < 5 ∧ y < 5 ∧ x ≠ y ∧ T[p.1]? = some (topOf wayT (fN cl y) (fN cl x)) ∧ T[p.2]? = some (topOf wayT (fN cl x) (fN cl y))) {u : Nat} (hring : Way (sucE E) u u) : ∀ r, FitRow nd (glsOf cl) r → r.length ≠ 5 := by
  intro r hF hr
  have step : ∀ {a b : Nat}, b ∈ sucE E a → ∃ p q, T[a]? = some p ∧ T[b]? = some q ∧ bef cl r p q := fun {a b} hb => by
    obtain ⟨⟨a', b'⟩, hp, e⟩ := List.mem_map.mp hb
    have hp2 := (List.mem_filter.mp hp).1
    have ha : a' = a := of_decide_eq_true (List.mem_filter.mp hp).2
    have e : b' = b := e
    subst ha e
    obtain ⟨x, y, q1, q2, q3, q4, q5, q6⟩ := hE _ hp2
    exact ⟨_, _, q5, q6, edge_bef h5 h7 hF hr q2 q3 q4 q1⟩
  have key : ∀ {a b : Nat}, Way (sucE E) a b → ∃ p q, T[a]? = some p ∧ T[b]? = some q ∧ bef cl r p q := fun h => by
    induction h with
    | one e => exact step e
    | more e _ ih =>
      obtain ⟨p, q, h1, h2, h3⟩ := step e
      obtain ⟨q', s, h4, h5, h6⟩ := ih
      rw [h2] at h4
      cases h4
      exact ⟨p, s, h1, h5, h3.trans h6⟩
  obtain ⟨p, q, h1, h2, h3⟩ := key hring
  rw [h1] at h2
  cases h2
  exact h3.irr
end
theorem lex_app {a b : Nat} (hne : a ≠ b) {X Y : List Nat} : ∀ C : List Nat, (C ++ a :: X) < (C ++ b :: Y) ↔ a < b
  | [] => by
    show (a :: X) < (b :: Y) ↔ _
    rw [List.cons_lt_cons_iff]
    exact ⟨fun h => h.resolve_right fun h => hne h.1, .inl⟩
  | c :: C => by
    show (c :: (C ++ a :: X)) < (c :: (C ++ b :: Y)) ↔ _
    rw [List.cons_lt_cons_iff, lex_app hne C]
    exact ⟨fun h => h.elim (fun h => absurd h (Nat.lt_irrefl _)) fun h => h.2, fun h => .inr ⟨rfl, h⟩⟩
theorem between {u w : List Nat} : ∀ {P k : List Nat}, (P ++ u) < k → k < (P ++ w) → ∃ v, k = P ++ v
  | [], k, _, _ => ⟨k, rfl⟩
  | x :: P, [], h, _ => absurd h (List.not_lt_nil _)
  | x :: P, y :: k, h, h' => by
    have g : (x :: (P ++ u)) < (y :: k) := h
    have g' : (y :: k) < (x :: (P ++ w)) := h'
    rw [List.cons_lt_cons_iff] at g g'
    have hx : x = y := by
      rcases g with g | g
      · rcases g' with g' | g'
        · exact absurd g' (Nat.lt_asymm g)
        · exact g'.1.symm
      · exact g.1
    have g1 := (g.resolve_left fun c => Nat.lt_irrefl _ (hx ▸ c)).2
    have g2 := (g'.resolve_left fun c => Nat.lt_irrefl _ (hx ▸ c)).2
    obtain ⟨v, e⟩ := between g1 g2
    exact ⟨v, by rw [e, hx]; rfl⟩
def kN (ol : List Str) (cl : List Nat) (k : Nat) : List Nat := (up cl k).map fun y => ol.idxOf y
def rank (ol : List Str) (cl : List Nat) (k : Nat) : Nat := ((List.range 5).filter fun j => decide (kN ol cl j < kN ol cl k)).length
def ranks (ol : List Str) (cl : List Nat) : List Nat := (List.range 5).map (rank ol cl)
theorem ranks_at (ol : List Str) (cl : List Nat) {i : Nat} (hi : i < 5) (d : Nat) : (ranks ol cl).getD i d = rank ol cl i := by
  unfold ranks; rw [List.getD_eq_getElem?_getD, List.getElem?_map, List.getElem?_range hi]; rfl
section
variable {cl : List Nat} (h5 : cl.length = 5) (h7 : ∀ c ∈ cl, c < 7) {ol : List Str} (hol : ∀ k, k < 5 → ∀ y ∈ up cl k, y ∈ ol)
theorem idx_inj {a b : Str} (ha : a ∈ ol) (hb : b ∈ ol) (h : ol.idxOf a = ol.idxOf b) : a = b := by
  have e1 := List.getElem_idxOf (List.idxOf_lt_length_iff.mpr ha)
  have e2 := List.getElem_idxOf (List.idxOf_lt_length_iff.mpr hb)
  rw [← e1, ← e2]; congr 1
include h5 h7 hol
theorem key_two {i j : Nat} (hi : i < 5) (hj : j < 5) (hij : i ≠ j) : ∃ C X Y, kN ol cl i = C ++ ol.idxOf (topOf wayT (fN cl i) (fN cl j)) :: X ∧ kN ol cl j = C ++ ol.idxOf (topOf wayT (fN cl j) (fN cl i)) :: Y ∧ ol.idxOf (topOf wayT (fN cl i) (fN cl j)) ≠ ol.idxOf (topOf wayT (fN cl j) (fN cl i)) := by
  obtain ⟨D, F, G, e1, e2, a1, a2, _⟩ := two_of h5 h7 hi hj hij
  have m1 : topOf wayT (fN cl i) (fN cl j) ∈ up cl i := by rw [e1]; exact List.mem_append_right _ List.mem_cons_self
  have m2 : topOf wayT (fN cl j) (fN cl i) ∈ up cl j := by rw [e2]; exact List.mem_append_right _ List.mem_cons_self
  refine ⟨D.map fun y => ol.idxOf y, F.map fun y => ol.idxOf y, G.map fun y => ol.idxOf y, by unfold kN; rw [e1, List.map_append, List.map_cons], by unfold kN; rw [e2, List.map_append, List.map_cons], fun h => ?_⟩
  exact a1 _ List.mem_cons_self (idx_inj (hol i hi _ m1) (hol j hj _ m2) h ▸ m2)
theorem klt_iff {i j : Nat} (hi : i < 5) (hj : j < 5) (hij : i ≠ j) : kN ol cl i < kN ol cl j ↔ ol.idxOf (topOf wayT (fN cl i) (fN cl j)) < ol.idxOf (topOf wayT (fN cl j) (fN cl i)) := by
  obtain ⟨C, X, Y, e1, e2, e3⟩ := key_two h5 h7 hol hi hj hij
  rw [e1, e2]; exact lex_app e3 C
omit h5 h7 hol in
theorem rank_lt {i j : Nat} (hi : i < 5) (h : kN ol cl i < kN ol cl j) : rank ol cl i < rank ol cl j :=
  filter_lt (x := i) (fun y _ hy => decide_eq_true (List.lt_trans (of_decide_eq_true hy) h)) (List.mem_range.mpr hi) (decide_eq_true h) (decide_eq_false (List.lt_irrefl _))
theorem rank_iff {i j : Nat} (hi : i < 5) (hj : j < 5) (hij : i ≠ j) : rank ol cl i < rank ol cl j ↔ kN ol cl i < kN ol cl j := by
  refine ⟨fun h => ?_, rank_lt hi⟩
  rw [klt_iff h5 h7 hol hi hj hij]
  obtain ⟨_, _, _, _, _, e3⟩ := key_two h5 h7 hol hi hj hij
  refine Classical.byContradiction fun hn => ?_
  have h2 := rank_lt (ol := ol) (cl := cl) hj ((klt_iff h5 h7 hol hj hi (Ne.symm hij)).mpr (by omega))
  omega
theorem rank_inj {i j : Nat} (hi : i < 5) (hj : j < 5) (h : rank ol cl i = rank ol cl j) : i = j := by
  refine Classical.byContradiction fun hij => ?_
  obtain ⟨_, _, _, _, _, e3⟩ := key_two h5 h7 hol hi hj hij
  rcases Nat.lt_or_gt_of_ne e3 with h2 | h2
  · have := rank_lt (ol := ol) hi ((klt_iff h5 h7 hol hi hj hij).mpr h2); omega
  · have := rank_lt (ol := ol) hj ((klt_iff h5 h7 hol hj hi (Ne.symm hij)).mpr h2); omega
omit h5 h7 hol in
theorem rank_6 (k : Nat) : rank ol cl k < 6 := Nat.lt_succ_of_le (Nat.le_trans (List.length_filter_le ..) (Nat.le_of_eq List.length_range))
theorem ranks_ok : (ranks ol cl).length = 5 ∧ (ranks ol cl).Nodup ∧ ∀ v ∈ ranks ol cl, v < 6 := by
  refine ⟨by unfold ranks; rw [List.length_map, List.length_range], ?_, fun v hv => ?_⟩
  · unfold ranks
    rw [List.nodup_iff_pairwise_ne, List.pairwise_map]
    refine List.Pairwise.imp_of_mem (fun ha hb hab e => ?_) List.pairwise_lt_range
    exact absurd (rank_inj h5 h7 hol (List.mem_range.mp ha) (List.mem_range.mp hb) e) (Nat.ne_of_lt hab)
  · obtain ⟨k, _, rfl⟩ := List.mem_map.mp hv
    exact rank_6 k
theorem row_ok : (∀ k, k ∈ sortedOf (ranks ol cl) ↔ k < 5) ∧ (sortedOf (ranks ol cl)).Pairwise fun i j => rank ol cl i < rank ol cl j := by
  obtain ⟨l5, ln, l6⟩ := ranks_ok h5 h7 hol
  have S := sorted_is ln l6 (by omega) (by omega)
  have lt5 : ∀ i ∈ sortedOf (ranks ol cl), i < 5 := fun i hi => by
    have hm : (ranks ol cl).getD i 9 ∈ (List.range 6).filter fun v => (ranks ol cl).contains v := S ▸ List.mem_map_of_mem hi
    have h9 := List.mem_range.mp (List.mem_filter.mp hm).1
    by_cases hlt : i < (ranks ol cl).length
    · omega
    · rw [List.getD_eq_getElem?_getD, List.getElem?_eq_none (Nat.le_of_not_lt hlt)] at h9
      exact absurd h9 (by decide)
  refine ⟨fun k => ⟨lt5 k, fun hk => ?_⟩, ?_⟩
  · have hm : rank ol cl k ∈ (sortedOf (ranks ol cl)).map fun i => (ranks ol cl).getD i 9 := by
      rw [S]
      refine List.mem_filter.mpr ⟨List.mem_range.mpr (rank_6 k), ?_⟩
      rw [List.contains_iff_mem]
      exact List.mem_map_of_mem (List.mem_range.mpr hk)
    obtain ⟨i, hi, e⟩ := List.mem_map.mp hm
    rw [ranks_at _ _ (lt5 i hi)] at e
    exact rank_inj h5 h7 hol (lt5 i hi) hk e ▸ hi
  · have P : ((sortedOf (ranks ol cl)).map fun i => (ranks ol cl).getD i 9).Pairwise (· < ·) := by
      rw [S]; exact List.Pairwise.filter _ List.pairwise_lt_range
    rw [List.pairwise_map] at P
    refine List.Pairwise.imp_of_mem (fun ha hb h => ?_) P
    rw [ranks_at _ _ (lt5 _ ha), ranks_at _ _ (lt5 _ hb)] at h
    exact h
theorem row_fits {nd : List (Int × Int)} (hnd : NdOk nd) (htop : ∀ x y : Nat, (Int.ofNat x, Int.ofNat y) ∈ nd → ol.idxOf (topOf wayT (fN cl y) (fN cl x)) < ol.idxOf (topOf wayT (fN cl x) (fN cl y))) {a b : List Nat} {k : Nat} (hr : sortedOf (ranks ol cl) = a ++ k :: b) : FitsAt nd (glsOf cl) (a.map Int.ofNat) (Int.ofNat k) := by
  obtain ⟨hall, hpw⟩ := row_ok h5 h7 hol
  have hk5 : k < 5 := (hall k).mp (by rw [hr]; exact List.mem_append_right _ List.mem_cons_self)
  rw [hr] at hpw
  obtain ⟨_, pb, pab⟩ := List.pairwise_append.mp hpw
  have pkb := (List.pairwise_cons.mp pb).1
  have pak := fun x hx => pab x hx k List.mem_cons_self
  have mem : ∀ {z}, z < 5 → z ∈ a ∨ z = k ∨ z ∈ b := fun hz => by
    have := (hall _).mpr hz
    rw [hr] at this
    exact (List.mem_append.mp this).imp_right List.mem_cons.mp
  refine ⟨fun q hq e => ?_, fun j hj => ?_⟩
  · obtain ⟨x, y, rfl, hx, hy, hxy⟩ := hnd q hq
    obtain rfl : x = k := Int.ofNat.inj e
    rcases mem hy with h | h | h
    · exact List.mem_map_of_mem h
    · exact absurd h (Ne.symm hxy)
    · have h1 := pkb y h
      have h2 := rank_lt (ol := ol) (cl := cl) hy ((klt_iff h5 h7 hol hy hx (Ne.symm hxy)).mpr (htop x y hq))
      omega
  · unfold gok
    by_cases hkg : Int.ofNat k ∈ glsOf cl j
    · exact .inl hkg
    refine .inr (Classical.byContradiction fun hc => ?_)
    have hc1 : inH (a.map Int.ofNat) (glsOf cl j) ≠ [] := fun h => hc (.inl h)
    have hc2 : (inH (a.map Int.ofNat) (glsOf cl j)).length < (glsOf cl j).length := Nat.not_le.mp fun h => hc (.inr h)
    obtain ⟨z1, hz1⟩ := List.exists_mem_of_ne_nil _ hc1
    obtain ⟨g1, m1⟩ := List.mem_filter.mp hz1
    obtain ⟨i1, hi1, rfl⟩ := gls_of h5 h7 g1
    have m1 : i1 ∈ a := by
      obtain ⟨y, hy, e⟩ := List.mem_map.mp (of_decide_eq_true m1)
      exact Int.ofNat.inj e ▸ hy
    obtain ⟨z2, g2, m2⟩ := List.length_filter_lt_length_iff_exists.mp hc2
    obtain ⟨i2, hi2, rfl⟩ := gls_of h5 h7 g2
    have m2 : i2 ∉ a := fun h => m2 (decide_eq_true (List.mem_map_of_mem h))
    have n2 : i2 ∈ b := by
      rcases mem hi2 with h | h | h
      · exact absurd h m2
      · exact absurd (h ▸ g2) hkg
      · exact h
    have f1 := (mem_gls h5 h7 hi1 hj).mp g1
    have f2 := (mem_gls h5 h7 hi2 hj).mp g2
    have ne1 : i1 ≠ k := fun e => hkg (e ▸ g1)
    have ne2 : k ≠ i2 := fun e => hkg (e ▸ g2)
    have ne3 : i1 ≠ i2 := fun e => m2 (e ▸ m1)
    have k1 := (rank_iff h5 h7 hol hi1 hk5 ne1).mp (pak i1 m1)
    have k2 := (rank_iff h5 h7 hol hk5 hi2 ne2).mp (pkb i2 n2)
    obtain ⟨D, F, G, e1, e2, a1, _, _⟩ := two_of h5 h7 hi1 hi2 ne3
    have hD : foT j ∈ D := by
      rw [e1] at f1
      exact (List.mem_append.mp f1).resolve_right fun h => a1 _ h f2
    have q1 : kN ol cl i1 = (D.map fun y => ol.idxOf y) ++ (topOf wayT (fN cl i1) (fN cl i2) :: F).map fun y => ol.idxOf y := by unfold kN; rw [e1, List.map_append]
    have q2 : kN ol cl i2 = (D.map fun y => ol.idxOf y) ++ (topOf wayT (fN cl i2) (fN cl i1) :: G).map fun y => ol.idxOf y := by unfold kN; rw [e2, List.map_append]
    rw [q1] at k1
    rw [q2] at k2
    obtain ⟨v, hv⟩ := between k1 k2
    have hm : ol.idxOf (foT j) ∈ kN ol cl k := by rw [hv]; exact List.mem_append_left _ (List.mem_map_of_mem hD)
    obtain ⟨y, hy, e⟩ := List.mem_map.mp hm
    have := idx_inj (hol k hk5 y hy) (hol i1 hi1 _ f1) e
    exact hkg ((mem_gls h5 h7 hk5 hj).mpr (this ▸ hy))
end
theorem perm_erase {α : Type} : ∀ {l : List α} {i : Nat} {z : α}, l[i]? = some z → l.Perm (z :: l.eraseIdx i)
  | a :: l, 0, z, h => by cases h; exact .refl _
  | a :: l, i + 1, z, h => ((perm_erase (l := l) (i := i) h).cons a).trans (.swap ..)
theorem relax_all : ∀ (l : List Nat) (f : Nat → Int) (q0 : List Nat), (∀ v ∈ l, ∃ c : Nat, f v = Int.ofNat c ∧ l.count v ≤ c) →
    (∀ v, (l.foldl relaxN (f, q0)).1 v = f v - Int.ofNat (l.count v)) ∧ ∃ s : List Nat, (l.foldl relaxN (f, q0)).2 = q0 ++ s ∧ s.Nodup ∧ ∀ v, v ∈ s ↔ v ∈ l ∧ f v = Int.ofNat (l.count v)
  | [], f, q0, _ => ⟨fun v => by show f v = f v - 0; omega, [], (List.append_nil _).symm, List.nodup_nil, fun v => ⟨nofun, fun h => nomatch h.1⟩⟩
  | y :: l, f, q0, h => by
    obtain ⟨c, hc, hcl⟩ := h y List.mem_cons_self
    rw [List.count_cons, beq_self_eq_true, if_pos rfl] at hcl
    have cy : ∀ v, (y :: l).count v = l.count v + if v = y then 1 else 0 := fun v => by
      rw [List.count_cons]
      by_cases e : v = y
      · rw [e, beq_self_eq_true, if_pos rfl, if_pos rfl]
      · rw [beq_eq_false_iff_ne.mpr fun x => e x.symm, if_neg Bool.false_ne_true, if_neg e]
    have IH := relax_all l (upd f y (f y - 1)) (if f y - 1 = 0 then q0 ++ [y] else q0) fun v hv => by
      by_cases e : v = y
      · refine ⟨c - 1, ?_, by rw [e]; omega⟩
        rw [e, upd_eq, hc]; show (c : Int) - 1 = ((c - 1 : Nat) : Int); omega
      · obtain ⟨d, h1, h2⟩ := h v (.tail _ hv)
        rw [cy, if_neg e] at h2
        exact ⟨d, by rw [upd_ne e]; exact h1, h2⟩
    obtain ⟨i1, s, i2, i3, i4⟩ := IH
    refine ⟨fun v => ?_, ?_⟩
    · show (l.foldl relaxN (upd f y (f y - 1), _)).1 v = _
      rw [i1 v, cy]
      by_cases e : v = y
      · rw [if_pos e, e, upd_eq]; show f y - 1 - ((l.count y : Nat) : Int) = f y - ((l.count y + 1 : Nat) : Int); omega
      · rw [if_neg e, upd_ne e]; rfl
    · by_cases h0 : f y - 1 = 0
      · have hy : y ∉ l := fun hm => by
          have := List.count_pos_iff.mpr hm
          rw [hc] at h0
          have h0 : (c : Int) - 1 = 0 := h0
          omega
        have hys : y ∉ s := fun hs => hy ((i4 y).mp hs).1
        refine ⟨y :: s, ?_, List.nodup_cons.mpr ⟨hys, i3⟩, fun v => ?_⟩
        · show (l.foldl relaxN (upd f y (f y - 1), _)).2 = _
          rw [i2, if_pos h0, List.append_assoc]; rfl
        · rw [cy]
          by_cases e : v = y
          · subst e
            rw [if_pos rfl, List.count_eq_zero.mpr hy]
            refine ⟨fun _ => ⟨List.mem_cons_self, ?_⟩, fun _ => List.mem_cons_self⟩
            show f v = 1; omega
          · rw [if_neg e]
            have := i4 v
            rw [upd_ne e] at this
            refine ⟨fun hv => ?_, fun hv => .tail _ (this.mpr ⟨(List.mem_cons.mp hv.1).resolve_left e, hv.2⟩)⟩
            have := this.mp ((List.mem_cons.mp hv).resolve_left e)
            exact ⟨.tail _ this.1, this.2⟩
      · refine ⟨s, ?_, i3, fun v => ?_⟩
        · show (l.foldl relaxN (upd f y (f y - 1), _)).2 = _
          rw [i2, if_neg h0]
        · rw [i4 v, cy]
          by_cases e : v = y
          · subst e
            rw [upd_eq, if_pos rfl]
            refine ⟨fun hv => ⟨.tail _ hv.1, ?_⟩, fun hv => ?_⟩
            · have := hv.2
              show f v = ((l.count v + 1 : Nat) : Int)
              have h2 : f v - 1 = ((l.count v : Nat) : Int) := this
              omega
            · have h2 : f v = ((l.count v + 1 : Nat) : Int) := hv.2
              refine ⟨?_, by show f v - 1 = ((l.count v : Nat) : Int); omega⟩
              refine Classical.byContradiction fun hn => h0 ?_
              rw [List.count_eq_zero.mpr hn] at h2
              omega
          · rw [upd_ne e, if_neg e]
            exact ⟨fun hv => ⟨.tail _ hv.1, hv.2⟩, fun hv => ⟨(List.mem_cons.mp hv.1).resolve_left e, hv.2⟩⟩
def cntO (E : List (Nat × Nat)) (o : List Nat) (v : Nat) : Nat := (E.filter fun p => decide (p.2 = v) && decide (p.1 ∉ o)).length
theorem cntO_pos {E : List (Nat × Nat)} {o : List Nat} {v : Nat} : 0 < cntO E o v ↔ ∃ p ∈ E, p.2 = v ∧ p.1 ∉ o := by
  unfold cntO
  rw [List.length_pos_iff_exists_mem]
  constructor
  · rintro ⟨p, hp⟩
    obtain ⟨h1, h2⟩ := List.mem_filter.mp hp
    rw [Bool.and_eq_true, decide_eq_true_iff, decide_eq_true_iff] at h2
    exact ⟨p, h1, h2.1, h2.2⟩
  · rintro ⟨p, h1, h2, h3⟩
    exact ⟨p, List.mem_filter.mpr ⟨h1, by rw [Bool.and_eq_true, decide_eq_true_iff, decide_eq_true_iff]; exact ⟨h2, h3⟩⟩⟩
theorem sucE_mem {E : List (Nat × Nat)} {a b : Nat} : b ∈ sucE E a ↔ (a, b) ∈ E := by
  unfold sucE
  constructor
  · intro h
    obtain ⟨⟨x, y⟩, hp, e⟩ := List.mem_map.mp h
    have hx : x = a := of_decide_eq_true (List.mem_filter.mp hp).2
    have hy : y = b := e
    exact hx ▸ hy ▸ (List.mem_filter.mp hp).1
  · intro h
    exact List.mem_map.mpr ⟨(a, b), List.mem_filter.mpr ⟨h, decide_eq_true rfl⟩, rfl⟩
theorem cntO_snoc {o : List Nat} {z : Nat} (hz : z ∉ o) (v : Nat) : ∀ E : List (Nat × Nat), cntO E o v = cntO E (o ++ [z]) v + (sucE E z).count v
  | [] => rfl
  | p :: E => by
    have ih := cntO_snoc hz v E
    unfold cntO sucE at ih ⊢
    rw [List.filter_cons, List.filter_cons, List.filter_cons]
    by_cases h1 : p.2 = v <;> by_cases h2 : p.1 ∈ o <;> by_cases h3 : p.1 = z
    · exact absurd (h3 ▸ h2) hz
    · simp [h1, h2, h3]; simpa using ih
    · simp [h1, h3, hz]; simp at ih; omega
    · simp [h1, h2, h3]; simp at ih; omega
    · exact absurd (h3 ▸ h2) hz
    · simp [h1, h2, h3]; simpa using ih
    · simp [h1, h3, hz]; simpa using ih
    · simp [h1, h2, h3]; simpa using ih
structure KhO (E : List (Nat × Nat)) (M : Nat) (st : KS) : Prop where
  nd : (st.all ++ st.o).Nodup
  lt : ∀ v ∈ st.all ++ st.o, v < M
  pre : ∀ p ∈ E, p.2 ∈ st.all ++ st.o → p.1 ∈ st.o
  bfo : ∀ p ∈ E, p.2 ∈ st.o → st.o.idxOf p.1 < st.o.idxOf p.2
  cn : ∀ v, v < M → v ∉ st.all ++ st.o → st.np v = Int.ofNat (cntO E st.o v) ∧ 0 < cntO E st.o v
  w1 : ∀ v ∈ st.w, st.np v = -1
theorem idx_app {α : Type} [DecidableEq α] {a : α} {l m : List α} (h : a ∈ l) : (l ++ m).idxOf a = l.idxOf a := by rw [List.idxOf_append, if_pos h]
section
variable {E : List (Nat × Nat)} {M : Nat} (hE : ∀ p ∈ E, p.1 < M ∧ p.2 < M) {st : KS} (K : KhO E M st) (hne : st.all ≠ [])
include K hne
theorem KhO.z_at : st.all[st.ix]? = some st.z := by
  have hl := List.length_pos_iff.mpr hne
  have hb : (0 : Int) < Int.ofNat st.all.length := Int.ofNat_lt.mpr hl
  obtain ⟨k0, k1⟩ := mod_lt st.lk hb
  have hix : st.ix < st.all.length := by
    unfold KS.ix
    have : (Int.ofNat st.all.length : Int) = ((st.all.length : Nat) : Int) := rfl
    omega
  unfold KS.z
  rw [List.getD_eq_getElem?_getD, List.getElem?_eq_getElem hix]; rfl
theorem KhO.z_mk : st.mk1 st.z = -1 := by
  have hz := List.mem_of_getElem? (K.z_at hne)
  unfold KS.mk1
  split
  · rfl
  · rename_i h
    exact K.w1 _ ((List.mem_append.mp hz).resolve_right h)
include hE
theorem KhO.turn : KhO E M (st.turn (sucE E)) := by
  have hza := K.z_at hne
  have hz := List.mem_of_getElem? hza
  obtain ⟨z, ez⟩ : ∃ z, st.z = z := ⟨_, rfl⟩
  rw [ez] at hza hz
  have P := perm_erase hza
  obtain ⟨w', ew⟩ : ∃ w', st.all.eraseIdx st.ix = w' := ⟨_, rfl⟩
  rw [ew] at P
  obtain ⟨n1, n2, n3⟩ := List.nodup_append.mp K.nd
  have nP := P.nodup_iff.mp n1
  obtain ⟨nz, nw⟩ := List.nodup_cons.mp nP
  have hzo : z ∉ st.o := fun h => n3 z hz z h rfl
  have mw : ∀ {v}, v ∈ w' → v ∈ st.all := fun h => P.mem_iff.mpr (.tail _ h)
  have ma : ∀ {v}, v ∈ st.all → v = z ∨ v ∈ w' := fun h => List.mem_cons.mp (P.mem_iff.mp h)
  have suc : ∀ {v}, v ∈ sucE E z → v ∉ st.all ++ st.o ∧ v < M := fun {v} h => ⟨fun hv => hzo (K.pre (z, v) (sucE_mem.mp h) hv), (hE _ (sucE_mem.mp h)).2⟩
  have fv : ∀ {v}, v ∉ st.all ++ st.o → upd st.mk1 z (-2) v = st.np v := fun {v} hv => by
    have h1 : v ≠ z := fun e => hv (List.mem_append_left _ (e ▸ hz))
    rw [upd_ne h1]
    unfold KS.mk1
    rw [if_neg fun h => hv (List.mem_append_left _ (List.mem_append_right _ h))]
  have R := relax_all (sucE E z) (upd st.mk1 z (-2)) [] fun v hv => by
    obtain ⟨h1, h2⟩ := suc hv
    refine ⟨cntO E st.o v, by rw [fv h1]; exact (K.cn v h2 h1).1, ?_⟩
    rw [cntO_snoc hzo v E]; omega
  obtain ⟨R1, s, R2, R3, R4⟩ := R
  have hs : ∀ {v}, v ∈ s ↔ v ∈ sucE E z ∧ cntO E (st.o ++ [z]) v = 0 := fun {v} => by
    rw [R4 v]
    refine ⟨fun h => ⟨h.1, ?_⟩, fun h => ⟨h.1, ?_⟩⟩
    · obtain ⟨h1, h2⟩ := suc h.1
      have e := h.2
      rw [fv h1, (K.cn v h2 h1).1] at e
      have := cntO_snoc hzo v E
      have e := Int.ofNat.inj e
      omega
    · obtain ⟨h1, h2⟩ := suc h.1
      rw [fv h1, (K.cn v h2 h1).1]
      have := cntO_snoc hzo v E
      rw [h.2, Nat.zero_add] at this
      rw [this]
  have eq : (st.dn (sucE E)) = ((sucE E z).foldl relaxN (upd st.mk1 z (-2), [])) := by unfold KS.dn doneN; rw [ez]
  have eall : (st.turn (sucE E)).all = w' ++ s := by
    unfold KS.turn KS.all
    show st.all.eraseIdx st.ix ++ (st.dn (sucE E)).2 = _
    rw [ew, eq, R2]; rfl
  have eo : (st.turn (sucE E)).o = st.o ++ [z] := by unfold KS.turn; rw [ez]
  have enp : ∀ v, (st.turn (sucE E)).np v = upd st.mk1 z (-2) v - Int.ofNat ((sucE E z).count v) := fun v => by
    show (st.dn (sucE E)).1 v = _
    rw [eq, R1]
  have sub : ∀ {v}, v ∉ (w' ++ s) ++ (st.o ++ [z]) → v ∉ st.all ++ st.o ∧ v ≠ z ∧ v ∉ s := fun {v} h => by
    refine ⟨fun hv => h ?_, fun e => h (List.mem_append_right _ (List.mem_append_right _ (e ▸ List.mem_singleton.mpr rfl))), fun hv => h (List.mem_append_left _ (List.mem_append_right _ hv))⟩
    rcases List.mem_append.mp hv with hv | hv
    · rcases ma hv with rfl | hv
      · exact List.mem_append_right _ (List.mem_append_right _ (List.mem_singleton.mpr rfl))
      · exact List.mem_append_left _ (List.mem_append_left _ hv)
    · exact List.mem_append_right _ (List.mem_append_left _ hv)
  have out : ∀ p ∈ E, p.2 ∈ s → p.1 ∈ st.o ++ [z] := fun p hp h => Classical.byContradiction fun hn => by
    have := (hs.mp h).2
    have h2 := cntO_pos.mpr ⟨p, hp, rfl, hn⟩
    omega
  refine ⟨?_, ?_, ?_, ?_, ?_, ?_⟩
  · rw [eall, eo]
    refine List.nodup_append.mpr ⟨List.nodup_append.mpr ⟨nw, R3, fun a ha b hb e => (suc (hs.mp (e ▸ hb)).1).1 (List.mem_append_left _ (mw ha))⟩, List.nodup_append.mpr ⟨n2, List.nodup_cons.mpr ⟨List.not_mem_nil, List.nodup_nil⟩, fun a ha b hb e => hzo (by rw [List.mem_singleton.mp hb] at e; exact e ▸ ha)⟩, fun a ha b hb e => ?_⟩
    subst e
    rcases List.mem_append.mp ha with ha | ha
    · rcases List.mem_append.mp hb with hb | hb
      · exact n3 a (mw ha) a hb rfl
      · exact nz (List.mem_singleton.mp hb ▸ ha)
    · have := (suc (hs.mp ha).1).1
      rcases List.mem_append.mp hb with hb | hb
      · exact this (List.mem_append_right _ hb)
      · exact this (List.mem_append_left _ (List.mem_singleton.mp hb ▸ hz))
  · rw [eall, eo]
    intro v hv
    rcases List.mem_append.mp hv with hv | hv
    · rcases List.mem_append.mp hv with hv | hv
      · exact K.lt v (List.mem_append_left _ (mw hv))
      · exact (suc (hs.mp hv).1).2
    · rcases List.mem_append.mp hv with hv | hv
      · exact K.lt v (List.mem_append_right _ hv)
      · exact K.lt v (List.mem_append_left _ (List.mem_singleton.mp hv ▸ hz))
  · rw [eall, eo]
    intro p hp hv
    rcases List.mem_append.mp hv with hv | hv
    · rcases List.mem_append.mp hv with hv | hv
      · exact List.mem_append_left _ (K.pre p hp (List.mem_append_left _ (mw hv)))
      · exact out p hp hv
    · rcases List.mem_append.mp hv with hv | hv
      · exact List.mem_append_left _ (K.pre p hp (List.mem_append_right _ hv))
      · exact List.mem_append_left _ (K.pre p hp (List.mem_append_left _ (by rw [List.mem_singleton.mp hv]; exact hz)))
  · rw [eo]
    intro p hp hv
    rcases List.mem_append.mp hv with hv | hv
    · have h1 := K.pre p hp (List.mem_append_right _ hv)
      rw [idx_app h1, idx_app hv]
      exact K.bfo p hp hv
    · have hv := List.mem_singleton.mp hv
      have h1 := K.pre p hp (List.mem_append_left _ (by rw [hv]; exact hz))
      rw [idx_app h1, hv, List.idxOf_append, if_neg hzo, List.idxOf_cons, beq_self_eq_true]
      exact Nat.lt_of_lt_of_eq (List.idxOf_lt_length_iff.mpr h1) (Nat.zero_add _).symm
  · rw [eall, eo]
    intro v hM hv
    obtain ⟨h1, h2, h3⟩ := sub hv
    obtain ⟨c1, c2⟩ := K.cn v hM h1
    have cs := cntO_snoc hzo v E
    refine ⟨?_, ?_⟩
    · rw [enp, fv h1, c1, cs]
      show ((cntO E (st.o ++ [z]) v + (sucE E z).count v : Nat) : Int) - (((sucE E z).count v : Nat) : Int) = ((cntO E (st.o ++ [z]) v : Nat) : Int)
      omega
    · refine Nat.pos_of_ne_zero fun h0 => h3 (hs.mpr ⟨?_, h0⟩)
      rw [h0, Nat.zero_add] at cs
      exact List.count_pos_iff.mp (cs ▸ c2)
  · intro v hv
    have hv : v ∈ w' := by
      have : (st.turn (sucE E)).w = st.all.eraseIdx st.ix := rfl
      rw [this, ew] at hv
      exact hv
    have hvz : v ≠ z := fun e => nz (e ▸ hv)
    have h0 : (sucE E z).count v = 0 := List.count_eq_zero.mpr fun h => (suc h).1 (List.mem_append_left _ (mw hv))
    rw [enp, h0, upd_ne hvz]
    show st.mk1 v - 0 = -1
    unfold KS.mk1
    split
    · rfl
    · rename_i h
      have := K.w1 v ((List.mem_append.mp (mw hv)).resolve_right h)
      omega
end
theorem KhO.run {E : List (Nat × Nat)} {M : Nat} (hE : ∀ p ∈ E, p.1 < M ∧ p.2 < M) (hM : M ≤ 20) (hl : E.length ≤ 900) : ∀ (n : Nat) (st : KS), KhO E M st → M ≤ st.o.length + n → ∃ st', Turns (sucE E) M st st' ∧ KhO E M st' ∧ st'.all = [] := by
  have len : ∀ {st : KS}, KhO E M st → st.all.length + st.o.length ≤ M := fun {st} K => by
    have := nodup_le (m := List.range M) K.nd fun v hv => List.mem_range.mpr (K.lt v hv)
    rwa [List.length_append, List.length_range] at this
  intro n
  induction n with
  | zero =>
    intro st K hn
    have := len K
    have h0 : st.all = [] := List.length_eq_zero_iff.mp (by omega)
    have h1 := List.append_eq_nil_iff.mp (show st.w ++ st.q = [] from h0)
    exact ⟨st, .stop h1.1 h1.2, K, h0⟩
  | succ n ih =>
    intro st K hn
    by_cases h0 : st.all = []
    · have h1 := List.append_eq_nil_iff.mp (show st.w ++ st.q = [] from h0)
      exact ⟨st, .stop h1.1 h1.2, K, h0⟩
    · have := len K
      obtain ⟨st', T, K', e⟩ := ih _ (K.turn hE h0) (by
        show M ≤ (st.o ++ [st.z]).length + n
        rw [List.length_append, List.length_singleton]; omega)
      refine ⟨st', .turn h0 (by omega) (by omega) (fun v hv => K.lt v (List.mem_append_left _ hv)) (K.z_mk h0) ?_ T, K', e⟩
      unfold sucE
      rw [List.length_map]
      exact Nat.le_trans (List.length_filter_le ..) hl
theorem ring_of {E : List (Nat × Nat)} {U : Nat → Prop} {M : Nat} (hU : ∀ v, U v → v < M ∧ ∃ u, (u, v) ∈ E ∧ U u) {v : Nat} (hv : U v) : ∃ u, u < M ∧ Way (sucE E) u u := by
  refine Classical.byContradiction fun hno => ?_
  have key : ∀ n : Nat, ∃ a l, (a :: l).length = n + 1 ∧ (a :: l).Nodup ∧ (∀ x ∈ a :: l, U x) ∧ ∀ x ∈ l, Way (sucE E) a x := by
    intro n
    induction n with
    | zero => exact ⟨v, [], rfl, List.nodup_cons.mpr ⟨List.not_mem_nil, List.nodup_nil⟩, fun x hx => List.mem_singleton.mp hx ▸ hv, nofun⟩
    | succ n ih =>
      obtain ⟨a, l, h1, h2, h3, h4⟩ := ih
      obtain ⟨u, hu, hUu⟩ := (hU a (h3 a List.mem_cons_self)).2
      have hw : Way (sucE E) u a := .one (sucE_mem.mpr hu)
      have hall : ∀ x ∈ a :: l, Way (sucE E) u x := fun x hx => (List.mem_cons.mp hx).elim (fun e => e ▸ hw) fun hx => hw.trans (h4 x hx)
      refine ⟨u, a :: l, by rw [List.length_cons, h1], List.nodup_cons.mpr ⟨fun hm => hno ⟨u, (hU u hUu).1, hall u hm⟩, h2⟩, fun x hx => (List.mem_cons.mp hx).elim (fun e => e ▸ hUu) (h3 x), hall⟩
  obtain ⟨a, l, h1, h2, h3, _⟩ := key M
  have := nodup_le (m := List.range M) h2 fun x hx => List.mem_range.mpr (hU x (h3 x hx)).1
  rw [h1, List.length_range] at this
  omega
theorem KhO.all {E : List (Nat × Nat)} {M : Nat} (hE : ∀ p ∈ E, p.1 < M ∧ p.2 < M) {st : KS} (K : KhO E M st) (h0 : st.all = []) (hno : ∀ u, u < M → ¬ Way (sucE E) u u) : st.o.Nodup ∧ (∀ v, v ∈ st.o ↔ v < M) ∧ ∀ p ∈ E, st.o.idxOf p.1 < st.o.idxOf p.2 := by
  have nd := K.nd
  have lt := K.lt
  have cn := K.cn
  rw [h0, List.nil_append] at nd lt cn
  have hall : ∀ v, v < M → v ∈ st.o := fun v hv => Classical.byContradiction fun hn => by
    obtain ⟨u, hu, hw⟩ := ring_of (E := E) (U := fun v => v < M ∧ v ∉ st.o) (M := M) (fun v hv => ⟨hv.1, by
      obtain ⟨p, hp, e, h2⟩ := cntO_pos.mp (cn v hv.1 hv.2).2
      exact ⟨p.1, by rw [← e]; exact hp, (hE p hp).1, h2⟩⟩) ⟨hv, hn⟩
    exact hno u hu hw
  exact ⟨nd, fun v => ⟨lt v, hall v⟩, fun p hp => K.bfo p hp (hall _ (hE p hp).2)⟩
theorem KhO.start {E : List (Nat × Nat)} {M : Nat} (hE : ∀ p ∈ E, p.1 < M ∧ p.2 < M) {np : Nat → Int} (hn : ∀ v, v < M → np v = cntE E v) (lk : Int) : KhO E M ⟨np, [], (List.range M).filter fun v => decide (np v = 0), lk, []⟩ := by
  have c0 : ∀ v, cntO E [] v = (E.filter fun p => decide (p.2 = v)).length := fun v => by
    unfold cntO
    congr 1
    refine List.filter_congr fun p _ => ?_
    rw [decide_eq_true (show p.1 ∉ ([] : List Nat) from List.not_mem_nil), Bool.and_true]
  have mem : ∀ v, v ∈ ((KS.mk np [] ((List.range M).filter fun v => decide (np v = 0)) lk []).all ++ []) ↔ v < M ∧ np v = 0 := fun v => by
    rw [List.append_nil]
    show v ∈ [] ++ (List.range M).filter _ ↔ _
    rw [List.nil_append, List.mem_filter, List.mem_range, decide_eq_true_iff]
  refine ⟨?_, fun v hv => ((mem v).mp hv).1, fun p hp hv => ?_, (fun p _ h => nomatch h), fun v hM hv => ?_, nofun⟩
  · rw [List.append_nil]
    show ([] ++ (List.range M).filter _).Nodup
    rw [List.nil_append, List.nodup_iff_pairwise_ne]
    exact List.Pairwise.filter _ (List.Pairwise.imp (fun h => Nat.ne_of_lt h) List.pairwise_lt_range)
  · obtain ⟨h1, h2⟩ := (mem _).mp hv
    rw [hn _ h1] at h2
    have h2 : (E.filter fun q => decide (q.2 = p.2)).length = 0 := Int.ofNat.inj h2
    have := List.length_eq_zero_iff.mp h2
    rw [List.filter_eq_nil_iff] at this
    exact absurd (decide_eq_true rfl) (this p hp)
  · have hne : np v ≠ 0 := fun h => hv ((mem v).mpr ⟨hM, h⟩)
    have e : np v = Int.ofNat (cntO E [] v) := by rw [hn v hM, c0]; rfl
    refine ⟨e, Nat.pos_of_ne_zero fun h => hne ?_⟩
    rw [e, h]; rfl
noncomputable section
def strsOf (xs : Array Value) : List Str := xs.toList.filterMap ofStr
def rowR (cl : List Nat) (wh : Sup) : List Int := (sortedOf (ranks (strsOf (wh.xs 1)) cl)).map Int.ofNat
def zAt (r : Sup) (j : Nat) : Nat := ((vals (r.xs 0)).getD j 0).toNat
def tAt (r : Sup) (j : Nat) : Nat := match (r.xs 0)[j]? with
  | some v => tokOf v
  | none => 0
end
theorem strs_of : ∀ {vs : List Value} {l : List Str}, vs.map ofStr = l.map some → vs.filterMap ofStr = l
  | [], [], _ => rfl
  | [], _ :: _, h => by cases h
  | _ :: _, [], h => by cases h
  | v :: vs, z :: l, h => by
    have h1 : ofStr v = some z := (List.cons.inj h).1
    rw [List.filterMap_cons, h1, strs_of (List.cons.inj h).2]
theorem StrsOf.strs {xs : Array Value} {l : List Str} (h : StrsOf xs l) : strsOf xs = l := strs_of h
noncomputable section
def lwb_o (β : BB) (c : LwC) (nt : Nat) (nv : Value) (u : Nat) (q : Bool) (u1 u2 u3 u4 e0 : Nat) (w1 w2 w3 w4 : Value) (sl : Array (Option Value)) (tl tw aO : Nat) (v : WhV) (s : SqD) (qs : Array Value) (aN eN : Nat) (ns : Array Value) (D : ArrD) (ks : Array Value) (eS m : Nat) (p : PairsD) (aL : Nat) (ss : Array Value) (eL : Nat) (Pw : Sup → Prop) (P1 P2 : Array Value → Prop) (Rf : List Str) (cl : List Nat) (n t g : Nat) (X : Led) (Y : GL) (σ : Nat → Sup) : Out := Go (E1 β) (lwbI β c (WhC.mk nt nv u (NlF.mk q u1 u2 u3 u4 e0 w1 w2 w3 w4 sl) tl tw aO) v s qs aN eN ns D ks eS m p aL ss eL) (cond β.b2 (Hs.h 0x1d1d1e0301030f0123110103030303010502011c1c1101181313131c1c011002221212121a1a011a1a0d01230f0103030303010502011a1a0f01181111111a1a010e022210101018180118180b01230d01030303030105020118180d01180f0f0f1818010c02220e0e0e16160116160901230b01030303030105020116160b01180d0d0d1616010a02220c0c0c141401141407012309010e0e0c0c010502011212050118070707121201040222060606101001101001012303010303030301030103030301030103030101010101010e0e0c0b0d0d010107070701010116161612010301030103030101010101010101010802070a030a05010107050b02160d070d030303030303070108040203020302010a020103010301030303010301030303010b010b0b03010501050501010101060601010801010401070501010404010101010101010101010a02) (Hs.h 0x1d1d1e0301030f0123110103030303010502011c1c1101181313131c1c011002221212121a1a011a1a0d01230f0103030303010502011a1a0f01181111111a1a010e022210101018180118180b01230d01030303030105020118180d01180f0f0f1818010c02220e0e0e16160116160901230b01030303030105020116160b01180d0d0d1616010a02220c0c0c141401141407012309010e0e0c0c010502011212050118070707121201040222060606101001101001012303010303030301030103030301030103030101010101010e0e0c0b0d0d010107070701010116161612010301030103030101010101010101010802070a030a05010107050b02160d070d030303030303070108040203020302010a020501050105050103010301030303010301030303010b010b0b03010501050501010101060601010801010401070501010404010101010101010101010a02)) (.a (.i (whI β c (WhC.mk nt nv u (NlF.mk q u1 u2 u3 u4 e0 w1 w2 w3 w4 sl) tl tw aO) v false #[] 0 s qs true Pw)) (.k fun wh ww => .a (.iw (srtI (c.fr β) aO (wh.xs 1) (wh.k 7 4) P1)) (.k fun s1 v1 => .a (.i (zcI β (c.fr β) c.n0 (v1.n + 6) (v1.n + 4) (v1.n + 2) (v1.n + 3) v1.n (v1.n + 1) ww.n 0 c.a3 (v1.n + 5) 0 false 0 0 .none .none 0 .none .none #[.str (foT 0) ww.t, .str (foT 1) (ww.t + 1), .str (foT 2) (ww.t + 2), .str (foT 3) (ww.t + 3), .str (foT 4) (ww.t + 4), .str (foT 5) (ww.t + 5)] D [D.ent 6] #[] 0 Rf)) (.k fun z1 zw => .k fun au aw => .a (.iw (srtI (c.fr β) au.a (ns ++ z1.xs 0) 0 P2)) (.k fun s3 v3 => .a (.rm (fun m => ctxIfs (TT β) 252 c.n0 c.cells 14 (askT m)) (cmpF .NotEq (s1.k 0 1) (s3.k 0 1))) <| .a (.iw (neI (c.fr β) (s1.k 0 1) (s3.k 0 1) (s1.k 0 0) (s3.k 0 0) (s1.xs 0) (s3.xs 0))) (.k fun _ xw => .a (.iw (rowI β (c.fr β) (LmC.mk c.ct c.cst xw.n xw.t aO (wh.k 7 4) aN eN (wh.xs 1) ns) (rowR cl wh))) (.k fun r rw => .a (.b true) (.k fun a0 b0 => .k fun y0 x0 => .a (.v (.int (Int.ofNat (zAt r 0)) (tAt r 0))) <| .a (.i (fitI β (c.fr β) y0.a 0 (slicePick (r.xs 0) none (some 0) none) (Int.ofNat (zAt r 0)) (tAt r 0) c.a3 c.a4 eS m ks p D true)) <| .a (.b true) (.k fun a1 b1 => .k fun y1 x1 => .a (.v (.int (Int.ofNat (zAt r 1)) (tAt r 1))) <| .a (.i (fitI β (c.fr β) y1.a 0 (slicePick (r.xs 0) none (some 1) none) (Int.ofNat (zAt r 1)) (tAt r 1) c.a3 c.a4 eS m ks p D true)) <| .a (.b true) (.k fun a2 b2 => .k fun y2 x2 => .a (.v (.int (Int.ofNat (zAt r 2)) (tAt r 2))) <| .a (.i (fitI β (c.fr β) y2.a 0 (slicePick (r.xs 0) none (some 2) none) (Int.ofNat (zAt r 2)) (tAt r 2) c.a3 c.a4 eS m ks p D true)) <| .a (.b true) (.k fun a3 b3 => .k fun y3 x3 => .a (.v (.int (Int.ofNat (zAt r 3)) (tAt r 3))) <| .a (.i (fitI β (c.fr β) y3.a 0 (slicePick (r.xs 0) none (some 3) none) (Int.ofNat (zAt r 3)) (tAt r 3) c.a3 c.a4 eS m ks p D true)) <| .a (.b true) (.k fun a4 b4 => .k fun y4 x4 => .a (.v (.int (Int.ofNat (zAt r 4)) (tAt r 4))) <| .a (.i (fitI β (c.fr β) y4.a 0 (slicePick (r.xs 0) none (some 4) none) (Int.ofNat (zAt r 4)) (tAt r 4) c.a3 c.a4 eS m ks p D true)) <| .a (.b false) <| .a (.u { noS with v := [.int 258 0, .int 31 0, .ref (xw.n + 5)] }) .nil)))))))))))) n t g X Y σ
abbrev lwb_v (β : BB) (c : LwC) (nt : Nat) (nv : Value) (u : Nat) (q : Bool) (u1 u2 u3 u4 e0 : Nat) (w1 w2 w3 w4 : Value) (sl : Array (Option Value)) (tl tw aO : Nat) (v : WhV) (s : SqD) (qs : Array Value) (aN eN : Nat) (ns : Array Value) (D : ArrD) (ks : Array Value) (eS m : Nat) (p : PairsD) (aL : Nat) (ss : Array Value) (eL : Nat) (Pw : Sup → Prop) (P1 P2 : Array Value → Prop) (Rf : List Str) (cl : List Nat) (n t g : Nat) (X : Led) (Y : GL) (σ : Nat → Sup) : Prop :=
  Sat (E1 β) (whI β c (WhC.mk nt nv u (NlF.mk q u1 u2 u3 u4 e0 w1 w2 w3 w4 sl) tl tw aO) v false #[] 0 s qs true Pw) ∧ ((Pw (σ 0)) → SatW (E1 β) (srtI (LwC.fr β c) aO ((σ 0).xs 1) ((σ 0).k 7 4) P1) ∧ ((P1 ((σ 2).xs 0)) → Sat (E1 β) (zcI β (LwC.fr β c) (LwC.n0 c) ((σ 3).n + 6) ((σ 3).n + 4) ((σ 3).n + 2) ((σ 3).n + 3) ((σ 3).n) ((σ 3).n + 1) ((σ 1).n) 0 (LwC.a3 c) ((σ 3).n + 5) 0 false 0 0 Value.none Value.none 0 Value.none Value.none #[Value.str (foT 0) ((σ 1).t), Value.str (foT 1) ((σ 1).t + (1 : Tok)), Value.str (foT 2) ((σ 1).t + (2 : Tok)), Value.str (foT 3) ((σ 1).t + (3 : Tok)), Value.str (foT 4) ((σ 1).t + (4 : Tok)), Value.str (foT 5) ((σ 1).t + (5 : Tok))] D [ArrD.ent D 6] #[] 0 Rf) ∧ ((StrsOf ((σ 4).xs 0) Rf) → (Array.size ns + Array.size ((σ 4).xs 0) ≤ BIG) ∧ SatW (E1 β) (srtI (LwC.fr β c) ((σ 6).a) (ns ++ (σ 4).xs 0) 0 P2) ∧ ((P2 ((σ 8).xs 0)) → (RoomF (cmpF CmpOp.NotEq ((σ 2).k 0 1) ((σ 8).k 0 1))) ∧ SatW (E1 β) (neI (LwC.fr β c) ((σ 2).k 0 1) ((σ 8).k 0 1) ((σ 2).k 0 0) ((σ 8).k 0 0) ((σ 2).xs 0) ((σ 8).xs 0)) ∧ ((True) → SatW (E1 β) (rowI β (LwC.fr β c) (LmC.mk (LwC.ct c) (LwC.cst c) ((σ 11).n) ((σ 11).t) aO ((σ 0).k 7 4) aN eN ((σ 0).xs 1) ns) (rowR cl (σ 0))) ∧ ((IntsOf ((σ 12).xs 0) (rowR cl (σ 0))) → (yesNo true ¬Builtin.Range.rangeSize 0 5 1 ≤ 0) ∧ (none ≠ some (0 : Int)) ∧ (Array.size ((σ 12).xs 0) ≤ BIG) ∧ (IdxIs ((σ 12).xs 0) 0 (Aux.v (Value.int (Int.ofNat (zAt (σ 12) 0)) (tAt (σ 12) 0)))) ∧ Sat (E1 β) (fitI β (LwC.fr β c) ((σ 16).a) 0 (slicePick ((σ 12).xs 0) none (some (0 : Int)) none) (Int.ofNat (zAt (σ 12) 0)) (tAt (σ 12) 0) (LwC.a3 c) (LwC.a4 c) eS m ks p D true) ∧ ((True) → (yesNo true ¬Builtin.Range.rangeSize 0 5 1 - 1 ≤ 0) ∧ (none ≠ some (0 : Int)) ∧ (Array.size ((σ 12).xs 0) ≤ BIG) ∧ (IdxIs ((σ 12).xs 0) (0 + 1) (Aux.v (Value.int (Int.ofNat (zAt (σ 12) 1)) (tAt (σ 12) 1)))) ∧ Sat (E1 β) (fitI β (LwC.fr β c) ((σ 24).a) 0 (slicePick ((σ 12).xs 0) none (some (1 : Int)) none) (Int.ofNat (zAt (σ 12) 1)) (tAt (σ 12) 1) (LwC.a3 c) (LwC.a4 c) eS m ks p D true) ∧ ((True) → (yesNo true ¬Builtin.Range.rangeSize 0 5 1 - 1 - 1 ≤ 0) ∧ (none ≠ some (0 : Int)) ∧ (Array.size ((σ 12).xs 0) ≤ BIG) ∧ (IdxIs ((σ 12).xs 0) (0 + 1 + 1) (Aux.v (Value.int (Int.ofNat (zAt (σ 12) 2)) (tAt (σ 12) 2)))) ∧ Sat (E1 β) (fitI β (LwC.fr β c) ((σ 32).a) 0 (slicePick ((σ 12).xs 0) none (some (2 : Int)) none) (Int.ofNat (zAt (σ 12) 2)) (tAt (σ 12) 2) (LwC.a3 c) (LwC.a4 c) eS m ks p D true) ∧ ((True) → (yesNo true ¬Builtin.Range.rangeSize 0 5 1 - 1 - 1 - 1 ≤ 0) ∧ (none ≠ some (0 : Int)) ∧ (Array.size ((σ 12).xs 0) ≤ BIG) ∧ (IdxIs ((σ 12).xs 0) (0 + 1 + 1 + 1) (Aux.v (Value.int (Int.ofNat (zAt (σ 12) 3)) (tAt (σ 12) 3)))) ∧ Sat (E1 β) (fitI β (LwC.fr β c) ((σ 40).a) 0 (slicePick ((σ 12).xs 0) none (some (3 : Int)) none) (Int.ofNat (zAt (σ 12) 3)) (tAt (σ 12) 3) (LwC.a3 c) (LwC.a4 c) eS m ks p D true) ∧ ((True) → (yesNo true ¬Builtin.Range.rangeSize 0 5 1 - 1 - 1 - 1 - 1 ≤ 0) ∧ (none ≠ some (0 : Int)) ∧ (Array.size ((σ 12).xs 0) ≤ BIG) ∧ (IdxIs ((σ 12).xs 0) (0 + 1 + 1 + 1 + 1) (Aux.v (Value.int (Int.ofNat (zAt (σ 12) 4)) (tAt (σ 12) 4)))) ∧ Sat (E1 β) (fitI β (LwC.fr β c) ((σ 48).a) 0 (slicePick ((σ 12).xs 0) none (some (4 : Int)) none) (Int.ofNat (zAt (σ 12) 4)) (tAt (σ 12) 4) (LwC.a3 c) (LwC.a4 c) eS m ks p D true) ∧ ((True) → (yesNo false ¬Builtin.Range.rangeSize 0 5 1 - 1 - 1 - 1 - 1 - 1 ≤ 0) ∧ (True))))))))))))
theorem lwb_run (β : BB) (c : LwC) (nt : Nat) (nv : Value) (u : Nat) (q : Bool) (u1 u2 u3 u4 e0 : Nat) (w1 w2 w3 w4 : Value) (sl : Array (Option Value)) (tl tw aO : Nat) (v : WhV) (s : SqD) (qs : Array Value) (aN eN : Nat) (ns : Array Value) (D : ArrD) (ks : Array Value) (eS m : Nat) (p : PairsD) (aL : Nat) (ss : Array Value) (eL : Nat) (Pw : Sup → Prop) (P1 P2 : Array Value → Prop) (Rf : List Str) (cl : List Nat) (n t g : Nat) (X : Led) (Y : GL) (σ : Nat → Sup) : See (lwb_o β c nt nv u q u1 u2 u3 u4 e0 w1 w2 w3 w4 sl tl tw aO v s qs aN eN ns D ks eS m p aL ss eL Pw P1 P2 Rf cl n t g X Y σ) (lwb_v β c nt nv u q u1 u2 u3 u4 e0 w1 w2 w3 w4 sl tl tw aO v s qs aN eN ns D ks eS m p aL ss eL Pw P1 P2 Rf cl n t g X Y σ) := by obtain ⟨b1, b2, b3, w0⟩ := β; cases q <;> cases b2 <;> cases b3 <;> kernel_rfl
end
theorem rising_pw : ∀ (p : Str) (l : List Str), risingS p l = true → (p :: l).Pairwise fun a b => a.cps.toList ≤ b.cps.toList
  | p, [], _ => List.pairwise_singleton ..
  | p, x :: r, h => by
    obtain ⟨h1, h2⟩ := Bool.and_eq_true_iff.mp (show (!ltCps x.cps.toList p.cps.toList && risingS x r) = true from h)
    have ih := rising_pw x r h2
    have h3 : p.cps.toList ≤ x.cps.toList := by
      rw [ltCps_eq, Bool.not_eq_true', decide_eq_false_iff_not] at h1
      exact List.not_lt.mp h1
    refine List.pairwise_cons.mpr ⟨fun y hy => ?_, ih⟩
    rcases List.mem_cons.mp hy with rfl | hy
    · exact h3
    · exact List.le_trans h3 ((List.pairwise_cons.mp ih).1 y hy)
theorem sorted_eq {l m : List Str} (hl : sortedS l = true) (hm : sortedS m = true) (hp : l.Perm m) : l = m := by
  have pw : ∀ {l : List Str}, sortedS l = true → l.Pairwise fun a b => a.cps.toList ≤ b.cps.toList := fun {l} h => by
    cases l with
    | nil => exact .nil
    | cons x r => exact rising_pw x r h
  refine List.Perm.eq_of_pairwise (fun a b _ _ h1 h2 => ?_) (pw hl) (pw hm) hp
  obtain ⟨⟨a⟩⟩ := a
  obtain ⟨⟨b⟩⟩ := b
  have : a = b := List.le_antisymm h1 h2
  rw [this]
theorem idx_map {α γ : Type} [DecidableEq α] [DecidableEq γ] {f : α → γ} : ∀ {l : List α} {a : α}, (∀ x ∈ l, f x = f a → x = a) → (l.map f).idxOf (f a) = l.idxOf a
  | [], _, _ => rfl
  | x :: l, a, h => by
    rw [List.map_cons, List.idxOf_cons, List.idxOf_cons, idx_map fun y hy => h y (.tail _ hy)]
    by_cases e : x = a
    · subst e; rw [beq_self_eq_true, beq_self_eq_true]
    · rw [beq_false_of_ne e, beq_false_of_ne fun z => e (h x List.mem_cons_self z)]
theorem nodup_map {α γ : Type} {f : α → γ} : ∀ {l : List α}, (∀ x ∈ l, ∀ y ∈ l, f x = f y → x = y) → l.Nodup → (l.map f).Nodup
  | [], _, _ => List.nodup_nil
  | a :: l, h, hn => by
    obtain ⟨h1, h2⟩ := List.nodup_cons.mp hn
    refine List.nodup_cons.mpr ⟨fun hm => ?_, nodup_map (fun x hx y hy => h x (.tail _ hx) y (.tail _ hy)) h2⟩
    obtain ⟨y, hy, e⟩ := List.mem_map.mp hm
    exact h1 (h a List.mem_cons_self y (.tail _ hy) e.symm ▸ hy)
section
variable {cl : List Nat} (h5 : cl.length = 5) (h7 : ∀ c ∈ cl, c < 7)
include h5 h7
theorem fN_inj {i j : Nat} (hi : i < 5) (hj : j < 5) (h : fN cl i = fN cl j) : i = j := Classical.byContradiction fun hij => by
  obtain ⟨_, _, _, _, _, _, _, hne⟩ := two_of h5 h7 hi hj hij
  exact hne h
theorem all_places {ol : List Str} (hn : ol.Nodup) (hol : ∀ y, y ∈ ol ↔ ∃ k, k < 5 ∧ y ∈ up cl k) : ol.Perm ((List.range 5).map (fN cl) ++ selF (glsOf cl) 0) := by
  have fo : ∀ {j j' : Nat}, j < 6 → j' < 6 → foT j = foT j' → j = j' := by
    have : ((List.range 6).all fun j => (List.range 6).all fun j' => decide (foT j = foT j' → j = j')) = true := by decide +kernel
    exact fun {j j'} a b e => of_decide_eq_true (List.all_eq_true.mp (List.all_eq_true.mp this j (List.mem_range.mpr a)) j' (List.mem_range.mpr b)) e
  have ms : ∀ {y : Str}, y ∈ selF (glsOf cl) 0 ↔ ∃ j, j < 6 ∧ y = foT j ∧ ∃ k, k < 5 ∧ foT j ∈ up cl k := fun {y} => by
    unfold selF
    rw [List.drop_zero, List.mem_map]
    constructor
    · rintro ⟨j, hj, rfl⟩
      obtain ⟨hj, he⟩ := List.mem_filter.mp hj
      have hj := List.mem_range.mp hj
      refine ⟨j, hj, rfl, ?_⟩
      cases hg : glsOf cl j with
      | nil => rw [hg] at he; cases he
      | cons z l =>
        have hz : z ∈ glsOf cl j := by rw [hg]; exact List.mem_cons_self
        obtain ⟨k, hk, rfl⟩ := gls_of h5 h7 hz
        exact ⟨k, hk, (mem_gls h5 h7 hk hj).mp hz⟩
    · rintro ⟨j, hj, rfl, k, hk, hm⟩
      refine ⟨j, List.mem_filter.mpr ⟨List.mem_range.mpr hj, ?_⟩, rfl⟩
      have := (mem_gls h5 h7 hk hj).mpr hm
      cases hg : glsOf cl j with
      | nil => rw [hg] at this; cases this
      | cons => rfl
  refine (List.perm_ext_iff_of_nodup hn (List.nodup_append.mpr ⟨?_, ?_, ?_⟩)).mpr fun y => ?_
  · exact nodup_map (fun i hi j hj e => fN_inj h5 h7 (List.mem_range.mp hi) (List.mem_range.mp hj) e) List.nodup_range
  · refine nodup_map (l := ((List.range 6).drop 0).filter fun j => !(glsOf cl j).isEmpty) (fun i hi j hj e => fo ?_ ?_ e) ((List.nodup_range (n := 6)).sublist (List.filter_sublist.trans (List.drop_sublist 0 _)))
    · exact List.mem_range.mp (List.mem_filter.mp hi).1
    · exact List.mem_range.mp (List.mem_filter.mp hj).1
  · intro a ha b hb e
    subst e
    obtain ⟨k, hk, rfl⟩ := List.mem_map.mp ha
    obtain ⟨j, hj, e, _⟩ := ms.mp hb
    exact ((one_of h5 h7 (List.mem_range.mp hk)).2.2.2.2.2 j hj).2 e.symm
  · rw [hol, List.mem_append, ms, List.mem_map]
    constructor
    · rintro ⟨k, hk, hy⟩
      rcases (one_of h5 h7 hk).2.2.2.2.1 y hy with rfl | ⟨j, hj, rfl⟩
      · exact .inl ⟨k, List.mem_range.mpr hk, rfl⟩
      · exact .inr ⟨j, hj, rfl, k, hk, hy⟩
    · rintro (⟨k, hk, rfl⟩ | ⟨j, hj, rfl, k, hk, hy⟩)
      · exact ⟨k, List.mem_range.mp hk, fN_up h5 h7 (List.mem_range.mp hk)⟩
      · exact ⟨k, hk, hy⟩
end
theorem IntsOf.upto {xs : Array Value} {l : List Int} (h : IntsOf xs l) (j : Nat) : IntsOf (slicePick xs none (some (Int.ofNat j)) none) (l.take j) := by
  have : slicePick xs none (some (Int.ofNat j)) none = (xs.toList.take j).toArray := slicePick_upto' xs j
  rw [this]
  show (xs.toList.take j).map ofInt = (l.take j).map some
  rw [List.map_take, List.map_take, show xs.toList.map ofInt = l.map some from h]
theorem row_at {r : Sup} {l : List Nat} (h : IntsOf (r.xs 0) (l.map Int.ofNat)) (hl : l.length ≤ 60) {j : Nat} (hj : j < l.length) : zAt r j = l[j] ∧ ∀ i : Int, i = Int.ofNat j → IdxIs (r.xs 0) i (.v (.int (Int.ofNat (zAt r j)) (tAt r j))) := by
  have e : zAt r j = l[j] := by
    unfold zAt
    rw [h.vals, List.getD_eq_getElem?_getD, List.getElem?_map, List.getElem?_eq_getElem hj]; rfl
  refine ⟨e, fun i hi => ?_⟩
  subst hi
  obtain ⟨t, ht⟩ := h.at (i := j) (z := Int.ofNat l[j]) (by rw [List.getElem?_map, List.getElem?_eq_getElem hj]; rfl)
  have et : tAt r j = t := by unfold tAt; rw [ht]; rfl
  rw [e, et]
  have hs : (r.xs 0).size = l.length := by rw [h.len, List.length_map]
  refine ⟨⟨0, ?_⟩, ?_, ?_⟩
  · unfold atK; rw [if_pos (show (0 : Int) ≤ Int.ofNat j from Int.natCast_nonneg j)]; exact ht
  · rw [hs]; constructor
    · exact Int.le_trans (by omega : -(l.length : Int) ≤ 0) (Int.natCast_nonneg j)
    · show (j : Int) < 1000000; omega
  · rw [hs]; exact Nat.le_trans hl (by decide)
structure LwbOk (β : BB) (cl : List Nat) (E : List (Nat × Nat)) (q0 : List Nat) (v : WhV) (s : SqD) (qs ns : Array Value) (D : ArrD) (ks : Array Value) (m : Nat) (p : PairsD) : Prop where
  h5 : cl.length = 5
  h7 : ∀ c ∈ cl, c < 7
  U : UseIs β s (sucE E)
  hE : ∀ p ∈ E, p.1 < s.inf.M ∧ p.2 < s.inf.M
  hM : s.inf.M ≤ 20
  hl : E.length ≤ 900
  K : KhO E s.inf.M ⟨s.inf.np, [], q0, v.lk, []⟩
  no : ∀ u, u < s.inf.M → ¬ Way (sucE E) u u
  ws : StrsOf v.ws []
  qs : StrsOf qs (q0.map s.inf.N)
  po : s.po = s.nf + Int.ofNat 0
  inj : ∀ a, a < s.inf.M → ∀ b, b < s.inf.M → s.inf.N a = s.inf.N b → a = b
  ns : StrsOf ns ((List.range 5).map (fN cl))
  gs : ∀ j, j < 6 → IntsOf (D.xs j) (glsOf cl j)
  pl : ∀ y, (∃ v, v < s.inf.M ∧ s.inf.N v = y) ↔ ∃ k, k < 5 ∧ y ∈ up cl k
  ks : ks = refsN p.ad m
  nd : NdOk (p.list m)
  ed : ∀ x y : Nat, (Int.ofNat x, Int.ofNat y) ∈ p.list m → ∃ e ∈ E, s.inf.N e.1 = topOf wayT (fN cl y) (fN cl x) ∧ s.inf.N e.2 = topOf wayT (fN cl x) (fN cl y)
theorem gls_len (cl : List Nat) (j : Nat) : (glsOf cl j).length ≤ 60 := by
  unfold glsOf grL grP
  rw [List.length_map]
  exact Nat.le_trans (List.length_filter_le ..) (by rw [List.length_range]; decide)
theorem lwb_sat {β : BB} {c : LwC} {nt : Nat} {nv : Value} {u : Nat} {q : Bool} {u1 u2 u3 u4 e0 : Nat} {w1 w2 w3 w4 : Value} {sl : Array (Option Value)} {tl tw aO : Nat} {v : WhV} {s : SqD} {qs : Array Value} {aN eN : Nat} {ns : Array Value} {D : ArrD} {ks : Array Value} {eS m : Nat} {p : PairsD} {aL : Nat} {ss : Array Value} {eL : Nat} {cl : List Nat} {E : List (Nat × Nat)} {q0 : List Nat} (O : LwbOk β cl E q0 v s qs ns D ks m p) :
    Sat (E1 β) (lwbI β c (WhC.mk nt nv u (NlF.mk q u1 u2 u3 u4 e0 w1 w2 w3 w4 sl) tl tw aO) v s qs aN eN ns D ks eS m p aL ss eL) := by
  obtain ⟨h5, h7, U, hE, hM, hl, K, hno, hws, hqs, hpo, inj, hns, hgs, hpl, hks, hnd, hed⟩ := O
  obtain ⟨st', T, K', hall⟩ := K.run hE hM hl s.inf.M _ (by omega)
  obtain ⟨nd, hmem, hbf⟩ := K'.all hE hall hno
  have hst : (KS.all ⟨s.inf.np, [], q0, v.lk, []⟩) ≠ [] := fun h0 => by
    have z := (K.all hE h0 hno).2.1 0
    obtain ⟨v0, hv0, _⟩ := (hpl (fN cl 0)).mpr ⟨0, by decide, fN_up h5 h7 (by decide)⟩
    have z := (z.mpr (by omega))
    cases z
  obtain ⟨ol, eol⟩ : ∃ ol, st'.o.map s.inf.N = ol := ⟨_, rfl⟩
  have olm : ∀ y, y ∈ ol ↔ ∃ k, k < 5 ∧ y ∈ up cl k := fun y => by
    rw [← eol, List.mem_map, ← hpl]
    exact ⟨fun ⟨v, hv, e⟩ => ⟨v, (hmem v).mp hv, e⟩, fun ⟨v, hv, e⟩ => ⟨v, (hmem v).mpr hv, e⟩⟩
  have oln : ol.Nodup := by
    rw [← eol]
    exact nodup_map (fun x hx y hy e => inj x ((hmem x).mp hx) y ((hmem y).mp hy) e) nd
  have oll : ol.length ≤ 20 := by
    rw [← eol, List.length_map]
    have := nodup_le (m := List.range s.inf.M) nd fun v hv => List.mem_range.mpr ((hmem v).mp hv)
    rw [List.length_range] at this; omega
  have oidx : ∀ a, a < s.inf.M → ol.idxOf (s.inf.N a) = st'.o.idxOf a := fun a ha => by
    rw [← eol]; exact idx_map fun x hx e => inj x ((hmem x).mp hx) a ha e
  have hol : ∀ k, k < 5 → ∀ y ∈ up cl k, y ∈ ol := fun k hk y hy => (olm y).mpr ⟨k, hk, hy⟩
  have perm := all_places h5 h7 oln olm
  have htop : ∀ x y : Nat, (Int.ofNat x, Int.ofNat y) ∈ p.list m → ol.idxOf (topOf wayT (fN cl y) (fN cl x)) < ol.idxOf (topOf wayT (fN cl x) (fN cl y)) := fun x y h => by
    obtain ⟨e, he, e1, e2⟩ := hed x y h
    rw [← e1, ← e2, oidx _ (hE e he).1, oidx _ (hE e he).2]
    exact hbf e he
  obtain ⟨r5, rn, r6⟩ := ranks_ok h5 h7 hol
  obtain ⟨rows, erows⟩ : ∃ rows, sortedOf (ranks ol cl) = rows := ⟨_, rfl⟩
  have rl : rows.length = 5 := by
    obtain ⟨hin, hpw⟩ := row_ok h5 h7 hol
    rw [erows] at hin hpw
    have rnd : rows.Nodup := by
      rw [List.nodup_iff_pairwise_ne]
      exact hpw.imp fun h e => by subst e; exact Nat.lt_irrefl _ h
    have := (List.perm_ext_iff_of_nodup rnd (List.nodup_range (n := 5))).mpr fun k => by rw [hin, List.mem_range]
    rw [this.length_eq, List.length_range]
  have hkey : ∀ k, k < 5 → keyL ol wayT (((List.range 5).map (fN cl)).getD k ⟨#[]⟩) = (kN ol cl k).map Int.ofNat := fun k hk => by
    rw [List.getD_eq_getElem?_getD, List.getElem?_map, List.getElem?_range hk]
    show ((fN cl k :: wayT (fN cl k)).map fun y => Int.ofNat (ol.idxOf y)).reverse = _
    rw [← List.map_reverse, up_eq h5 h7 hk]
    unfold kN
    rw [List.map_map]; rfl
  have gl := fun j (hj : j < 6) => (⟨hgs j hj, gls_len cl j⟩ : IntsOf (D.xs j) (glsOf cl j) ∧ (glsOf cl j).length ≤ 60)
  refine sat_of (fun n t g X Y σ => lwb_run β c nt nv u q u1 u2 u3 u4 e0 w1 w2 w3 w4 sl tl tw aO v s qs aN eN ns D ks eS m p aL ss eL (fun r => StrsOf (r.xs 1) ol) (fun o => ∃ l, StrsOf o l ∧ l.Perm ol ∧ sortedS l = true) (fun o => ∃ l, StrsOf o l ∧ l.Perm ((List.range 5).map (fN cl) ++ selF (glsOf cl) 0) ∧ sortedS l = true) (selF (glsOf cl) 0) cl n t g X Y σ) fun n t g X Y σ => ?_
  have kf : ∀ i j, i < 5 → j < 5 → i ≠ j → ∃ C x X y Y, keyL ol wayT (((List.range 5).map (fN cl)).getD i ⟨#[]⟩) = C ++ x :: X ∧ keyL ol wayT (((List.range 5).map (fN cl)).getD j ⟨#[]⟩) = C ++ y :: Y ∧ x ≠ y ∧ decide (x < y) = ltOf (ranks ol cl) i j := fun i j hi hj hij => by
    obtain ⟨C, X, Y, k1, k2, k3⟩ := key_two h5 h7 hol hi hj hij
    refine ⟨C.map Int.ofNat, Int.ofNat (ol.idxOf (topOf wayT (fN cl i) (fN cl j))), X.map Int.ofNat, Int.ofNat (ol.idxOf (topOf wayT (fN cl j) (fN cl i))), Y.map Int.ofNat, ?_, ?_, fun e => k3 (Int.ofNat.inj e), ?_⟩
    · rw [hkey i hi, k1, List.map_append, List.map_cons]
    · rw [hkey j hj, k2, List.map_append, List.map_cons]
    · unfold ltOf
      rw [ranks_at ol cl hi, ranks_at ol cl hj, Bool.eq_iff_iff, decide_eq_true_iff, Nat.blt_eq, rank_iff h5 h7 hol hi hj hij, klt_iff h5 h7 hol hi hj hij]
      exact Int.ofNat_lt
  have hw : ∀ x ∈ (List.range 5).map (fN cl), wayOk x (wayT x) = true ∧ (wayT x).length ≤ 10 ∧ ∀ y ∈ x :: wayT x, y ∈ ol := fun x hx => by
    obtain ⟨k, hk, rfl⟩ := List.mem_map.mp hx
    have hk := List.mem_range.mp hk
    obtain ⟨w1, w2, _⟩ := one_of h5 h7 hk
    refine ⟨by rw [w1]; exact w2, ?_, fun y hy => hol k hk y ((mem_up h5 h7 hk).mp hy)⟩
    rw [w1]
    have : ((List.range 7).all fun c => decide ((chT c).length ≤ 10)) = true := by decide
    exact of_decide_eq_true (List.all_eq_true.mp this _ (List.mem_range.mpr (cd_lt h5 h7 hk)))
  have turn : ∀ (r : Sup), IntsOf (r.xs 0) (rows.map Int.ofNat) → ∀ (j : Nat) (i : Int) (fr : List Env) (a : Nat), j < 5 → i = Int.ofNat j →
      (none : Option Int) ≠ some 0 ∧ (r.xs 0).size ≤ BIG ∧ IdxIs (r.xs 0) i (.v (.int (Int.ofNat (zAt r j)) (tAt r j))) ∧ Sat (E1 β) (fitI β fr a 0 (slicePick (r.xs 0) none (some (Int.ofNat j)) none) (Int.ofNat (zAt r j)) (tAt r j) c.a3 c.a4 eS m ks p D true) := fun r hr j i fr a hj hi => by
    obtain ⟨z1, z2⟩ := row_at hr (by omega) (rl.symm ▸ hj)
    refine ⟨nofun, by rw [hr.len, List.length_map, rl]; decide, z2 i hi, (fit_sat fr hks (hr.upto j) gl ⟨fun _ => ?_, fun _ => rfl⟩).st⟩
    rw [z1, ← List.map_take]
    refine row_fits h5 h7 hol hnd htop (b := rows.drop (j + 1)) ?_
    rw [erows, ← List.drop_eq_getElem_cons, List.take_append_drop]
  refine ⟨by rw [← eol]; exact wh_sat T v false #[] 0 s qs U rfl rfl (.inr hst) hws hqs StrsOf.nil rfl rfl hpo, fun hP => ⟨(srts_sat _ hP (by omega)).st, fun ⟨l1, a1, a2, a3⟩ => ⟨zc_sat _ (by exact rfl) hgs 6 0 false 0 0 .none .none 0 .none .none #[] [] 0 rfl nofun rfl (Nat.le_refl 0), fun hf => ?_⟩⟩⟩
  have lf := perm.length_eq
  rw [List.length_append, List.length_map, List.length_range] at lf
  refine ⟨by rw [hns.len, hf.len, List.length_map, List.length_range]; exact Nat.le_trans (by omega : _ ≤ 20) (by decide), (srts_sat _ (hns.app hf) (by rw [List.length_append, List.length_map, List.length_range]; omega)).st, fun ⟨l2, b1, b2, b3⟩ => ⟨cmpF_ne _ _, ?_, fun _ => ?_⟩⟩
  · obtain rfl := sorted_eq a3 b3 (a2.trans (perm.trans b2.symm))
    exact ne_sat _ a1 b1
  have er : rowR cl (σ 0) = rows.map Int.ofNat := by
    unfold rowR
    rw [StrsOf.strs hP, erows]
  refine ⟨?_, fun hr => ?_⟩
  · unfold rowR
    rw [StrsOf.strs hP]
    exact row_sat _ hP (by omega) hns (by rw [List.length_map, List.length_range]) hw r5 rn r6 kf
  rw [er] at hr
  have T := turn _ hr
  obtain ⟨p01, p02, p03, p04⟩ := T 0 0 (c.fr β) ((σ 16).a) (by decide) rfl
  obtain ⟨p11, p12, p13, p14⟩ := T 1 (0 + 1) (c.fr β) ((σ 24).a) (by decide) rfl
  obtain ⟨p21, p22, p23, p24⟩ := T 2 (0 + 1 + 1) (c.fr β) ((σ 32).a) (by decide) rfl
  obtain ⟨p31, p32, p33, p34⟩ := T 3 (0 + 1 + 1 + 1) (c.fr β) ((σ 40).a) (by decide) rfl
  obtain ⟨p41, p42, p43, p44⟩ := T 4 (0 + 1 + 1 + 1 + 1) (c.fr β) ((σ 48).a) (by decide) rfl
  exact ⟨left_pos 4, p01, p02, p03, p04, fun _ => ⟨left_pos 3, p11, p12, p13, p14, fun _ => ⟨left_pos 2, p21, p22, p23, p24, fun _ => ⟨left_pos 1, p31, p32, p33, p34, fun _ => ⟨left_pos 0, p41, p42, p43, p44, fun _ => ⟨left_end, trivial⟩⟩⟩⟩⟩⟩
noncomputable section
def lkS (w : Sup) : SoD := ⟨w.n + 1, w.n, w.n, 4, w.t + 4, w.t + 6, w.t + 9, w.t + 12, .none, .int 0 (w.t + 7), .int 0 (w.t + 10)⟩
def lkC (n el eM : Nat) (dl es : Array DictEntry) (D : ArrD) : FC := ⟨0, 0, 0, 0, 0, 0, 0, 0, 0, 0, 0, 0, 0, 0, n, n + 2, n + 1, 0, el, eM, #[], dl, es, fun _ => 0, fun _ => 0, fun _ => .none, fun _ => .none, D, fun _ => ⟨#[]⟩, 0⟩
def codesOf (u : Sup) : List Nat := (vals (u.xs 0)).map Int.toNat
def plT (cl : List Nat) : List Str := (nms cl).reverse.foldl (addW wayT) []
def edL (nd : Sup) (cl : List Nat) : List (Nat × Nat) := (List.range (nd.k 0 2)).map fun j => edOf wayT (nms cl) (plT cl) ((PairsD.of nd).x j).toNat ((PairsD.of nd).y j).toNat
def rcOf (u : Sup) : List Int := (vals (slicePick (u.xs 0) none (some 5) none)).map fun z => Int.fmod z 7
def grP6 (cl : List Nat) (G : ArrD) : Prop := ∀ j, j < 6 → IntsOf (G.xs j) (glsOf cl j)
def noPr (β : BB) (cl : List Nat) (v : Sup) : Prop := GOk β v [] ∧ v.tx 0 = plT cl
def nlPr (β : BB) (nd : Sup) (cl : List Nat) (v : Sup) : Prop := GOk β v (edL nd cl) ∧ v.tx 0 = plT cl
def rdyS (b : Sup) : List Str := ready (infS b).N (infS b).np (List.range (infS b).M)
def grU (u : Sup) : ArrD := ⟨u.k 0, u.xs, u.k 1⟩
end
theorem addL_mem {l : List Str} {x y : Str} : y ∈ addL l x ↔ y ∈ l ∨ y = x := by
  unfold addL
  split
  · rename_i h
    exact ⟨.inl, fun h' => h'.elim id fun e => e ▸ h⟩
  · rw [List.mem_append, List.mem_singleton]
theorem addL_nd {l : List Str} (h : l.Nodup) (x : Str) : (addL l x).Nodup := by
  unfold addL
  split
  · exact h
  · rename_i hx
    exact List.nodup_append.mpr ⟨h, List.nodup_cons.mpr ⟨List.not_mem_nil, List.nodup_nil⟩, fun a ha b hb e => hx (by rw [List.mem_singleton.mp hb] at e; exact e ▸ ha)⟩
theorem addLs_mem {y : Str} : ∀ {w l : List Str}, y ∈ w.foldl addL l ↔ y ∈ l ∨ y ∈ w
  | [], _ => ⟨.inl, fun h => h.elim id nofun⟩
  | x :: w, l => by
    rw [List.foldl_cons, addLs_mem, addL_mem, List.mem_cons, or_assoc]
theorem addLs_nd : ∀ {w l : List Str}, l.Nodup → (w.foldl addL l).Nodup
  | [], _, h => h
  | x :: w, _, h => addLs_nd (w := w) (addL_nd h x)
theorem addWs_mem {W : Str → List Str} {y : Str} : ∀ {w l : List Str}, y ∈ w.foldl (addW W) l ↔ y ∈ l ∨ ∃ x ∈ w, y ∈ x :: W x
  | [], _ => ⟨.inl, fun h => h.elim id fun ⟨_, h, _⟩ => nomatch h⟩
  | x :: w, l => by
    rw [List.foldl_cons, addWs_mem]
    unfold addW
    rw [addLs_mem, or_assoc]
    refine or_congr_right ⟨fun h => h.elim (fun h => ⟨x, List.mem_cons_self, h⟩) fun ⟨z, hz, h⟩ => ⟨z, .tail _ hz, h⟩, fun ⟨z, hz, h⟩ => ?_⟩
    rcases List.mem_cons.mp hz with rfl | hz
    · exact .inl h
    · exact .inr ⟨z, hz, h⟩
theorem addWs_nd {W : Str → List Str} : ∀ {w l : List Str}, l.Nodup → (w.foldl (addW W) l).Nodup
  | [], _, h => h
  | _ :: w, _, h => addWs_nd (w := w) (addLs_nd h)
section
variable {cl : List Nat} (h5 : cl.length = 5) (h7 : ∀ c ∈ cl, c < 7)
theorem nms_eq (cl : List Nat) : nms cl = (List.range 5).map (fN cl) := rfl
include h5 h7
theorem plT_mem {y : Str} : y ∈ plT cl ↔ ∃ k, k < 5 ∧ y ∈ up cl k := by
  unfold plT
  rw [addWs_mem]
  constructor
  · rintro (h | ⟨x, hx, hy⟩)
    · cases h
    · obtain ⟨k, hk, rfl⟩ := List.mem_map.mp (List.mem_reverse.mp hx)
      have hk := List.mem_range.mp hk
      exact ⟨k, hk, (mem_up h5 h7 hk).mp hy⟩
  · rintro ⟨k, hk, hy⟩
    exact .inr ⟨fN cl k, List.mem_reverse.mpr (List.mem_map.mpr ⟨k, List.mem_range.mpr hk, rfl⟩), (mem_up h5 h7 hk).mpr hy⟩
theorem plT_nd : (plT cl).Nodup := addWs_nd List.nodup_nil
theorem plT_len : (plT cl).length ≤ 11 := by
  refine nodup_le (m := (List.range 5).map (fN cl) ++ (List.range 6).map foT) (plT_nd h5 h7) fun y hy => ?_
  obtain ⟨k, hk, hy⟩ := (plT_mem h5 h7).mp hy
  rcases (one_of h5 h7 hk).2.2.2.2.1 y hy with rfl | ⟨j, hj, rfl⟩
  · exact List.mem_append_left _ (List.mem_map.mpr ⟨k, List.mem_range.mpr hk, rfl⟩)
  · exact List.mem_append_right _ (List.mem_map.mpr ⟨j, List.mem_range.mpr hj, rfl⟩)
theorem nms_w : ∀ x ∈ nms cl, wayOk x (wayT x) = true ∧ (wayT x).length ≤ 10 ∧ ∀ y ∈ x :: wayT x, y.length < 100 ∧ y ∈ plT cl := fun x hx => by
  obtain ⟨k, hk, rfl⟩ := List.mem_map.mp hx
  have hk := List.mem_range.mp hk
  obtain ⟨w1, w2, w3, _⟩ := one_of h5 h7 hk
  have e : nm (cl.getD k 0) k = fN cl k := rfl
  rw [e]
  refine ⟨by rw [w1]; exact w2, ?_, fun y hy => ?_⟩
  · rw [w1]
    have : ((List.range 7).all fun c => decide ((chT c).length ≤ 10)) = true := by decide
    exact of_decide_eq_true (List.all_eq_true.mp this _ (List.mem_range.mpr (cd_lt h5 h7 hk)))
  · have hy := (mem_up h5 h7 hk).mp hy
    exact ⟨w3 y hy, (plT_mem h5 h7).mpr ⟨k, hk, hy⟩⟩
theorem nms_nd : (nms cl).Nodup := nodup_map (fun i hi j hj e => fN_inj h5 h7 (List.mem_range.mp hi) (List.mem_range.mp hj) e) List.nodup_range
theorem nms_s : ∀ x ∈ nms cl, ∀ y ∈ nms cl, x ≠ y → x ∉ y :: wayT y := fun x hx y hy hne h => by
  obtain ⟨i, hi, rfl⟩ := List.mem_map.mp hx
  obtain ⟨j, hj, rfl⟩ := List.mem_map.mp hy
  have hi := List.mem_range.mp hi
  have hj := List.mem_range.mp hj
  rcases (one_of h5 h7 hj).2.2.2.2.1 _ ((mem_up h5 h7 hj).mp h) with e | ⟨j', hj', e⟩
  · exact hne e
  · exact ((one_of h5 h7 hi).2.2.2.2.2 j' hj').2 e.symm
theorem nms_at {k : Nat} (hk : k < 5) : (nms cl).getD k ⟨#[]⟩ = fN cl k := by
  rw [nms_eq, List.getD_eq_getElem?_getD, List.getElem?_map, List.getElem?_range hk]; rfl
theorem top_in {x y : Nat} (hx : x < 5) (hy : y < 5) (hxy : x ≠ y) : topOf wayT (fN cl x) (fN cl y) ∈ plT cl := by
  obtain ⟨D, F, G, e1, _⟩ := two_of h5 h7 hx hy hxy
  exact (plT_mem h5 h7).mpr ⟨x, hx, by rw [e1]; exact List.mem_append_right _ List.mem_cons_self⟩
end
section
variable {β : BB} {S : Sup} {E : List (Nat × Nat)} (h : GOk β S E)
include h
theorem GOk.cl {v y : Nat} (hy : y ∈ sucE E v) : y < (S.tx 0).length := (h.ed _ (sucE_mem.mp hy)).2
theorem GOk.gr (hp : 0 < (S.tx 0).length) {c : FC} (hes : c.es = S.ds 0) (hD : c.D.xs = S.xs) : GrIs β (c.inf (infS S)) (sucE E) where
  hs v hv := by
    show StrsOf (c.D.xs v) _
    rw [hD]; exact h.xs v hv
  cl _ _ _ hy := h.cl hy
  ek := by
    show KeysOf _ c.es
    rw [hes]; exact h.keys _ _ rfl
  inj := nmOf_inj h.nd h.sm
  mb := h.mb
  mp := hp
  ef v hv := by
    show findBy _ c.es _ = _
    rw [hes]; exact h.at hv
theorem GOk.od {c : FC} (hes : c.es = S.ds 0) : OdIs (c.inf (infS S)) (List.range (S.tx 0).length) where
  dom := by
    show c.es.toList.map _ = _
    rw [hes, h.es, List.map_map]; rfl
  lt v hv := List.mem_range.mp hv
  all v hv := List.mem_range.mpr hv
theorem GOk.va : ValsIs (S.ds 0) (infS S).ia (List.range (S.tx 0).length) := by
  unfold ValsIs
  rw [h.es, List.map_map]; rfl
theorem GOk.use {s : SqD} (h1 : s.es = S.ds 0) (h2 : s.inf = infS S) (h3 : s.D.xs = S.xs) : UseIs β s (sucE E) where
  hs v hv := by
    rw [h2] at hv ⊢
    rw [h3]; exact h.xs v hv
  hc v hv y hy := by
    rw [h2]; exact h.cl hy
  ek := by rw [h1]; exact h.keys _ _ rfl
  ef v hv := by
    rw [h2] at hv ⊢
    rw [h1]; exact h.at hv
end
noncomputable section
def law_o (β : BB) (aL : Nat) (ss : Array Value) (eL : Nat) (n t g : Nat) (X : Led) (Y : GL) (σ : Nat → Sup) : Out := Go (E1 β) (lawI β aL ss eL) (cond β.b2 (Hs.h 0x30b0b03030301010403011808020301050100050303010c02220e0e0e010114151504060606010501010105010501010501010101050406060601050101010501050101050101010105040606060105010101050105010105010101010504060606010501010105010501010501010101050401020303030301010101010101010301030101010101010101010101010101010101010101010101010101010101111101010201010902220b0b0b0e010e0e020102010c010b0b030102010b010303030b0b0102020104020103010301030301020222040404070707040102010501010205050101) (Hs.h 0x30b0b03030301010403011808020301050100050303010c02220e0e0e010114151504060606010501010105010501010501010101050406060601050101010501050101050101010105040606060105010101050105010105010101010504060606010501010105010501010501010101050401020303030301010101010101010301030101010101010101010101010101010101010101010101010101010101111101010201010902220b0b0b0e010e0e020102010c010b0b030102010b010303030b0b0102020104020501050105050103010301030301020222040404070707040102010501010205050101)) (.a (.i (cesI β ([fenv (TT β) 252 n [(Mine.S "order", n + 2), (Mine.S "names", n + 1)]] : List Env) aL ss eL)) (.k fun ce w0 => .k fun s5 w5 => .a (.i (cdI β ([fenv (TT β) 252 n [(Mine.S "order", n + 2), (Mine.S "names", n + 1)]] : List Env) n (w5.n + 2) w5.n s5.a 0 (w5.n + 1) 0 (slicePick (ce.xs 0) none (some 5) none) #[] 0 0 false 0 .none (rcOf ce))) (.k fun cd wd => .a (.i (namI β ([fenv (TT β) 252 n [(Mine.S "order", n + 2), (Mine.S "names", n + 1)]] : List Env) (w5.n + 1) (cd.k 0 0) (cd.xs 0) (nms (codesOf cd)))) (.k fun nm wn => .a (.i (grpI β ([fenv (TT β) 252 n [(Mine.S "order", n + 2), (Mine.S "names", n + 1)]] : List Env) (w5.n + 1) (cd.k 0 0) (cd.xs 0) (grP6 (codesOf cd)))) (.k fun gr wg => .k fun s6 w6 => .a (.i (needI β ([fenv (TT β) 252 n [(Mine.S "order", n + 2), (Mine.S "names", n + 1)]] : List Env) s6.a (slicePick (ce.xs 0) (some 5) none none) 0)) (.k fun nd w7 => .k fun s7 w8 => .a (.cv [] [(infS noS).ent (arrS noS), (arrS noS).ent 0]) <| .a (.i (noI β ([fenv (TT β) 252 n [(Mine.S "order", n + 2), (Mine.S "names", n + 1)]] : List Env) (LwC.mk n (n + 2) (n + 1) t w0.t wd.t wg.t w7.t (w7.t + 13) aL (ce.k 0 8) (w5.n + 1) (gr.k 2 0) (nd.k 0 8)) (lkS w7) w8.n s7.a 0 0 (slicePick (nm.xs 0) none none (some (-1))) false 0 .none 0 .none 6 noS (noPr β (codesOf cd)))) (.k fun a wa => .sp (0 < nd.k 0 2) (Hs.h 0x3010c0b010101010b0101010b0101010b0301010101010c13080801020b0203010b01) (.a (.i (nlI β (LwC.mk n (n + 2) (n + 1) t w0.t wd.t wg.t w7.t (w7.t + 13) aL (ce.k 0 8) (w5.n + 1) (gr.k 2 0) (nd.k 0 8)) (lkS w7) (a.k 7 2) (a.vv 6) (a.k 7 0) (a.vv 7) wa.n (nd.k 0 8) (nd.k 0 0) (nm.k 0 8) (nm.k 0 0) 0 (nd.k 0 2) (nd.xs 0) (nm.xs 0) (PairsD.of nd) (NlF.mk false 0 0 0 0 (a.k 7 1) .none .none .none .none #[]) a true (nlPr β nd (codesOf cd)))) (.k fun b wb => .sp (RingR (b.tx 0).length (sucE (edL nd (codesOf cd))) false) (Hs.h 0xb0b0c0303080805050303050606060119020b13061d1d0c0c0b0b010101010101010124011702221919190901010106060609090602) (.a (.i (prI β (lkC n (b.k 7 4) (b.k 0 2) (nlE β (LwC.mk n (n + 2) (n + 1) t w0.t wd.t wg.t w7.t (w7.t + 13) aL (ce.k 0 8) (w5.n + 1) (gr.k 2 0) (nd.k 0 8)) (lkS w7) (a.k 7 2) (a.vv 6) (a.k 7 0) (a.vv 7) (NlF.of true b)) (b.ds 0) (arrS b)) (infS b) (lkS w7) (x2U (b.x 7)) (rdyS b))) (.k fun qq wq => .k fun s8 w8b => .k fun sm w9 => .a (.cut (lwbI β (LwC.mk n (n + 2) (n + 1) t w0.t wd.t wg.t w7.t (w7.t + 13) aL (ce.k 0 8) (w5.n + 1) (gr.k 2 0) (nd.k 0 8)) (WhC.mk (a.k 7 2) (a.vv 6) (a.k 7 0) (NlF.mk true (b.k 7 0) (b.k 7 1) (b.k 7 2) (b.k 7 3) (b.k 7 4) (b.vv 1) (b.vv 2) (b.vv 3) (b.vv 4) (qq.x 2)) (w9.t + 6) (w9.t + 7) (w9.n + 1)) (WhV.mk (a.vv 7) (Int.fmod (Int.fdiv (sm.z 0 0) 700) (Int.ofNat 100000000)) (w9.t + 5) w9.n #[] 0 0 .none (b.k 7 4 + 2)) (SqD.mk (lkS w7) (b.ds 0) (b.k 0 2) (infS b) (arrS b) (qq.k 0 9) (qq.k 0 8) 0 (w7.t + 7) 0 (w7.t + 10)) (qq.xs 3) (nm.k 0 8) (nm.k 0 0) (nm.xs 0) (grU gr) (nd.xs 0) (nd.k 0 0) (nd.k 0 2) (PairsD.of nd) aL ss eL)) .nil)) (Hs.h 0x1919180309091010020502010505010303040101040101010101030304070101030b020106060609090602) (.a (.i (prRI β (lkC n (b.k 7 4) (b.k 0 2) (nlE β (LwC.mk n (n + 2) (n + 1) t w0.t wd.t wg.t w7.t (w7.t + 13) aL (ce.k 0 8) (w5.n + 1) (gr.k 2 0) (nd.k 0 8)) (lkS w7) (a.k 7 2) (a.vv 6) (a.k 7 0) (a.vv 7) (NlF.of true b)) (b.ds 0) (arrS b)) (infS b) (lkS w7) (x2U (b.x 7)) (rdyS b))) (.k fun qq wq => .k fun nt wx => .a (.i (hdI (qq.k 0 10) (cyO (qq.k 0 11) nt.a) (smeI β ([fenv (TT β) 252 n [(Mine.S "order", n + 2), (Mine.S "names", n + 1)]] : List Env) (gr.k 2 0) (nd.k 0 8) (nd.k 0 0) (nd.k 0 2) (nd.xs 0) (PairsD.of nd) (grU gr)))) <| .a (.u { noS with v := [] }) .nil)))) (Hs.h 0x3010c0b010101010b0101010b0101010b0301010101010c13080801020b0203010b01) (.a (.i (nlI β (LwC.mk n (n + 2) (n + 1) t w0.t wd.t wg.t w7.t (w7.t + 13) aL (ce.k 0 8) (w5.n + 1) (gr.k 2 0) (nd.k 0 8)) (lkS w7) (a.k 7 2) (a.vv 6) (a.k 7 0) (a.vv 7) wa.n (nd.k 0 8) (nd.k 0 0) (nm.k 0 8) (nm.k 0 0) 0 (nd.k 0 2) (nd.xs 0) (nm.xs 0) (PairsD.of nd) (NlF.mk false 0 0 0 0 (a.k 7 1) .none .none .none .none #[]) a false (nlPr β nd (codesOf cd)))) (.k fun b wb => .sp (RingR (b.tx 0).length (sucE (edL nd (codesOf cd))) false) (Hs.h 0xb0b0c0303080805050303050606060119020b13061d1d0c0c0b0b010101010101010124011702221919190901010106060609090602) (.a (.i (prI β (lkC n (b.k 7 4) (b.k 0 2) (nlE β (LwC.mk n (n + 2) (n + 1) t w0.t wd.t wg.t w7.t (w7.t + 13) aL (ce.k 0 8) (w5.n + 1) (gr.k 2 0) (nd.k 0 8)) (lkS w7) (a.k 7 2) (a.vv 6) (a.k 7 0) (a.vv 7) (NlF.of false b)) (b.ds 0) (arrS b)) (infS b) (lkS w7) (x2U (b.x 7)) (rdyS b))) (.k fun qq wq => .k fun s8 w8b => .k fun sm w9 => .a (.cut (lwbI β (LwC.mk n (n + 2) (n + 1) t w0.t wd.t wg.t w7.t (w7.t + 13) aL (ce.k 0 8) (w5.n + 1) (gr.k 2 0) (nd.k 0 8)) (WhC.mk (a.k 7 2) (a.vv 6) (a.k 7 0) (NlF.mk false (b.k 7 0) (b.k 7 1) (b.k 7 2) (b.k 7 3) (b.k 7 4) (b.vv 1) (b.vv 2) (b.vv 3) (b.vv 4) (qq.x 2)) (w9.t + 6) (w9.t + 7) (w9.n + 1)) (WhV.mk (a.vv 7) (Int.fmod (Int.fdiv (sm.z 0 0) 700) (Int.ofNat 100000000)) (w9.t + 5) w9.n #[] 0 0 .none (b.k 7 4 + 2)) (SqD.mk (lkS w7) (b.ds 0) (b.k 0 2) (infS b) (arrS b) (qq.k 0 9) (qq.k 0 8) 0 (w7.t + 7) 0 (w7.t + 10)) (qq.xs 3) (nm.k 0 8) (nm.k 0 0) (nm.xs 0) (grU gr) (nd.xs 0) (nd.k 0 0) (nd.k 0 2) (PairsD.of nd) aL ss eL)) .nil)) (Hs.h 0x1919180309091010020502010505010303040101040101010101030304070101030b020106060609090602) (.a (.i (prRI β (lkC n (b.k 7 4) (b.k 0 2) (nlE β (LwC.mk n (n + 2) (n + 1) t w0.t wd.t wg.t w7.t (w7.t + 13) aL (ce.k 0 8) (w5.n + 1) (gr.k 2 0) (nd.k 0 8)) (lkS w7) (a.k 7 2) (a.vv 6) (a.k 7 0) (a.vv 7) (NlF.of false b)) (b.ds 0) (arrS b)) (infS b) (lkS w7) (x2U (b.x 7)) (rdyS b))) (.k fun qq wq => .k fun nt wx => .a (.i (hdI (qq.k 0 10) (cyO (qq.k 0 11) nt.a) (smeI β ([fenv (TT β) 252 n [(Mine.S "order", n + 2), (Mine.S "names", n + 1)]] : List Env) (gr.k 2 0) (nd.k 0 8) (nd.k 0 0) (nd.k 0 2) (nd.xs 0) (PairsD.of nd) (grU gr)))) <| .a (.u { noS with v := [] }) .nil))))))))))) n t g X Y σ
abbrev law_v (β : BB) (aL : Nat) (ss : Array Value) (eL : Nat) (n t g : Nat) (X : Led) (Y : GL) (σ : Nat → Sup) : Prop :=
  Sat (E1 β) (cesI β [fenv (TT β) (252 : Addr) n [(S "order", n + (2 : Addr)), (S "names", n + (1 : Addr))]] aL ss eL) ∧ ((Cells 10 ((σ 0).xs 0)) → (none ≠ some (0 : Int)) ∧ (Array.size ((σ 0).xs 0) ≤ BIG) ∧ Sat (E1 β) (cdI β [fenv (TT β) (252 : Addr) n [(S "order", n + (2 : Addr)), (S "names", n + (1 : Addr))]] n ((σ 3).n + 2) ((σ 3).n) ((σ 2).a) 0 ((σ 3).n + 1) 0 (slicePick ((σ 0).xs 0) none (some (5 : Int)) none) #[] 0 0 false 0 Value.none (rcOf (σ 0))) ∧ ((IntsOf ((σ 4).xs 0) (rcOf (σ 0))) → Sat (E1 β) (namI β [fenv (TT β) (252 : Addr) n [(S "order", n + (2 : Addr)), (S "names", n + (1 : Addr))]] ((σ 3).n + 1) ((σ 4).k 0 0) ((σ 4).xs 0) (nms (codesOf (σ 4)))) ∧ ((StrsOf ((σ 6).xs 0) (nms (codesOf (σ 4)))) → Sat (E1 β) (grpI β [fenv (TT β) (252 : Addr) n [(S "order", n + (2 : Addr)), (S "names", n + (1 : Addr))]] ((σ 3).n + 1) ((σ 4).k 0 0) ((σ 4).xs 0) (grP6 (codesOf (σ 4)))) ∧ ((grP6 (codesOf (σ 4)) (ArrD.mk ((σ 8).k 0) ((σ 8).xs) ((σ 8).k 1))) → (none ≠ some (0 : Int)) ∧ (Array.size ((σ 0).xs 0) ≤ BIG) ∧ Sat (E1 β) (needI β [fenv (TT β) (252 : Addr) n [(S "order", n + (2 : Addr)), (S "names", n + (1 : Addr))]] ((σ 10).a) (slicePick ((σ 0).xs 0) (some (5 : Int)) none none) 0) ∧ ((NdIs (PairsD.of (σ 12)) ((σ 12).k 0 2) 5 ((σ 12).xs 0)) → (some (-1 : Int) ≠ some (0 : Int)) ∧ (Array.size ((σ 6).xs 0) ≤ BIG) ∧ (Conv [] [InfD.ent (infS noS) (arrS noS), ArrD.ent (arrS noS) 0]) ∧ Sat (E1 β) (noI β [fenv (TT β) (252 : Addr) n [(S "order", n + (2 : Addr)), (S "names", n + (1 : Addr))]] (LwC.mk n (n + 2) (n + 1) t ((σ 1).t) ((σ 5).t) ((σ 9).t) ((σ 13).t) ((σ 13).t + 13) aL ((σ 0).k 0 8) ((σ 3).n + 1) ((σ 8).k 2 0) ((σ 12).k 0 8)) (lkS (σ 13)) ((σ 15).n) ((σ 14).a) 0 0 (slicePick ((σ 6).xs 0) none none (some (-1 : Int))) false 0 Value.none 0 Value.none 6 noS (noPr β (codesOf (σ 4)))) ∧ ((noPr β (codesOf (σ 4)) (σ 16)) → (((0 < (σ 12).k 0 2) → Sat (E1 β) (nlI β (LwC.mk n (n + 2) (n + 1) t ((σ 1).t) ((σ 5).t) ((σ 9).t) ((σ 13).t) ((σ 13).t + 13) aL ((σ 0).k 0 8) ((σ 3).n + 1) ((σ 8).k 2 0) ((σ 12).k 0 8)) (lkS (σ 13)) ((σ 16).k 7 2) ((σ 16).vv 6) ((σ 16).k 7 0) ((σ 16).vv 7) ((σ 17).n) ((σ 12).k 0 8) ((σ 12).k 0 0) ((σ 6).k 0 8) ((σ 6).k 0 0) 0 ((σ 12).k 0 2) ((σ 12).xs 0) ((σ 6).xs 0) (PairsD.of (σ 12)) (NlF.mk false 0 0 0 0 ((σ 16).k 7 1) Value.none Value.none Value.none Value.none #[]) (σ 16) true (nlPr β (σ 12) (codesOf (σ 4)))) ∧ ((nlPr β (σ 12) (codesOf (σ 4)) (σ 18)) → (((RingR (List.length ((σ 18).tx 0)) (sucE (edL (σ 12) (codesOf (σ 4)))) false) → Sat (E1 β) (prI β (lkC n ((σ 18).k 7 4) ((σ 18).k 0 2) (nlE β (LwC.mk n (n + 2) (n + 1) t ((σ 1).t) ((σ 5).t) ((σ 9).t) ((σ 13).t) ((σ 13).t + 13) aL ((σ 0).k 0 8) ((σ 3).n + 1) ((σ 8).k 2 0) ((σ 12).k 0 8)) (lkS (σ 13)) ((σ 16).k 7 2) ((σ 16).vv 6) ((σ 16).k 7 0) ((σ 16).vv 7) (NlF.of true (σ 18))) ((σ 18).ds 0) (arrS (σ 18))) (infS (σ 18)) (lkS (σ 13)) (x2U ((σ 18).x 7)) (rdyS (σ 18))) ∧ ((StrsOf ((σ 20).xs 3) (rdyS (σ 18))) → (none ≠ some (0 : Int)) ∧ (Array.size ss ≤ BIG) ∧ (AllInts (slicePick ss none (some (60 : Int)) none)) ∧ (Sat (Cfg.E (Cfg.mk (E1 β) (Inst.fr (lawI β aL ss eL)) (Inst.dep (lawI β aL ss eL)) (Inst.un (lawI β aL ss eL)) X Y (Inst.post (lawI β aL ss eL)))) (lwbI β (LwC.mk n (n + 2) (n + 1) t ((σ 1).t) ((σ 5).t) ((σ 9).t) ((σ 13).t) ((σ 13).t + 13) aL ((σ 0).k 0 8) ((σ 3).n + 1) ((σ 8).k 2 0) ((σ 12).k 0 8)) (WhC.mk ((σ 16).k 7 2) ((σ 16).vv 6) ((σ 16).k 7 0) (NlF.mk true ((σ 18).k 7 0) ((σ 18).k 7 1) ((σ 18).k 7 2) ((σ 18).k 7 3) ((σ 18).k 7 4) ((σ 18).vv 1) ((σ 18).vv 2) ((σ 18).vv 3) ((σ 18).vv 4) ((σ 20).x 2)) ((σ 25).t + 6) ((σ 25).t + 7) ((σ 25).n + 1)) (WhV.mk ((σ 16).vv 7) (Int.fmod (Int.fdiv ((σ 24).z 0 0) 700) (Int.ofNat 100000000)) ((σ 25).t + 5) ((σ 25).n) #[] 0 0 Value.none ((σ 18).k 7 4 + 2)) (SqD.mk (lkS (σ 13)) ((σ 18).ds 0) ((σ 18).k 0 2) (infS (σ 18)) (arrS (σ 18)) ((σ 20).k 0 9) ((σ 20).k 0 8) 0 ((σ 13).t + 7) 0 ((σ 13).t + 10)) ((σ 20).xs 3) ((σ 6).k 0 8) ((σ 6).k 0 0) ((σ 6).xs 0) (grU (σ 8)) ((σ 12).xs 0) ((σ 12).k 0 0) ((σ 12).k 0 2) (PairsD.of (σ 12)) aL ss eL)))) ∧ (¬ (RingR (List.length ((σ 18).tx 0)) (sucE (edL (σ 12) (codesOf (σ 4)))) false) → Sat (E1 β) (prRI β (lkC n ((σ 18).k 7 4) ((σ 18).k 0 2) (nlE β (LwC.mk n (n + 2) (n + 1) t ((σ 1).t) ((σ 5).t) ((σ 9).t) ((σ 13).t) ((σ 13).t + 13) aL ((σ 0).k 0 8) ((σ 3).n + 1) ((σ 8).k 2 0) ((σ 12).k 0 8)) (lkS (σ 13)) ((σ 16).k 7 2) ((σ 16).vv 6) ((σ 16).k 7 0) ((σ 16).vv 7) (NlF.of true (σ 18))) ((σ 18).ds 0) (arrS (σ 18))) (infS (σ 18)) (lkS (σ 13)) (x2U ((σ 18).x 7)) (rdyS (σ 18))) ∧ ((StrsOf ((σ 20).xs 3) (rdyS (σ 18))) → (SatH (E1 β) (Value.ref ((σ 20).k 0 10)) (hdI ((σ 20).k 0 10) (cyO ((σ 20).k 0 11) ((σ 22).a)) (smeI β [fenv (TT β) (252 : Addr) n [(Str.mk (Array.mk [111, 114, 100, 101, 114]), n + (2 : Addr)), (Str.mk (Array.mk [110, 97, 109, 101, 115]), n + (1 : Addr))]] ((σ 8).k 2 0) ((σ 12).k 0 8) ((σ 12).k 0 0) ((σ 12).k 0 2) ((σ 12).xs 0) (PairsD.of (σ 12)) (grU (σ 8))))) ∧ ((True) → (True))))))) ∧ (¬ (0 < (σ 12).k 0 2) → Sat (E1 β) (nlI β (LwC.mk n (n + 2) (n + 1) t ((σ 1).t) ((σ 5).t) ((σ 9).t) ((σ 13).t) ((σ 13).t + 13) aL ((σ 0).k 0 8) ((σ 3).n + 1) ((σ 8).k 2 0) ((σ 12).k 0 8)) (lkS (σ 13)) ((σ 16).k 7 2) ((σ 16).vv 6) ((σ 16).k 7 0) ((σ 16).vv 7) ((σ 17).n) ((σ 12).k 0 8) ((σ 12).k 0 0) ((σ 6).k 0 8) ((σ 6).k 0 0) 0 ((σ 12).k 0 2) ((σ 12).xs 0) ((σ 6).xs 0) (PairsD.of (σ 12)) (NlF.mk false 0 0 0 0 ((σ 16).k 7 1) Value.none Value.none Value.none Value.none #[]) (σ 16) false (nlPr β (σ 12) (codesOf (σ 4)))) ∧ ((nlPr β (σ 12) (codesOf (σ 4)) (σ 18)) → (((RingR (List.length ((σ 18).tx 0)) (sucE (edL (σ 12) (codesOf (σ 4)))) false) → Sat (E1 β) (prI β (lkC n ((σ 18).k 7 4) ((σ 18).k 0 2) (nlE β (LwC.mk n (n + 2) (n + 1) t ((σ 1).t) ((σ 5).t) ((σ 9).t) ((σ 13).t) ((σ 13).t + 13) aL ((σ 0).k 0 8) ((σ 3).n + 1) ((σ 8).k 2 0) ((σ 12).k 0 8)) (lkS (σ 13)) ((σ 16).k 7 2) ((σ 16).vv 6) ((σ 16).k 7 0) ((σ 16).vv 7) (NlF.of false (σ 18))) ((σ 18).ds 0) (arrS (σ 18))) (infS (σ 18)) (lkS (σ 13)) (x2U ((σ 18).x 7)) (rdyS (σ 18))) ∧ ((StrsOf ((σ 20).xs 3) (rdyS (σ 18))) → (none ≠ some (0 : Int)) ∧ (Array.size ss ≤ BIG) ∧ (AllInts (slicePick ss none (some (60 : Int)) none)) ∧ (Sat (Cfg.E (Cfg.mk (E1 β) (Inst.fr (lawI β aL ss eL)) (Inst.dep (lawI β aL ss eL)) (Inst.un (lawI β aL ss eL)) X Y (Inst.post (lawI β aL ss eL)))) (lwbI β (LwC.mk n (n + 2) (n + 1) t ((σ 1).t) ((σ 5).t) ((σ 9).t) ((σ 13).t) ((σ 13).t + 13) aL ((σ 0).k 0 8) ((σ 3).n + 1) ((σ 8).k 2 0) ((σ 12).k 0 8)) (WhC.mk ((σ 16).k 7 2) ((σ 16).vv 6) ((σ 16).k 7 0) (NlF.mk false ((σ 18).k 7 0) ((σ 18).k 7 1) ((σ 18).k 7 2) ((σ 18).k 7 3) ((σ 18).k 7 4) ((σ 18).vv 1) ((σ 18).vv 2) ((σ 18).vv 3) ((σ 18).vv 4) ((σ 20).x 2)) ((σ 25).t + 6) ((σ 25).t + 7) ((σ 25).n + 1)) (WhV.mk ((σ 16).vv 7) (Int.fmod (Int.fdiv ((σ 24).z 0 0) 700) (Int.ofNat 100000000)) ((σ 25).t + 5) ((σ 25).n) #[] 0 0 Value.none ((σ 18).k 7 4 + 2)) (SqD.mk (lkS (σ 13)) ((σ 18).ds 0) ((σ 18).k 0 2) (infS (σ 18)) (arrS (σ 18)) ((σ 20).k 0 9) ((σ 20).k 0 8) 0 ((σ 13).t + 7) 0 ((σ 13).t + 10)) ((σ 20).xs 3) ((σ 6).k 0 8) ((σ 6).k 0 0) ((σ 6).xs 0) (grU (σ 8)) ((σ 12).xs 0) ((σ 12).k 0 0) ((σ 12).k 0 2) (PairsD.of (σ 12)) aL ss eL)))) ∧ (¬ (RingR (List.length ((σ 18).tx 0)) (sucE (edL (σ 12) (codesOf (σ 4)))) false) → Sat (E1 β) (prRI β (lkC n ((σ 18).k 7 4) ((σ 18).k 0 2) (nlE β (LwC.mk n (n + 2) (n + 1) t ((σ 1).t) ((σ 5).t) ((σ 9).t) ((σ 13).t) ((σ 13).t + 13) aL ((σ 0).k 0 8) ((σ 3).n + 1) ((σ 8).k 2 0) ((σ 12).k 0 8)) (lkS (σ 13)) ((σ 16).k 7 2) ((σ 16).vv 6) ((σ 16).k 7 0) ((σ 16).vv 7) (NlF.of false (σ 18))) ((σ 18).ds 0) (arrS (σ 18))) (infS (σ 18)) (lkS (σ 13)) (x2U ((σ 18).x 7)) (rdyS (σ 18))) ∧ ((StrsOf ((σ 20).xs 3) (rdyS (σ 18))) → (SatH (E1 β) (Value.ref ((σ 20).k 0 10)) (hdI ((σ 20).k 0 10) (cyO ((σ 20).k 0 11) ((σ 22).a)) (smeI β [fenv (TT β) (252 : Addr) n [(Str.mk (Array.mk [111, 114, 100, 101, 114]), n + (2 : Addr)), (Str.mk (Array.mk [110, 97, 109, 101, 115]), n + (1 : Addr))]] ((σ 8).k 2 0) ((σ 12).k 0 8) ((σ 12).k 0 0) ((σ 12).k 0 2) ((σ 12).xs 0) (PairsD.of (σ 12)) (grU (σ 8))))) ∧ ((True) → (True))))))))))))))
theorem law_run (β : BB) (aL : Nat) (ss : Array Value) (eL : Nat) (n t g : Nat) (X : Led) (Y : GL) (σ : Nat → Sup) : See (law_o β aL ss eL n t g X Y σ) (law_v β aL ss eL n t g X Y σ) := by obtain ⟨b1, b2, b3, w0⟩ := β; cases b2 <;> cases b3 <;> kernel_rfl
end
theorem nd_ok {nd : Sup} (H : NdIs (PairsD.of nd) (nd.k 0 2) 5 (nd.xs 0)) : ∀ j, j < nd.k 0 2 → ∃ x y : Nat, (PairsD.of nd).x j = Int.ofNat x ∧ (PairsD.of nd).y j = Int.ofNat y ∧ x < 5 ∧ y < 5 ∧ x ≠ y := fun j hj => by
  obtain ⟨⟨a1, a2⟩, ⟨b1, b2⟩, c⟩ := H.2.2 j hj
  obtain ⟨x, hx⟩ := Int.eq_ofNat_of_zero_le a1
  obtain ⟨y, hy⟩ := Int.eq_ofNat_of_zero_le b1
  rw [hx, hy] at c
  rw [hx] at a2
  rw [hy] at b2
  exact ⟨x, y, hx, hy, Int.ofNat_lt.mp a2, Int.ofNat_lt.mp b2, fun e => c (congrArg _ e)⟩
theorem nd_list {nd : Sup} (H : NdIs (PairsD.of nd) (nd.k 0 2) 5 (nd.xs 0)) : NdOk ((PairsD.of nd).list (nd.k 0 2)) := fun q hq => by
  obtain ⟨j, hj, rfl⟩ := List.mem_map.mp hq
  obtain ⟨x, y, e1, e2, h1, h2, h3⟩ := nd_ok H j (List.mem_range.mp hj)
  exact ⟨x, y, by rw [e1, e2], h1, h2, h3⟩
theorem at_idx {l : List Str} {y : Str} (h : y ∈ l) : l[l.idxOf y]? = some y := by
  rw [List.getElem?_eq_getElem (List.idxOf_lt_length_iff.mpr h), List.getElem_idxOf]
theorem GOk.mt (β : BB) : GOk β noS [] :=
  ⟨rfl, List.nodup_nil, (fun y h => nomatch h), Nat.zero_le _, (nofun), fun i h => absurd h (Nat.not_lt_zero i), fun i h => absurd h (Nat.not_lt_zero i)⟩
section
variable {cl : List Nat} (h5 : cl.length = 5) (h7 : ∀ c ∈ cl, c < 7) {nd : Sup} (H : NdIs (PairsD.of nd) (nd.k 0 2) 5 (nd.xs 0))
include h5 h7 H
theorem edL_of {p : Nat × Nat} (hp : p ∈ edL nd cl) : ∃ x y : Nat, (Int.ofNat x, Int.ofNat y) ∈ (PairsD.of nd).list (nd.k 0 2) ∧ x < 5 ∧ y < 5 ∧ x ≠ y ∧ (plT cl)[p.1]? = some (topOf wayT (fN cl y) (fN cl x)) ∧ (plT cl)[p.2]? = some (topOf wayT (fN cl x) (fN cl y)) := by
  obtain ⟨j, hj, rfl⟩ := List.mem_map.mp hp
  obtain ⟨x, y, e1, e2, h1, h2, h3⟩ := nd_ok H j (List.mem_range.mp hj)
  refine ⟨x, y, List.mem_map.mpr ⟨j, hj, by rw [e1, e2]⟩, h1, h2, h3, ?_⟩
  rw [e1, e2]
  unfold edOf
  show (plT cl)[(plT cl).idxOf (topOf wayT ((nms cl).getD y ⟨#[]⟩) ((nms cl).getD x ⟨#[]⟩))]? = _ ∧ (plT cl)[(plT cl).idxOf (topOf wayT ((nms cl).getD x ⟨#[]⟩) ((nms cl).getD y ⟨#[]⟩))]? = _
  rw [nms_at h5 h7 h1, nms_at h5 h7 h2, at_idx (top_in h5 h7 h2 h1 (Ne.symm h3)), at_idx (top_in h5 h7 h1 h2 h3)]
  exact ⟨rfl, rfl⟩
theorem edL_has {x y : Nat} (h : (Int.ofNat x, Int.ofNat y) ∈ (PairsD.of nd).list (nd.k 0 2)) : ∃ e ∈ edL nd cl, nmOf (plT cl) e.1 = topOf wayT (fN cl y) (fN cl x) ∧ nmOf (plT cl) e.2 = topOf wayT (fN cl x) (fN cl y) := by
  obtain ⟨j, hj, e⟩ := List.mem_map.mp h
  obtain ⟨x', y', e1, e2, h1, h2, h3⟩ := nd_ok H j (List.mem_range.mp hj)
  obtain ⟨p1, p2⟩ := Prod.mk.inj e
  obtain rfl : x' = x := Int.ofNat.inj (e1.symm.trans p1)
  obtain rfl : y' = y := Int.ofNat.inj (e2.symm.trans p2)
  refine ⟨_, List.mem_map.mpr ⟨j, hj, rfl⟩, ?_⟩
  rw [e1, e2]
  unfold edOf
  show nmOf (plT cl) ((plT cl).idxOf (topOf wayT ((nms cl).getD y' ⟨#[]⟩) ((nms cl).getD x' ⟨#[]⟩))) = _ ∧ nmOf (plT cl) ((plT cl).idxOf (topOf wayT ((nms cl).getD x' ⟨#[]⟩) ((nms cl).getD y' ⟨#[]⟩))) = _
  rw [nms_at h5 h7 h1, nms_at h5 h7 h2]
  exact ⟨nmOf_at (at_idx (top_in h5 h7 h2 h1 (Ne.symm h3))), nmOf_at (at_idx (top_in h5 h7 h1 h2 h3))⟩
theorem lwb_ok {β : BB} {b : Sup} {G : ArrD} {xs ns : Array Value} (Hg : grP6 cl G) (Hb : nlPr β nd cl b) (hr : RingR (b.tx 0).length (sucE (edL nd cl)) false) (hx : StrsOf xs (rdyS b)) (hns : StrsOf ns (nms cl))
    {v : WhV} (hv : v.ws = #[]) {s : SqD} (s1 : s.es = b.ds 0) (s2 : s.inf = infS b) (s3 : s.D.xs = b.xs) (s4 : s.po = s.nf + Int.ofNat 0) :
    LwbOk β cl (edL nd cl) ((List.range (b.tx 0).length).filter fun v => decide ((infS b).np v = 0)) v s xs ns G (nd.xs 0) (nd.k 0 2) (PairsD.of nd) := by
  obtain ⟨GG, eT⟩ := Hb
  have hN : (infS b).N = nmOf (plT cl) := by rw [← eT]; rfl
  have hE : ∀ p ∈ edL nd cl, p.1 < (infS b).M ∧ p.2 < (infS b).M := GG.ed
  exact {
    h5 := h5
    h7 := h7
    U := GG.use s1 s2 s3
    hE := by rw [s2]; exact hE
    hM := by rw [s2]; exact GG.mb
    hl := by
      unfold edL
      rw [List.length_map, List.length_range]
      exact Nat.le_trans H.1 (by decide)
    K := by
      rw [s2]
      exact KhO.start hE (fun v hv => GG.np v hv) v.lk
    no := by rw [s2]; exact hr.2 rfl
    ws := by rw [hv]; rfl
    qs := by rw [s2]; exact hx
    po := s4
    inj := fun a _ b _ e => by
      rw [s2] at e
      exact nmOf_inj GG.nd GG.sm _ _ e
    ns := hns
    gs := Hg
    pl := fun y => by
      rw [s2, ← plT_mem h5 h7, ← eT]
      constructor
      · rintro ⟨v, hv, rfl⟩
        have hv : v < (b.tx 0).length := hv
        show nmOf (b.tx 0) v ∈ _
        rw [nmOf_at (List.getElem?_eq_getElem hv)]
        exact List.getElem_mem hv
      · exact nmOf_mem
    ks := H.2.1
    nd := nd_list H
    ed := fun x y h => by
      rw [s2, hN]
      exact edL_has h5 h7 H h }
end
theorem IntsOf.from {xs : Array Value} {l : List Int} (h : IntsOf xs l) (j : Nat) : IntsOf (slicePick xs (some (Int.ofNat j)) none none) (l.drop j) := by
  have : slicePick xs (some (Int.ofNat j)) none none = (xs.toList.drop j).toArray := slicePick_from' xs j
  rw [this]
  show (xs.toList.drop j).map ofInt = (l.drop j).map some
  rw [List.map_drop, List.map_drop, show xs.toList.map ofInt = l.map some from h]
theorem rc_is {u : Sup} {l : List Int} (h : IntsOf (u.xs 0) l) : rcOf u = (l.take 5).map fun z => Int.fmod z 7 := by
  unfold rcOf
  rw [show slicePick (u.xs 0) none (some 5) none = slicePick (u.xs 0) none (some (Int.ofNat 5)) none from rfl, (h.upto 5).vals]
theorem codes_ok {u w : Sup} (h : Cells 10 (u.xs 0)) (h2 : IntsOf (w.xs 0) (rcOf u)) : IntsOf (w.xs 0) ((codesOf w).map Int.ofNat) ∧ (codesOf w).length = 5 ∧ ∀ c ∈ codesOf w, c < 7 := by
  obtain ⟨l, hl, h10, _⟩ := h
  have e : codesOf w = (rcOf u).map Int.toNat := by unfold codesOf; rw [h2.vals]
  have lt : ∀ z ∈ rcOf u, 0 ≤ z ∧ z < 7 := fun z hz => by
    rw [rc_is hl] at hz
    obtain ⟨x, _, rfl⟩ := List.mem_map.mp hz
    exact mod_lt x (by decide)
  refine ⟨?_, ?_, fun c hc => ?_⟩
  · rw [e, List.map_map, (List.map_congr_left fun z hz => Int.toNat_of_nonneg (lt z hz).1 : (rcOf u).map (Int.ofNat ∘ Int.toNat) = (rcOf u).map id), List.map_id]
    exact h2
  · rw [e, List.length_map, rc_is hl, List.length_map, List.length_take, h10]; rfl
  · rw [e] at hc
    obtain ⟨z, hz, rfl⟩ := List.mem_map.mp hc
    have := lt z hz
    omega
theorem law_sat {β : BB} {aL eL : Nat} {ss : Array Value} {sl : List Int} (hs : IntsOf ss sl) (hb : ss.size ≤ BIG) : Sat (E1 β) (lawI β aL ss eL) := by
  refine sat_of (fun n t g X Y σ => law_run β aL ss eL n t g X Y σ) fun n t g X Y σ => ?_
  refine ⟨ces_sat _ hs hb, fun hC => ?_⟩
  obtain ⟨l, hl, h10, _⟩ := id hC
  have b0 : ((σ 0).xs 0).size ≤ BIG := by rw [hl.len, h10]; decide
  refine ⟨nofun, b0, ?_, fun hc => ?_⟩
  · rw [rc_is hl]
    exact cd_sat _ (hl.upto 5) (by rw [List.length_take, h10]; decide) 5 0 #[] [] 0 0 false 0 .none (by rw [List.length_take, h10]; rfl) nofun rfl (Nat.le_refl 0)
  obtain ⟨c0, h5, h7⟩ := codes_ok hC hc
  refine ⟨nam_sat _ c0 h5 h7, fun hn => ⟨grp_sat _ c0 h5, fun hg => ⟨nofun, ?_, ?_, fun hd => ⟨by decide, ?_, ?_, ?_, fun ho => ?_⟩⟩⟩⟩
  · exact b0
  · exact need_sat _ (hl.from 5) (by rw [List.length_drop, h10])
  · rw [hn.len, nms_eq, List.length_map, List.length_range]; decide
  · exact ⟨.refl _, rfl⟩
  · have r5 : (nms (codesOf (σ 4))).reverse.length = 5 := by rw [List.length_reverse, nms_eq, List.length_map, List.length_range]
    exact no_sat _ wayT (hn.rev (by rw [nms_eq, List.length_map, List.length_range]; decide)) (fun x hx => ⟨(nms_w h5 h7 x (List.mem_reverse.mp hx)).1, fun y hy => ((nms_w h5 h7 x (List.mem_reverse.mp hx)).2.2 y hy).1⟩) (by rw [r5]; decide) 5 0 false 0 .none 0 .none 6 noS (by rw [r5]) rfl (.mt β) (Nat.le_trans (plT_len h5 h7) (by decide))
  have nl := fun (Rq : Bool) (hq : Rq = (false || decide (0 < (σ 12).k 0 2))) => nl_sat (β := β) (c := LwC.mk n (n + 2) (n + 1) t ((σ 1).t) ((σ 5).t) ((σ 9).t) ((σ 13).t) ((σ 13).t + 13) aL ((σ 0).k 0 8) ((σ 3).n + 1) ((σ 8).k 2 0) ((σ 12).k 0 8)) (d := lkS (σ 13)) (nt := (σ 16).k 7 2) (nv := (σ 16).vv 6) (u := (σ 16).k 7 0) (w := (σ 16).vv 7) (aT := (σ 17).n) (aS := (σ 12).k 0 8) (eS := (σ 12).k 0 0) (aN := (σ 6).k 0 8) (eN := (σ 6).k 0 0) wayT hn (by rw [nms_eq, List.length_map, List.length_range]) (nms_nd h5 h7) hd (Nat.le_refl 5) (fun x hx => ⟨(nms_w h5 h7 x hx).1, (nms_w h5 h7 x hx).2.1⟩) (fun x hx y hy => ((nms_w h5 h7 x hx).2.2 y hy).2) (nms_s h5 h7) ((σ 12).k 0 2) 0 (NlF.mk false 0 0 0 0 ((σ 16).k 7 1) .none .none .none .none #[]) (σ 16) Rq (Nat.zero_add _) hq ho.1 ho.2
  have yes : ∀ (b : Sup), nlPr β (σ 12) (codesOf (σ 4)) b → ¬ RingR (b.tx 0).length (sucE (edL (σ 12) (codesOf (σ 4)))) false → RingR (b.tx 0).length (sucE (edL (σ 12) (codesOf (σ 4)))) true ∧ ∀ r, FitRow ((PairsD.of (σ 12)).list ((σ 12).k 0 2)) (glsOf (codesOf (σ 4))) r → r.length ≠ 5 := fun b hb hno => by
    have ex : ∃ u, u < (b.tx 0).length ∧ Way (sucE (edL (σ 12) (codesOf (σ 4)))) u u := Classical.byContradiction fun hx => hno ⟨nofun, fun _ u hu hw => hx ⟨u, hu, hw⟩⟩
    refine ⟨⟨fun _ => ex, nofun⟩, ?_⟩
    obtain ⟨u, _, hw⟩ := ex
    exact no_row h5 h7 (nd_list hd) (fun p hp => edL_of h5 h7 hd hp) hw
  have pr := fun (b : Sup) (hb : nlPr β (σ 12) (codesOf (σ 4)) b) (q : Bool) => prI_sat (β := β) (c := lkC n (b.k 7 4) (b.k 0 2) (nlE β (LwC.mk n (n + 2) (n + 1) t ((σ 1).t) ((σ 5).t) ((σ 9).t) ((σ 13).t) ((σ 13).t + 13) aL ((σ 0).k 0 8) ((σ 3).n + 1) ((σ 8).k 2 0) ((σ 12).k 0 8)) (lkS (σ 13)) ((σ 16).k 7 2) ((σ 16).vv 6) ((σ 16).k 7 0) ((σ 16).vv 7) (NlF.of q b)) (b.ds 0) (arrS b)) (inf := infS b) (hb.1.gr (by
      rw [hb.2]
      exact List.length_pos_iff_exists_mem.mpr ⟨fN (codesOf (σ 4)) 0, (plT_mem h5 h7).mpr ⟨0, by decide, fN_up h5 h7 (by decide)⟩⟩) rfl rfl) (hb.1.od rfl) hb.1.va (by rw [List.length_range]; exact hb.1.mb) (lkS (σ 13)) (x2U (b.x 7))
  have gl := fun j (hj : j < 6) => (⟨hg j hj, gls_len _ j⟩ : IntsOf ((grU (σ 8)).xs j) (glsOf (codesOf (σ 4)) j) ∧ (glsOf (codesOf (σ 4)) j).length ≤ 60)
  refine ⟨fun h0 => ⟨nl true (by rw [decide_eq_true h0]; rfl), fun hb => ⟨fun hr => ⟨(pr _ hb true).1 hr, fun hx => ⟨nofun, by assumption, hs.pick _ _ _, lwb_sat (lwb_ok h5 h7 hd hg hb hr hx hn rfl rfl rfl rfl rfl)⟩⟩, fun hr => ⟨(pr _ hb true).2 (yes _ hb hr).1, fun _ => ⟨(sme_sat _ hd.2.1 gl (yes _ hb hr).2).hd rfl rfl, fun _ => trivial⟩⟩⟩⟩,
    fun h0 => ⟨nl false (by rw [decide_eq_false h0]; rfl), fun hb => ⟨fun hr => ⟨(pr _ hb false).1 hr, fun hx => ⟨nofun, by assumption, hs.pick _ _ _, lwb_sat (lwb_ok h5 h7 hd hg hb hr hx hn rfl rfl rfl rfl rfl)⟩⟩, fun hr => ⟨(pr _ hb false).2 (yes _ hb hr).1, fun _ => ⟨(sme_sat _ hd.2.1 gl (yes _ hb hr).2).hd rfl rfl, fun _ => trivial⟩⟩⟩⟩⟩
open PySem.W.ZRun
noncomputable section
def keptOf : List Stmt → List Stmt
  | [a0, _, a2, a3, a4, a5, _, a7, _, a9, _, a11, _, a13, a14, a15, a16, a17, _, a19, a20, a21, a22, a23, a24, a25] => [a0, a2, a3, a4, a5, a7, a9, a11, a13, a14, a15, a16, a17, a19, a20, a21, a22, a23, a24, a25]
  | _ => []
def pvw : Program := { PySem.Challenge.pw_ij0124_02 with main := { PySem.Challenge.pw_ij0124_02.main with body := keptOf PySem.Challenge.pw_ij0124_02.main.body } }
abbrev row1 : OpenRow := OpenLaw.row PySem.Challenge.rw_ij0124_02
def lawD : DefRec × List (Str × Expr) := (defOf pvw row1.name).getD (⟨default, default, default, default, default⟩, [])
end
theorem h_def : defOf pvw row1.name = some (lawD.1, lawD.2) := by kernel_rfl
theorem h_p : row1.prog.theDef row1.name = some (lawD.1.params, lawD.1.body, lawD.1.scope) := by kernel_rfl
theorem h_k : kwWritten? lawD.1.params.kwonlyargs lawD.1.params.kw_defaults = some lawD.2 := by kernel_rfl
theorem h_ok : (chainsOk pvw && opensWell row1.prog && (frees row1.toRowW && row1.within.isEmpty)) = true := by kernel_rfl
theorem h_b : row1.prog.bare := ⟨by kernel_rfl, by kernel_rfl, by kernel_rfl, by kernel_rfl, by kernel_rfl, by decide +kernel⟩
noncomputable section
def topM (P : Params) : Frag := topL P ++ [(249, o249 P)]
def topB : List Addr := topA ++ [249]
abbrev loos : List Str := [Str.ofString "filterfalse", Str.ofString "_NodeInfo"]
abbrev XtB (s : Shared) : Bool := xlAt pvw [] s && recOk row1.toRowW.records s
end
theorem h_said : OpenLaw.wellSaid PySem.Challenge.rw_ij0124_02 = true := by
  unfold OpenLaw.wellSaid
  with_reducible repeat' refine Bool.and_eq_true_iff.mpr ⟨?_, ?_⟩
  all_goals kernel_rfl
theorem h_w : row1.toRowW.promised := ⟨[ofPy (PyData.list [])], by kernel_rfl, by kernel_rfl⟩
noncomputable def topRunF (p : Program) (w : World) (n₀ : Nat) (ann : Option Value) : Nat → Shared → Thread → Option Shared
  | 0, _, _ => none
  | n + 1, s, t => match through t with
    | true => some s
    | false => match stepOk n₀ ann t with
      | false => none
      | true => match step den p w s t with
        | .go s' t' => topRunF p w n₀ ann n s' t'
        | .halt _ _ => none
theorem topRunF_eq (p : Program) (w : World) (n₀ : Nat) (ann : Option Value) : ∀ (n : Nat) (s : Shared) (t : Thread), topRun treeTable p w n₀ ann n s t = topRunF p w n₀ ann n s t
  | 0, _, _ => rfl
  | n + 1, s, t => by
    unfold topRun topRunF
    rw [← table_eq_tree, den_eq]
    have ih := fun s t => topRunF_eq p w n₀ ann n s t
    rw [← table_eq_tree] at ih
    simp only [ih]
    rfl
noncomputable def topFromF (p : Program) (w : World) (N : Nat) (s₀ : Shared) : Option Shared :=
  match s₀.heap.isNs mainGlobals && s₀.gens.size == 0 with
  | true => (topRunF p w s₀.heap.objs.size (s₀.heap.nsMap mainGlobals "__annotations__") N s₀ (topStub p)).bind fun s₁ => match staticsOk (importedModules p.main.body) s₀.heap s₁.heap && namesBound p s₁.heap && gensDone s₁ && laidKept s₀.heap s₁.heap with
      | true => some s₁
      | false => none
  | false => none
theorem topFromF_eq (p : Program) (w : World) (N : Nat) : topFrom treeTable p w N = topFromF p w N := by
  funext s₀
  unfold topFrom topFromF
  rw [topRunF_eq]
  rfl
theorem h_left : LeftO row1.prog pvw loos XtB (obsZ topB) (valZ topM 253 538) 4000 := by
  intro w
  unfold openEnds
  rw [topFromF_eq]
  kernel_rfl
theorem allIn_mem {h : Heap} : ∀ {K : Frag}, AllIn h K → ∀ p ∈ K, h.get? p.1 = some p.2
  | [], _, p, hp => absurd hp List.not_mem_nil
  | q :: K, H, p, hp => by
    rcases List.mem_cons.mp hp with rfl | hp
    · exact H.1
    · exact allIn_mem H.2 p hp
theorem allIn_left {h : Heap} : ∀ {K L : Frag}, AllIn h (K ++ L) → AllIn h K
  | [], _, _ => trivial
  | _ :: _, _, H => ⟨H.1, allIn_left H.2⟩
theorem allIn_top {h : Heap} {P : Params} (H : AllIn h (topM P)) : AllIn h (topL P) ∧ h.get? 249 = some (o249 P) := by
  unfold topM at H
  exact ⟨allIn_left H, allIn_mem H (249, o249 P) (List.mem_append_right _ (List.mem_singleton.mpr rfl))⟩
theorem holds_top {h h' : Heap} {K : Frag} {t : KT} (e : KT.of K = t) (k : ∀ b o, h.get? b = some o → h'.get? b = some o) (A : AllIn h K) : ∀ (a : Nat) (o : Obj), t.get a = some o → h'.get? a = some o := fun a o x => kt_at (e ▸ KT.Holds.keeps k (holds_of A)) x
theorem top_keys (P : Params) : topB = (topM P).map (·.1) := by kernel_rfl
theorem law_at (P : Params) : nsIn (topM P) mainGlobals lawD.1.name = some (some (.ref 252)) := by kernel_rfl
theorem ints_of {vs : List Value} {ns : List Int} (h : IntsAre vs ns) : IntsOf vs.toArray ns := by
  unfold IntsOf
  show vs.map ofInt = ns.map some
  induction h with
  | nil => rfl
  | cons n t _ ih => rw [List.map_cons, List.map_cons, ih]; rfl
theorem top_no253 (P : Params) : (topT P).get 253 = none ∧ (topT P).get 249 = none := ⟨by kernel_rfl, by kernel_rfl⟩
theorem top_2 (P : Params) : (topT P).get 2 = some (o2 P) := by kernel_rfl
theorem top_251 (P : Params) : (topT P).get 251 = some (o251 P) := by kernel_rfl
theorem no_lim (P : Params) : NoLim (topT P) := fun h H => ⟨fun _ => none, ⟨o2 P, #[], 0, H 2 _ (top_2 P), rfl, fun e he => absurd he (Array.not_mem_empty e), fun _ => rfl⟩, rfl⟩
theorem worlds (w : World) : ∃ β : BB, β.W = w := by
  refine ⟨⟨w.params.followText "set-order", w.params.followText "comprehension-iter-twice", w.params.followText "special-get-raises", w⟩, ?_⟩
  unfold BB.W
  rw [World.withFollow_self, World.withFollow_self, World.withFollow_self]
theorem law_call (β : BB) {s₁ : Shared} {vs : List Value} {ns : List Int} (hI : IntsAre vs ns) (hn : ¬ (63 : Int) < ns.length) (HT : ∀ j o, (topT β.P).get j = some o → s₁.heap.get? j = some o) (h249 : s₁.heap.get? 249 = some (o249 β.P)) (hL : s₁.heap.get? 253 = some (lsO vs.toArray 0)) (hg : s₁.gens = #[]) (hsz : 3 ≤ s₁.heap.objs.size)
    {Q : Value → Shared → Prop} {E : Value → Shared → Prop} (K : ∀ s', OldK s₁.heap s'.heap → s'.os = s₁.os → AllBare s'.gens → Q (.bool true) s') : wpAny (model PySem.Challenge.pw_ij0124_02 β.W) callerA (call (.ref 252) [.ref 253]) Q E s₁ := by
  have hlen : vs.length ≤ 63 := by
    have := (ints_of hI).len
    rw [List.size_toArray] at this
    omega
  have S := law_sat (β := β) (aL := 253) (eL := 0) (ints_of hI) (by rw [List.size_toArray]; exact Nat.le_trans hlen (by decide))
  have B : Base (E1 β) ⟨topT β.P, s₁.heap, [253, 249], s₁.drawn, s₁.os⟩ callerA [] 310 900 := ⟨rfl, no_lim _, rfl, by decide, by decide, rfl⟩
  refine wpAny_call (codeAny_of _ (S (X := []) (Y := []) B ?_ fun u s' _ H => ?_))
  · refine ⟨HT, ?_, by show [253, 249].Nodup; decide, ?_, fun b o e _ => e, fun b o e => ⟨o, e⟩, ?_, hsz, ?_, fun p hp => absurd hp List.not_mem_nil, List.nodup_nil, by show AllBare s₁.gens; rw [hg]; exact fun x hx => absurd hx (Array.not_mem_empty x), rfl, rfl⟩
    · exact List.forall_mem_cons.mpr ⟨hL, List.forall_mem_cons.mpr ⟨h249, fun p hp => absurd hp List.not_mem_nil⟩⟩
    · exact List.forall_mem_cons.mpr ⟨(top_no253 _).1, List.forall_mem_cons.mpr ⟨(top_no253 _).2, fun p hp => absurd hp List.not_mem_nil⟩⟩
    · exact List.forall_mem_cons.mpr ⟨fun _ _ => List.mem_cons_self, List.forall_mem_cons.mpr ⟨fun _ _ => .tail _ List.mem_cons_self, fun p hp => absurd hp List.not_mem_nil⟩⟩
    · exact List.forall_mem_cons.mpr ⟨(by decide : 3 ≤ 253), List.forall_mem_cons.mpr ⟨(by decide : 3 ≤ 249), fun p hp => absurd hp List.not_mem_nil⟩⟩
  · have g1 : s'.heap.get? 253 = some (lsO vs.toArray 0) := H.led (253, _) List.mem_cons_self
    have g2 : s'.heap.get? 249 = some (tabF u.v) := H.led (249, _) (.tail _ List.mem_cons_self)
    refine K s' ⟨fun b o e => ?_, fun b o e => H.kin b o e⟩ H.os H.bare
    by_cases h1 : b = 253
    · subst h1
      exact .inl (g1.trans (hL.symm.trans e))
    by_cases h2 : b = 249
    · subst h2
      obtain rfl := Option.some.inj (h249.symm.trans e)
      exact .inr (.inl ⟨⟨251, o251 β.P, _, HT 251 _ (top_251 _), rfl, rfl, rfl⟩, rfl, #[], ⟨u.v⟩, rfl, by rw [g2, Array.empty_append]; rfl⟩)
    · refine .inl (H.keep b o e fun hm => ?_)
      rcases List.mem_cons.mp hm with h | h
      · exact h1 h
      · exact h2 (List.mem_singleton.mp h)
theorem prog_is : row1.prog = PySem.Challenge.pw_ij0124_02 := by kernel_rfl
theorem h_call : WalkX pvw loos (XL pvw []) (obsZ topB) (valZ topM 253 538) row1.toRowW lawD.1 lawD.2 (fun f vs => PySem.call f vs) := by
  intro w s₀ s₁ mg mb G y fa o pm cd doc dV kV ho hd hcd hD hmg hg args vals as L hpre hlay hrd hwl hlo
  obtain ⟨ZA, ZI, ZN, ZT⟩ := z_facts top_keys y
  have keeps := Laid.keeps L
  have KX := InK.keeps w s₀.heap s₁.heap ZI keeps
  have hfa := mg_of KX G.T.g (law_at w.params)
  rw [hmg] at hfa
  obtain rfl : fa = 252 := Value.ref.inj (Option.some.inj hfa)
  wrow_args hpre hlay hrd hwl hlo
  rename_i ns hs hlay0 hL1 hr1 hl2 as4 as3 a vs as5 hL ra w1 r0 hI hr hc1 hc2
  have hat := (script_at L).1
  rw [ZN] at hat
  subst hat
  have ho := script_obj L hL
  have hsz := (script_at L).2
  rw [ZN] at hsz
  obtain ⟨β, hβ⟩ := worlds w
  subst hβ
  obtain ⟨Z1, Z2⟩ := allIn_top (P := β.P) ZA
  have HT := holds_top (topT_eq β.P) keeps Z1
  have h249 : s₁.heap.get? 249 = some (o249 β.P) := keeps _ _ Z2
  rw [prog_is]
  have sz : 3 ≤ s₁.heap.objs.size := by rw [hsz]; decide
  refine law_call β hI hc1 HT h249 ho hg sz ?_
  intro s' hO hs hb
  refine ⟨.inl ⟨_, .bool true, [], rfl, fun _ => rfl, ReadsW.bool true, ?_, fun _ => ⟨List.nodup_nil, fun a ha => absurd ha List.not_mem_nil⟩⟩, hO, hs, hb⟩
  kernel_rfl
end Mine
theorem PySem.Challenge.cw_ij0124_02_holds : PySem.Challenge.rw_ij0124_02.Holds :=
  ⟨Mine.h_said, holds_openX (q := Mine.pvw) (loose := Mine.loos) (Xt := Mine.XtB) (XP := XL Mine.pvw []) (Yf := obsZ Mine.topB) (Ya := valZ Mine.topM 253 538) (N := 4000) Mine.h_left (fun s e => xl_of s (Bool.and_eq_true_iff.mp e).1) XL.keeps Mine.h_def Mine.h_p Mine.h_k (fun s e => recFacts_of (Bool.and_eq_true_iff.mp e).2) rfl (row_said Mine.h_said) Mine.h_ok Mine.h_b Mine.h_w Mine.h_call⟩
