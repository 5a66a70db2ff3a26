import PyProof.Rows.All
import Wide.All
import OpenK.AllK
import Wide.FinOn
import PySem.Challenge.RW_wx0002_01
open PySem PySem.W PyProof.Rows
set_option Elab.async false
set_option maxRecDepth 100000
set_option linter.unusedVariables false
set_option linter.unusedSimpArgs false
section
set_option maxHeartbeats 8000000
open_top Mine.hd for PySem.Challenge.rw_wx0002_01
local macro_rules | `(tactic| k_head) => `(tactic| o_head (kmHook Mine.hd.heap_39 [2, 3, 6, 15, 16, 17, 18, 19, 20, 21, 22, 23, 24, 25, 26, 27, 28, 30, 31, 32, 33, 34, 35, 36, 37, 38, 39, 40, 41, 42, 43, 44, 46, 47, 49, 50, 52, 53, 54, 56, 57, 59, 60, 61, 64, 65, 66, 67, 70, 71, 72, 73, 74, 75, 76, 77, 78, 79, 81, 82, 84, 85, 86, 88, 89, 91, 92, 93, 95, 96, 98, 99, 100, 102, 103, 105, 106, 107, 109, 110, 112, 113, 114, 117, 118, 119, 122, 123] (fun _ => by kernel_rfl) [48, 55, 68]))
open_top Mine.he for PySem.Challenge.rw_wx0002_01
end
open PySem.Calls PySem.Spec
namespace Mine
abbrev S (l : List Nat) : Str := ⟨l.toArray⟩
/-! plain: tokens, the law's reader -/
inductive Tk | ch (s : List Nat) | fd (c n : Nat)
  deriving DecidableEq
def letters : List Nat := [121, 77, 100, 69, 97, 98, 104, 72, 107, 75, 122, 118]
/-- a sign more; the tokens stand last first -/
def addC (c : Nat) : List Tk → List Tk
  | .ch s :: r => .ch (s ++ [c]) :: r
  | r => .ch [c] :: r
def addF (c : Nat) : List Tk → List Tk
  | .fd d n :: r => if d = c then .fd d (n + 1) :: r else .fd c 1 :: .fd d n :: r
  | r => .fd c 1 :: r
def rd : List Nat → Bool → List Tk → List Tk × Bool
  | [], ins, r => (r, ins)
  | c :: l, ins, r => if c = 39 then (match l with
      | d :: l' => if d = 39 then rd l' ins (addC 39 r) else rd (d :: l') (!ins) r
      | [] => rd [] (!ins) r)
    else if ins || !letters.contains c then rd l ins (addC c r) else rd l ins (addF c r)
def Tk.sz : Tk → Nat
  | .ch s => s.length
  | .fd _ n => n
/-! plain: the law's nearest -/
def cnt1 (x : List Nat) (k : Str) : Int := (x.filter fun c => k == ⟨#[c]⟩).length
theorem cnt1_snoc {x : List Nat} {c : Nat} : cnt1 (x ++ [c]) = fun k => if k = ⟨#[c]⟩ then cnt1 x ⟨#[c]⟩ + 1 else cnt1 x k := by
  funext k
  unfold cnt1
  by_cases h : k = ⟨#[c]⟩
  · subst h; simp
  · simp [h]
def standPairs : List (Str × Str) := [(Str.ofString "z", Str.ofString "v"), (Str.ofString "k", Str.ofString "H"), (Str.ofString "K", Str.ofString "h"), (Str.ofString "a", Str.ofString ""), (Str.ofString "b", Str.ofString "")]
def stand (ks : List (List Nat)) (g : Str → Int) (p : Str × Str) : Str → Int :=
  if ks.any (fun y => Txt.contains (S y) p.1) then g else fun y => if y = p.1 then 0 else if y = p.2 then g p.2 + g p.1 else g y
/-- a letter more -/
def farStep (g its : Str → Int) (al : Bool) (fa : Int × Bool) (c : Nat) : Int × Bool :=
  if (g (S [c]) != its (S [c])) && (g (S [c]) == 0 || its (S [c]) == 0) then (fa.1 + 4096, if fa.2 then al else fa.2)
  else if (S [c] == Str.ofString "M") && (decide (g (S [c]) > 2) != decide (its (S [c]) > 2)) then (fa.1 + 256, fa.2)
  else (fa.1 + (if g (S [c]) - its (S [c]) < 0 then -(g (S [c]) - its (S [c])) else g (S [c]) - its (S [c])), fa.2)
def farOf (g its : Str → Int) (al : Bool) (cs : List Nat) : Int × Bool := cs.foldl (farStep g its al) (0, true)
def lexLt (p q : Int × List Nat) : Bool := if p.1 == q.1 then (if p.2 == q.2 then false else decide (p.2 < q.2)) else decide (p.1 < q.1)
def bestStep (g : Str → Int) (al : Bool) (best : Option (Int × List Nat)) (x : List Nat) : Option (Int × List Nat) :=
  let fa := farOf g (cnt1 x) al letters
  if fa.2 && (match best with | none => true | some q => lexLt (fa.1, x) q) then some (fa.1, x) else best
def nearestB (x : List Nat) (ks : List (List Nat)) (al : Bool) : Option (Int × List Nat) := ks.foldl (bestStep (standPairs.foldl (stand ks) (cnt1 x)) al) none
noncomputable abbrev KH : Params → Frag := Mine.hd.heap_39
abbrev Tabs : List Addr := [48, 55, 68]
abbrev Fz := Addr → Obj → Prop
abbrev Led := List (Addr × (Obj → Prop))
def NsZ (Z : Fz) (a : Addr) (m : Str → Option Value) : Prop :=
  ∃ o es ep, Z a o ∧ o.data = .dict es ep ∧ StrKeys es ∧ ∀ name, nsFind es name = m name
theorem NsZ.mono {Z Z' : Fz} {a m} (x : NsZ Z a m) (h : ∀ b o, Z b o → Z' b o) : NsZ Z' a m :=
  let ⟨o, es, ep, e, r⟩ := x; ⟨o, es, ep, h _ _ e, r⟩
theorem NsZ.ns {Z : Fz} {a m} {h : Heap} (x : NsZ Z a m) (k : ∀ b o, Z b o → h.get? b = some o) : h.Ns a m :=
  let ⟨o, es, ep, e, r⟩ := x; ⟨o, es, ep, k _ _ e, r⟩
theorem NsZ.ne {Z : Fz} {a m} {t : Addr} (x : NsZ Z a m) (k : ∀ b o, Z b o → b ≠ t) : a ≠ t :=
  let ⟨_, _, _, e, _⟩ := x; k _ _ e
def CodeRecZ (Z : Fz) (cd : Value) (q : Str) : Prop := ∃ c o vs t, cd = .ref c ∧ Z c o ∧ o.data = .fields vs ∧ vs[1]? = some (.str q t)
theorem CodeRecZ.mono {Z Z' : Fz} {a m} (x : CodeRecZ Z a m) (h : ∀ b o, Z b o → Z' b o) : CodeRecZ Z' a m :=
  let ⟨c, o, vs, t, e, g, r⟩ := x; ⟨c, o, vs, t, e, h _ _ g, r⟩
theorem CodeRecZ.rec {Z : Fz} {a m} {h : Heap} (x : CodeRecZ Z a m) (k : ∀ b o, Z b o → h.get? b = some o) : h.CodeRec a m :=
  let ⟨c, o, vs, t, e, g, r⟩ := x; ⟨c, o, vs, t, e, k _ _ g, r⟩
/-- what is frozen of the program's own world -/
structure Wd (P : Params) (Z : Fz) : Prop where
  k : ∀ a o, (KH P).lookup a = some o → Z a o
  ns : ∃ mg mb, NsZ Z mainGlobals mg ∧ NsZ Z builtinsNs mb ∧ (∀ x : Str, x ≠ "__name__" → mb x = bootBuiltins x) ∧
    (∃ bm ob, mg "__builtins__" = some (.ref bm) ∧ bm ≠ builtinsNs ∧ Z bm ob ∧ ob.cls = .type "module" ∧ ob.dict = some builtinsNs ∧ ob.data = .plain)
  lim : ∃ mc, NsZ Z cStatics mc ∧ mc "sys.recursionlimit" = none
theorem Wd.mono {P : Params} {Z Z' : Fz} (x : Wd P Z) (h : ∀ b o, Z b o → Z' b o) : Wd P Z' where
  k := fun a o e => h _ _ (x.k a o e)
  ns := let ⟨mg, mb, a, b, c, bm, ob, d, e, f, g⟩ := x.ns; ⟨mg, mb, a.mono h, b.mono h, c, bm, ob, d, e, h _ _ f, g⟩
  lim := let ⟨mc, a, b⟩ := x.lim; ⟨mc, a.mono h, b⟩
/-- a code table: what stands in it at the places that matter -/
def TabOk (Z : Fz) (h : Heap) (P : Addr) (sp : List (Pos × Str)) : Prop :=
  ∃ ps, h.get? P = some (tabObj ps) ∧ TriplesOk ps.toList ∧
    ∀ x ∈ sp, codeAmong x.1 ps.toList = none ∨ ∃ c', codeAmong x.1 ps.toList = some (.ref c') ∧ CodeRecZ Z (.ref c') x.2
theorem TabOk.mono {Z Z' : Fz} {h h' : Heap} {P sp} (x : TabOk Z h P sp) (hz : ∀ b o, Z b o → Z' b o) (e : h'.get? P = h.get? P) : TabOk Z' h' P sp :=
  let ⟨ps, a, b, c⟩ := x; ⟨ps, e.trans a, b, fun y hy => (c y hy).imp id fun ⟨c', d, f⟩ => ⟨c', d, f.mono hz⟩⟩
abbrev qualA : Str := Str.ofString "tokenize_pattern.<locals>.append_chars"
abbrev qualF : Str := Str.ofString "tokenize_pattern.<locals>.append_field"
def tabSpec : List (Addr × List (Pos × Str)) := [(48, [(⟨10, 4, 12, 22⟩, qualA), (⟨14, 4, 17, 23⟩, qualF)]), (55, []), (68, [])]
structure Base (w : World) (os : OsState) (Z : Fz) (s : Shared) : Prop where
  wd : Wd w.params Z
  frz : ∀ b o, Z b o → s.heap.get? b = some o
  zt : ∀ b o, Z b o → b ∉ Tabs
  t : ∀ q ∈ tabSpec, TabOk Z s.heap q.1 q.2
  os : s.os = os
  bare : AllBare s.gens
  tk : 0 < s.toks
structure St (w : World) (os : OsState) (B Z₀ Z : Fz) (L : Addr) (m : Str → Option Value) (l : Led) (s : Shared) : Prop extends Base w os Z s where
  ns : s.heap.Ns L m
  own : ∀ p ∈ l, ∃ o, s.heap.get? p.1 = some o ∧ p.2 o
  nd : (L :: l.map (·.1)).Nodup
  nt : ∀ t ∈ Tabs, t ∉ L :: l.map (·.1)
  lo : ∀ x ∈ L :: l.map (·.1), 68 < x
  nz : ∀ b o, Z b o → b ∉ L :: l.map (·.1)
  keep : ∀ b o, B b o → s.heap.get? b = some o
  nb : ∀ b o, B b o → b ∉ L :: l.map (·.1)
  bt : ∀ b o, B b o → b ∉ Tabs
  newz : ∀ b o, Z b o → Z₀ b o ∨ ∀ o', ¬ B b o'
  le : ∀ b o, Z₀ b o → Z b o
/-- a called def comes back -/
def Post (w : World) (os : OsState) (Z : Fz) (s : Shared) (Res : Fz → Value → Prop) (Q : Value → Shared → Prop) : Prop :=
  ∀ s' Z' v, Base w os Z' s' → (∀ b o, Z b o → Z' b o) → (∀ b o, b ∉ Tabs → s.heap.get? b = some o → s'.heap.get? b = some o) →
    (∀ b o, Z' b o → Z b o ∨ s.heap.get? b = none) → Res Z' v → Q v s'
inductive Up : Led → Addr → (Obj → Prop) → (Obj → Prop) → Led → Prop
  | here {l a p p'} : Up ((a, p) :: l) a p p' ((a, p') :: l)
  | there {x l a p p' l'} : Up l a p p' l' → Up (x :: l) a p p' (x :: l')
inductive Rem : Led → Addr → (Obj → Prop) → Led → Prop
  | here {l a p} : Rem ((a, p) :: l) a p l
  | there {x l a p l'} : Rem l a p l' → Rem (x :: l) a p (x :: l')
theorem Up.addrs {l a p p' l'} (U : Up l a p p' l') : l'.map (·.1) = l.map (·.1) := by
  induction U with
  | here => rfl
  | there _ ih => simp [ih]
theorem Up.mem {l a p p' l'} (U : Up l a p p' l') : (a, p) ∈ l := by
  induction U with
  | here => exact .head _
  | there _ ih => exact .tail _ ih
theorem Up.case {l a p p' l'} (U : Up l a p p' l') (nd : (l.map (·.1)).Nodup) : ∀ q ∈ l', q = (a, p') ∨ (q ∈ l ∧ q.1 ≠ a) := by
  induction U with
  | here =>
    intro q hq
    rcases List.mem_cons.mp hq with rfl | hq
    · exact .inl rfl
    · refine .inr ⟨.tail _ hq, fun e => ?_⟩
      have := (List.nodup_cons.mp nd).1
      exact this (e ▸ List.mem_map_of_mem (f := (·.1)) hq)
  | there U ih =>
    intro q hq
    have nd' := List.nodup_cons.mp nd
    rcases List.mem_cons.mp hq with rfl | hq
    · exact .inr ⟨.head _, fun e => nd'.1 (by show q.fst ∈ _; rw [e]; exact List.mem_map_of_mem (f := (·.1)) U.mem)⟩
    · exact (ih nd'.2 q hq).imp id fun ⟨x, y⟩ => ⟨.tail _ x, y⟩
theorem Rem.mem {l a p l'} (U : Rem l a p l') : (a, p) ∈ l := by
  induction U with
  | here => exact .head _
  | there _ ih => exact .tail _ ih
theorem Rem.sub {l a p l'} (U : Rem l a p l') : ∀ q ∈ l', q ∈ l := by
  induction U with
  | here => exact fun q hq => .tail _ hq
  | there _ ih => exact fun q hq => (List.mem_cons.mp hq).elim (fun e => e ▸ .head _) fun h => .tail _ (ih q h)
theorem Rem.subl {l a p l'} (U : Rem l a p l') : (l'.map (·.1)).Sublist (l.map (·.1)) := by
  induction U with
  | here => exact List.Sublist.cons _ (List.Sublist.refl _)
  | there _ ih => exact ih.cons_cons _
theorem Rem.not {l a p l'} (U : Rem l a p l') (nd : (l.map (·.1)).Nodup) : a ∉ l'.map (·.1) := by
  induction U with
  | here => exact (List.nodup_cons.mp nd).1
  | there U ih =>
    have nd' := List.nodup_cons.mp nd
    intro h
    rcases List.mem_cons.mp h with e | h
    · exact nd'.1 (e ▸ List.mem_map_of_mem (f := (·.1)) U.mem)
    · exact ih nd'.2 h
section
variable {w : World} {os : OsState} {B Z₀ Z Z' : Fz} {L a : Addr} {m m' : Str → Option Value} {l l' : Led} {s s' : Shared} {p p' : Obj → Prop}
theorem Base.toks (H : Base w os Z s) (tk : Nat) (htk : 0 < tk := by first | assumption | exact Nat.succ_pos _) : Base w os Z { s with toks := tk } := ⟨H.wd, H.frz, H.zt, H.t, H.os, H.bare, htk⟩
theorem St.toks (H : St w os B Z₀ Z L m l s) (tk : Nat) (htk : 0 < tk := by first | assumption | exact Nat.succ_pos _) : St w os B Z₀ Z L m l { s with toks := tk } :=
  { H.toBase.toks tk htk with ns := H.ns, own := H.own, nd := H.nd, nt := H.nt, lo := H.lo, nz := H.nz, keep := H.keep, nb := H.nb, bt := H.bt, newz := H.newz, le := H.le }
theorem St.lt (H : St w os B Z₀ Z L m l s) : ∀ x ∈ L :: l.map (·.1), x < s.heap.objs.size := fun x hx => by
  rcases List.mem_cons.mp hx with rfl | hx
  · exact H.ns.lt
  · obtain ⟨p, hp, rfl⟩ := List.mem_map.mp hx
    obtain ⟨o, ho, _⟩ := H.own p hp
    exact Heap.lt_size ho
theorem Base.tlt (H : Base w os Z s) : ∀ t ∈ Tabs, t < s.heap.objs.size := fun t ht => by
  have : ∃ sp, (t, sp) ∈ tabSpec := by
    simp only [Tabs, List.mem_cons, List.mem_nil_iff, or_false] at ht
    rcases ht with rfl | rfl | rfl
    · exact ⟨_, .head _⟩
    · exact ⟨_, .tail _ (.head _)⟩
    · exact ⟨_, .tail _ (.tail _ (.head _))⟩
  obtain ⟨sp, hs⟩ := this
  obtain ⟨ps, e, _⟩ := H.t _ hs
  exact Heap.lt_size e
theorem mem_tabs {q} (hq : q ∈ tabSpec) : q.1 ∈ Tabs := by
  simp only [tabSpec, List.mem_cons, List.mem_nil_iff, or_false] at hq
  rcases hq with rfl | rfl | rfl <;> simp
/-- the heap has changed at the frame or at one own object alone, or has grown -/
theorem Base.step (H : Base w os Z s) {h' : Heap} (tk : Nat) (htk : 0 < tk) {a : Addr} (ha : a ∉ Tabs) (hz : ∀ b o, Z b o → b ≠ a) (hs : ∀ b, b ≠ a → b < s.heap.objs.size → h'.get? b = s.heap.get? b) :
    Base w os Z { s with heap := h', toks := tk } where
  wd := H.wd
  frz := fun b o e => (hs b (hz b o e) (Heap.lt_size (H.frz b o e))).trans (H.frz b o e)
  zt := H.zt
  t := fun q hq => (H.t q hq).mono (fun _ _ e => e) (hs _ (fun e => ha (e ▸ mem_tabs hq)) (H.tlt _ (mem_tabs hq)))
  os := H.os
  bare := H.bare
  tk := htk
theorem push_old {h : Heap} {b : Addr} (o : Obj) (hb : b < h.objs.size) : (h.push o).get? b = h.get? b := by
  cases e : h.get? b with
  | some o' => exact Heap.get?_push_of_some o e
  | none =>
    cases e' : (h.push o).get? b with
    | none => rfl
    | some o' =>
      obtain ⟨e1, e2⟩ := Heap.get?_some_iff.mp e'
      have : h.get? b = some o' := Heap.get?_some_iff.mpr ⟨by
        have hne : b ≠ h.objs.size := Nat.ne_of_lt hb
        cases h; simpa [Heap.push, Array.getElem?_push, hne] using e1, e2⟩
      rw [this] at e; cases e
/-- a new object, kept as one's own -/
theorem St.alloc (H : St w os B Z₀ Z L m l s) (o : Obj) (hf : o.isFreed = false) (hp : p o) :
    St w os B Z₀ Z L m ((s.heap.objs.size, p) :: l) { s with heap := s.heap.push o } := by
  have hlt := H.lt
  have hno : s.heap.objs.size ∉ L :: l.map (·.1) := fun h => Nat.lt_irrefl _ (hlt _ h)
  have hb : Base w os Z { s with heap := s.heap.push o } := by
    have := H.toBase.step (h' := s.heap.push o) s.toks H.tk (a := s.heap.objs.size) (fun h => Nat.lt_irrefl _ (H.toBase.tlt _ h))
      (fun b o e => Nat.ne_of_lt (Heap.lt_size (H.frz b o e))) (fun b _ hb => push_old o hb)
    exact this
  refine { hb with ns := H.ns.push o, own := ?_, nd := ?_, nt := ?_, lo := ?_, nz := ?_, keep := fun b o' e => Heap.get?_push_of_some _ (H.keep b o' e), nb := ?_, bt := H.bt, newz := H.newz, le := H.le }
  · intro q hq
    rcases List.mem_cons.mp hq with rfl | hq
    · exact ⟨o, Heap.get?_push_size _ hf, hp⟩
    · obtain ⟨o', h1, h2⟩ := H.own q hq
      exact ⟨o', Heap.get?_push_of_some _ h1, h2⟩
  · have := H.nd
    simp only [List.map_cons, List.nodup_cons, List.mem_cons, not_or] at this hno ⊢
    exact ⟨⟨fun e => hno.1 e.symm, this.1⟩, hno.2, this.2⟩
  · intro t ht h
    rcases List.mem_cons.mp h with e | h
    · exact H.nt t ht (e ▸ .head _)
    · rcases List.mem_cons.mp h with e | h
      · have e : t = s.heap.objs.size := e
        exact Nat.lt_irrefl _ (e ▸ H.toBase.tlt t ht)
      · exact H.nt t ht (.tail _ h)
  · intro x h
    rcases List.mem_cons.mp h with e | h
    · exact H.lo x (e ▸ .head _)
    · rcases List.mem_cons.mp h with e | h
      · have e : x = s.heap.objs.size := e
        exact e ▸ H.toBase.tlt 68 (by simp)
      · exact H.lo x (.tail _ h)
  · intro b o' e h
    rcases List.mem_cons.mp h with e' | h
    · exact H.nz b o' e (e' ▸ .head _)
    · rcases List.mem_cons.mp h with e' | h
      · have e' : b = s.heap.objs.size := e'
        exact Nat.lt_irrefl _ (e' ▸ Heap.lt_size (H.frz b o' e))
      · exact H.nz b o' e (.tail _ h)
  · intro b o' e h
    rcases List.mem_cons.mp h with e' | h
    · exact H.nb b o' e (e' ▸ .head _)
    · rcases List.mem_cons.mp h with e' | h
      · have e' : b = s.heap.objs.size := e'
        exact Nat.lt_irrefl _ (e' ▸ Heap.lt_size (H.keep b o' e))
      · exact H.nb b o' e (.tail _ h)
/-- an own object changes -/
theorem St.mut (H : St w os B Z₀ Z L m l s) (U : Up l a p p' l') {h' : Heap} (tk : Nat) (htk : 0 < tk) (hs : Heap.SameBut a s.heap h') (hp : ∃ o, h'.get? a = some o ∧ p' o) :
    St w os B Z₀ Z L m l' { s with heap := h', toks := tk } := by
  have ham : a ∈ L :: l.map (·.1) := .tail _ (List.mem_map_of_mem (f := (·.1)) U.mem)
  have haL : L ≠ a := fun e => (List.nodup_cons.mp H.nd).1 (e ▸ List.mem_map_of_mem (f := (·.1)) U.mem)
  have hb : Base w os Z { s with heap := h', toks := tk } := H.toBase.step tk htk (a := a) (fun h => H.nt a h ham) (fun b o e h => H.nz b o e (h ▸ ham)) (fun b hb _ => hs.2 b hb)
  have ea := U.addrs
  refine { hb with ns := H.ns.sameBut hs haL, own := ?_, nd := (by rw [ea]; exact H.nd), nt := (by rw [ea]; exact H.nt), lo := (by rw [ea]; exact H.lo), nz := (by rw [ea]; exact H.nz), keep := fun b o e => (hs.2 b (fun h => H.nb b o e (h ▸ ham))).trans (H.keep b o e), nb := (by rw [ea]; exact H.nb), bt := H.bt, newz := H.newz, le := H.le }
  intro q hq
  rcases U.case (List.nodup_cons.mp H.nd).2 q hq with rfl | ⟨h1, h2⟩
  · exact hp
  · obtain ⟨o, h3, h4⟩ := H.own q h1
    exact ⟨o, (hs.2 _ h2).trans h3, h4⟩
/-- the frame changes -/
theorem St.frame (H : St w os B Z₀ Z L m l s) {h' : Heap} (tk : Nat) (htk : 0 < tk) (hn : h'.Ns L m') (hs : Heap.SameBut L s.heap h') : St w os B Z₀ Z L m' l { s with heap := h', toks := tk } := by
  have hb : Base w os Z { s with heap := h', toks := tk } := H.toBase.step tk htk (a := L) (fun h => H.nt L h (.head _)) (fun b o e h => H.nz b o e (h ▸ .head _)) (fun b hb _ => hs.2 b hb)
  refine { hb with ns := hn, own := ?_, nd := H.nd, nt := H.nt, lo := H.lo, nz := H.nz, keep := fun b o e => (hs.2 b (fun h => H.nb b o e (h ▸ .head _))).trans (H.keep b o e), nb := H.nb, bt := H.bt, newz := H.newz, le := H.le }
  intro q hq
  obtain ⟨o, h3, h4⟩ := H.own q hq
  exact ⟨o, (hs.2 _ (fun h => (List.nodup_cons.mp H.nd).1 (h ▸ List.mem_map_of_mem (f := (·.1)) hq))).trans h3, h4⟩
/-- an own object is frozen -/
theorem St.freeze (H : St w os B Z₀ Z L m l s) (U : Rem l a p l') : ∃ Z', (∀ b o, Z b o → Z' b o) ∧ (∃ o, Z' a o ∧ p o) ∧ St w os B Z₀ Z' L m l' s := by
  obtain ⟨oa, ha, hpa⟩ := H.own _ U.mem
  have ham : a ∈ L :: l.map (·.1) := .tail _ (List.mem_map_of_mem (f := (·.1)) U.mem)
  have sub : (L :: l'.map (·.1)).Sublist (L :: l.map (·.1)) := U.subl.cons_cons _
  have hle : ∀ b o, Z b o → Z b o ∨ (b = a ∧ o = oa) := fun b o e => .inl e
  refine ⟨fun b o => Z b o ∨ (b = a ∧ o = oa), hle, ⟨oa, .inr ⟨rfl, rfl⟩, hpa⟩,
    { wd := H.wd.mono hle, frz := ?_, zt := ?_, t := fun q hq => (H.t q hq).mono hle rfl, os := H.os, bare := H.bare, tk := H.tk, ns := H.ns, own := fun q hq => H.own q (U.sub q hq), nd := H.nd.sublist sub,
      nt := fun t ht h => H.nt t ht (sub.subset h), lo := fun x h => H.lo x (sub.subset h), nz := ?_, keep := H.keep, nb := fun b o e h => H.nb b o e (sub.subset h), bt := H.bt, newz := ?_, le := fun b o e => .inl (H.le b o e) }⟩
  · rintro b o (e | ⟨rfl, rfl⟩)
    · exact H.frz b o e
    · exact ha
  · rintro b o (e | ⟨rfl, rfl⟩)
    · exact H.zt b o e
    · exact fun h => H.nt _ h ham
  · rintro b o (e | ⟨rfl, rfl⟩)
    · exact fun h => H.nz b o e (sub.subset h)
    · intro h
      rcases List.mem_cons.mp h with e | h
      · exact (List.nodup_cons.mp H.nd).1 (e ▸ List.mem_map_of_mem (f := (·.1)) U.mem)
      · exact U.not (List.nodup_cons.mp H.nd).2 h
  · rintro b o (e | ⟨rfl, rfl⟩)
    · exact H.newz b o e
    · exact .inr fun o' e => H.nb _ _ e ham
/-- an own object is forgotten -/
theorem St.drop (H : St w os B Z₀ Z L m l s) (U : Rem l a p l') : St w os B Z₀ Z L m l' s := by
  have sub : (L :: l'.map (·.1)).Sublist (L :: l.map (·.1)) := U.subl.cons_cons _
  exact { H.toBase with ns := H.ns, own := fun q hq => H.own q (U.sub q hq), nd := H.nd.sublist sub, nt := fun t ht h => H.nt t ht (sub.subset h), lo := fun x h => H.lo x (sub.subset h), nz := fun b o e h => H.nz b o e (sub.subset h),
                        keep := H.keep, nb := fun b o e h => H.nb b o e (sub.subset h), bt := H.bt, newz := H.newz, le := H.le }
/-- behind a call -/
theorem St.call (H : St w os B Z₀ Z L m l s) (hb : Base w os Z' s') (hle : ∀ b o, Z b o → Z' b o) (hk : ∀ b o, b ∉ Tabs → s.heap.get? b = some o → s'.heap.get? b = some o)
    (hn : ∀ b o, Z' b o → Z b o ∨ s.heap.get? b = none) : St w os B Z₀ Z' L m l s' := by
  have hL : L ∉ Tabs := fun h => H.nt _ h (.head _)
  refine { hb with ns := ?_, own := ?_, nd := H.nd, nt := H.nt, lo := H.lo, nz := ?_, keep := fun b o e => hk b o (H.bt b o e) (H.keep b o e), nb := H.nb, bt := H.bt, newz := ?_, le := fun b o e => hle _ _ (H.le b o e) }
  · obtain ⟨o, es, ep, ho, r⟩ := H.ns
    exact ⟨o, es, ep, hk _ _ hL ho, r⟩
  · intro q hq
    obtain ⟨o, h1, h2⟩ := H.own q hq
    exact ⟨o, hk _ _ (fun h => H.nt _ h (.tail _ (List.mem_map_of_mem (f := (·.1)) hq))) h1, h2⟩
  · intro b o e h
    rcases hn b o e with e | e
    · exact H.nz b o e h
    · rcases List.mem_cons.mp h with rfl | h
      · obtain ⟨o, es, ep, ho, r⟩ := H.ns
        rw [ho] at e; cases e
      · obtain ⟨q, hq, rfl⟩ := List.mem_map.mp h
        obtain ⟨o, h1, h2⟩ := H.own q hq
        rw [h1] at e; cases e
  · intro b o e
    rcases hn b o e with e | e
    · exact H.newz b o e
    · exact .inr fun o' h => by rw [H.keep b o' h] at e; cases e
theorem St.back {Res : Fz → Value → Prop} {Q : Value → Shared → Prop} (H : St w os B Z₀ Z L m l s) (h : ∀ s' Z' v, St w os B Z₀ Z' L m l s' → (∀ b o, Z b o → Z' b o) → Res Z' v → Q v s') :
    Post w os Z s Res Q := fun s' Z' v hb hle hk hn hr => h s' Z' v (H.call hb hle hk hn) hle hr
/-- into a def's frame -/
theorem Base.enter (H : Base w os Z s) {h₁ : Heap} (tk : Nat) (htk : 0 < tk) {L : Addr} (hL : s.heap.objs.size ≤ L) (hn : h₁.Ns L m) (hk : ∀ b o, s.heap.get? b = some o → h₁.get? b = some o) :
    St w os (fun b o => s.heap.get? b = some o ∧ b ∉ Tabs) Z Z L m [] { s with heap := h₁, toks := tk } := by
  have hne : ∀ b o, s.heap.get? b = some o → b ≠ L := fun b o e => Nat.ne_of_lt (Nat.lt_of_lt_of_le (Heap.lt_size e) hL)
  refine { wd := H.wd, frz := fun b o e => hk b o (H.frz b o e), zt := H.zt, t := ?_, os := H.os, bare := H.bare, tk := htk, ns := hn, own := fun q hq => (nomatch hq), nd := by simp, nt := ?_, lo := ?_, nz := ?_,
           keep := fun b o e => hk b o e.1, nb := ?_, bt := fun b o e => e.2, newz := fun b o e => .inl e, le := fun b o e => e }
  · intro q hq
    obtain ⟨ps, a, r⟩ := H.t q hq
    exact ⟨ps, hk _ _ a, r⟩
  · intro t ht h
    simp only [List.map_nil, List.mem_cons, List.not_mem_nil, or_false] at h
    exact Nat.lt_irrefl _ (Nat.lt_of_lt_of_le (h ▸ H.tlt t ht) hL)
  · intro x h
    simp only [List.map_nil, List.mem_cons, List.not_mem_nil, or_false] at h
    exact h ▸ Nat.lt_of_lt_of_le (H.tlt 68 (by simp)) hL
  · intro b o e h
    simp only [List.map_nil, List.mem_cons, List.not_mem_nil, or_false] at h
    exact hne b o (H.frz b o e) h
  · intro b o e h
    simp only [List.map_nil, List.mem_cons, List.not_mem_nil, or_false] at h
    exact hne b o e.1 h
/-- out of it -/
theorem St.leave {Res : Fz → Value → Prop} {Q : Value → Shared → Prop} {v : Value} {s₀ : Shared} (H : St w os (fun b o => s₀.heap.get? b = some o ∧ b ∉ Tabs) Z₀ Z L m l s)
    (hP : Post w os Z₀ s₀ Res Q) (hr : Res Z v) : Q v s := by
  refine hP s Z v H.toBase H.le (fun b o ht e => H.keep b o ⟨e, ht⟩) (fun b o e => (H.newz b o e).imp id fun h => ?_) hr
  cases e' : s₀.heap.get? b with
  | none => rfl
  | some o' => exact (h o' ⟨e', H.zt b o e⟩).elim
theorem St.get (H : St w os B Z₀ Z L m l s) (hm : (a, p) ∈ l) : ∃ o, s.heap.get? a = some o ∧ p o := H.own _ hm
theorem St.lim (H : Base w os Z s) : s.heap.NoLimit := let ⟨mc, a, b⟩ := H.wd.lim; ⟨mc, a.ns H.frz, b⟩
end
def upd (m : Str → Option Value) (x : Str) (v : Value) : Str → Option Value := fun y => if y = x then some v else m y
theorem upd_self {m : Str → Option Value} {x : Str} {v : Value} : upd m x v x = some v := if_pos rfl
theorem upd_ne {m : Str → Option Value} {x y : Str} {v : Value} {r : Option Value} (h : (y == x) = false) (e : m y = r) : upd m x v y = r := by
  show (if y = x then some v else m y) = r
  rw [if_neg (fun e => by rw [e] at h; simp at h)]; exact e
def pL (vs : List Value) (o : Obj) : Prop := ∃ n, o = listOf vs.toArray n
def pT (vs : List Value) (o : Obj) : Prop := ∃ n, o = { cls := .type "tuple", data := .seq vs.toArray n }
def pCell (v : Option Value) (o : Obj) : Prop := o.data = .cell v
theorem pL.list {h : Heap} {a : Addr} {vs : List Value} (x : ∃ o, h.get? a = some o ∧ pL vs o) : h.IsList a vs.toArray := by
  obtain ⟨o, e, n, rfl⟩ := x; exact ⟨_, e, rfl, n, rfl⟩
theorem pT.tup {h : Heap} {a : Addr} {vs : List Value} (x : ∃ o, h.get? a = some o ∧ pT vs o) : IsTup h a vs.toArray := by
  obtain ⟨o, e, n, rfl⟩ := x; exact ⟨_, e, rfl, n, rfl⟩
theorem pCell.cell {h : Heap} {a : Addr} {v : Option Value} (x : ∃ o, h.get? a = some o ∧ pCell v o) : h.IsCell a v := by
  obtain ⟨o, e, h⟩ := x; exact ⟨_, e, h⟩
/-- what stands at an address: one's own, or frozen -/
def Has (Z : Fz) (l : Led) (a : Addr) (p : Obj → Prop) : Prop := (a, p) ∈ l ∨ ∃ o, Z a o ∧ p o
section
variable {prog : Program} {w : World} {os : OsState} {B Z₀ Z Z' : Fz} {L a c : Addr} {m m' : Str → Option Value} {l l' : Led} {s s' : Shared} {p p' : Obj → Prop} {A : Around} {E : Value → Shared → Prop} {env : Env}
  {x y : Str} {v : Value} {pos : Pos}
theorem St.has (H : St w os B Z₀ Z L m l s) (h : Has Z l a p) : ∃ o, s.heap.get? a = some o ∧ p o := by
  rcases h with h | ⟨o, h, hp⟩
  · exact H.own _ h
  · exact ⟨o, H.frz _ _ h, hp⟩
theorem St.list (H : St w os B Z₀ Z L m l s) {vs : List Value} (h : Has Z l a (pL vs)) : s.heap.IsList a vs.toArray := pL.list (H.has h)
theorem St.tup (H : St w os B Z₀ Z L m l s) {vs : List Value} (h : Has Z l a (pT vs)) : IsTup s.heap a vs.toArray := pT.tup (H.has h)
theorem St.tok1 (H : St w os B Z₀ Z L m l s) : St w os B Z₀ Z L m l { s with toks := s.toks + 1 } := H.toks _ (Nat.succ_pos _)
/-! names -/
theorem nameL {Q : Value → Shared → Prop} (H : St w os B Z₀ Z L m l s) (hv : m x = some v) (h : Q v s)
    (hk : env.scope.kind = .function := by rfl) (hl : env.kindOf x = some .local := by rfl) (hL : env.locals = L := by rfl) (hd : (x == ("__debug__" : Str)) = false := by decide) :
    wpAny (model prog w) A (eval (.Name x pos) env) Q E s := by subst hL; exact wpAny_Name (wpAny_loadName_local hk hl H.ns hv h) hd
theorem nameC {Q : Value → Shared → Prop} (H : St w os B Z₀ Z L m l s) (hc : env.cells.lookup x = some c) (hv : Has Z l c (pCell (some v))) (h : Q v s)
    (hk : env.scope.kind = .function := by rfl) (hl : env.kindOf x = some .cell := by rfl) (hd : (x == ("__debug__" : Str)) = false := by decide) :
    wpAny (model prog w) A (eval (.Name x pos) env) Q E s := wpAny_Name (wpAny_loadName_cell hk hl hc (pCell.cell (H.has hv)) h) hd
theorem nameF {Q : Value → Shared → Prop} (H : St w os B Z₀ Z L m l s) (hc : env.cells.lookup x = some c) (hv : Has Z l c (pCell (some v))) (h : Q v s)
    (hk : env.scope.kind = .function := by rfl) (hl : env.kindOf x = some .free := by rfl) (hd : (x == ("__debug__" : Str)) = false := by decide)
    (hn : (x == ("__classdict__" : Str)) = false := by decide) :
    wpAny (model prog w) A (eval (.Name x pos) env) Q E s := wpAny_Name (wpAny_loadName_free hk hl hc (pCell.cell (H.has hv)) h hn) hd
theorem Wd.in {P : Params} {Z : Fz} {h : Heap} (W : Wd P Z) (k : ∀ b o, Z b o → h.get? b = some o) : (KH P).In h := fun a o e => k a o (W.k a o e)
theorem nameG {Q : Value → Shared → Prop} (H : Base w os Z s) (e : nsIn (KH w.params) mainGlobals x = some (some v)) (h : Q v s)
    (hk : env.scope.kind = .function := by rfl) (hl : env.kindOf x = some .globalImplicit := by rfl) (hg : env.globals = mainGlobals := by rfl) (hd : (x == ("__debug__" : Str)) = false := by decide) :
    wpAny (model prog w) A (eval (.Name x pos) env) Q E s := by
  obtain ⟨mg, mb, a, b, cc, _⟩ := H.wd.ns
  have G := a.ns H.frz
  rw [← hg] at G
  exact Name_function_global hk hl (loadGlobal_global G (mg_of (H.wd.in H.frz) (a.ns H.frz) e) h) hd
theorem nameB {Q : Value → Shared → Prop} (H : Base w os Z s) (e : nsIn (KH w.params) mainGlobals x = some none) (hb : bootBuiltins x = some v) (h : Q v s) (hn : x ≠ "__name__" := by decide)
    (hk : env.scope.kind = .function := by rfl) (hl : env.kindOf x = some .globalImplicit := by rfl) (hg : env.globals = mainGlobals := by rfl) (hbb : env.builtins = builtinsNs := by rfl)
    (hd : (x == ("__debug__" : Str)) = false := by decide) :
    wpAny (model prog w) A (eval (.Name x pos) env) Q E s := by
  obtain ⟨mg, mb, a, b, cc, _⟩ := H.wd.ns
  have G := a.ns H.frz
  have G' := b.ns H.frz
  rw [← hg] at G
  rw [← hbb] at G'
  exact Name_function_global hk hl (loadGlobal_builtin G (mg_none_of (H.wd.in H.frz) (a.ns H.frz) e) G' ((cc x hn).trans hb) h) hd
/-! stores -/
theorem storeL {Q : Unit → Shared → Prop} (H : St w os B Z₀ Z L m l s) (h : ∀ s', St w os B Z₀ Z L (upd m x v) l s' → Q () s')
    (hl : env.kindOf x = some .local := by rfl) (hL : env.locals = L := by rfl)
    (hp : (env.scope.kind == .class || (env.scope.kind == .module && env.locals != env.globals)) = false := by rfl) : wpAny (model prog w) A (storeName env x v) Q E s := by
  subst hL
  exact wpAny_storeName_local hl H.ns (fun h' hn hs => h _ (H.frame _ (Nat.succ_pos _) hn hs)) hp
theorem storeC {Q : Unit → Shared → Prop} {v₀ : Option Value} (H : St w os B Z₀ Z L m l s) (hc : env.cells.lookup x = some c) (U : Up l c (pCell v₀) (pCell (some v)) l') (h : ∀ s', St w os B Z₀ Z L m l' s' → Q () s')
    (hk : env.scope.kind = .function := by rfl) (hl : env.kindOf x = some .cell := by rfl) : wpAny (model prog w) A (storeName env x v) Q E s := by
  obtain ⟨o, e, hd⟩ := H.own _ U.mem
  refine wpAny_storeName_cell hk hl hc ⟨o, e, hd⟩ fun h' hc' hs' => h _ ?_
  obtain ⟨o', e', hd'⟩ := hc'
  exact H.mut U s.toks H.tk hs' ⟨o', e', hd'⟩
/-! constants -/
theorem constS {Q : Value → Shared → Prop} {k : Nat} (H : St w os B Z₀ Z L m l s) (h : ∀ s' t, St w os B Z₀ Z L m l s' → Q (.str x t) s') : wpAny (model prog w) A (eval (.Constant (.str x) k pos) env) Q E s :=
  wpAny_Constant_str (h _ _ H.tok1)
theorem constI {Q : Value → Shared → Prop} {i : Int} {k : Nat} (H : St w os B Z₀ Z L m l s) (h : ∀ s' t, St w os B Z₀ Z L m l s' → Q (.int i t) s') : wpAny (model prog w) A (eval (.Constant (.int i) k pos) env) Q E s :=
  wpAny_Constant_int (h _ _ H.tok1)
/-! lists and tuples -/
theorem newL {Q : Value → Shared → Prop} {vs : List Value} (H : St w os B Z₀ Z L m l s) (h : ∀ s' a, St w os B Z₀ Z L m ((a, pL vs) :: l) s' → Q (.ref a) s') (hsz : vs.length ≤ sizeLine := by size_fits) :
    wpAny (model prog w) A (newList vs) Q E s :=
  wpAny_newObj_type (h _ _ (H.alloc _ rfl ⟨0, rfl⟩)) (by show vs.toArray.size ≤ sizeLine; rw [List.size_toArray]; exact hsz)
theorem newT {Q : Value → Shared → Prop} {vs : List Value} (H : St w os B Z₀ Z L m l s) (h : ∀ s' a, St w os B Z₀ Z L m ((a, pT vs) :: l) s' → Q (.ref a) s') (hsz : vs.length ≤ sizeLine := by size_fits) :
    wpAny (model prog w) A (newTuple vs) Q E s :=
  wpAny_newObj_type (h _ _ (H.alloc _ rfl ⟨0, rfl⟩)) (by show vs.toArray.size ≤ sizeLine; rw [List.size_toArray]; exact hsz)
/-! methods -/
theorem meth0 {o : Expr} {name : Str} {apos : Pos} {T id : String} {Q : Value → Shared → Prop} (pa : PlainAttrs T) (slot : Slot T name id) (hty : typeOf (.builtin id) = pure (.type "method_descriptor"))
    (h : wpAny (model prog w) A (eval o env) (fun ov s₁ => s₁.TypeIs ov T ∧ (∀ a, ov = .ref a → ∃ ob, s₁.heap.get? a = some ob ∧ ob.dict = none) ∧ wpAny (model prog w) A (call (.builtin id) [ov]) Q E s₁) E s)
    (hbase : attributeBase o name env (eval o env) = eval o env := by rfl) (hline : (apos.endLine == pos.line) = true := by rfl) :
    wpAny (model prog w) A (eval (.Call (.Attribute o name apos) [] [] pos) env) Q E s :=
  wpAny_Call_method hbase rfl hline pa slot hty (wpAny_mono h (fun ov s₁ h₁ => ⟨h₁.1, h₁.2.1, callWith_builtin rfl (evalArgs_nil3 h₁.2.2)⟩) fun _ _ x => x)
theorem meth1 {o e : Expr} {name : Str} {apos : Pos} {T id : String} {Q : Value → Shared → Prop} (pa : PlainAttrs T) (slot : Slot T name id) (hty : typeOf (.builtin id) = pure (.type "method_descriptor"))
    (h : wpAny (model prog w) A (eval o env) (fun ov s₁ => s₁.TypeIs ov T ∧ (∀ a, ov = .ref a → ∃ ob, s₁.heap.get? a = some ob ∧ ob.dict = none) ∧
      wpAny (model prog w) A (eval e env) (fun v s₂ => wpAny (model prog w) A (call (.builtin id) [ov, v]) Q E s₂) E s₁) E s)
    (hs : starEach [e] env = [(false, eval e env)] := by rfl)
    (hbase : attributeBase o name env (eval o env) = eval o env := by rfl) (hline : (apos.endLine == pos.line) = true := by rfl) :
    wpAny (model prog w) A (eval (.Call (.Attribute o name apos) [e] [] pos) env) Q E s := by
  refine wpAny_Call_method hbase (by rw [hs]; rfl) hline pa slot hty (wpAny_mono h (fun ov s₁ h₁ => ⟨h₁.1, h₁.2.1, ?_⟩) fun _ _ x => x)
  rw [hs]
  refine callWith_builtin rfl (evalArgs_plain ?_)
  show wpAny _ _ (do let v ← eval e env; let here ← (pure [v] : Sem (List Value)); return here ++ (← holding here (spliced []))) _ _ _
  exact wpAny_bind (wpAny_mono h₁.2.2 (fun v s₂ h₂ => wpAny_bind (wpAny_pure (wpAny_bind (wpAny_holding (wpAny_pure (wpAny_pure h₂)))))) fun _ _ x => x)
theorem meth2 {o e e' : Expr} {name : Str} {apos : Pos} {T id : String} {Q : Value → Shared → Prop} (pa : PlainAttrs T) (slot : Slot T name id) (hty : typeOf (.builtin id) = pure (.type "method_descriptor"))
    (h : wpAny (model prog w) A (eval o env) (fun ov s₁ => s₁.TypeIs ov T ∧ (∀ a, ov = .ref a → ∃ ob, s₁.heap.get? a = some ob ∧ ob.dict = none) ∧
      wpAny (model prog w) A (eval e env) (fun v s₂ => wpAny (model prog w) A (eval e' env) (fun v' s₃ => wpAny (model prog w) A (call (.builtin id) [ov, v, v']) Q E s₃) E s₂) E s₁) E s)
    (hs : starEach [e, e'] env = [(false, eval e env), (false, eval e' env)] := by rfl)
    (hbase : attributeBase o name env (eval o env) = eval o env := by rfl) (hline : (apos.endLine == pos.line) = true := by rfl) :
    wpAny (model prog w) A (eval (.Call (.Attribute o name apos) [e, e'] [] pos) env) Q E s := by
  refine wpAny_Call_method hbase (by rw [hs]; rfl) hline pa slot hty (wpAny_mono h (fun ov s₁ h₁ => ⟨h₁.1, h₁.2.1, ?_⟩) fun _ _ x => x)
  rw [hs]
  refine callWith_builtin rfl (evalArgs_plain ?_)
  show wpAny _ _ (do let v ← eval e env; let here ← (pure [v] : Sem (List Value)); return here ++ (← holding here (do let v ← eval e' env; let here ← (pure [v] : Sem (List Value)); return here ++ (← holding here (spliced []))))) _ _ _
  exact wpAny_bind (wpAny_mono h₁.2.2 (fun v s₂ h₂ => wpAny_bind (wpAny_pure (wpAny_bind (wpAny_holding (wpAny_bind (wpAny_mono h₂ (fun v' s₃ h₃ => wpAny_bind (wpAny_pure (wpAny_bind (wpAny_holding (wpAny_pure (wpAny_pure (wpAny_pure h₃))))))) fun _ _ x => x)))))) fun _ _ x => x)
theorem plain_of {h : Heap} {a : Addr} {o : Obj} (e : h.get? a = some o) (hd : o.dict = none) : ∀ b, Value.ref a = .ref b → ∃ ob, h.get? b = some ob ∧ ob.dict = none := fun b q => by cases q; exact ⟨o, e, hd⟩
/-! list methods -/
theorem append {Q : Value → Shared → Prop} {vs : List Value} (H : St w os B Z₀ Z L m l s) (U : Up l a (pL vs) (pL (vs ++ [v])) l') (h : ∀ s', St w os B Z₀ Z L m l' s' → Q .none s')
    (hsz : vs.length ≤ sizeLine := by size_fits) : wpAny (model prog w) A (call (.builtin "list.append") [.ref a, v]) Q E s := by
  obtain ⟨o, e, n, rfl⟩ := H.own _ U.mem
  refine append_at (hsz := by rw [List.size_toArray]; exact hsz) e fun h' hs ho' => h _ (H.mut U s.toks H.tk hs ⟨_, ho', n + 1, by simp⟩)
/-! items -/
theorem itemL {value slice : Expr} {Q : Value → Shared → Prop} {vs : List Value} {k : Int} {u : Tok} (H : St w os B Z₀ Z L m l s) (hh : Has Z l a (pL vs)) (h0 : 0 ≤ k) (h1 : k < 2 ^ 63) (hx : vs[k.toNat]? = some v) (h : Q v s)
    (hs : subscripted slice false (.ref a) (.int k u) = operate [.ref a, .int k u] (getItem (.ref a) (.int k u)) := by with_unfolding_all rfl) : wpAny (model prog w) A (subscriptTail value slice (.ref a) (.int k u)) Q E s :=
  have hL := H.list hh
  tail_any hL.typeIs slot_list_getitem.lookup (wpAny_getItem_list hL h0 h1 (by simpa using hx) h) hs
theorem itemLneg {value slice : Expr} {Q : Value → Shared → Prop} {vs : List Value} {k : Int} {u : Tok} (H : St w os B Z₀ Z L m l s) (hh : Has Z l a (pL vs)) (h0 : k < 0) (h1 : -(vs.length : Int) ≤ k) (h2 : -(2 ^ 63) ≤ k) (hx : vs[(k + vs.length).toNat]? = some v) (h : Q v s)
    (hs : subscripted slice false (.ref a) (.int k u) = operate [.ref a, .int k u] (getItem (.ref a) (.int k u)) := by with_unfolding_all rfl) : wpAny (model prog w) A (subscriptTail value slice (.ref a) (.int k u)) Q E s :=
  have hL := H.list hh
  tail_any hL.typeIs slot_list_getitem.lookup (wpAny_getItem_list_neg hL h0 (by simpa using h1) h2 (by simpa using hx) h) hs
theorem itemT {value slice : Expr} {Q : Value → Shared → Prop} {vs : List Value} {k : Int} {u : Tok} {j : Nat} (H : St w os B Z₀ Z L m l s) (hh : Has Z l a (pT vs)) (h0 : -(2 ^ 63) ≤ k) (h1 : k < 2 ^ 63) (hj : seqIndex? k vs.length = some j) (hx : vs[j]? = some v) (h : Q v s)
    (hs : subscripted slice false (.ref a) (.int k u) = operate [.ref a, .int k u] (getItem (.ref a) (.int k u)) := by with_unfolding_all rfl) : wpAny (model prog w) A (subscriptTail value slice (.ref a) (.int k u)) Q E s :=
  item_tupleT (H.tup hh) h0 h1 hj hx h hs
theorem setL {Q : Unit → Shared → Prop} {vs : List Value} {k : Int} {u : Tok} (H : St w os B Z₀ Z L m l s) (U : Up l a (pL vs) (pL (vs.set k.toNat v)) l') (h0 : 0 ≤ k) (h1 : k < 2 ^ 63) (hn : k < vs.length)
    (h : ∀ s', St w os B Z₀ Z L m l' s' → Q () s') : wpAny (model prog w) A (setItem (.ref a) (.int k u) v) Q E s := by
  obtain ⟨o, e, n, rfl⟩ := H.own _ U.mem
  refine ki_setAt (n := n) e h0 h1 (by rw [List.size_toArray]; exact hn) (h _ ?_)
  refine H.mut U s.toks H.tk (Heap.SameBut.update ..) ⟨_, Heap.get?_update_self _ e rfl, n, ?_⟩
  simp [Obj.mapSeq]
/-! truth -/
theorem truthS {Q : Bool → Shared → Prop} {t : Tok} (H : St w os B Z₀ Z L m l s) (hx : x.length ≤ 16777216) (h : ∀ s', St w os B Z₀ Z L m l s' → Q (x.length != 0) s') : wpAny (model prog w) A (truthy (.str x t)) Q E s := by
  refine P.truthy_str (by omega) ?_
  rw [show ((x.length : Int) != 0) = (x.length != 0) from by cases hh : x.length <;> simp <;> omega]
  exact h _ (H.toks _ (Nat.succ_pos _))
theorem truthL {Q : Bool → Shared → Prop} {vs : List Value} (H : St w os B Z₀ Z L m l s) (hh : Has Z l a (pL vs)) (hx : vs.length < 2 ^ 62) (h : ∀ s', St w os B Z₀ Z L m l s' → Q (!vs.isEmpty) s') : wpAny (model prog w) A (truthy (.ref a)) Q E s := by
  refine wpAny_truthy_list (H.list hh) (by rw [List.size_toArray]; omega) ?_
  rw [show vs.toArray.isEmpty = vs.isEmpty from by cases vs <;> rfl]
  exact h _ (H.toks _ (Nat.succ_pos _))
end
/-- room for n more frames -/
structure Rm (A : Around) (n : Nat) : Prop where
  hd : A.handled = none
  dp : A.depth + n < recursionLimit
  un : A.units + 20 * n < cLine
theorem Rm.le {A : Around} {n k : Nat} (h : Rm A n) (hk : k ≤ n) : Rm A k := ⟨h.hd, by have := h.dp; omega, by have := h.un; omega⟩
theorem Rm.deeper {A : Around} {n : Nat} {env : Env} (h : Rm A (n + 1)) : Rm (A.deeper env) n := ⟨h.hd, by have := h.dp; show A.depth + 1 + n < _; omega, by have := h.un; show A.units + 3 + 20 * n < _; omega⟩
theorem Rm.in1 {A : Around} {n : Nat} (h : Rm A (n + 1)) : Rm A.in1 n := ⟨h.hd, by have := h.dp; show A.depth + n < _; omega, by have := h.un; show A.units + 1 + 20 * n < _; omega⟩
section
variable {prog : Program} {w : World} {os : OsState} {B Z₀ Z Z' : Fz} {L a c f : Addr} {m m' : Str → Option Value} {l l' : Led} {s s' : Shared} {p p' : Obj → Prop} {A : Around} {E : Value → Shared → Prop} {env : Env}
  {x y : Str} {v : Value} {pos : Pos} {name qual : Str} {params : Arguments} {body : List Stmt} {scope : Scope} {dV kV doc pm cdv ct oc : Value} {an od : Option Addr} {osl : Array (Option Value)} {vs : List Value} {kw : List (Str × Value)}
  {binds : List (Str × Value)} {Q : Value → Shared → Prop}
abbrev Below0 (s : Shared) : Fz := fun b o => s.heap.get? b = some o ∧ b ∉ Tabs
/-- a def of the top is entered -/
theorem enter (hA : A.depth < recursionLimit) (H : Base w os Z s)
    (ho : (KH w.params).lookup f = some ⟨oc, od, .func (fnOf name qual params body scope dV kV doc pm an cdv ct), osl⟩) (hcd : codeIn (KH w.params) cdv qual = true)
    (hbind : BindsTo s (fnOf name qual params body scope dV kV doc pm an cdv ct) ⟨vs, kw⟩ binds) (hloc : (binds.all fun x => decide (scope.names.lookup x.1 = some .local)) = true)
    (h : ∀ s₁ L E', St w os (Below0 s) Z Z L (fun x => binds.reverse.lookup x) [] s₁ →
      wpAny (model prog w) (A.deeper (envX qual scope L f cdv [])) (execs body (envX qual scope L f cdv [])) (fun fl s' => Q (match fl with | .ret v => v | _ => .none) s') E' s₁)
    (hcell : ∀ x ∈ scope.names, x.2 ≠ .cell := by decide) (hco : scope.isCoroutine = false := by rfl) (hgen : scope.isGenerator = false := by rfl) (hk : scope.kind = .function := by rfl) :
    wpAny (model prog w) A (call (.ref f) vs kw) Q E s := by
  refine wpAny_call (codeAny_call_def (fd := fnOf name qual params body scope dV kV doc pm an cdv ct) (body := body) (binds := binds) hA (H.frz _ _ (H.wd.k _ _ ho)) rfl (St.lim H)
    (codeRec_of (H.wd.in H.frz) hcd) rfl hbind hcell (locs hloc) (fun h₀ hns hk => ?_) hco hgen hk)
  exact h _ s.heap.objs.size _ (H.enter _ (by have := H.tk; omega) (Nat.le_refl _) hns hk)
def CallThen (prog : Program) (w : World) (os : OsState) (A : Around) (E : Value → Shared → Prop) (f : Addr) (Q : Value → Shared → Prop) (vs : List Value) (s₁ : Shared) : Prop :=
  (∃ Z₁, Base w os Z₁ s₁) ∧ wpAny (model prog w) A (call (.ref f) vs) Q E s₁
/-- a call of a def of the top, by its name -/
theorem callG {fn : Str} {pp : Pos} {e : Expr} {rest : List Expr} (H : Base w os Z s) (hG : nsIn (KH w.params) mainGlobals fn = some (some (.ref f)))
    (ho : (KH w.params).lookup f = some ⟨oc, od, .func (fnOf name qual params body scope dV kV doc pm an cdv ct), osl⟩)
    (h : wpAny (model prog w) A (spliced (backTo pos (starEach (e :: rest) env))) (CallThen prog w os A E f Q) E s)
    (he : starEach (e :: rest) env = (false, eval e env) :: starEach rest env := by rfl)
    (hk : env.scope.kind = .function := by rfl) (hl : env.kindOf fn = some .globalImplicit := by rfl) (hg : env.globals = mainGlobals := by rfl) (hd : (fn == ("__debug__" : Str)) = false := by decide) :
    wpAny (model prog w) A (eval (.Call (.Name fn pp) (e :: rest) [] pos) env) Q E s :=
  Call_Name rfl (nameG H hG (callWith_def (o := ⟨oc, od, .func (fnOf name qual params body scope dV kV doc pm an cdv ct), osl⟩) rfl
    (wpAny_mono h (fun vs s₁ h₁ => ⟨let ⟨Z₁, H₁⟩ := h₁.1; H₁.frz _ _ (H₁.wd.k _ _ ho), h₁.2⟩) fun _ _ x => x) he) hk hl hg hd)
theorem St.perm {l l' : Led} (H : St w os B Z₀ Z L m l s) (h : l.Perm l') : St w os B Z₀ Z L m l' s := by
  have hp : (L :: l.map (·.1)).Perm (L :: l'.map (·.1)) := (h.map _).cons _
  exact { H.toBase with ns := H.ns, own := fun q hq => H.own q (h.mem_iff.mpr hq), nd := hp.nodup_iff.mp H.nd, nt := fun t ht x => H.nt t ht (hp.mem_iff.mpr x), lo := fun y x => H.lo y (hp.mem_iff.mpr x), nz := fun b o e x => H.nz b o e (hp.mem_iff.mpr x),
                        keep := H.keep, nb := fun b o e x => H.nb b o e (hp.mem_iff.mpr x), bt := H.bt, newz := H.newz, le := H.le }
/-- all but one own object stay, which is forgotten; the heap may grow -/
theorem St.lose (H : St w os B Z₀ Z L m ((a, p) :: l) s) {h' : Heap} (tk : Nat) (htk : 0 < tk) (hx : Heap.ExtBut a s.heap h') : St w os B Z₀ Z L m l { s with heap := h', toks := tk } := by
  have ham : a ∈ L :: ((a, p) :: l).map (·.1) := .tail _ (.head _)
  have haL : L ≠ a := fun e => (List.nodup_cons.mp H.nd).1 (e ▸ .head _)
  have hal : a ∉ l.map (·.1) := (List.nodup_cons.mp (List.nodup_cons.mp H.nd).2).1
  have D := H.drop (.here : Rem ((a, p) :: l) a p l)
  refine { wd := H.wd, frz := fun b o e => hx b o (fun h => H.nz b o e (h ▸ ham)) (H.frz b o e), zt := H.zt, t := ?_, os := H.os, bare := H.bare, tk := htk, ns := H.ns.extBut hx haL, own := ?_, nd := D.nd, nt := D.nt, lo := D.lo, nz := D.nz,
           keep := fun b o e => hx b o (fun h => H.nb b o e (h ▸ ham)) (H.keep b o e), nb := D.nb, bt := H.bt, newz := H.newz, le := H.le }
  · intro q hq
    obtain ⟨ps, e, r⟩ := H.t q hq
    exact ⟨ps, hx _ _ (fun h => H.nt _ (mem_tabs hq) (h ▸ ham)) e, r⟩
  · intro q hq
    obtain ⟨o, h1, h2⟩ := D.own q hq
    exact ⟨o, hx _ _ (fun h => hal (h ▸ List.mem_map_of_mem (f := (·.1)) hq)) h1, h2⟩
/-! loops -/
/-- an iterator that keeps no tuple of its own -/
def okIter (o : Obj) : Prop := ∀ n, o.cls = .type n → ["enumerate", "zip", "dict_itemiterator", "dict_reverseitemiterator", "odict_iterator", "itertools.zip_longest", "itertools.pairwise"].contains n = false
theorem letOwned_ok {target : Expr} {I : Addr} {o : Obj} {v : Value} {Q : Unit → Shared → Prop} (ho : s.heap.get? I = some o) (hk : okIter o) (h : Q () s) : wpAny (model prog w) A (letOwnedTupleGo target (.ref I) v) Q E s := by
  have key : wpAny (model prog w) A (do
      let (.ref r, .ref a) := (Value.ref I, v) | return
      let o ← load r
      match o.cls, o.data with
      | .type n, .fields vs =>
        if ["enumerate", "zip", "dict_itemiterator", "dict_reverseitemiterator", "odict_iterator", "itertools.zip_longest", "itertools.pairwise"].contains n && vs[0]? == some (rawInt a) then
          rule "for.unpacks-the-owned-tuple"
          updateField r 0 .none
      | _, _ => pure ()) Q E s := by
    cases v <;> try exact wpAny_pure h
    rename_i a
    refine wpAny_bind (wpAny_load ho ?_)
    split
    · rename_i n vs hc hd
      rw [hk n hc]
      exact wpAny_pure h
    · exact wpAny_pure h
  unfold letOwnedTupleGo
  split
  · exact key
  · exact key
  · exact wpAny_pure h
structure Itr (prog : Program) (w : World) (Z : Fz) (I : Addr) (N : Nat) (item : Nat → Value → Prop) (SW : Nat → Heap → Prop) : Prop where
  fp : ∃ fp wr, (∀ A : Around, A.handled = none → Walks prog w A I fp wr N item SW) ∧ (∀ b ∈ fp, b = I ∨ ∃ o, Z b o) ∧ ∀ b ∈ wr, b = I
  at_ : ∀ i h, SW i h → ∃ o, h.get? I = some o ∧ okIter o
theorem forItr {Qf : Flow → Shared → Prop} {target : Expr} {body : List Stmt} {N : Nat} {item : Nat → Value → Prop} {SW : Nat → Heap → Prop} {I : Addr} {oI : Obj}
    (hh : A.handled = none) (W : Itr prog w Z I N item SW) (Inv : Nat → Fz → (Str → Option Value) → Led → Prop)
    (H : St w os B Z₀ Z L m ((I, (· = oI)) :: l) s) (hst : SW 0 s.heap) (h0 : Inv 0 Z m l)
    (step : ∀ i v Z' m' l' p s' E', i < N → item i v → (∀ b o, Z b o → Z' b o) → Inv i Z' m' l' → St w os B Z₀ Z' L m' ((I, p) :: l') s' →
      wpAny (model prog w) A (assign target env v) (fun _ s₂ => wpAny (model prog w) A (execs body env) (fun fl s₃ => match fl with
        | .next | .cont => ∃ Z'' m'' l'', St w os B Z₀ Z'' L m'' ((I, p) :: l'') s₃ ∧ (∀ b o, Z' b o → Z'' b o) ∧ Inv (i + 1) Z'' m'' l''
        | .brk => Qf .next s₃
        | .ret v => Qf (.ret v) s₃) E' s₂) E' s')
    (fin : ∀ Z' m' l' s', (∀ b o, Z b o → Z' b o) → Inv N Z' m' l' → St w os B Z₀ Z' L m' l' s' → Qf .next s')
    : codeAny (model prog w) A (.forLoop target (.ref I) body [] env) (fun r s' => match r with | .ok f => Qf f s' | .error e => cameBackBy (model prog w) A env E e s') s := by
  obtain ⟨fp, wr, WU, hfp, hwr⟩ := W.fp
  have W₀ := WU A hh
  refine codeAny_forLoop_any (fun n s' => ∃ i Z' m' l' oI, i ≤ N ∧ n = N - i ∧ (∀ b o, Z b o → Z' b o) ∧ SW i s'.heap ∧ Inv i Z' m' l' ∧ St w os B Z₀ Z' L m' ((I, (· = oI)) :: l') s') ?_ N
    ⟨0, Z, m, l, oI, Nat.zero_le _, rfl, fun _ _ e => e, hst, h0, H⟩
  rintro n s' ⟨i, Z', m', l', oI', hi, rfl, hle, hsw, hinv, H'⟩
  have hkeep : ∀ (s₂ : Shared) (h' : Heap), (∀ b o, b ∉ wr → s₂.heap.get? b = some o → h'.get? b = some o) → Heap.ExtBut I s₂.heap h' := fun s₂ h' hk b o hb e => hk b o (fun x => hb (hwr b x)) e
  rcases Nat.lt_or_ge i N with hlt | hge
  · refine wpAny_with_toks (n := s'.toks) (Nat.le_refl _) (W₀.item i s' _ _ hlt hsw fun v h' tk hv hsw' hk => ?_)
    intro htk
    have htk0 : 0 < tk := Nat.lt_of_lt_of_le H'.tk htk
    obtain ⟨o₁, ho₁, hok⟩ := W.at_ _ _ hsw'
    have hx := hkeep s' h' hk
    -- the heap has kept all but I
    have H₁ : St w os B Z₀ Z' L m' ((I, (· = o₁)) :: l') { s' with heap := h', toks := tk } := by
      have D := H'.lose tk htk0 hx
      refine { D.toBase with ns := D.ns, own := ?_, nd := H'.nd, nt := H'.nt, lo := H'.lo, nz := H'.nz, keep := D.keep, nb := H'.nb, bt := D.bt, newz := D.newz, le := D.le }
      intro q hq
      rcases List.mem_cons.mp hq with rfl | hq
      · exact ⟨o₁, ho₁, rfl⟩
      · exact D.own q hq
    refine letOwned_ok (s := { s' with heap := h', toks := tk }) ho₁ hok ?_
    refine wpAny_mono (step i v Z' m' l' _ _ _ hlt hv hle hinv H₁) (fun _ s₂ h₂ => wpAny_mono h₂ (fun fl s₃ h₃ => ?_) fun _ _ x => x) fun _ _ x => x
    have key : (∃ Z'' m'' l'', St w os B Z₀ Z'' L m'' ((I, (· = o₁)) :: l'') s₃ ∧ (∀ b o, Z' b o → Z'' b o) ∧ Inv (i + 1) Z'' m'' l'') →
        ∃ k, k < N - i ∧ ∃ i Z' m' l' oI, i ≤ N ∧ k = N - i ∧ (∀ b o, Z b o → Z' b o) ∧ SW i s₃.heap ∧ Inv i Z' m' l' ∧ St w os B Z₀ Z' L m' ((I, (· = oI)) :: l') s₃ := by
      rintro ⟨Z'', m'', l'', H₃, hle', hinv'⟩
      refine ⟨N - (i + 1), by omega, i + 1, Z'', m'', l'', o₁, hlt, rfl, fun b o e => hle' b o (hle b o e), ?_, hinv', H₃⟩
      refine W₀.frame _ _ _ hsw' fun b hb o e => ?_
      rcases hfp b hb with rfl | ⟨o', ho'⟩
      · rw [ho₁] at e; cases e
        obtain ⟨o₂, h1, h2⟩ := H₃.own _ (.head _)
        exact h1.trans (congrArg some h2)
      · have e1 := H₁.frz b o' (hle b o' ho')
        have e : h'.get? b = some o := e
        have e1 : h'.get? b = some o' := e1
        rw [e] at e1; cases e1
        exact H₃.frz b o (hle' b o (hle b o ho'))
    cases fl with
    | next => exact key h₃
    | cont => exact key h₃
    | brk => exact h₃
    | ret v => exact h₃
  · have hin : i = N := Nat.le_antisymm hi hge
    subst hin
    refine wpAny_with_toks (n := s'.toks) (Nat.le_refl _) (W₀.done s' _ _ hsw fun h' tk hk => ?_)
    intro htk
    exact wpAny_execs_nil (fin Z' m' l' _ hle hinv (H'.lose tk (Nat.lt_of_lt_of_le H'.tk htk) (hkeep s' h' hk)))
/-- what a for goes over: a frozen list, tuple or dict, or a text -/
inductive Src (prog : Program) (w : World) (Z : Fz) : Value → Nat → (Nat → Value → Prop) → Prop
  | list {a : Addr} {vs : List Value} : (∃ o, Z a o ∧ pL vs o) → Src prog w Z (.ref a) vs.length (fun i v => vs[i]? = some v)
  | str {x : Str} {t : Tok} : Src prog w Z (.str x t) x.cps.size (SignAt x)
  | tup {a : Addr} {vs : List Value} : (∃ o, Z a o ∧ pT vs o) → Src prog w Z (.ref a) vs.length (fun i v => vs[i]? = some v)
  | dict {a : Addr} {kvs : List (Str × Value)} {es : Array DictEntry} {ep : Nat} : (a == sysModules) = false → (∃ o, Z a o ∧ o.data = .dict es ep ∧ ∀ h : Heap, h.get? a = some o → h.DictAt (strKind prog w) a kvs ep) →
      Src prog w Z (.ref a) kvs.length (fun i v => ∃ k x, kvs[i]? = some (k, x) ∧ (strKind prog w).is k v = true)
theorem Itr.two {I a : Addr} {N : Nat} {item : Nat → Value → Prop} {SW : Nat → Heap → Prop} (W : ∀ A : Around, A.handled = none → Walks prog w A I [I, a] [I] N item SW) (hz : ∃ o, Z a o) (hat : ∀ i h, SW i h → ∃ o, h.get? I = some o ∧ okIter o) : Itr prog w Z I N item SW :=
  ⟨⟨_, _, W, fun b hb => by
    rcases List.mem_cons.mp hb with rfl | hb
    · exact .inl rfl
    · rw [List.mem_singleton.mp hb]; exact .inr hz, fun b hb => List.mem_singleton.mp hb⟩, hat⟩
theorem Itr.one {I : Addr} {N : Nat} {item : Nat → Value → Prop} {SW : Nat → Heap → Prop} (W : ∀ A : Around, A.handled = none → Walks prog w A I [I] [I] N item SW) (hat : ∀ i h, SW i h → ∃ o, h.get? I = some o ∧ okIter o) : Itr prog w Z I N item SW :=
  ⟨⟨_, _, W, fun b hb => .inl (List.mem_singleton.mp hb), fun b hb => List.mem_singleton.mp hb⟩, hat⟩
theorem pyIter_src {N : Nat} {item : Nat → Value → Prop} {xv : Value} {Q : Value → Shared → Prop} (hh : A.handled = none) (S : Src prog w Z xv N item) (H : St w os B Z₀ Z L m l s)
    (h : ∀ I SW oI s', Itr prog w Z I N item SW → SW 0 s'.heap → St w os B Z₀ Z L m ((I, (· = oI)) :: l) s' → Q (.ref I) s') : wpAny (model prog w) A (pyIter xv) Q E s := by
  have fresh : ∀ {b : Addr} {o : Obj}, Z b o → b ≠ s.heap.objs.size := fun e => Nat.ne_of_lt (Heap.lt_size (H.frz _ _ e))
  cases S with
  | @list a vs hz =>
    obtain ⟨o, hz, n, rfl⟩ := hz
    have hl : s.heap.IsList a vs.toArray := ⟨_, H.frz _ _ hz, rfl, n, rfl⟩
    refine wpAny_pyIter_list hl (h _ _ _ _ (Itr.two (a := a) (SW := fun i h => h.IsListIter s.heap.objs.size a i ∧ h.IsList a vs.toArray) (fun A' hA => by simpa using Walks.list (prog := prog) (w := w) hA s.heap.objs.size a (fresh hz) vs.toArray) ⟨_, hz⟩ ?_) ?_ (H.alloc _ rfl rfl))
    · rintro i h ⟨⟨o, e, hc, _⟩, _⟩; exact ⟨o, e, fun n hn => by rw [hc] at hn; cases hn; decide⟩
    · exact ⟨⟨_, Heap.get?_push_size _ rfl, rfl, rfl⟩, ⟨_, Heap.get?_push_of_some _ (H.frz _ _ hz), rfl, n, rfl⟩⟩
  | @str x t =>
    cases ha : x.cps.all (· < 128)
    · refine wpAny_pyIter_wide ha (h _ _ _ _ (Itr.one (fun A' hA => Walks.strWide hA _ x t) ?_) ⟨_, Heap.get?_push_size _ rfl, rfl, rfl⟩ (H.alloc _ rfl rfl))
      rintro i h ⟨o, e, hc, _⟩; exact ⟨o, e, fun n hn => by rw [hc] at hn; cases hn; decide⟩
    · refine wpAny_pyIter_ascii ha (h _ _ _ _ (Itr.one (fun A' hA => Walks.strAscii hA _ x t) ?_) ⟨_, Heap.get?_push_size _ rfl, rfl, rfl⟩ (H.alloc _ rfl rfl))
      rintro i h ⟨o, e, hc, _⟩; exact ⟨o, e, fun n hn => by rw [hc] at hn; cases hn; decide⟩
  | @tup a vs hz =>
    obtain ⟨o, hz, n, rfl⟩ := hz
    have hl : s.heap.IsTuple a vs.toArray := ⟨_, H.frz _ _ hz, rfl, n, rfl⟩
    refine wpAny_pyIter_tuple hl (h _ _ _ _ (Itr.two (a := a) (SW := fun i h => h.IsTupleIter s.heap.objs.size a i ∧ h.IsTuple a vs.toArray) (fun A' hA => by simpa using Walks.tuple (prog := prog) (w := w) hA s.heap.objs.size a (fresh hz) vs.toArray) ⟨_, hz⟩ ?_) ?_ (H.alloc _ rfl rfl))
    · rintro i h ⟨⟨o, e, hc, _⟩, _⟩; exact ⟨o, e, fun n hn => by rw [hc] at hn; cases hn; decide⟩
    · exact ⟨⟨_, Heap.get?_push_size _ rfl, rfl, rfl⟩, ⟨_, Heap.get?_push_of_some _ (H.frz _ _ hz), rfl, n, rfl⟩⟩
  | @dict a kvs es ep hd hz =>
    obtain ⟨o, hz, ho, hD⟩ := hz
    refine wpAny_pyIter_dict hd (hD _ (H.frz _ _ hz)) (h _ _ _ _ (Itr.two (a := a) (fun A' hA => Walks.dictKeys hA _ a (fresh hz) kvs ep) ⟨_, hz⟩ ?_) ?_ (H.alloc _ rfl rfl))
    · rintro i h ⟨⟨o, e, hc, _⟩, _⟩; exact ⟨o, e, fun n hn => by rw [hc] at hn; cases hn; decide⟩
    · exact ⟨⟨_, Heap.get?_push_size _ rfl, rfl, rfl⟩, hD _ (Heap.get?_push_of_some _ (H.frz _ _ hz))⟩
/-- a for statement -/
theorem forS {Qf : Flow → Shared → Prop} {target iter : Expr} {body : List Stmt} {N : Nat} {item : Nat → Value → Prop} (_H : St w os B Z₀ Z L m l s) (hh : A.handled = none) (Inv : Nat → Fz → (Str → Option Value) → Led → Prop)
    (hit : wpAny (model prog w) A (eval iter env) (fun xv s₁ => ∃ Z₁ m₁ l₁, Src prog w Z₁ xv N item ∧ (∀ b o, Z b o → Z₁ b o) ∧ St w os B Z₀ Z₁ L m₁ l₁ s₁ ∧ Inv 0 Z₁ m₁ l₁) E s)
    (step : ∀ i v Z' m' l' I p s' E', i < N → item i v → (∀ b o, Z b o → Z' b o) → Inv i Z' m' l' → St w os B Z₀ Z' L m' ((I, p) :: l') s' →
      wpAny (model prog w) A (assign target env v) (fun _ s₂ => wpAny (model prog w) A (execs body env) (fun fl s₃ => match fl with
        | .next | .cont => ∃ Z'' m'' l'', St w os B Z₀ Z'' L m'' ((I, p) :: l'') s₃ ∧ (∀ b o, Z' b o → Z'' b o) ∧ Inv (i + 1) Z'' m'' l''
        | .brk => Qf .next s₃
        | .ret v => Qf (.ret v) s₃) E' s₂) E' s')
    (fin : ∀ Z' m' l' s', (∀ b o, Z b o → Z' b o) → Inv N Z' m' l' → St w os B Z₀ Z' L m' l' s' → Qf .next s')
    (hs : ∀ x, foldedSetIterable iter env x = pure x := by intro _; rfl) :
    wpAny (model prog w) A (exec (.For target iter body [] pos) env) Qf E s := by
  refine wpAny_For (wpAny_mono hit (fun xv s₁ h₁ => ?_) fun _ _ x => x) hs
  obtain ⟨Z₁, m₁, l₁, hS, hle, H, h0⟩ := h₁
  refine pyIter_src hh hS H fun I SW oI s' W hst H' => ?_
  refine forItr hh W Inv H' hst h0 (fun i v Z' m' l' p s'' E' hi hv hle' hinv H'' => step i v Z' m' l' I p s'' E' hi hv (fun b o e => hle' b o (hle b o e)) hinv H'') (fun Z' m' l' s'' hle' hinv H'' => fin Z' m' l' s'' (fun b o e => hle' b o (hle b o e)) hinv H'')
end
/-- a dict of counts -/
def pCnt (prog : Program) (w : World) (n : Nat) (f : Str → Int) (o : Obj) : Prop :=
  ∃ kvs, o.IsDictOf (strKind prog w) kvs ∧ kvs.length ≤ n ∧ ∀ k, (∃ t, valueAt kvs k = some (.int (f k) t)) ∨ (valueAt kvs k = none ∧ f k = 0)
theorem stored_len {kvs : List (Str × Value)} {k : Str} {v : Value} : (stored kvs k v).length ≤ kvs.length + 1 := by
  unfold stored; split <;> simp
theorem find_map_key {α β : Type} {P : α → Bool} {g : α → α} {r : α → β} (hP : ∀ a, P (g a) = P a) (l : List α) : (l.map g).find? P = (l.find? P).map g := by
  induction l with
  | nil => rfl
  | cons a l ih =>
    simp only [List.map_cons, List.find?_cons, hP]
    cases P a <;> simp [ih]
theorem valueAt_stored {kvs : List (Str × Value)} {k x : Str} {v : Value} : valueAt (stored kvs k v) x = if x = k then some v else valueAt kvs x := by
  unfold stored valueAt
  split
  · rename_i h
    rw [find_map_key (r := id) (fun a => by by_cases e : a.1 = k <;> simp [e])]
    by_cases hx : x = k
    · subst hx
      obtain ⟨q, hq, e⟩ := List.any_eq_true.mp h
      cases hf : kvs.find? (fun kv => decide (kv.1 = x)) with
      | none => have := List.find?_eq_none.mp hf q hq; simp at e; simp [e] at this
      | some q' =>
        have := List.find?_some hf
        simp at this
        simp [this]
    · cases hf : kvs.find? (fun kv => decide (kv.1 = x)) with
      | none => simp [hx]
      | some q' =>
        have := List.find?_some hf
        simp at this
        have : ¬ q'.1 = k := fun e => hx (this ▸ e)
        simp [hx, this]
  · rename_i h
    rw [List.find?_append]
    by_cases hx : x = k
    · subst hx
      have : kvs.find? (fun kv => decide (kv.1 = x)) = none := by
        rw [List.find?_eq_none]
        intro q hq e
        exact h (List.any_eq_true.mpr ⟨q, hq, e⟩)
      simp [this]
    · have hx' : ¬ k = x := fun e => hx e.symm
      simp [hx, hx']
theorem pCnt.set {prog : Program} {w : World} {n : Nat} {f : Str → Int} {kvs : List (Str × Value)} {o : Obj} {k : Str} {i : Int} {t : Tok} (h1 : kvs.length ≤ n)
    (h2 : ∀ k, (∃ t, valueAt kvs k = some (.int (f k) t)) ∨ (valueAt kvs k = none ∧ f k = 0)) (ho : o.IsDictOf (strKind prog w) (stored kvs k (.int i t))) :
    pCnt prog w (n + 1) (fun x => if x = k then i else f x) o := by
  refine ⟨_, ho, Nat.le_trans stored_len (by omega), fun x => ?_⟩
  rw [valueAt_stored]
  by_cases hx : x = k
  · simp only [hx, if_true]; exact .inl ⟨t, rfl⟩
  · simp only [hx, if_false]; exact h2 x
section
variable {prog : Program} {w : World} {os : OsState} {B Z₀ Z Z' : Fz} {L a c f d : Addr} {m m' : Str → Option Value} {l l' : Led} {s s' : Shared} {p p' : Obj → Prop} {A : Around} {E : Value → Shared → Prop} {env : Env}
  {x y : Str} {v : Value} {pos : Pos} {n : Nat} {g : Str → Int} {t u : Tok}
theorem St.notMod (H : St w os B Z₀ Z L m l s) (hm : (a, p) ∈ l) : (a == sysModules) = false :=
  beq_eq_false_iff_ne.mpr fun e => absurd (H.lo a (.tail _ (List.mem_map_of_mem (f := (·.1)) hm))) (by rw [e]; decide)
theorem dictNew {Q : Value → Shared → Prop} (H : St w os B Z₀ Z L m l s) (h : ∀ s' a, St w os B Z₀ Z L m ((a, pCnt prog w 0 fun _ => 0) :: l) s' → Q (.ref a) s') :
    wpAny (model prog w) A (eval (.Dict [] [] pos) env) Q E s :=
  wpAny_Dict_empty (h _ _ (H.alloc _ rfl ⟨[], ⟨#[], 0, ⟨rfl, rfl, rfl⟩, rfl, fun _ he => by simp at he, Pairs.nil, List.nodup_nil⟩, Nat.le_refl _, fun _ => .inr ⟨rfl, rfl⟩⟩))
theorem cntGet {Q : Value → Shared → Prop} (H : St w os B Z₀ Z L m l s) (hh : Has Z l d (pCnt prog w n g)) (hm : (d == sysModules) = false) (h : ∀ s' t, St w os B Z₀ Z L m l s' → Q (.int (g x) t) s') :
    wpAny (model prog w) A (call (.builtin "dict.get") [.ref d, .str x t, .int 0 u]) Q E s := by
  obtain ⟨o, e, kvs, hd, hn, hv⟩ := H.has hh
  have hD : s.heap.DictOf (strKind prog w) d kvs := Heap.dictOf_iff.mpr ⟨o, e, hd⟩
  refine call_meetsIn F.slot_dict_get hD.mapOf.typeIs F.entry_dict_get (F.args_dict_get_3 _ _ _) (meets_dict_get_default (strKind prog w) d (strKind_is prog w x t) hm _) ⟨_, hD.mapOf, ?_⟩
  rcases hv x with ⟨t', e'⟩ | ⟨e', e0⟩
  · rw [e']; exact h _ _ H.tok1
  · rw [e', ← e0]; exact h _ _ H.tok1
theorem cntSet {Q : Unit → Shared → Prop} {i : Int} (H : St w os B Z₀ Z L m l s) (U : Up l d (pCnt prog w n g) (pCnt prog w (n + 1) fun y => if y = x then i else g y) l') (hn : n ≤ sizeLine)
    (h : ∀ s', St w os B Z₀ Z L m l' s' → Q () s') : wpAny (model prog w) A (setItem (.ref d) (.str x t) (.int i u)) Q E s := by
  obtain ⟨o, e, kvs, hd, hn', hv⟩ := H.own _ U.mem
  have hD : s.heap.DictOf (strKind prog w) d kvs := Heap.dictOf_iff.mpr ⟨o, e, hd⟩
  refine wpAny_setItem_pairs (strKind_is prog w x t) hD (fun h' hd' hs => h _ ?_) (Nat.le_trans hn' hn)
  obtain ⟨o', ho', hd'⟩ := Heap.dictOf_iff.mp hd'
  exact H.mut U _ (Nat.succ_pos _) hs ⟨o', ho', pCnt.set hn' hv hd'⟩
theorem pCnt.plain {o : Obj} (h : pCnt prog w n g o) : o.dict = none ∧ o.cls = .type "dict" := let ⟨_, ⟨_, _, hx, _⟩, _⟩ := h; ⟨hx.2.1, hx.1⟩
/-! receivers -/
theorem recvL {R : Prop} {vs : List Value} (H : St w os B Z₀ Z L m l s) (hh : Has Z l a (pL vs)) (h : R) : s.TypeIs (.ref a) "list" ∧ (∀ b, Value.ref a = .ref b → ∃ ob, s.heap.get? b = some ob ∧ ob.dict = none) ∧ R := by
  obtain ⟨o, e, k, rfl⟩ := H.has hh; exact ⟨⟨_, e, rfl⟩, plain_of e rfl, h⟩
theorem recvD {R : Prop} (H : St w os B Z₀ Z L m l s) (hh : Has Z l a (pCnt prog w n g)) (h : R) : s.TypeIs (.ref a) "dict" ∧ (∀ b, Value.ref a = .ref b → ∃ ob, s.heap.get? b = some ob ∧ ob.dict = none) ∧ R := by
  obtain ⟨o, e, hp⟩ := H.has hh; exact ⟨⟨o, e, hp.plain.2⟩, plain_of e hp.plain.1, h⟩
theorem recvS {R : Prop} (h : R) : s.TypeIs (.str x t) "str" ∧ (∀ b, Value.str x t = .ref b → ∃ ob, s.heap.get? b = some ob ∧ ob.dict = none) ∧ R := ⟨typeIs_str _ _ _, (fun _ e => nomatch e), h⟩
end
theorem S_cps (x : Str) : S x.cps.toList = x := by cases x; simp
theorem S_list (l : List Nat) : (S l).cps.toList = l := by simp
theorem S_append (a b : List Nat) : S a ++ S b = S (a ++ b) := by
  show Str.mk _ = _
  simp
theorem S_inj {a b : List Nat} : S a = S b ↔ a = b := ⟨fun h => by have := congrArg (fun x : Str => x.cps.toList) h; simpa using this, fun h => h ▸ rfl⟩
theorem S_beq (a b : List Nat) : (S a == S b) = (a == b) := by
  by_cases h : a = b
  · subst h; simp
  · rw [beq_eq_false_iff_ne.mpr h, beq_eq_false_iff_ne.mpr (fun e => h (S_inj.mp e))]
theorem S_len (a : List Nat) : (S a).length = a.length := by simp [Str.length]
section
variable {prog : Program} {w : World} {os : OsState} {B Z₀ Z Z' : Fz} {L a c f d : Addr} {m m' : Str → Option Value} {l l' : Led} {s s' : Shared} {p p' : Obj → Prop} {A : Around} {E : Value → Shared → Prop} {env : Env}
  {x y z : Str} {v : Value} {pos : Pos} {n : Nat} {t u : Tok}
theorem St.tk' (H : St w os B Z₀ Z L m l s) {tk : Nat} (h : s.toks ≤ tk) : St w os B Z₀ Z L m l { s with toks := tk } := H.toks tk (Nat.lt_of_lt_of_le H.tk h)
/-! texts -/
theorem addS {Q : Value → Shared → Prop} (H : St w os B Z₀ Z L m l s) (hsz : x.length + y.length ≤ sizeLine) (h : ∀ s' t', St w os B Z₀ Z L m l s' → Q (.str (x ++ y) t') s') :
    wpAny (model prog w) A (binaryOp .Add (.str x t) (.str y u)) Q E s :=
  wpAny_with_toks (Nat.le_refl _) (PyProof.Rows.add_str (fun t' tk (e : s.toks ≤ tk) => h _ _ (H.tk' e)) hsz)
theorem inS {Q : Value → Shared → Prop} (h : Q (.bool (Txt.contains x y)) s) : wpAny (model prog w) A (compareOp .In (.str y u) (.str x t)) Q E s := PySem.P.in_str h
theorem notInS {Q : Value → Shared → Prop} (h : Q (.bool (!Txt.contains x y)) s) : wpAny (model prog w) A (compareOp .NotIn (.str y u) (.str x t)) Q E s := PySem.P.notIn_str h
theorem lenS {Q : Value → Shared → Prop} (H : St w os B Z₀ Z L m l s) (hx : x.length ≤ sizeLine) (h : ∀ s' t', St w os B Z₀ Z L m l s' → Q (.int x.length t') s') : wpAny (model prog w) A (call (.builtin "len") [.str x t]) Q E s :=
  PySem.P.len_str (by rw [sizeLine_eq] at hx; omega) (h _ _ (H.toks _ (Nat.succ_pos _)))
theorem itemS {value slice : Expr} {i : Int} {c : Nat} {Q : Value → Shared → Prop} (H : St w os B Z₀ Z L m l s) (h0 : 0 ≤ i) (h1 : i < 2 ^ 63) (hc : x.cps.toList[i.toNat]? = some c) (h : ∀ s' t', St w os B Z₀ Z L m l s' → Q (.str (S [c]) t') s')
    (hs : subscripted slice false (.str x t) (.int i u) = operate [.str x t, .int i u] (getItem (.str x t) (.int i u)) := by with_unfolding_all rfl) : wpAny (model prog w) A (subscriptTail value slice (.str x t) (.int i u)) Q E s := by
  refine tail_any (typeIs_str s x t) F.slot_str_getitem.lookup (PySem.P.getItem_str (c := c) (by simp; omega) ?_ (h _ _ (H.toks _ (Nat.succ_pos _)))) hs
  have hlt : i.toNat < x.length := by
    obtain ⟨hlt, _⟩ := List.getElem?_eq_some_iff.mp hc
    simpa [Str.length] using hlt
  have : seqIndex? i x.length = some i.toNat := by
    unfold seqIndex?
    have e : ¬ i < 0 := by omega
    have e2 : i < (x.length : Int) := by omega
    simp only [if_neg e]
    first | (rw [if_neg (by omega)]) | (rw [if_pos (by omega)]) | simp [h0, e2] | (simp; omega)
  rw [this]
  simpa using hc
theorem mulS {n : Int} {Q : Value → Shared → Prop} (H : St w os B Z₀ Z L m l s) (hok : MulOk x n) (h : ∀ s' t', St w os B Z₀ Z L m l s' → Q (.str (Txt.mul x n) t') s') : wpAny (model prog w) A (binaryOp .Mult (.str x t) (.int n u)) Q E s :=
  wpAny_with_toks (Nat.le_refl _) (SB.mul hok fun t' tk (e : s.toks ≤ tk) => h _ _ (H.tk' e))
def ReplThen (w : World) (os : OsState) (B Z₀ : Fz) (L : Addr) (y z : Str) (o : Value) (Q : Value → Shared → Prop) (s : Shared) : Prop :=
  ∃ x t Z₁ m₁ l₁, o = .str x t ∧ St w os B Z₀ Z₁ L m₁ l₁ s ∧ (y == z) = false ∧ x.length ≤ 1048576 ∧ z.length ≤ 14 ∧ ∀ s' t', St w os B Z₀ Z₁ L m₁ l₁ s' → Q (.str (Txt.replace x y z) t') s'
theorem repl_then {Q : Value → Shared → Prop} (H : St w os B Z₀ Z L m l s) (hx : x.length ≤ 1048576) (h : ∀ s' t', St w os B Z₀ Z L m l s' → Q (.str (Txt.replace x y z) t') s') (hyz : (y == z) = false := by decide) (hz : z.length ≤ 14 := by decide) :
    ReplThen w os B Z₀ L y z (.str x t) Q s := ⟨x, t, _, _, _, rfl, H, hyz, hx, hz, h⟩
/-- a text method's arguments, two constants -/
theorem replaceS {o : Expr} {apos : Pos} {k k' : Nat} {q q' : Pos} {Q : Value → Shared → Prop} (H : St w os B Z₀ Z L m l s)
    (h : wpAny (model prog w) A (eval o env) (fun ov s₁ => ReplThen w os B Z₀ L y z ov Q s₁) E s)
    (hbase : attributeBase o (Str.ofString "replace") env (eval o env) = eval o env := by rfl) (hline : (apos.endLine == pos.line) = true := by rfl) :
    wpAny (model prog w) A (eval (.Call (.Attribute o (Str.ofString "replace") apos) [.Constant (.str y) k q, .Constant (.str z) k' q'] [] pos) env) Q E s := by
  refine meth2 F.plainAttrs_str F.slot_str_replace F.type_str_replace (wpAny_mono h (fun ov s₁ h₁ => ?_) fun _ _ x => x) rfl hbase hline
  obtain ⟨x, t, Z₁, m₁, l₁, rfl, H₁, hyz, hx, hz, hq⟩ := h₁
  refine recvS ?_
  refine wpAny_Constant_str (wpAny_Constant_str ?_)
  have htk := H₁.tk
  refine wpAny_with_toks (Nat.le_refl _) (SC.replaceW (by show s₁.toks ≠ 0; omega) (by show s₁.toks + 1 ≠ 0; omega) (by show s₁.toks ≠ s₁.toks + 1; omega) hyz hx hz fun t' tk htk' => hq _ _ ?_)
  exact H₁.toks tk (by have : s₁.toks + 1 + 1 ≤ tk := htk'; omega)
def SliceThen (w : World) (os : OsState) (B Z₀ : Fz) (L : Addr) (o vl vu : Value) (Q : Value → Shared → Prop) (s : Shared) : Prop :=
  ∃ x t lo hi Z₁ m₁ l₁, o = .str x t ∧ vl = partValue lo ∧ vu = partValue hi ∧ St w os B Z₀ Z₁ L m₁ l₁ s ∧ x.length ≤ sizeLine ∧
    ∀ s' t', St w os B Z₀ Z₁ L m₁ l₁ s' → Q (.str (Txt.slice x (lo.map (·.1)) (hi.map (·.1))) t') s'
theorem slice_ns {j : Int} {Q : Value → Shared → Prop} (H : St w os B Z₀ Z L m l s) (hx : x.length ≤ sizeLine) (h : ∀ s' t', St w os B Z₀ Z L m l s' → Q (.str (Txt.slice x none (some j)) t') s') :
    SliceThen w os B Z₀ L (.str x t) .none (.int j u) Q s := ⟨x, t, none, some (j, u), _, _, _, rfl, rfl, rfl, H, hx, h⟩
theorem slice_ss {i j : Int} {Q : Value → Shared → Prop} {u' : Tok} (H : St w os B Z₀ Z L m l s) (hx : x.length ≤ sizeLine) (h : ∀ s' t', St w os B Z₀ Z L m l s' → Q (.str (Txt.slice x (some i) (some j)) t') s') :
    SliceThen w os B Z₀ L (.str x t) (.int i u') (.int j u) Q s := ⟨x, t, some (i, u'), some (j, u), _, _, _, rfl, rfl, rfl, H, hx, h⟩
/-- a slice of a text -/
theorem sliceS {value : Expr} {lower upper : Option Expr} {q : Pos} {Q : Value → Shared → Prop} (H : St w os B Z₀ Z L m l s)
    (h : wpAny (model prog w) A (eval value env) (fun o s₁ => wpAny (model prog w) A (evalPart lower env) (fun vl s₂ => wpAny (model prog w) A (evalPart upper env) (fun vu s₃ =>
      SliceThen w os B Z₀ L o vl vu Q s₃) E s₂) E s₁) E s)
    : wpAny (model prog w) A (eval (.Subscript value (.Slice lower upper none q) pos) env) Q E s := by
  refine wpAny_with_toks (Nat.le_refl _) (Subscript_ (wpAny_mono h (fun o s₁ h₁ => wpAny_Slice (wpAny_mono h₁ (fun vl s₂ h₂ => wpAny_mono h₂ (fun vu s₃ h₃ => evalPart_none_step ?_) fun _ _ e _ => e) fun _ _ e _ => e)) fun _ _ e _ => e))
  obtain ⟨x, t, lo, hi, Z₁, m₁, l₁, rfl, rfl, rfl, H₃, hx, hq⟩ := h₃
  have H₄ := (H₃.alloc (p := fun _ => True) { cls := .type "slice", data := .fields #[partValue lo, partValue hi, .none] } rfl trivial).drop .here
  refine tail_any (typeIs_str _ x t) F.slot_str_getitem.lookup (wpAny_getItem_str_slice (l := lo) (u := hi) (st := none) ⟨_, Heap.get?_push_size _ rfl, rfl, rfl⟩ rfl ?_) rfl
  unfold sliceMade slicePicked
  refine post_val_or_str ⟨Nat.le_trans (Txt.slice_le x _ _) hx, fun t' k (e : s.toks ≤ k) => ?_⟩
  exact hq _ _ (H₄.toks k (Nat.lt_of_lt_of_le H.tk e))
/-! truth -/
theorem truthN {Q : Bool → Shared → Prop} (h : Q false s) : wpAny (model prog w) A (truthy .none) Q E s := fun _ _ _ => h
end
section
variable {prog : Program} {w : World} {os : OsState} {B Z₀ Z Z' : Fz} {L a c f d : Addr} {m m' : Str → Option Value} {l l' : Led} {s s' : Shared} {p p' : Obj → Prop} {A : Around} {E : Value → Shared → Prop} {env : Env}
  {x y z : Str} {v : Value} {pos : Pos} {n : Nat} {t u : Tok}
/-- the paths of a statement come together -/
theorem joinF {M : Model} {pr : Sem Flow} {Q : Flow → Shared → Prop} (J : Shared → Prop) (h1 : wpAny M A pr (fun fl s' => fl = .next ∧ J s') E s) (h2 : ∀ s', J s' → Q .next s') : wpAny M A pr Q E s :=
  wpAny_mono h1 (fun fl s' h => by obtain ⟨rfl, h⟩ := h; exact h2 s' h) fun _ _ e => e
theorem joinV {α : Type} {M : Model} {pr : Sem α} {Q : α → Shared → Prop} (J : α → Shared → Prop) (h1 : wpAny M A pr J E s) (h2 : ∀ v s', J v s' → Q v s') : wpAny M A pr Q E s :=
  wpAny_mono h1 h2 fun _ _ e => e
theorem St.re (H : St w os B Z₀ Z L m l s) (U : Up l a p p' l') (h : ∀ o, p o → p' o) : St w os B Z₀ Z L m l' s :=
  have := H.mut U (h' := s.heap) s.toks H.tk ⟨rfl, fun _ _ => rfl⟩ (let ⟨o, e, hp⟩ := H.own _ U.mem; ⟨o, e, h o hp⟩)
  this
theorem St.ex {ι : Type} {q : ι → Obj → Prop} (H : St w os B Z₀ Z L m ((a, fun o => ∃ i, q i o) :: l) s) : ∃ i, St w os B Z₀ Z L m ((a, q i) :: l) s := by
  obtain ⟨o, e, i, hp⟩ := H.own _ List.mem_cons_self
  exact ⟨i, H.mut .here s.toks H.tk ⟨rfl, fun _ _ => rfl⟩ ⟨o, e, hp⟩⟩
/-- one item of a tuple, which one is not known -/
theorem itemTany {value slice : Expr} {Q : Value → Shared → Prop} {vs : List Value} {k : Int} {u : Tok} (H : St w os B Z₀ Z L m l s) (hh : Has Z l a (pT vs)) (h0 : 0 ≤ k) (h1 : k < vs.length) (h2 : vs.length < 1000000) (h : ∀ v ∈ vs, Q v s)
    (hs : subscripted slice false (.ref a) (.int k u) = operate [.ref a, .int k u] (getItem (.ref a) (.int k u)) := by with_unfolding_all rfl) : wpAny (model prog w) A (subscriptTail value slice (.ref a) (.int k u)) Q E s := by
  have hlt : k.toNat < vs.length := by omega
  have : seqIndex? k vs.length = some k.toNat := by
    unfold seqIndex?
    have e : ¬ k < 0 := by omega
    simp only [if_neg e]
    first | (rw [if_neg (by omega)]) | (rw [if_pos (by omega)]) | simp [h0, h1] | (simp; omega)
  exact itemT H hh (by omega) (by omega) this (List.getElem?_eq_getElem hlt) (h _ (List.getElem_mem hlt)) hs
theorem isNoneV {Q : Value → Shared → Prop} (h : Q (.bool (v == .none)) s) : wpAny (model prog w) A (compareOp .Is v .none) Q E s := is_none h
theorem isNotNoneV {Q : Value → Shared → Prop} (h : Q (.bool (!(v == .none))) s) : wpAny (model prog w) A (compareOp .IsNot v .none) Q E s := isNot_none h
/-- a builtin function, one argument -/
theorem callB1 {id : String} {fn : Str} {pp : Pos} {e : Expr} {Q : Value → Shared → Prop} (H : Base w os Z s) (e1 : nsIn (KH w.params) mainGlobals fn = some none) (hb : bootBuiltins fn = some (.builtin id))
    (h : wpAny (model prog w) A (eval e env) (fun v s₁ => wpAny (model prog w) A (call (.builtin id) [v]) Q E s₁) E s) (hn : fn ≠ "__name__" := by decide)
    (he : starEach [e] env = [(false, eval e env)] := by rfl)
    (hk : env.scope.kind = .function := by rfl) (hl : env.kindOf fn = some .globalImplicit := by rfl) (hg : env.globals = mainGlobals := by rfl) (hbb : env.builtins = builtinsNs := by rfl)
    (hd : (fn == ("__debug__" : Str)) = false := by decide) :
    wpAny (model prog w) A (eval (.Call (.Name fn pp) [e] [] pos) env) Q E s := by
  refine Call_Name rfl (nameB H e1 hb ?_ hn hk hl hg hbb hd)
  rw [he]
  refine callWith_builtin rfl (evalArgs_plain ?_)
  show wpAny _ _ (do let v ← eval e env; let here ← (pure [v] : Sem (List Value)); return here ++ (← holding here (spliced []))) _ _ _
  exact wpAny_bind (wpAny_mono h (fun v s₂ h₂ => wpAny_bind (wpAny_pure (wpAny_bind (wpAny_holding (wpAny_pure (wpAny_pure h₂)))))) fun _ _ x => x)
def CopyThen (w : World) (os : OsState) (B Z₀ : Fz) (L : Addr) (o : Value) (Q : Value → Shared → Prop) (s : Shared) : Prop :=
  ∃ b vs Z₁ m₁ l₁, o = .ref b ∧ St w os B Z₀ Z₁ L m₁ l₁ s ∧ Has Z₁ l₁ b (pL vs) ∧ vs.length ≤ sizeLine ∧ ∀ s' a, St w os B Z₀ Z₁ L m₁ ((a, pL vs) :: l₁) s' → Q (.ref a) s'
theorem copy_then {Q : Value → Shared → Prop} {vs : List Value} (H : St w os B Z₀ Z L m l s) (hh : Has Z l a (pL vs)) (hx : vs.length ≤ sizeLine) (h : ∀ s' b, St w os B Z₀ Z L m ((b, pL vs) :: l) s' → Q (.ref b) s') :
    CopyThen w os B Z₀ L (.ref a) Q s := ⟨a, vs, _, _, _, rfl, H, hh, hx, h⟩
/-- a whole list's copy -/
theorem copyL {value : Expr} {q : Pos} {Q : Value → Shared → Prop} (_H : St w os B Z₀ Z L m l s)
    (h : wpAny (model prog w) A (eval value env) (fun o s₁ => CopyThen w os B Z₀ L o Q s₁) E s)
    (ht : ∀ o r, letTemporaryGo value o r = pure () := by intro _ _; rfl) :
    wpAny (model prog w) A (eval (.Subscript value (.Slice none none none q) pos) env) Q E s := by
  refine wpAny_Subscript_list_slice (wpAny_mono h (fun o s₁ h₁ => evalPart_none_step (evalPart_none_step ?_)) fun _ _ e => e) ht
  obtain ⟨b, vs, Z₁, m₁, l₁, rfl, H₁, hh, hsz, hq⟩ := h₁
  refine ⟨b, vs.toArray, none, none, rfl, pL.list (H₁.has hh), by simpa using hsz, .none, .none, ?_⟩
  have e : slicePick vs.toArray none none none = vs.toArray := by rw [slicePick_all]
  rw [e]
  have H₂ := H₁.alloc (p := fun _ => True) { cls := .type "slice", data := .fields #[.none, .none, .none] } rfl trivial
  have H₃ := H₂.alloc (p := pL vs) { cls := .type "list", data := .seq vs.toArray } rfl ⟨0, rfl⟩
  rw [Heap.size_push] at H₃
  exact hq _ _ (H₃.drop (.there .here))
end
section
variable {prog : Program} {w : World} {os : OsState} {B Z₀ Z : Fz} {L : Addr} {m : Str → Option Value} {l : Led} {s : Shared} {A : Around} {E : Value → Shared → Prop} {i : Int} {t : Tok}
theorem absI {Q : Value → Shared → Prop} (H : St w os B Z₀ Z L m l s) (h : ∀ s' t', St w os B Z₀ Z L m l s' → Q (.int (if i < 0 then -i else i) t') s') : wpAny (model prog w) A (call (.builtin "abs") [.int i t]) Q E s :=
  wpAny_with_toks (Nat.le_refl _) (call_abs_int fun t' tk (e : s.toks ≤ tk) => h _ _ (H.tk' e))
end
section
variable {prog : Program} {w : World} {A : Around} {E : Value → Shared → Prop} {s : Shared} {x : Str} {t : Tok} {a : Addr} {Q : Value → Shared → Prop}
theorem isNoneR (h : Q (.bool false) s) : wpAny (model prog w) A (compareOp .Is (.ref a) .none) Q E s := is_none h
theorem isNoneS (h : Q (.bool false) s) : wpAny (model prog w) A (compareOp .Is (.str x t) .none) Q E s := is_none h
theorem isNoneN (h : Q (.bool true) s) : wpAny (model prog w) A (compareOp .Is .none .none) Q E s := is_none h
theorem isNotNoneR (h : Q (.bool true) s) : wpAny (model prog w) A (compareOp .IsNot (.ref a) .none) Q E s := isNot_none h
theorem isNotNoneS (h : Q (.bool true) s) : wpAny (model prog w) A (compareOp .IsNot (.str x t) .none) Q E s := isNot_none h
theorem isNotNoneN (h : Q (.bool false) s) : wpAny (model prog w) A (compareOp .IsNot .none .none) Q E s := isNot_none h
end
section
variable {prog : Program} {w : World} {os : OsState} {B Z₀ Z Z' : Fz} {L a c f d : Addr} {m m' : Str → Option Value} {l l' : Led} {s s' : Shared} {p p' : Obj → Prop} {A : Around} {E : Value → Shared → Prop} {env : Env}
  {x y z : Str} {v : Value} {pos : Pos} {n : Nat} {t u : Tok}
/-- the heap grows -/
theorem St.grow (H : St w os B Z₀ Z L m l s) {h' : Heap} (tk : Nat) (htk : 0 < tk) (hx : ∀ b o, s.heap.get? b = some o → h'.get? b = some o) : St w os B Z₀ Z L m l { s with heap := h', toks := tk } where
  wd := H.wd
  frz := fun b o e => hx _ _ (H.frz b o e)
  zt := H.zt
  t := fun q hq => let ⟨ps, e, r⟩ := H.t q hq; ⟨ps, hx _ _ e, r⟩
  os := H.os
  bare := H.bare
  tk := htk
  ns := let ⟨o, es, ep, ho, r⟩ := H.ns; ⟨o, es, ep, hx _ _ ho, r⟩
  own := fun q hq => let ⟨o, e, r⟩ := H.own q hq; ⟨o, hx _ _ e, r⟩
  nd := H.nd
  nt := H.nt
  lo := H.lo
  nz := H.nz
  keep := fun b o e => hx _ _ (H.keep b o e)
  nb := H.nb
  bt := H.bt
  newz := H.newz
  le := H.le
theorem St.ext (H : St w os B Z₀ Z L m l s) {h' : Heap} (hx : Heap.ExtBut s.heap.objs.size s.heap h') : St w os B Z₀ Z L m l { s with heap := h' } :=
  H.grow s.toks H.tk fun b o e => hx b o (Nat.ne_of_lt (Heap.lt_size e)) e
theorem assignT {elts : List Expr} {x1} {vs : List Value} {Q : Unit → Shared → Prop} (H : St w os B Z₀ Z L m l s) (hh : A.handled = none) (ht : Has Z l a (pT vs))
    (h : ∀ s', St w os B Z₀ Z L m l s' → wpAny (model prog w) A (assignInOrder ((assignEach elts env).map (·.2)) vs) Q E s')
    (hn : (assignEach elts env).length = vs.length := by rfl) (hstar : (assignEach elts env).findIdx? (·.1) = none := by rfl) :
    wpAny (model prog w) A (assign (.Tuple elts x1 pos) env (.ref a)) Q E s := by
  obtain ⟨o, e, n, rfl⟩ := H.has ht
  refine wpAny_assign_Tuple (items := vs.toArray) hh ⟨_, e, rfl, n, rfl⟩ (by simpa using hn) hstar fun h' hx => ?_
  exact h _ (H.ext hx)
/-- texts in a list -/
theorem joinS {xs : List (Str × Tok)} {Q : Value → Shared → Prop} (H : St w os B Z₀ Z L m l s) (hh : Has Z l a (pL (strValues xs))) (hok : JoinOk x (xs.map (·.1)) = true) (h : ∀ s' t', St w os B Z₀ Z L m l s' → Q (.str (Txt.join x (xs.map (·.1))) t') s') :
    wpAny (model prog w) A (call (.builtin "str.join") [.str x t, .ref a]) Q E s := by
  have hok' := hok
  unfold JoinOk at hok
  rw [Bool.not_eq_true'] at hok
  refine wpAny_with_toks (Nat.le_refl _) (call_meets F.slot_str_join (typeIs_str _ _ _) F.entry_str_join (F.args_str_join_2 _ _) (meets_str_join_list x t a xs hok) ⟨H.list hh, post_join xs ⟨joinFit_length hok, fun t' k (e : s.toks ≤ k) => h _ _ (H.tk' e)⟩⟩)
theorem sumLen_le {ts : List Str} {k : Nat} (h : ∀ t ∈ ts, t.length ≤ k) : (ts.map (·.length)).sum ≤ ts.length * k := by
  induction ts with
  | nil => simp
  | cons a r ih =>
    simp only [List.map_cons, List.sum_cons, List.length_cons, Nat.succ_mul]
    have := ih fun t ht => h t (List.mem_cons_of_mem _ ht)
    have := h a List.mem_cons_self
    omega
theorem foldl_len (sep : Str) (ts : List Str) (n : Nat) : ts.foldl (fun k (t : Str) => k + t.length + sep.length) n = n + (ts.map (·.length)).sum + ts.length * sep.length := by
  induction ts generalizing n with
  | nil => simp
  | cons a r ih =>
    simp only [List.foldl_cons, List.map_cons, List.sum_cons, List.length_cons, Nat.succ_mul, ih]
    omega
theorem joinOk0 {ts : List Str} (h : (ts.map (·.length)).sum ≤ sizeLine) : JoinOk (Str.ofString "") ts = true := by
  unfold JoinOk Builtin.Str.tooLong
  have e : (Str.ofString "").length = 0 := by decide
  simp only [List.foldl_toArray']
  rw [foldl_len, e]
  simp; omega
theorem join0 (ts : List Str) : (Txt.join (Str.ofString "") ts).cps.toList = (ts.map (·.cps.toList)).flatten := by
  show (Builtin.Str.glued _ ts).cps.toList = _
  rw [StrLaws.glued_eq_join]
  induction ts with
  | nil => rfl
  | cons a r ih =>
    cases r with
    | nil => simp [Str.join]
    | cons b r =>
      rw [join_cons_cons, cps_toList_append, cps_toList_append, ih]
      simp
      decide
end
section
variable {prog : Program} {w : World} {os : OsState} {B Z₀ Z Z' : Fz} {L a c f d : Addr} {m m' : Str → Option Value} {l l' : Led} {s s' : Shared} {p p' : Obj → Prop} {A : Around} {E : Value → Shared → Prop} {env : Env}
  {x y z : Str} {v : Value} {pos : Pos} {N : Nat} {t u : Tok} {target iter : Expr} {body : List Stmt} {item : Nat → Value → Prop} {Qf : Flow → Shared → Prop}
/-- the loop, what it goes over being known -/
def LoopThen (prog : Program) (w : World) (os : OsState) (B Z₀ : Fz) (L : Addr) (A : Around) (env : Env) (target : Expr) (body : List Stmt) (Qf : Flow → Shared → Prop) (xv : Value) (s : Shared) : Prop :=
  ∃ Z m l N item, ∃ Inv : Nat → Fz → (Str → Option Value) → Led → Prop, Src prog w Z xv N item ∧ St w os B Z₀ Z L m l s ∧ Inv 0 Z m l ∧
    (∀ i v Z' m' l' I p s' E', i < N → item i v → (∀ b o, Z b o → Z' b o) → Inv i Z' m' l' → St w os B Z₀ Z' L m' ((I, p) :: l') s' →
      wpAny (model prog w) A (assign target env v) (fun _ s₂ => wpAny (model prog w) A (execs body env) (fun fl s₃ => match fl with
        | .next | .cont => ∃ Z'' m'' l'', St w os B Z₀ Z'' L m'' ((I, p) :: l'') s₃ ∧ (∀ b o, Z' b o → Z'' b o) ∧ Inv (i + 1) Z'' m'' l''
        | .brk => Qf .next s₃
        | .ret v => Qf (.ret v) s₃) E' s₂) E' s') ∧
    (∀ Z' m' l' s', (∀ b o, Z b o → Z' b o) → Inv N Z' m' l' → St w os B Z₀ Z' L m' l' s' → Qf .next s')
theorem loop_then {xv : Value} (H : St w os B Z₀ Z L m l s) (hS : Src prog w Z xv N item) (Inv : Nat → Fz → (Str → Option Value) → Led → Prop) (h0 : Inv 0 Z m l)
    (step : ∀ i v Z' m' l' I p s' E', i < N → item i v → (∀ b o, Z b o → Z' b o) → Inv i Z' m' l' → St w os B Z₀ Z' L m' ((I, p) :: l') s' →
      wpAny (model prog w) A (assign target env v) (fun _ s₂ => wpAny (model prog w) A (execs body env) (fun fl s₃ => match fl with
        | .next | .cont => ∃ Z'' m'' l'', St w os B Z₀ Z'' L m'' ((I, p) :: l'') s₃ ∧ (∀ b o, Z' b o → Z'' b o) ∧ Inv (i + 1) Z'' m'' l''
        | .brk => Qf .next s₃
        | .ret v => Qf (.ret v) s₃) E' s₂) E' s')
    (fin : ∀ Z' m' l' s', (∀ b o, Z b o → Z' b o) → Inv N Z' m' l' → St w os B Z₀ Z' L m' l' s' → Qf .next s') : LoopThen prog w os B Z₀ L A env target body Qf xv s :=
  ⟨Z, m, l, N, item, Inv, hS, H, h0, step, fin⟩
theorem forC (_H : St w os B Z₀ Z L m l s) (hh : A.handled = none) (h : wpAny (model prog w) A (eval iter env) (LoopThen prog w os B Z₀ L A env target body Qf) E s)
    (hs : ∀ x, foldedSetIterable iter env x = pure x := by intro _; rfl) : wpAny (model prog w) A (exec (.For target iter body [] pos) env) Qf E s := by
  refine wpAny_For (wpAny_mono h (fun xv s₁ h₁ => ?_) fun _ _ x => x) hs
  obtain ⟨Z, m, l, N, item, Inv, hS, H, h0, step, fin⟩ := h₁
  refine pyIter_src hh hS H fun I SW oI s' W hst H' => ?_
  exact forItr hh W Inv H' hst h0 (fun i v Z' m' l' p s'' E' hi hv hle' hinv H'' => step i v Z' m' l' I p s'' E' hi hv hle' hinv H'') fin
end
theorem iteB {b : Bool} {P Q : Prop} (h1 : b = true → P) (h2 : b = false → Q) : if b = true then P else Q := by
  cases b
  · exact h2 rfl
  · exact h1 rfl
section
variable {prog : Program} {w : World} {os : OsState} {B Z₀ Z Z' : Fz} {L Lc a c f d : Addr} {m mc m' : Str → Option Value} {l l' ls ls' lr : Led} {s s₀ s' : Shared} {p p' : Obj → Prop} {A : Around} {E : Value → Shared → Prop} {env : Env}
  {x y z : Str} {v : Value} {pos : Pos} {N : Nat} {t u : Tok} {name qual : Str} {params : Arguments} {body : List Stmt} {scope : Scope} {dV kV doc pm cdv ct oc : Value} {an od : Option Addr} {osl : Array (Option Value)} {vs : List Value} {kw : List (Str × Value)}
  {binds : List (Str × Value)} {Q : Value → Shared → Prop}
/-- what stands below a def that is handed some of its caller's own objects -/
abbrev BelowW (ls : Led) (s : Shared) : Fz := fun b o => s.heap.get? b = some o ∧ b ∉ Tabs ∧ b ∉ ls.map (·.1)
theorem St.enterW (H : St w os B Z₀ Z Lc mc (ls ++ lr) s) {h₁ : Heap} (tk : Nat) (htk : 0 < tk) (hL : s.heap.objs.size ≤ L) (hn : h₁.Ns L m) (hk : ∀ b o, s.heap.get? b = some o → h₁.get? b = some o) :
    St w os (BelowW ls s) Z Z L m ls { s with heap := h₁, toks := tk } := by
  have E0 := H.toBase.enter tk htk hL hn hk
  have hlt : ∀ x ∈ ls.map (·.1), x < s.heap.objs.size := fun x hx => H.lt x (.tail _ (by rw [List.map_append]; exact List.mem_append_left _ hx))
  have hLs : L ∉ ls.map (·.1) := fun h => Nat.lt_irrefl _ (Nat.lt_of_lt_of_le (hlt _ h) hL)
  have ndl : (ls.map (·.1)).Nodup := by
    have := H.nd
    rw [List.map_append] at this
    exact (List.nodup_append.mp (List.nodup_cons.mp this).2).1
  have up : ∀ x ∈ ls.map (·.1), x ∈ Lc :: (ls ++ lr).map (·.1) := fun x hx => .tail _ (by rw [List.map_append]; exact List.mem_append_left _ hx)
  refine { E0.toBase with ns := E0.ns, own := ?_, nd := List.nodup_cons.mpr ⟨hLs, ndl⟩, nt := ?_, lo := ?_, nz := ?_, keep := fun b o e => hk b o e.1, nb := ?_, bt := fun b o e => e.2.1, newz := fun b o e => .inl e, le := fun b o e => e }
  · intro q hq
    obtain ⟨o, e, r⟩ := H.own q (List.mem_append_left _ hq)
    exact ⟨o, hk _ _ e, r⟩
  · intro t ht h
    rcases List.mem_cons.mp h with e | h
    · exact E0.nt t ht (e ▸ .head _)
    · exact H.nt t ht (up _ h)
  · intro x h
    rcases List.mem_cons.mp h with e | h
    · exact E0.lo x (e ▸ .head _)
    · exact H.lo x (up _ h)
  · intro b o e h
    rcases List.mem_cons.mp h with e' | h
    · exact E0.nz b o e (e' ▸ .head _)
    · exact H.nz b o e (up _ h)
  · intro b o e h
    rcases List.mem_cons.mp h with e' | h
    · exact absurd (Heap.lt_size e.1) (by rw [e']; exact Nat.not_lt.mpr hL)
    · exact e.2.2 h
theorem St.leaveW (Hc : St w os B Z₀ Z Lc mc (ls ++ lr) s₀) (H : St w os (BelowW ls s₀) Z Z' L m ls' s) : St w os B Z₀ Z' Lc mc (ls' ++ lr) s := by
  have hnd := Hc.nd
  rw [List.map_append] at hnd
  obtain ⟨hn1, hn2⟩ := List.nodup_cons.mp hnd
  obtain ⟨n1, n2, n3⟩ := List.nodup_append.mp hn2
  have lrB : ∀ q ∈ lr, ∃ o, BelowW ls s₀ q.1 o ∧ q.2 o := fun q hq => by
    obtain ⟨o, e, r⟩ := Hc.own q (List.mem_append_right _ hq)
    exact ⟨o, ⟨e, fun h => Hc.nt _ h (.tail _ (List.mem_map_of_mem (f := (·.1)) (List.mem_append_right _ hq))), fun h => n3 _ h _ (List.mem_map_of_mem (f := (·.1)) hq) rfl⟩, r⟩
  have LB : ∃ o es ep, BelowW ls s₀ Lc o ∧ o.data = .dict es ep ∧ StrKeys es ∧ ∀ x, nsFind es x = mc x := by
    obtain ⟨o, es, ep, e, r⟩ := Hc.ns
    exact ⟨o, es, ep, ⟨e, fun h => Hc.nt _ h (.head _), fun h => hn1 (List.mem_append_left _ h)⟩, r⟩
  have BB : ∀ b o, B b o → BelowW ls s₀ b o := fun b o e => ⟨Hc.keep b o e, Hc.bt b o e, fun h => Hc.nb b o e (.tail _ (by rw [List.map_append]; exact List.mem_append_left _ h))⟩
  have up : ∀ x ∈ ls'.map (·.1), x ∈ L :: ls'.map (·.1) := fun x hx => .tail _ hx
  refine { H.toBase with ns := ?_, own := ?_, nd := ?_, nt := ?_, lo := ?_, nz := ?_, keep := fun b o e => H.keep b o (BB b o e), nb := ?_, bt := Hc.bt, newz := ?_, le := fun b o e => H.le b o (Hc.le b o e) }
  · obtain ⟨o, es, ep, e, r⟩ := LB
    exact ⟨o, es, ep, H.keep _ _ e, r⟩
  · intro q hq
    rcases List.mem_append.mp hq with hq | hq
    · exact H.own q hq
    · obtain ⟨o, e, r⟩ := lrB q hq
      exact ⟨o, H.keep _ _ e, r⟩
  · rw [List.map_append]
    refine List.nodup_cons.mpr ⟨fun h => ?_, List.nodup_append.mpr ⟨(List.nodup_cons.mp H.nd).2, n2, fun x hx y hy e => ?_⟩⟩
    · rcases List.mem_append.mp h with h | h
      · obtain ⟨o, es, ep, e, r⟩ := LB
        exact H.nb _ _ e (up _ h)
      · exact hn1 (List.mem_append_right _ h)
    · subst e
      obtain ⟨q, hq, rfl⟩ := List.mem_map.mp hy
      obtain ⟨o, e, r⟩ := lrB q hq
      exact H.nb _ _ e (up _ hx)
  · intro t ht h
    rcases List.mem_cons.mp h with e | h
    · exact Hc.nt t ht (e ▸ .head _)
    · rw [List.map_append] at h
      rcases List.mem_append.mp h with h | h
      · exact H.nt t ht (up _ h)
      · exact Hc.nt t ht (.tail _ (by rw [List.map_append]; exact List.mem_append_right _ h))
  · intro x h
    rcases List.mem_cons.mp h with e | h
    · exact Hc.lo x (e ▸ .head _)
    · rw [List.map_append] at h
      rcases List.mem_append.mp h with h | h
      · exact H.lo x (up _ h)
      · exact Hc.lo x (.tail _ (by rw [List.map_append]; exact List.mem_append_right _ h))
  · intro b o e h
    rcases List.mem_cons.mp h with e' | h
    · obtain ⟨o', es, ep, e1, r⟩ := LB
      rcases H.newz b o e with hz | hz
      · exact Hc.nz b o hz (e' ▸ .head _)
      · exact hz o' (e' ▸ e1)
    · rw [List.map_append] at h
      rcases List.mem_append.mp h with h | h
      · exact H.nz b o e (up _ h)
      · obtain ⟨q, hq, rfl⟩ := List.mem_map.mp h
        obtain ⟨o', e1, r⟩ := lrB q hq
        rcases H.newz _ o e with hz | hz
        · exact Hc.nz _ o hz (.tail _ (by rw [List.map_append]; exact List.mem_append_right _ (List.mem_map_of_mem (f := (·.1)) hq)))
        · exact hz o' e1
  · intro b o e h
    rcases List.mem_cons.mp h with e' | h
    · exact Hc.nb b o e (e' ▸ .head _)
    · rw [List.map_append] at h
      rcases List.mem_append.mp h with h | h
      · exact H.nb b o (BB b o e) (up _ h)
      · exact Hc.nb b o e (.tail _ (by rw [List.map_append]; exact List.mem_append_right _ h))
  · intro b o e
    rcases H.newz b o e with hz | hz
    · exact Hc.newz b o hz
    · exact .inr fun o' h => hz o' (BB b o' h)
/-- a def of the top is entered, handed some of the caller's own objects -/
theorem enterW (hA : A.depth < recursionLimit) (H : St w os B Z₀ Z Lc mc (ls ++ lr) s)
    (ho : (KH w.params).lookup f = some ⟨oc, od, .func (fnOf name qual params body scope dV kV doc pm an cdv ct), osl⟩) (hcd : codeIn (KH w.params) cdv qual = true)
    (hbind : BindsTo s (fnOf name qual params body scope dV kV doc pm an cdv ct) ⟨vs, kw⟩ binds) (hloc : (binds.all fun x => decide (scope.names.lookup x.1 = some .local)) = true)
    (h : ∀ s₁ L E', St w os (BelowW ls s) Z Z L (fun x => binds.reverse.lookup x) ls s₁ →
      wpAny (model prog w) (A.deeper (envX qual scope L f cdv [])) (execs body (envX qual scope L f cdv [])) (fun fl s' => Q (match fl with | .ret v => v | _ => .none) s') E' s₁)
    (hcell : ∀ x ∈ scope.names, x.2 ≠ .cell := by decide) (hco : scope.isCoroutine = false := by rfl) (hgen : scope.isGenerator = false := by rfl) (hk : scope.kind = .function := by rfl) :
    wpAny (model prog w) A (call (.ref f) vs kw) Q E s := by
  refine wpAny_call (codeAny_call_def (fd := fnOf name qual params body scope dV kV doc pm an cdv ct) (body := body) (binds := binds) hA (H.frz _ _ (H.wd.k _ _ ho)) rfl (St.lim H.toBase)
    (codeRec_of (H.wd.in H.frz) hcd) rfl hbind hcell (locs hloc) (fun h₀ hns hk => ?_) hco hgen hk)
  exact h _ s.heap.objs.size _ (H.enterW _ (by have := H.tk; omega) (Nat.le_refl _) hns hk)
/-- all of a stretch of the ledger is frozen -/
theorem St.freezeAll : ∀ (ls : Led) {Z : Fz}, St w os B Z₀ Z L m (ls ++ lr) s → ∃ Z', (∀ b o, Z b o → Z' b o) ∧ (∀ q ∈ ls, ∃ o, Z' q.1 o ∧ q.2 o) ∧ St w os B Z₀ Z' L m lr s
  | [], _, H => ⟨_, fun _ _ e => e, fun _ h => (nomatch h), H⟩
  | q :: r, _, H => by
    obtain ⟨Z1, hle1, ⟨o, hz, hp⟩, H1⟩ := H.freeze (l' := r ++ lr) .here
    obtain ⟨Z2, hle2, hq, H2⟩ := St.freezeAll r H1
    refine ⟨Z2, fun b o e => hle2 _ _ (hle1 _ _ e), fun q' h => ?_, H2⟩
    rcases List.mem_cons.mp h with rfl | h
    · exact ⟨o, hle2 _ _ hz, hp⟩
    · exact hq q' h
end
section
variable {prog : Program} {w : World} {os : OsState} {B Z₀ Z Z' : Fz} {L a oa : Addr} {m : Str → Option Value} {l : Led} {s : Shared} {p po : Obj → Prop} {A : Around} {E : Value → Shared → Prop} {v : Value} {u : Tok}
theorem itemLast {value slice : Expr} {Q : Value → Shared → Prop} {vs : List Value} (H : St w os B Z₀ Z L m l s) (hh : Has Z l a (pL (vs ++ [v]))) (hn : (vs ++ [v]).length ≤ 2 ^ 40) (h : Q v s)
    (hs : subscripted slice false (.ref a) (.int (-1) u) = operate [.ref a, .int (-1) u] (getItem (.ref a) (.int (-1) u)) := by with_unfolding_all rfl) : wpAny (model prog w) A (subscriptTail value slice (.ref a) (.int (-1) u)) Q E s :=
  itemLneg H hh (by decide) (by simp; omega) (by decide) (by
    have : (-1 + ((vs ++ [v]).length : Int)).toNat = vs.length := by simp; omega
    rw [this]; simp) h hs
end
/-! tokens as lists -/
def pTk : Tk → Obj → Prop
  | .ch x => fun o => ∃ t1 t2, pL [.str (Str.ofString "chars") t1, .str (S x) t2] o
  | .fd c n => fun o => ∃ t1 t2 t3, pL [.str (Str.ofString "field") t1, .str (S [c]) t2, .int n t3] o
def tkLed (as : List Addr) (r : List Tk) : Led := List.zipWith (fun a t => (a, pTk t)) as r
def OutLed (oa : Addr) (as : List Addr) (r : List Tk) : Led := (oa, pL (as.map Value.ref).reverse) :: tkLed as r
section
variable {w : World} {os : OsState} {B Z₀ Z : Fz} {L a oa : Addr} {m : Str → Option Value} {l : Led} {s : Shared} {po : Obj → Prop} {x : List Nat} {c n : Nat}
theorem St.exCh (H : St w os B Z₀ Z L m ((oa, po) :: (a, pTk (.ch x)) :: l) s) : ∃ t1 t2, St w os B Z₀ Z L m ((oa, po) :: (a, pL [.str (Str.ofString "chars") t1, .str (S x) t2]) :: l) s := by
  obtain ⟨o, e, t1, t2, hp⟩ := H.own _ (List.mem_cons_of_mem _ List.mem_cons_self)
  exact ⟨t1, t2, H.mut (.there .here) s.toks H.tk ⟨rfl, fun _ _ => rfl⟩ ⟨o, e, hp⟩⟩
theorem St.toCh {t1 t2} (H : St w os B Z₀ Z L m ((oa, po) :: (a, pL [.str (Str.ofString "chars") t1, .str (S x) t2]) :: l) s) : St w os B Z₀ Z L m ((oa, po) :: (a, pTk (.ch x)) :: l) s :=
  H.re (.there .here) fun o hp => ⟨t1, t2, hp⟩
theorem St.exFd (H : St w os B Z₀ Z L m ((oa, po) :: (a, pTk (.fd c n)) :: l) s) : ∃ t1 t2 t3, St w os B Z₀ Z L m ((oa, po) :: (a, pL [.str (Str.ofString "field") t1, .str (S [c]) t2, .int n t3]) :: l) s := by
  obtain ⟨o, e, t1, t2, t3, hp⟩ := H.own _ (List.mem_cons_of_mem _ List.mem_cons_self)
  exact ⟨t1, t2, t3, H.mut (.there .here) s.toks H.tk ⟨rfl, fun _ _ => rfl⟩ ⟨o, e, hp⟩⟩
theorem St.toFd {t1 t2 t3} (H : St w os B Z₀ Z L m ((oa, po) :: (a, pL [.str (Str.ofString "field") t1, .str (S [c]) t2, .int n t3]) :: l) s) : St w os B Z₀ Z L m ((oa, po) :: (a, pTk (.fd c n)) :: l) s :=
  H.re (.there .here) fun o hp => ⟨t1, t2, t3, hp⟩
end
theorem OutLed_cons {oa a : Addr} {as : List Addr} {t : Tk} {r : List Tk} : OutLed oa (a :: as) (t :: r) = (oa, pL ((as.map Value.ref).reverse ++ [.ref a])) :: (a, pTk t) :: tkLed as r := by simp [OutLed, tkLed]
section
variable {w : World} {os : OsState} {B Z₀ Z : Fz} {L : Addr} {m : Str → Option Value} {l : Led} {s : Shared} {x y : Addr × (Obj → Prop)}
theorem St.swap (H : St w os B Z₀ Z L m (x :: y :: l) s) : St w os B Z₀ Z L m (y :: x :: l) s := H.perm (List.Perm.swap ..)
end
theorem slice_one (x : Str) {k : Nat} (hk : k ≤ x.length) : Txt.slice x (some (k : Int)) (some ((k : Int) + 1)) = S ((x.cps.toList.drop k).take 1) := by
  rcases Nat.lt_or_ge k x.length with h | h
  · have := StrLaws.sliceText_nat x (a := k) (b := k + 1) (by omega) (by omega)
    rw [Nat.add_sub_cancel_left] at this
    exact this
  · have e : k = x.length := by omega
    subst e
    have e1 : Builtin.Str.strSliceIndices (some (x.length : Int)) (some ((x.length : Int) + 1)) 1 x.length = [] := by
      have a1 : ¬ ((x.length : Int) < 0) := by omega
      have a2 : ¬ ((x.length : Int) + 1 < 0) := by omega
      have a3 : max (0 : Int) (min (x.length : Int) x.length) = x.length := by omega
      have a4 : max (0 : Int) (min ((x.length : Int) + 1) x.length) = x.length := by omega
      simp [Builtin.Str.strSliceIndices, a1, a2, a3, a4, sliceRange]
    have e2 : x.cps.toList.drop x.length = [] := by simp [Str.length]
    unfold Txt.slice
    rw [e1, e2]
    split
    · rename_i h
      have : x.length = 0 := by have := h; simp at this; omega
      apply Str.ext'
      show x.cps = _
      have : x.cps = #[] := by simpa [Str.length] using this
      rw [this]; rfl
    · rfl
theorem contains_one (x : Str) (c : Nat) : Txt.contains x (S [c]) = decide (c ∈ x.cps.toList) := StrLaws.found_one x c
section
variable {prog : Program} {w : World} {os : OsState} {B Z₀ Z Z' : Fz} {L a c f d : Addr} {m m' : Str → Option Value} {l l' : Led} {s s' : Shared} {p p' : Obj → Prop} {A : Around} {E : Value → Shared → Prop} {env : Env}
  {x y z : Str} {v : Value} {pos : Pos} {N : Nat} {t u : Tok} {test : Expr} {body orelse : List Stmt} {Qf : Flow → Shared → Prop} {Q : Value → Shared → Prop}
theorem whileC (I : Nat → Shared → Prop) (n : Nat) (h : I n s)
    (turn : ∀ n s E', I n s → wpAny (model prog w) A (isTrue test env (eval test env)) (fun b s₂ => if b = true then
        wpAny (model prog w) A (execs body env) (fun fl s₃ => match fl with | .next | .cont => ∃ k, k < n ∧ I k s₃ | .brk => Qf .next s₃ | .ret v => Qf (.ret v) s₃) E' s₂
      else wpAny (model prog w) A (execs orelse env) Qf E' s₂) E' s) : wpAny (model prog w) A (exec (.While test body orelse pos) env) Qf E s :=
  wpAny_While (codeAny_whileLoop I (fun n s hI => turn n s _ hI) n h)
def isFnK (K : Frag) (f : Addr) : Bool := match K.lookup f with | some ⟨_, _, .func _, _⟩ => true | _ => false
/-- a call of a def of the top, by its name -/
theorem callD {fn : Str} {pp : Pos} {e : Expr} {rest : List Expr} (H : Base w os Z s) (hG : nsIn (KH w.params) mainGlobals fn = some (some (.ref f)))
    (ho : isFnK (KH w.params) f = true)
    (h : wpAny (model prog w) A (spliced (backTo pos (starEach (e :: rest) env))) (CallThen prog w os A E f Q) E s)
    (he : starEach (e :: rest) env = (false, eval e env) :: starEach rest env := by rfl)
    (hk : env.scope.kind = .function := by rfl) (hl : env.kindOf fn = some .globalImplicit := by rfl) (hg : env.globals = mainGlobals := by rfl) (hd : (fn == ("__debug__" : Str)) = false := by decide) :
    wpAny (model prog w) A (eval (.Call (.Name fn pp) (e :: rest) [] pos) env) Q E s := by
  unfold isFnK at ho
  split at ho
  · rename_i oc od fd osl hlk
    exact Call_Name rfl (nameG H hG (callWith_def (o := ⟨oc, od, .func fd, osl⟩) rfl
      (wpAny_mono h (fun vs s₁ h₁ => ⟨let ⟨Z₁, H₁⟩ := h₁.1; H₁.frz _ _ (H₁.wd.k _ _ hlk), h₁.2⟩) fun _ _ x => x) he) hk hl hg hd)
  · cases ho
end
inductive All2 {α β : Type} (R : α → β → Prop) : List α → List β → Prop
  | nil : All2 R [] []
  | cons {a b l r} : R a b → All2 R l r → All2 R (a :: l) (b :: r)
theorem All2.len {α β : Type} {R : α → β → Prop} : ∀ {l : List α} {r : List β}, All2 R l r → l.length = r.length
  | _, _, .nil => rfl
  | _, _, .cons _ h => by simp [h.len]
theorem All2.get {α β : Type} {R : α → β → Prop} : ∀ {l : List α} {r : List β}, All2 R l r → ∀ {i : Nat} {x}, l[i]? = some x → ∃ y, r[i]? = some y ∧ R x y
  | _, _, .cons h _, 0, _, e => by simp at e; subst e; exact ⟨_, rfl, h⟩
  | _, _, .cons _ h, i + 1, _, e => by simpa using h.get (by simpa using e)
theorem All2.get' {α β : Type} {R : α → β → Prop} : ∀ {l : List α} {r : List β}, All2 R l r → ∀ {i : Nat} {y}, r[i]? = some y → ∃ x, l[i]? = some x ∧ R x y
  | _, _, .cons h _, 0, _, e => by simp at e; subst e; exact ⟨_, rfl, h⟩
  | _, _, .cons _ h, i + 1, _, e => by simpa using h.get' (by simpa using e)
theorem All2.mono {α β : Type} {R R' : α → β → Prop} (k : ∀ a b, R a b → R' a b) : ∀ {l : List α} {r : List β}, All2 R l r → All2 R' l r
  | _, _, .nil => .nil
  | _, _, .cons h t => .cons (k _ _ h) (t.mono k)
theorem All2.append {α β : Type} {R : α → β → Prop} : ∀ {l : List α} {r : List β} {l' r'}, All2 R l r → All2 R l' r' → All2 R (l ++ l') (r ++ r')
  | _, _, _, _, .nil, h => h
  | _, _, _, _, .cons h t, h' => .cons h (t.append h')
theorem All2.reverse {α β : Type} {R : α → β → Prop} : ∀ {l : List α} {r : List β}, All2 R l r → All2 R l.reverse r.reverse
  | _, _, .nil => .nil
  | _, _, .cons h t => by simp only [List.reverse_cons]; exact t.reverse.append (.cons h .nil)
/-! what frozen values say -/
def TkZ (Z : Fz) (v : Value) (t : Tk) : Prop := ∃ a o, v = .ref a ∧ Z a o ∧ pTk t o
def TksZ (Z : Fz) (v : Value) (ts : List Tk) : Prop := ∃ a o vs, v = .ref a ∧ Z a o ∧ pL vs o ∧ All2 (TkZ Z) vs ts
def RdZ (Z : Fz) (v : Value) (res : List Tk × Bool) : Prop := ∃ a o v1, v = .ref a ∧ Z a o ∧ pT [v1, .bool res.2] o ∧ TksZ Z v1 res.1.reverse
theorem TkZ.mono {Z Z' : Fz} {v t} (k : ∀ b o, Z b o → Z' b o) : TkZ Z v t → TkZ Z' v t := fun ⟨a, o, e, h, r⟩ => ⟨a, o, e, k _ _ h, r⟩
theorem TksZ.mono {Z Z' : Fz} {v t} (k : ∀ b o, Z b o → Z' b o) : TksZ Z v t → TksZ Z' v t := fun ⟨a, o, vs, e, h, r, q⟩ => ⟨a, o, vs, e, k _ _ h, r, q.mono fun _ _ => .mono k⟩
theorem RdZ.mono {Z Z' : Fz} {v t} (k : ∀ b o, Z b o → Z' b o) : RdZ Z v t → RdZ Z' v t := fun ⟨a, o, v1, e, h, r, q⟩ => ⟨a, o, v1, e, k _ _ h, r, q.mono k⟩
theorem tkLed_all {Z : Fz} : ∀ {as : List Addr} {r : List Tk}, as.length = r.length → (∀ q ∈ tkLed as r, ∃ o, Z q.1 o ∧ q.2 o) → All2 (TkZ Z) (as.map Value.ref) r
  | [], [], _, _ => .nil
  | a :: as, t :: r, hl, h => by
    obtain ⟨o, hz, hp⟩ := h (a, pTk t) List.mem_cons_self
    exact .cons ⟨a, o, rfl, hz, hp⟩ (tkLed_all (by simpa using hl) fun q hq => h q (List.mem_cons_of_mem _ hq))
/-- a frame's namespace, as an own object -/
def pNs (m : Str → Option Value) (o : Obj) : Prop := ∃ es ep, o.data = .dict es ep ∧ StrKeys es ∧ ∀ name, nsFind es name = m name
section
variable {prog : Program} {w : World} {os : OsState} {B Z₀ Z Z' : Fz} {L C a c f d I : Addr} {m mC m' : Str → Option Value} {l l' : Led} {s s' : Shared} {p p' : Obj → Prop} {A : Around} {E : Value → Shared → Prop} {env : Env}
  {x y z : Str} {v : Value} {pos : Pos} {N : Nat} {t u : Tok}
theorem pNs.ns {h : Heap} (x : ∃ o, h.get? a = some o ∧ pNs m o) : h.Ns a m := let ⟨o, e, es, ep, r⟩ := x; ⟨o, es, ep, e, r⟩
theorem pNs.of {h : Heap} (x : h.Ns a m) : ∃ o, h.get? a = some o ∧ pNs m o := let ⟨o, es, ep, e, r⟩ := x; ⟨o, e, es, ep, r⟩
/-- the frames change places -/
theorem St.swapFr (H : St w os B Z₀ Z C mC ((L, pNs m) :: l) s) : St w os B Z₀ Z L m ((C, pNs mC) :: l) s := by
  have hp : (C :: ((L, pNs m) :: l).map (·.1)).Perm (L :: ((C, pNs mC) :: l).map (·.1)) := List.Perm.swap ..
  refine { H.toBase with ns := pNs.ns (H.own _ List.mem_cons_self), own := ?_, nd := hp.nodup_iff.mp H.nd, nt := fun t ht x => H.nt t ht (hp.mem_iff.mpr x), lo := fun y x => H.lo y (hp.mem_iff.mpr x), nz := fun b o e x => H.nz b o e (hp.mem_iff.mpr x),
                         keep := H.keep, nb := fun b o e x => H.nb b o e (hp.mem_iff.mpr x), bt := H.bt, newz := H.newz, le := H.le }
  intro q hq
  rcases List.mem_cons.mp hq with rfl | hq
  · exact pNs.of H.ns
  · exact H.own q (.tail _ hq)
/-- a new object, somewhere above -/
theorem St.adopt (H : St w os B Z₀ Z L m l s) {h₁ : Heap} (tk : Nat) (htk : 0 < tk) (hC : s.heap.objs.size ≤ C) (hp : ∃ o, h₁.get? C = some o ∧ p o) (hk : ∀ b o, s.heap.get? b = some o → h₁.get? b = some o) :
    St w os B Z₀ Z L m ((C, p) :: l) { s with heap := h₁, toks := tk } := by
  have G := H.grow tk htk hk
  have hlt := H.lt
  have hno : C ∉ L :: l.map (·.1) := fun h => Nat.lt_irrefl _ (Nat.lt_of_lt_of_le (hlt _ h) hC)
  have hne : ∀ b o, s.heap.get? b = some o → b ≠ C := fun b o e => Nat.ne_of_lt (Nat.lt_of_lt_of_le (Heap.lt_size e) hC)
  refine { G.toBase with ns := G.ns, own := ?_, nd := ?_, nt := ?_, lo := ?_, nz := ?_, keep := G.keep, nb := ?_, bt := H.bt, newz := H.newz, le := H.le }
  · intro q hq
    rcases List.mem_cons.mp hq with rfl | hq
    · exact hp
    · exact G.own q hq
  · have := H.nd
    simp only [List.map_cons, List.nodup_cons, List.mem_cons, not_or] at this hno ⊢
    exact ⟨⟨fun e => hno.1 e.symm, this.1⟩, hno.2, this.2⟩
  · intro t ht h
    rcases List.mem_cons.mp h with e | h
    · exact H.nt t ht (e ▸ .head _)
    · rcases List.mem_cons.mp h with e | h
      · have e : t = C := e
        exact Nat.lt_irrefl _ (Nat.lt_of_lt_of_le (e ▸ H.toBase.tlt t ht) hC)
      · exact H.nt t ht (.tail _ h)
  · intro x h
    rcases List.mem_cons.mp h with e | h
    · exact H.lo x (e ▸ .head _)
    · rcases List.mem_cons.mp h with e | h
      · have e : x = C := e
        exact e ▸ Nat.lt_of_lt_of_le (H.toBase.tlt 68 (by simp)) hC
      · exact H.lo x (.tail _ h)
  · intro b o' e h
    rcases List.mem_cons.mp h with e' | h
    · exact H.nz b o' e (e' ▸ .head _)
    · rcases List.mem_cons.mp h with e' | h
      · exact hne b o' (H.frz b o' e) e'
      · exact H.nz b o' e (.tail _ h)
  · intro b o' e h
    rcases List.mem_cons.mp h with e' | h
    · exact H.nb b o' e (e' ▸ .head _)
    · rcases List.mem_cons.mp h with e' | h
      · exact hne b o' (H.keep b o' e) e'
      · exact H.nb b o' e (.tail _ h)
/-- a comprehension, what it goes over being known -/
def CompThen (prog : Program) (w : World) (os : OsState) (B Z₀ : Fz) (L : Addr) (A : Around) (cenv : Addr → Env) (target : Expr) (ifs : List Expr) (elt : Expr) (m : Str → Option Value) (up : Addr → Str → Option Value) (Q : Value → Shared → Prop) (xv : Value) (s : Shared) : Prop :=
  ∃ Z l N item, ∃ Inv : Nat → Fz → List Value → Led → Prop, Src prog w Z xv N item ∧ St w os B Z₀ Z L m l s ∧ N ≤ sizeLine ∧ Inv 0 Z [] l ∧
    (∀ i v Z' vs l' C I p D mC s' E', i < N → item i v → (∀ b o, Z b o → Z' b o) → Inv i Z' vs l' → St w os B Z₀ Z' C mC ((L, pNs m) :: (I, p) :: (D, pL vs) :: l') s' →
      wpAny (model prog w) A (assign target (cenv C) v) (fun _ s₂ =>
        wpAny (model prog w) A (forIn ifs true fun c r => if r = true then do let ok ← isTrue c (cenv C) (eval c (cenv C)); pure (ForInStep.yield ok) else pure (ForInStep.yield r)) (fun ok s₃ =>
          if ok = true then wpAny (model prog w) A (eval elt (cenv C)) (fun y s₄ => ∃ Z'' mC' l'', St w os B Z₀ Z'' C mC' ((L, pNs m) :: (I, p) :: (D, pL vs) :: l'') s₄ ∧ (∀ b o, Z' b o → Z'' b o) ∧ Inv (i + 1) Z'' (vs ++ [y]) l'') E' s₃
          else ∃ Z'' mC' l'', St w os B Z₀ Z'' C mC' ((L, pNs m) :: (I, p) :: (D, pL vs) :: l'') s₃ ∧ (∀ b o, Z' b o → Z'' b o) ∧ Inv (i + 1) Z'' vs l'') E' s₂) E' s') ∧
    (∀ Z' vs l' D s', (∀ b o, Z b o → Z' b o) → Inv N Z' vs l' → St w os B Z₀ Z' L (up D) ((D, pL vs) :: l') s' → Q (.ref D) s')
theorem compGo {elt target iter : Expr} {ifs : List Expr} {scope : Scope} {cl : List (Str × Addr)} {xv : Value} {Q : Value → Shared → Prop} {use : Option (Value → Sem Unit)} {up : Addr → Str → Option Value} {QQ : Value → Shared → Prop}
    (hh : A.handled = none) (hcell : ∀ y ∈ scope.names, y.2 ≠ .cell) (hkind : scope.kind = .function)
    (ht : ∀ it v, letOwnedTupleGo target it v = pure ()) 
    (h : CompThen prog w os B Z₀ L A (fun C => compEnvC scope cl C env) target ifs elt m up Q xv s)
    (huse : ∀ D C mC Z' l' vs s', St w os B Z₀ Z' L m ((D, pL vs) :: (C, pNs mC) :: l') s' → (∀ s'', St w os B Z₀ Z' L (up D) ((D, pL vs) :: l') s'' → Q (.ref D) s'') →
      compPost (model prog w) A E use QQ (.ref D) C (.ok .next) s') :
    wpAny (model prog w) A (pyIter xv) (fun it s₂ => wpAny (model prog w) A (newList []) (fun acc s₃ => wpAny (model prog w) A (newFunctionEnv scope env.globals cl [] env.qual none .none (some env)) (fun cenv s₄ =>
      codeAny (model prog w) A (.compStart (.ListComp elt [⟨target, iter, ifs, 0⟩] scope pos) 0 it acc { cenv with scope := relabel scope env }) (compPost (model prog w) A E use QQ acc cenv.locals) s₄) E s₃) E s₂) E s := by
  obtain ⟨Z, l, N, item, Inv, hS, H, hN, h0, step, fin⟩ := h
  refine pyIter_src hh hS H fun I SW oI s₂ W hst H₂ => ?_
  have W₁ := W
  obtain ⟨fp, wr, WU, hfp, hwr⟩ := W₁.fp
  have W₀ := WU A hh
  refine wpAny_newObj_type ?_ (by size_fits)
  have H₃ := H₂.alloc (p := pL []) { cls := .type "list", data := .seq ([] : List Value).toArray } rfl ⟨0, rfl⟩
  refine wpAny_newFunctionEnv hcell (by intro y hy; simp at hy) (fun h₁ hns₁ hsb₁ => ?_) hkind
  generalize hD : s₂.heap.objs.size = D at H₃ ⊢
  dsimp only at hns₁ hsb₁ ⊢
  generalize hH2 : s₂.heap.push { cls := .type "list", dict := none, data := .seq ([] : List Value).toArray } = H2 at hns₁ hsb₁ H₃ ⊢
  have keep₁ : ∀ b o, H2.get? b = some o → h₁.get? b = some o := fun b o e => hsb₁.extBut b o (Nat.ne_of_lt (Heap.lt_size e)) (Heap.get?_push_of_some _ e)
  have H₄ := (H₃.adopt (C := H2.objs.size) (h₁ := h₁) (p := pNs fun x => ([] : List (Str × Value)).reverse.lookup x) (s₂.toks + 0) (by have := H₂.tk; omega) (Nat.le_refl _) (pNs.of hns₁) keep₁)
  have H₄ := St.swapFr (m := fun x => ([] : List (Str × Value)).reverse.lookup x) (C := L) (mC := m) (L := H2.objs.size) H₄
  generalize H2.objs.size = C at H₄ ⊢
  have H₅ := H₄.perm ((List.Perm.swap (I, (· = oI)) (D, pL []) l).cons (L, pNs m))
  have keepI : ∀ b o, (b = I ∨ ∃ o, Z b o) → s₂.heap.get? b = some o → h₁.get? b = some o := fun b o _ e => keep₁ b o (by rw [← hH2]; exact Heap.get?_push_of_some _ e)
  have hst₁ : SW 0 h₁ := W₀.frame _ _ _ hst fun b hb o e => keepI b o (hfp b hb) e
  clear hsb₁ hns₁ keep₁ H₂ H₃ H₄
  have loop : codeAny (model prog w) A (.compLoop (.ListComp elt [⟨target, iter, ifs, 0⟩] scope pos) 0 (.ref I) (.ref D) (compEnvC scope cl C env))
        (compPost (model prog w) A E use QQ (.ref D) C) { s₂ with heap := h₁, toks := s₂.toks + 0 } := by
    refine codeAny_compLoop_tests (fun n s' => ∃ i Z' vs l' oI mC, i ≤ N ∧ n = N - i ∧ (∀ b o, Z b o → Z' b o) ∧ SW i s'.heap ∧ vs.length ≤ i ∧ Inv i Z' vs l' ∧ St w os B Z₀ Z' C mC ((L, pNs m) :: (I, (· = oI)) :: (D, pL vs) :: l') s') ?_ N
      ⟨0, Z, [], l, oI, _, Nat.zero_le _, rfl, fun _ _ e => e, hst₁, Nat.le_refl _, h0, H₅⟩ (fun v => ht _ v)
    clear H₅ hst₁ keepI
    rintro n s' ⟨i, Z', vs, l', oI', mC, hi, rfl, hle, hsw, hvs, hinv, H'⟩
    have hkeep : ∀ (s₂ : Shared) (h' : Heap), (∀ b o, b ∉ wr → s₂.heap.get? b = some o → h'.get? b = some o) → Heap.ExtBut I s₂.heap h' := fun s₂ h' hk b o hb e => hk b o (fun x => hb (hwr b x)) e
    have H₁ := H'.perm (List.Perm.swap (I, (· = oI')) (L, pNs m) _)
    rcases Nat.lt_or_ge i N with hlt | hge
    · refine wpAny_with_toks (n := s'.toks) (Nat.le_refl _) (W₀.item i s' _ _ hlt hsw fun v h' tk hv hsw' hk => ?_)
      intro htk
      have htk0 : 0 < tk := Nat.lt_of_lt_of_le H'.tk htk
      obtain ⟨o₁, ho₁, hok⟩ := W₁.at_ _ _ hsw'
      have hx := hkeep s' h' hk
      have H₂ : St w os B Z₀ Z' C mC ((I, (· = o₁)) :: (L, pNs m) :: (D, pL vs) :: l') { s' with heap := h', toks := tk } := by
        have Dp := H₁.lose tk htk0 hx
        refine { Dp.toBase with ns := Dp.ns, own := ?_, nd := H₁.nd, nt := H₁.nt, lo := H₁.lo, nz := H₁.nz, keep := Dp.keep, nb := H₁.nb, bt := Dp.bt, newz := Dp.newz, le := Dp.le }
        intro q hq
        rcases List.mem_cons.mp hq with rfl | hq
        · exact ⟨o₁, ho₁, rfl⟩
        · exact Dp.own q hq
      have H₃ := H₂.perm (List.Perm.swap (L, pNs m) (I, (· = o₁)) _)
      have key : ∀ vs' s₃, (∃ Z'' mC' l'', St w os B Z₀ Z'' C mC' ((L, pNs m) :: (I, (· = o₁)) :: (D, pL vs') :: l'') s₃ ∧ (∀ b o, Z' b o → Z'' b o) ∧ Inv (i + 1) Z'' vs' l'') → vs'.length ≤ i + 1 →
          ∃ k, k < N - i ∧ ∃ i Z' vs l' oI mC, i ≤ N ∧ k = N - i ∧ (∀ b o, Z b o → Z' b o) ∧ SW i s₃.heap ∧ vs.length ≤ i ∧ Inv i Z' vs l' ∧ St w os B Z₀ Z' C mC ((L, pNs m) :: (I, (· = oI)) :: (D, pL vs) :: l') s₃ := by
        rintro vs' s₃ ⟨Z'', mC', l'', H₄, hle', hinv'⟩ hl9
        refine ⟨N - (i + 1), by omega, i + 1, Z'', vs', l'', o₁, mC', hlt, rfl, fun b o e => hle' b o (hle b o e), ?_, hl9, hinv', H₄⟩
        refine W₀.frame _ _ _ hsw' fun b hb o e => ?_
        rcases hfp b hb with rfl | ⟨o', ho'⟩
        · rw [ho₁] at e; cases e
          obtain ⟨o₂, h1, h2⟩ := H₄.own _ (.tail _ (.head _))
          exact h1.trans (congrArg some h2)
        · have e1 := H₃.frz b o' (hle b o' ho')
          have e : h'.get? b = some o := e
          have e1 : h'.get? b = some o' := e1
          rw [e] at e1; cases e1
          exact H₄.frz b o (hle' b o (hle b o ho'))
      refine wpAny_mono (step i v Z' vs l' C I _ D mC _ _ hlt hv hle hinv H₃) (fun _ s₂ h₂ => wpAny_mono h₂ (fun ok s₃ h₃ => ?_) fun _ _ x => x) fun _ _ x => x
      cases ok with
      | false => exact key vs s₃ (by simpa using h₃) (by omega)
      | true =>
        simp only [if_true] at h₃ ⊢
        refine wpAny_mono h₃ (fun y s₄ h₄ => ?_) fun _ _ x => x
        obtain ⟨Z'', mC', l'', H₄, hle', hinv'⟩ := h₄
        obtain ⟨o, e, k, rfl⟩ := H₄.own _ (.tail _ (.tail _ (.head _)))
        refine append_at (hsz := by rw [List.size_toArray]; omega) e fun h'' hs ho' => ?_
        refine key (vs ++ [y]) _ ⟨Z'', mC', l'', H₄.mut (.there (.there .here)) s₄.toks H₄.tk hs ⟨_, ho', k + 1, by simp⟩, hle', hinv'⟩ (by simp; omega)
    · have hin : i = N := Nat.le_antisymm hi hge
      subst hin
      refine wpAny_with_toks (n := s'.toks) (Nat.le_refl _) (W₀.done s' _ _ hsw fun h' tk hk => ?_)
      intro htk
      have H₂ := H₁.lose tk (Nat.lt_of_lt_of_le H'.tk htk) (hkeep s' h' hk)
      have H₃ := St.swapFr H₂
      have H₄ := H₃.perm (List.Perm.swap (D, pL vs) (C, pNs mC) l')
      exact huse D C mC Z' l' vs _ H₄ fun s'' H₅ => fin Z' vs l' D _ hle hinv H₅
  refine codeAny_compStart_list loop (W₀.self 0 _ _ _ hst₁ loop)
/-- a list comprehension's value -/
theorem compE {elt target iter : Expr} {ifs : List Expr} {scope : Scope} {cl : List (Str × Addr)} {Q : Value → Shared → Prop} (_H : St w os B Z₀ Z L m l s) (hh : A.handled = none) (hclos : closureFor scope env = pure cl)
    (h : wpAny (model prog w) A (eval iter env) (fun xv s₁ => ∃ m, CompThen prog w os B Z₀ L A (fun C => compEnvC scope cl C env) target ifs elt m (fun _ => m) Q xv s₁) E s)
    (hcell : ∀ y ∈ scope.names, y.2 ≠ .cell := by decide) (hkind : scope.kind = .function := by rfl) (hnames : ∀ y ∈ scope.names, y.2 = .local → scope.names.lookup y.1 = some .local := by decide)
    (ht : ∀ it v, letOwnedTupleGo target it v = pure () := by intro _ _; rfl) (hs : ∀ x, foldedSetIterable iter env x = pure x := by intro _; rfl) :
    wpAny (model prog w) A (eval (.ListComp elt [⟨target, iter, ifs, 0⟩] scope pos) env) Q E s := by
  rw [eval_ListComp]
  refine wpAny_comprehension_free (use := none) rfl hs hclos hkind hnames (wpAny_mono h (fun xv s₁ h₁ => ?_) fun _ _ e => e)
  obtain ⟨m, h₁⟩ := h₁
  refine compGo hh hcell hkind ht h₁ fun D C mC Z' l' vs s' H hQ => ?_
  refine ⟨mC, pNs.ns (H.own _ (.tail _ (.head _))), fun h' hs' => ?_⟩
  exact hQ _ (H.swap.lose s'.toks H.tk hs'.extBut)
/-- x = a list comprehension -/
theorem compA {elt target iter : Expr} {ifs : List Expr} {scope : Scope} {cl : List (Str × Addr)} {py spos : Pos} {Q : Flow → Shared → Prop} (_H : St w os B Z₀ Z L m l s) (hh : A.handled = none) (hclos : closureFor scope env = pure cl)
    (h : wpAny (model prog w) A (eval iter env) (fun xv s₁ => ∃ m, CompThen prog w os B Z₀ L A (fun C => compEnvC scope cl C env) target ifs elt m (fun D => upd m y (.ref D)) (fun _ => Q .next) xv s₁) E s)
    (hsw : swapsWith (.ListComp elt [⟨target, iter, ifs, 0⟩] scope pos) (some (.Name y py)) spos.line env = pure true := by rfl)
    (hcell : ∀ y ∈ scope.names, y.2 ≠ .cell := by decide) (hkind : scope.kind = .function := by rfl) (hnames : ∀ y ∈ scope.names, y.2 = .local → scope.names.lookup y.1 = some .local := by decide)
    (ht : ∀ it v, letOwnedTupleGo target it v = pure () := by intro _ _; rfl) (hs : ∀ x, foldedSetIterable iter env x = pure x := by intro _; rfl)
    (hy : env.kindOf y = some .local := by rfl) (hL : env.locals = L := by rfl) (hp : (env.scope.kind == .class || (env.scope.kind == .module && env.locals != env.globals)) = false := by rfl) :
    wpAny (model prog w) A (exec (.Assign [.Name y py] (.ListComp elt [⟨target, iter, ifs, 0⟩] scope pos) spos) env) Q E s := by
  rw [exec_Assign_Name_used _ _ _ _ hsw]
  refine wpAny_bind (wpAny_standAt (wpAny_bind ?_))
  show wpAny _ A (do let _ ← comprehension (.ListComp elt [⟨target, iter, ifs, 0⟩] scope pos) scope env _ (newList []) false (eval iter env) (some (assign (.Name y py) env))) _ _ s
  refine wpAny_bind (wpAny_mono (wpAny_comprehension_free (use := some (assign (.Name y py) env)) (Q := fun _ s' => Q .next s') rfl hs hclos hkind hnames
    (wpAny_mono h (fun xv s₁ h₁ => ?_) fun _ _ e => e)) (fun _ s' hq => wpAny_pure (wpAny_pure hq)) fun _ _ e => e)
  obtain ⟨m, h₁⟩ := h₁
  refine compGo hh hcell hkind ht h₁ fun D C mC Z' l' vs s' H hQ => ?_
  show wpAny _ A (assign (.Name y py) env (.ref D)) _ _ _
  refine wpAny_assign_Name (storeL H (fun s'' H' => ?_) hy hL hp)
  refine ⟨mC, pNs.ns (H'.own _ (.tail _ (.head _))), fun h' hs' => ?_⟩
  exact hQ _ (H'.swap.lose s''.toks H'.tk hs'.extBut)
theorem comp_then {cenv : Addr → Env} {target elt : Expr} {ifs : List Expr} {up : Addr → Str → Option Value} {xv : Value} {item : Nat → Value → Prop} {Q : Value → Shared → Prop} (H : St w os B Z₀ Z L m l s) (hS : Src prog w Z xv N item) (hN : N ≤ sizeLine)
    (Inv : Nat → Fz → List Value → Led → Prop) (h0 : Inv 0 Z [] l)
    (step : ∀ i v Z' vs l' C I p D mC s' E', i < N → item i v → (∀ b o, Z b o → Z' b o) → Inv i Z' vs l' → St w os B Z₀ Z' C mC ((L, pNs m) :: (I, p) :: (D, pL vs) :: l') s' →
      wpAny (model prog w) A (assign target (cenv C) v) (fun _ s₂ =>
        wpAny (model prog w) A (forIn ifs true fun c r => if r = true then do let ok ← isTrue c (cenv C) (eval c (cenv C)); pure (ForInStep.yield ok) else pure (ForInStep.yield r)) (fun ok s₃ =>
          if ok = true then wpAny (model prog w) A (eval elt (cenv C)) (fun y s₄ => ∃ Z'' mC' l'', St w os B Z₀ Z'' C mC' ((L, pNs m) :: (I, p) :: (D, pL vs) :: l'') s₄ ∧ (∀ b o, Z' b o → Z'' b o) ∧ Inv (i + 1) Z'' (vs ++ [y]) l'') E' s₃
          else ∃ Z'' mC' l'', St w os B Z₀ Z'' C mC' ((L, pNs m) :: (I, p) :: (D, pL vs) :: l'') s₃ ∧ (∀ b o, Z' b o → Z'' b o) ∧ Inv (i + 1) Z'' vs l'') E' s₂) E' s')
    (fin : ∀ Z' vs l' D s', (∀ b o, Z b o → Z' b o) → Inv N Z' vs l' → St w os B Z₀ Z' L (up D) ((D, pL vs) :: l') s' → Q (.ref D) s') :
    CompThen prog w os B Z₀ L A cenv target ifs elt m up Q xv s := ⟨Z, l, N, item, Inv, hS, H, hN, h0, step, fin⟩
end
section
variable {prog : Program} {w : World} {os : OsState} {B Z₀ Z Z' : Fz} {L Lc C a c f d I : Addr} {m mC m' mc : Str → Option Value} {l l' ls lr : Led} {s s' : Shared} {p p' : Obj → Prop} {A : Around} {E : Value → Shared → Prop} {env : Env}
  {x y z : Str} {v : Value} {pos : Pos} {N : Nat} {t u : Tok} {name qual : Str} {params : Arguments} {body : List Stmt} {scope : Scope} {dV kV doc pm cdv ct oc : Value} {an od : Option Addr} {osl : Array (Option Value)} {vs : List Value} {kw : List (Str × Value)}
  {binds : List (Str × Value)} {Q : Value → Shared → Prop} {cl : List (Str × Addr)}
theorem St.addOwn (H : St w os B Z₀ Z L m l s) (hc : c ∉ L :: l.map (·.1)) (hp : ∃ o, s.heap.get? c = some o ∧ p o) (hz : ∀ b o, Z b o → b ≠ c) (hB : ∀ b o, B b o → b ≠ c) (ht : c ∉ Tabs) (hlo : 68 < c) :
    St w os B Z₀ Z L m ((c, p) :: l) s := by
  refine { H.toBase with ns := H.ns, own := ?_, nd := ?_, nt := ?_, lo := ?_, nz := ?_, keep := H.keep, nb := ?_, bt := H.bt, newz := H.newz, le := H.le }
  · intro q hq
    rcases List.mem_cons.mp hq with rfl | hq
    · exact hp
    · exact H.own q hq
  · have := H.nd
    simp only [List.map_cons, List.nodup_cons, List.mem_cons, not_or] at this hc ⊢
    exact ⟨⟨fun e => hc.1 e.symm, this.1⟩, hc.2, this.2⟩
  · intro t ht' h
    rcases List.mem_cons.mp h with e | h
    · exact H.nt t ht' (e ▸ .head _)
    · rcases List.mem_cons.mp h with e | h
      · exact ht (by have e : t = c := e; exact e ▸ ht')
      · exact H.nt t ht' (.tail _ h)
  · intro x h
    rcases List.mem_cons.mp h with e | h
    · exact H.lo x (e ▸ .head _)
    · rcases List.mem_cons.mp h with e | h
      · have e : x = c := e
        exact e ▸ hlo
      · exact H.lo x (.tail _ h)
  · intro b o' e h
    rcases List.mem_cons.mp h with e' | h
    · exact H.nz b o' e (e' ▸ .head _)
    · rcases List.mem_cons.mp h with e' | h
      · exact hz b o' e e'
      · exact H.nz b o' e (.tail _ h)
  · intro b o' e h
    rcases List.mem_cons.mp h with e' | h
    · exact H.nb b o' e (e' ▸ .head _)
    · rcases List.mem_cons.mp h with e' | h
      · exact hB b o' e e'
      · exact H.nb b o' e (.tail _ h)
abbrev cellLed (cs : List (Str × Addr)) : Led := cs.map fun q => (q.2, pCell none)
theorem St.addCells {s₀ : Shared} (H₀ : Base w os Z s₀) (H : St w os (Below0 s₀) Z Z L m [] s) (hL : s₀.heap.objs.size ≤ L) : ∀ (cs : List (Str × Addr)), (∀ q ∈ cs, L < q.2 ∧ s.heap.IsCell q.2 none) → cs.Pairwise (fun x y => x.2 ≠ y.2) →
    St w os (Below0 s₀) Z Z L m (cellLed cs) s
  | [], _, _ => H
  | q :: r, hc, hp => by
    obtain ⟨h1, h2⟩ := List.pairwise_cons.mp hp
    have ih := St.addCells H₀ H hL r (fun x hx => hc x (.tail _ hx)) h2
    have ⟨hlt, o, ho, hd⟩ := hc q (.head _)
    refine ih.addOwn (c := q.2) (p := pCell none) ?_ ⟨o, ho, hd⟩ ?_ ?_ ?_ ?_
    · intro h
      rcases List.mem_cons.mp h with e | h
      · exact Nat.lt_irrefl _ (e ▸ hlt)
      · obtain ⟨x, hx, e⟩ := List.mem_map.mp h
        obtain ⟨y, hy, rfl⟩ := List.mem_map.mp hx
        exact h1 y hy e.symm
    · intro b o e
      exact Nat.ne_of_lt (Nat.lt_trans (Nat.lt_of_lt_of_le (Heap.lt_size (H₀.frz b o e)) hL) hlt)
    · intro b o e
      exact Nat.ne_of_lt (Nat.lt_trans (Nat.lt_of_lt_of_le (Heap.lt_size e.1) hL) hlt)
    · intro h
      exact Nat.lt_irrefl _ (Nat.lt_trans (Nat.lt_of_lt_of_le (H₀.tlt _ h) hL) hlt)
    · exact Nat.lt_trans (Nat.lt_of_lt_of_le (H₀.tlt 68 (by simp)) hL) hlt
theorem bindC_local {kindOf : Str → Option NameKind} : ∀ {binds : List (Str × Value)} {m : Str → Option Value}, (∀ x ∈ binds, kindOf x.1 = some .local) → bindC kindOf binds m = m
  | [], _, _ => rfl
  | (n, v) :: r, m, h => by
    unfold bindC
    rw [if_pos (h (n, v) (.head _))]
    exact bindC_local fun x hx => h x (.tail _ hx)
theorem cellsFrom_names : ∀ (names : List (Str × NameKind)) (n : Nat) (acc : List (Str × Addr)), (cellsFrom n names acc).map (·.1) = ((names.filter fun x => x.2 == .cell).map (·.1)).reverse ++ acc.map (·.1)
  | [], _, _ => by simp [cellsFrom]
  | (x, k) :: r, n, acc => by
    unfold cellsFrom
    cases hk : k == NameKind.cell
    · simp only [Bool.false_eq_true, if_false]
      rw [cellsFrom_names r n acc, List.filter_cons_of_neg (by simp [hk])]
    · simp only [if_true]
      rw [cellsFrom_names r (n + 1) ((x, n) :: acc), List.filter_cons_of_pos (by simp [hk])]
      simp
theorem lookup_of_mem : ∀ {l : List (Str × Addr)} {q : Str × Addr}, (l.map (·.1)).Nodup → q ∈ l → l.lookup q.1 = some q.2
  | (k, v) :: r, q, hn, hq => by
    obtain ⟨h1, h2⟩ := List.nodup_cons.mp hn
    rw [List.lookup_cons]
    rcases List.mem_cons.mp hq with rfl | hq
    · simp
    · have : (q.1 == k) = false := beq_eq_false_iff_ne.mpr fun e => h1 (e ▸ List.mem_map_of_mem (f := (·.1)) hq)
      rw [this]
      exact lookup_of_mem h2 hq
/-- a def of the top that has cells is entered -/
theorem enterC (hA : A.depth < recursionLimit) (H : Base w os Z s)
    (ho : (KH w.params).lookup f = some ⟨oc, od, .func (fnOf name qual params body scope dV kV doc pm an cdv ct), osl⟩) (hcd : codeIn (KH w.params) cdv qual = true)
    (hbind : bindArgs (fnOf name qual params body scope dV kV doc pm an cdv ct) ⟨vs, []⟩ = pure binds) (hloc : (binds.all fun x => decide (scope.names.lookup x.1 = some .local)) = true)
    (h : ∀ s₁ L E', St w os (Below0 s) Z Z L (bindL (envX qual scope L f cdv (cellsFrom (L + 1) scope.names [])).kindOf binds fun _ => none) (cellLed (cellsFrom (L + 1) scope.names [])) s₁ →
      wpAny (model prog w) (A.deeper (envX qual scope L f cdv (cellsFrom (L + 1) scope.names []))) (execs body (envX qual scope L f cdv (cellsFrom (L + 1) scope.names []))) (fun fl s' => Q (match fl with | .ret v => v | _ => .none) s') E' s₁)
    (hnd : (scope.names.map (·.1)).Nodup := by decide)
    (hco : scope.isCoroutine = false := by rfl) (hgen : scope.isGenerator = false := by rfl) (hk : scope.kind = .function := by rfl) :
    wpAny (model prog w) A (call (.ref f) vs []) Q E s := by
  refine wpAny_call ?_
  have hl := locs hloc
  refine codeAny_call_function (fd := fnOf name qual params body scope dV kV doc pm an cdv ct) (body := body) hA (H.frz _ _ (H.wd.k _ _ ho)) rfl hco hgen rfl (codeRec_of (H.wd.in H.frz) hcd) ?_
  rw [hbind]
  refine wpAny_pure (wpAny_with_toks (Nat.le_refl _) (wpAny_newFunctionEnv_cells hk (fun x hx => .inl (hl x hx)) fun env he s' x htk => ?_))
  subst he
  refine ⟨(St.lim H).keeps x.toInCall.keep, codeAny_func ?_⟩
  obtain ⟨h₁, tk, rfl⟩ := x.toInCall.same
  have hnone := bindC_local (kindOf := Env.kindOf (envX qual scope s.heap.objs.size f cdv (cellsFrom (s.heap.objs.size + 1) scope.names []))) (m := fun _ => none) (fun y hy => hl y hy)
  have E0 := H.enter (h₁ := h₁) tk (Nat.lt_of_lt_of_le H.tk htk) x.toInCall.fresh x.toInCall.ns x.toInCall.keep
  refine h _ s.heap.objs.size _ (St.addCells H E0 (Nat.le_refl _) _ (fun q hq => ⟨x.above q.1 q.2 hq, ?_⟩) x.apart)
  have hx : (cellsFrom (s.heap.objs.size + 1) scope.names []).lookup q.1 = some q.2 := by
    refine lookup_of_mem ?_ hq
    rw [cellsFrom_names]
    simp only [List.map_nil, List.append_nil]
    exact (List.reverse_perm _).nodup_iff.mpr ((List.filter_sublist.map _).nodup hnd)
  exact (congrFun hnone q.1) ▸ x.cell q.1 q.2 hx
end
section
open PySem.SeqAt AutoSeq1 MeetsSeq MeetsSeq2 MeetsSeq3 SeqRoads2
theorem tuple_lt2 (l b : Addr) (n n2 : Nat) (i j : Int) (x y : Str) (ti tj tx ty : Tok) :
    Meets (Builtin.«tuple.__lt__» ⟨[.ref l, .ref b], []⟩)
      (fun A R s => s.heap.get? l = some { cls := .type "tuple", data := .seq #[.int i ti, .str x tx] n } ∧ s.heap.get? b = some { cls := .type "tuple", data := .seq #[.int j tj, .str y ty] n2 } ∧
        R (.ok (.ret (.bool (if i == j then (if x.cps.toList == y.cps.toList then false else decide (x.cps.toList < y.cps.toList)) else decide (i < j))))) s) :=
  .of_wp fun prog w A R s h => by
    obtain ⟨hp, g, d, tk, os⟩ := s; obtain ⟨hl, hb, h⟩ := h
    have f2 := AutoSeq1.sub_tuple_tuple
    wp_walk using wpAny_loadPart' hl, wpAny_loadPart' hb
    refine EqGives.int i j ti tj prog w _ _ _ _ ?_
    cases e1 : i == j with
    | false =>
      rw [e1] at h
      simp only [Bool.not_false, if_true, Bool.false_eq_true, if_false] at h ⊢
      refine wpAny_bind (wpAny_rule (wpAny_bind (PySem.P.lt_int (prog := prog) (w := w) (a := i) (b := j) (t := ti) (u := tj) ?_)))
      wp_walk
      exact ⟨_, rfl, h⟩
    | true =>
      rw [e1] at h
      simp only [if_true] at h
      wp_walk
      refine EqGives.str x y tx ty prog w _ _ _ _ ?_
      cases e2 : x.cps.toList == y.cps.toList with
      | false =>
        rw [e2] at h
        simp only [Bool.not_false, if_true, Bool.false_eq_true, if_false] at h ⊢
        refine wpAny_bind (wpAny_rule (wpAny_bind (PySem.P.lt_str (prog := prog) (w := w) (x := x) (y := y) (t := tx) (u := ty) ?_)))
        wp_walk
        exact ⟨_, rfl, h⟩
      | true =>
        rw [e2] at h
        simp only [if_true] at h
        wp_walk
        exact ⟨_, rfl, by simpa [Builtin.Tuple.tupleCompareSizes] using h⟩
end
section
variable {prog : Program} {w : World} {os : OsState} {B Z₀ Z Z' : Fz} {L a b c f d I : Addr} {m : Str → Option Value} {l : Led} {s : Shared} {A : Around} {E : Value → Shared → Prop} {i j : Int} {x y : Str} {ti tj tx ty : Tok}
theorem ltT {Q : Value → Shared → Prop} (H : St w os B Z₀ Z L m l s) (hu : A.units < cLine) (h1 : Has Z l a (pT [.int i ti, .str x tx])) (h2 : Has Z l b (pT [.int j tj, .str y ty]))
    (h : Q (.bool (if i == j then (if x.cps.toList == y.cps.toList then false else decide (x.cps.toList < y.cps.toList)) else decide (i < j))) s) : wpAny (model prog w) A (compareOp .Lt (.ref a) (.ref b)) Q E s := by
  obtain ⟨o1, e1, n1, rfl⟩ := H.has h1
  obtain ⟨o2, e2, n2, rfl⟩ := H.has h2
  exact richCompare_meets_room (op := .Lt) ⟨_, e1, rfl⟩ ⟨_, e2, rfl⟩ F.slot_tuple_lt F.entry_tuple_lt (F.args_tuple_lt_2 _ _) (tuple_lt2 a b n1 n2 i j x y ti tj tx ty)
    ⟨e1, e2, show _ ≠ Value.notImplemented ∧ Q _ s from ⟨(fun x => nomatch x), h⟩⟩ hu
end
theorem k78 {P : Params} : ∃ o, (KH P).lookup 78 = some o ∧ pT [.ref 73, .ref 74, .ref 75, .ref 76, .ref 77] o := ⟨_, rfl, _, rfl⟩
theorem k73 {P : Params} : ∃ o t1 t2, (KH P).lookup 73 = some o ∧ pT [.str (Str.ofString "z") t1, .str (Str.ofString "v") t2] o := ⟨_, _, _, rfl, _, rfl⟩
theorem k74 {P : Params} : ∃ o t1 t2, (KH P).lookup 74 = some o ∧ pT [.str (Str.ofString "k") t1, .str (Str.ofString "H") t2] o := ⟨_, _, _, rfl, _, rfl⟩
theorem k75 {P : Params} : ∃ o t1 t2, (KH P).lookup 75 = some o ∧ pT [.str (Str.ofString "K") t1, .str (Str.ofString "h") t2] o := ⟨_, _, _, rfl, _, rfl⟩
theorem k76 {P : Params} : ∃ o t1 t2, (KH P).lookup 76 = some o ∧ pT [.str (Str.ofString "a") t1, .str (Str.ofString "") t2] o := ⟨_, _, _, rfl, _, rfl⟩
theorem k77 {P : Params} : ∃ o t1 t2, (KH P).lookup 77 = some o ∧ pT [.str (Str.ofString "b") t1, .str (Str.ofString "") t2] o := ⟨_, _, _, rfl, _, rfl⟩
theorem k72 {P : Params} : ∃ o t1 t2 t3 t4 t5 t6, (KH P).lookup 72 = some o ∧ pT [.str (Str.ofString ".") t1, .str (Str.ofString " - ") t2, .str (Str.ofString " 'to' ") t3, .str (Str.ofString "'o''clock'") t4, .str (Str.ofString ", 'day' ") t5, .str (Str.ofString "/") t6] o := ⟨_, _, _, _, _, _, _, rfl, _, rfl⟩
section
variable {prog : Program} {w : World} {os : OsState} {B Z₀ Z Z' : Fz} {L a b c f d I : Addr} {m : Str → Option Value} {l : Led} {s : Shared} {A : Around} {E : Value → Shared → Prop} {vs : List Value}
theorem eqNil {Q : Value → Shared → Prop} (H : St w os B Z₀ Z L m l s) (hu : A.units < cLine) (h1 : Has Z l a (pL vs)) (h2 : Has Z l b (pL [])) (h : Q (.bool vs.isEmpty) s) : wpAny (model prog w) A (compareOp .Eq (.ref a) (.ref b)) Q E s := by
  cases vs with
  | nil => exact SeqAt.eq_listAt (e := fun _ => true) (H.list h1) (H.list h2) rfl hu (fun j h1 => absurd h1 (by simp)) h
  | cons v r => exact SeqAt.eq_list_lengthsAt (H.list h1) (H.list h2) (by simp) hu h
end
def StrV (v : Value) (x : List Nat) : Prop := ∃ t, v = .str (S x) t
section
variable {prog : Program} {w : World} {os : OsState} {B Z₀ Z Z' : Fz} {L a b c f d I : Addr} {m : Str → Option Value} {l : Led} {s : Shared} {A : Around} {E : Value → Shared → Prop} {i j : Int} {x y : List Nat} {ti tj tx ty : Tok}
theorem ltT' {Q : Value → Shared → Prop} (H : St w os B Z₀ Z L m l s) (hu : A.units < cLine) (h1 : Has Z l a (pT [.int i ti, .str (S x) tx])) (h2 : Has Z l b (pT [.int j tj, .str (S y) ty]))
    (h : Q (.bool (lexLt (i, x) (j, y))) s) : wpAny (model prog w) A (compareOp .Lt (.ref a) (.ref b)) Q E s := by
  refine ltT H hu h1 h2 ?_
  simpa [lexLt] using h
end
theorem triples_snoc : ∀ {l : List Value} {a b : Int} {ta tb : Tok} {v : Value}, TriplesOk l → TriplesOk (l ++ [.int a ta, .int b tb, v])
  | [], _, _, _, _, _, _ => trivial
  | .int _ _ :: .int _ _ :: _ :: r, _, _, _, _, _, h => triples_snoc (l := r) h
theorem among_snoc (p pos : Pos) (v : Value) : ∀ (l : List Value), TriplesOk l → codeAmong p (l ++ [rawInt pos.line, rawInt pos.col, v]) = (codeAmong p l).or (if ((pos.line : Int) == p.line && (pos.col : Int) == p.col) = true then some v else none)
  | [], _ => by simp [codeAmong, rawInt]
  | .int a _ :: .int b _ :: c :: r, h => by
    show codeAmong p (.int a _ :: .int b _ :: c :: (r ++ _)) = _
    unfold codeAmong
    split
    · rfl
    · exact among_snoc p pos v r h
section
variable {prog : Program} {w : World} {os : OsState} {B Z₀ Z Z' : Fz} {L Lc C a c f d I P : Addr} {m mC m' mc : Str → Option Value} {l l' ls lr : Led} {s s' : Shared} {p p' : Obj → Prop} {A : Around} {E : Value → Shared → Prop} {env : Env}
  {x y z : Str} {v : Value} {pos : Pos} {N : Nat} {t u : Tok} {name qual : Str} {params : Arguments} {body : List Stmt} {scope : Scope} {dV kV doc pm cdv ct oc : Value} {an od : Option Addr} {osl : Array (Option Value)} {vs : List Value} {kw : List (Str × Value)}
  {binds : List (Str × Value)} {Q : Value → Shared → Prop} {cl : List (Str × Addr)} {ps : Array Value} {sp : List (Pos × Str)}
theorem tab_apart {q q' : Addr × List (Pos × Str)} (h : q ∈ tabSpec) (h' : q' ∈ tabSpec) (e : q.1 = q'.1) : q = q' := by
  simp only [tabSpec, List.mem_cons, List.mem_nil_iff, or_false] at h h'
  rcases h with rfl | rfl | rfl <;> rcases h' with rfl | rfl | rfl <;> first | rfl | (exact absurd e (by decide))
/-- a code table has grown by one code, which is frozen -/
theorem St.table (H : St w os B Z₀ Z L m l s) (hP : (P, sp) ∈ tabSpec) (ht : s.heap.get? P = some (tabObj ps)) (hok : TriplesOk ps.toList) {h' : Heap} (tk : Nat) (htk : 0 < tk) (hx : Heap.ExtBut P s.heap h') (hc : s.heap.objs.size ≤ c)
    (hr : h'.CodeRec (.ref c) qual) (hn : h'.get? P = some (tabObj (ps ++ #[rawInt pos.line, rawInt pos.col, .ref c]))) (hsp : ∀ x ∈ sp, ((pos.line : Int) == x.1.line && (pos.col : Int) == x.1.col) = true → x.2 = qual) :
    ∃ Z', (∀ b o, Z b o → Z' b o) ∧ CodeRecZ Z' (.ref c) qual ∧ St w os B Z₀ Z' L m l { s with heap := h', toks := tk } := by
  obtain ⟨c1, o, vs, t, e1, ho, hd, hv⟩ := hr
  cases e1
  have hle : ∀ b o', Z b o' → Z b o' ∨ (b = c ∧ o' = o) := fun b o' e => .inl e
  have hP' : P ∈ Tabs := mem_tabs hP
  have keep : ∀ b o', b ∉ Tabs → s.heap.get? b = some o' → h'.get? b = some o' := fun b o' hb e => hx b o' (fun h => hb (h ▸ hP')) e
  have hrec : CodeRecZ (fun b o' => Z b o' ∨ (b = c ∧ o' = o)) (.ref c) qual := ⟨c, o, vs, t, rfl, .inr ⟨rfl, rfl⟩, hd, hv⟩
  have hne : ∀ b o', s.heap.get? b = some o' → b ≠ c := fun b o' e => Nat.ne_of_lt (Nat.lt_of_lt_of_le (Heap.lt_size e) hc)
  have hlt := H.lt
  refine ⟨fun b o' => Z b o' ∨ (b = c ∧ o' = o), hle, hrec,
    { wd := H.wd.mono hle, frz := ?_, zt := ?_, t := ?_, os := H.os, bare := H.bare, tk := htk, ns := ?_, own := ?_, nd := H.nd, nt := H.nt, lo := H.lo, nz := ?_, keep := fun b o' e => keep b o' (H.bt b o' e) (H.keep b o' e), nb := H.nb, bt := H.bt, newz := ?_, le := fun b o' e => .inl (H.le b o' e) }⟩
  · rintro b o' (e | ⟨rfl, rfl⟩)
    · exact keep b o' (H.zt b o' e) (H.frz b o' e)
    · exact ho
  · rintro b o' (e | ⟨rfl, rfl⟩)
    · exact H.zt b o' e
    · intro h
      exact Nat.lt_irrefl _ (Nat.lt_of_lt_of_le (H.toBase.tlt _ h) hc)
  · intro q hq
    obtain ⟨ps', a1, a2, a3⟩ := H.t q hq
    by_cases hqP : q.1 = P
    · have hq2 := tab_apart hq hP hqP
      subst hq2
      rw [ht] at a1
      cases a1
      refine ⟨_, hn, ?_, fun y hy => ?_⟩
      · simp only [Array.toList_append]
        exact triples_snoc hok
      · simp only [Array.toList_append]
        rw [among_snoc _ _ _ _ hok]
        rcases a3 y hy with e | ⟨c', e, r⟩
        · rw [e]
          by_cases hm : ((pos.line : Int) == y.1.line && (pos.col : Int) == y.1.col) = true
          · rw [if_pos hm]
            exact .inr ⟨c, rfl, (hsp y hy hm) ▸ hrec⟩
          · rw [if_neg hm]
            exact .inl rfl
        · rw [e]
          exact .inr ⟨c', rfl, r.mono hle⟩
    · exact ⟨ps', hx _ _ hqP a1, a2, fun y hy => (a3 y hy).imp id fun ⟨c', d, f⟩ => ⟨c', d, f.mono hle⟩⟩
  · obtain ⟨o', es, ep, e, r⟩ := H.ns
    exact ⟨o', es, ep, keep _ _ (fun h => H.nt _ h (.head _)) e, r⟩
  · intro q hq
    obtain ⟨o', e, r⟩ := H.own q hq
    exact ⟨o', keep _ _ (fun h => H.nt _ h (.tail _ (List.mem_map_of_mem (f := (·.1)) hq))) e, r⟩
  · rintro b o' (e | ⟨rfl, rfl⟩) h
    · exact H.nz b o' e h
    · exact Nat.lt_irrefl _ (Nat.lt_of_lt_of_le (hlt _ h) hc)
  · rintro b o' (e | ⟨rfl, rfl⟩)
    · exact H.newz b o' e
    · exact .inr fun o2 h => hne _ _ (H.keep _ _ h) rfl
theorem Wd.bAt {P : Params} {mg : Str → Option Value} {h : Heap} {T : Addr} (W : Wd P Z) (k : ∀ b o, Z b o → h.get? b = some o) (hT : ∀ b o, Z b o → b ≠ T) (hg : h.Ns mainGlobals mg) : h.BuiltinsAt mg T := by
  obtain ⟨mg', mb, a1, a2, a3, bm, ob, b1, b2, b3, b4, b5, b6⟩ := W.ns
  have e : mg = mg' := by
    obtain ⟨o, es, ep, z1, z2, z3, z4⟩ := a1
    obtain ⟨o', es', ep', y1, y2, y3, y4⟩ := hg
    have := k _ _ z1
    rw [this] at y1; cases y1
    rw [z2] at y2; cases y2
    funext x
    rw [← y4, ← z4]
  subst e
  refine ⟨bm, ob, b1, b2, fun e => ?_, hT _ _ b3, k _ _ b3, b4, b5, b6⟩
  obtain ⟨o, es, ep, z1, z2, _⟩ := a1
  have h1 := k _ _ z1
  have h2 := k _ _ b3
  rw [e, h1] at h2; cases h2
  rw [z2] at b6; cases b6
/-- a def within a def is made -/
theorem mkFn (H : St w os B Z₀ Z L m l s) (hP : (P, sp) ∈ tabSpec) (hC : codeHdIn (KH w.params) c P = true) (hcl : closureFor scope env = pure cl) (hcode : env.code = .ref c) (hpos : (pos, qual) ∈ sp)
    (hsp : ∀ x ∈ sp, ((pos.line : Int) == x.1.line && (pos.col : Int) == x.1.col) = true → x.2 = qual)
    (h : ∀ s' Z' f c' doc pm ctv, (∀ b o, Z b o → Z' b o) → CodeRecZ Z' (.ref c') qual → St w os B Z₀ Z' L m ((f, (· = fnMade name qual params body scope cl doc pm c' ctv)) :: l) s' → Q (.ref f) s')
    (hg : env.globals = mainGlobals := by rfl) : wpAny (model prog w) A (makeFunction name qual params (.stmts body) scope env [] [] [] pos pos.line) Q E s := by
  obtain ⟨mg, mb, a1, _⟩ := H.wd.ns
  have hgs := a1.ns H.frz
  have hPt := mem_tabs hP
  have hZP : ∀ b o, Z b o → b ≠ P := fun b o e h => H.zt b o e (h ▸ hPt)
  have hB := H.wd.bAt H.frz hZP hgs
  obtain ⟨ps, t1, t2, t3⟩ := H.t _ hP
  have C := codeHd_of_K (H.wd.in H.frz) hC
  rcases t3 _ hpos with e | ⟨c', e, r⟩
  · refine wpAny_with_toks (Nat.le_refl _) (makeFunction_K hcl hg hgs hcode C t1 t2 e (a1.ne hZP) hB fun c' ctv doc h' tk hx hge hlt hrec htb (htk : s.toks ≤ tk) => ?_)
    obtain ⟨Z', hle, hr, H'⟩ := H.table hP t1 t2 tk (Nat.lt_of_lt_of_le H.tk htk) hx hge hrec htb hsp
    exact h _ Z' _ c' doc _ ctv hle hr (H'.alloc _ rfl rfl)
  · refine wpAny_with_toks (Nat.le_refl _) (makeFunction_hit hcl hg hgs hcode C t1 t2 e hB fun ctv doc h' tk hk hsz (htk : s.toks ≤ tk) => ?_)
    exact h _ Z _ c' doc _ ctv (fun _ _ e => e) r ((H.grow tk (Nat.lt_of_lt_of_le H.tk htk) hk).alloc _ rfl rfl)
/-- a def made within a def is entered; it has no cells of its own -/
theorem enterX {c' : Addr} {ctv : Value} (hA : A.depth < recursionLimit) (H : St w os B Z₀ Z Lc mc (ls ++ lr) s) (ho : Z f (fnMade name qual params body scope cl doc pm c' ctv)) (hcd : CodeRecZ Z (.ref c') qual)
    (hbind : bindArgs (fnX name qual params body scope cl .none .none doc pm none (.ref c') ctv) ⟨vs, []⟩ = pure binds) (hloc : (binds.all fun x => decide (scope.names.lookup x.1 = some .local)) = true)
    (h : ∀ s₁ L E', St w os (BelowW ls s) Z Z L (fun x => binds.reverse.lookup x) ls s₁ →
      wpAny (model prog w) (A.deeper (envX qual scope L f (.ref c') cl)) (execs body (envX qual scope L f (.ref c') cl)) (fun fl s' => Q (match fl with | .ret v => v | _ => .none) s') E' s₁)
    (hcell : ∀ x ∈ scope.names, x.2 ≠ .cell := by decide) (hco : scope.isCoroutine = false := by rfl) (hgen : scope.isGenerator = false := by rfl) (hk : scope.kind = .function := by rfl) :
    wpAny (model prog w) A (call (.ref f) vs []) Q E s := by
  refine wpAny_call ?_
  refine codeAny_call_function (fd := fnX name qual params body scope cl .none .none doc pm none (.ref c') ctv) (body := body) hA (H.frz _ _ ho) rfl hco hgen rfl (hcd.rec H.frz) ?_
  rw [hbind]
  refine wpAny_pure (wpAny_newFunctionEnv hcell (locs hloc) (fun h₁ hn hs => ?_) hk)
  have hkp : ∀ b o, s.heap.get? b = some o → h₁.get? b = some o := fun b o e => hs.extBut b o (Nat.ne_of_lt (Heap.lt_size e)) (Heap.get?_push_of_some _ e)
  refine ⟨(St.lim H.toBase).keeps hkp, codeAny_func ?_⟩
  exact h _ s.heap.objs.size _ (H.enterW _ (by have := H.tk; omega) (Nat.le_refl _) hn hkp)
end
section
variable {prog : Program} {w : World} {os : OsState} {B Z₀ Z Z' : Fz} {L Lc C a b c f d I P : Addr} {m mC m' mc : Str → Option Value} {l l' ls lr : Led} {s s' : Shared} {p p' : Obj → Prop} {A : Around} {E : Value → Shared → Prop} {env : Env}
  {x y z : Str} {v : Value} {pos : Pos} {N : Nat} {t u : Tok} {vs us : List Value}
theorem delItem_all {sl : Addr} {items : Array Value} {n : Nat} {Q : Unit → Shared → Prop} (ho : s.heap.get? a = some (listOf items n)) (hs : s.heap.IsSliceOf sl .none .none .none) (hsz : items.size ≤ sizeLine)
    (h : ∀ h', Heap.SameBut a s.heap h' → (∃ n', h'.get? a = some (listOf #[] n')) → Q () { s with heap := h' }) : wpAny (model prog w) A (delItem (.ref a) (.ref sl)) Q E s := by
  obtain ⟨os, hos, hcs, hds⟩ := id hs
  have hTs : s.TypeIs (.ref sl) "slice" := ⟨os, hos, hcs⟩
  have hT : s.TypeIs (.ref a) "list" := ⟨_, ho, rfl⟩
  refine wpAny_delItem_slot hT (by decide) F.slot_list_delitem (wpAny_call_entry F.slot_list_delitem hT F.entry_list_delitem ?_ (F.args_list_delitem_2 _ _))
  show wpAny _ _ (Builtin.List.listSubscript? (.ref sl) >>= _) _ _ s
  refine wpAny_bind ?_
  unfold Builtin.List.listSubscript?
  refine wpAny_bind (wpAny_specialOf hTs slice_no_index ?_)
  simp only [Option.isNone_none, if_true]
  refine wpAny_pure ?_
  show wpAny _ _ (typeOf (.ref sl) >>= _) _ _ s
  refine wpAny_bind (wpAny_typeOf hTs ?_)
  rw [if_neg (by decide)]
  rw [listSliceParts_eq]
  refine wpAny_bind (wpAny_bind (wpAny_field hos hds (x := .none) rfl (wpAny_bind (wpAny_listPart (k := none) .none ?_))))
  rw [if_neg (show ¬ ((rawPart none == rawInt 0) = true) from Bool.false_ne_true)]
  refine wpAny_bind (wpAny_field hos hds (x := .none) rfl (wpAny_bind (wpAny_listPart (k := none) .none ?_)))
  refine wpAny_bind (wpAny_field hos hds (x := .none) rfl (wpAny_bind (wpAny_listPart (k := none) .none (wpAny_pure ?_))))
  refine wpAny_bind (m := Builtin.List.listItems (.ref a)) ?_
  unfold Builtin.List.listItems
  refine wpAny_bind (wpAny_seqItems ho rfl (wpAny_pure ?_))
  refine wpAny_bind (wpAny_of_eq (sliceIndices_raw none none none items.size (by simp)) ?_)
  refine wpAny_bind (wpAny_rule ?_)
  refine wpAny_bind ?_
  have key : ∀ f : Array Value → Array Value, f items = #[] → (∀ h', Heap.SameBut a s.heap h' → (∃ n', h'.get? a = some (listOf #[] n')) → Q () { s with heap := h' }) →
      ∀ Q' : Unit → Shared → Prop, (∀ s', (∃ h', s' = { s with heap := h' } ∧ Heap.SameBut a s.heap h' ∧ ∃ n', h'.get? a = some (listOf #[] n')) → Q' () s') → ∀ E', wpAny (model prog w) A.in1 (updateSeq a f) Q' E' s := by
    intro f hf _ Q' hq E'
    refine wpAny_updateSeq ho rfl (hq _ ⟨_, rfl, Heap.SameBut.update .., ?_⟩) hsz (by rw [hf]; exact Nat.zero_le _)
    have e : Obj.mapSeq f (listOf items n) = listOf #[] (if (f items).size == items.size then n else n + 1) := by
      show ({ cls := .type "list", dict := none, data := .seq (f items) _, slots := #[] } : Obj) = _
      rw [hf]
    exact ⟨_, by rw [Heap.get?_update_self _ ho (by rw [e]; rfl), e]⟩
  refine key _ ?_ h _ ?_ _
  · have hall : ∀ q ∈ items.toList.zipIdx, q.2 < items.size := fun q hq => by
      have := List.mem_zipIdx hq
      simpa using this.2.1
    show (List.filterMap _ items.toList.zipIdx).toArray = #[]
    rw [List.filterMap_eq_nil_iff.mpr]
    intro q hq
    have hlt := hall q hq
    show (if (if (1 : Int) > 0 then decide ((0 : Int) ≤ q.2) && decide ((q.2 : Int) < items.size) && (((q.2 : Int) - 0) % 1 == 0) else _) = true then none else some q.1) = none
    rw [if_pos]
    rw [if_pos (by decide)]
    simp only [Bool.and_eq_true, decide_eq_true_eq]
    refine ⟨⟨by omega, by omega⟩, by simp⟩
  · rintro s' ⟨h', rfl, hs', hn⟩
    exact wpAny_bind (wpAny_letGo (wpAny_pure ⟨_, rfl, h h' hs' hn⟩))
theorem delAll {sl : Addr} {Q : Unit → Shared → Prop} (H : St w os B Z₀ Z L m l s) (U : Up l a (pL vs) (pL []) l') (hs : s.heap.IsSliceOf sl .none .none .none) (hsz : vs.length ≤ sizeLine)
    (h : ∀ s', St w os B Z₀ Z L m l' s' → Q () s') : wpAny (model prog w) A (delItem (.ref a) (.ref sl)) Q E s := by
  obtain ⟨o, e, n, rfl⟩ := H.own _ U.mem
  refine delItem_all e hs (by simpa using hsz) fun h' hs' ⟨n', hn'⟩ => h _ ?_
  exact H.mut U s.toks H.tk hs' ⟨_, hn', n', rfl⟩
/-- del xs[:] -/
theorem delS {x : Str} {px q pos' pos'' : Pos} {Q : Flow → Shared → Prop} (H : St w os B Z₀ Z L m l s)
    (h : wpAny (model prog w) A (eval (.Name x px) env) (fun o s₁ => ∃ a vs l' Z₁ m₁ l₁, o = .ref a ∧ St w os B Z₀ Z₁ L m₁ l₁ s₁ ∧ Up l₁ a (pL vs) (pL []) l' ∧ vs.length ≤ sizeLine ∧ ∀ s', St w os B Z₀ Z₁ L m₁ l' s' → Q .next s') E s) :
    wpAny (model prog w) A (exec (.Delete [.Subscript (.Name x px) (.Slice none none none q) pos'] pos'') env) Q E s := by
  refine wpAny_Delete (wpAny_deleteEach_cons (wpAny_delete_Subscript (wpAny_mono h (fun o s₁ h₁ => ?_) fun _ _ x => x)))
  obtain ⟨a, vs, l', Z₁, m₁, l₁, rfl, H₁, U, hsz, hq⟩ := h₁
  refine wpAny_Slice (evalPart_none_step (evalPart_none_step (evalPart_none_step ?_)))
  have H₂ := H₁.alloc (p := fun _ => True) { cls := .type "slice", data := .fields #[.none, .none, .none] } rfl trivial
  refine delAll H₂ (.there U) ⟨_, Heap.get?_push_size _ rfl, rfl, rfl⟩ hsz fun s' H' => wpAny_deleteEach_nil (hq s' (H'.drop .here))
theorem extendL {Q : Value → Shared → Prop} (H : St w os B Z₀ Z L m l s) (U : Up l a (pL vs) (pL (vs ++ us)) l') (hb : Has Z l b (pL us)) (hsz : vs.length + us.length ≤ sizeLine) (h : ∀ s', St w os B Z₀ Z L m l' s' → Q .none s') :
    wpAny (model prog w) A (call (.builtin "list.extend") [.ref a, .ref b]) Q E s := by
  obtain ⟨o, e, n, rfl⟩ := H.own _ U.mem
  obtain ⟨o2, e2, n2, rfl⟩ := H.has hb
  refine call_meets F.slot_list_extend ⟨_, e, rfl⟩ F.entry_list_extend (F.args_list_extend_2 _ _) (AutoSeq1.list_extend_list_list_0 a vs.toArray n b us.toArray n2 (extend_door (by simpa using hsz)) (by simp; omega) (by simp; omega)) ⟨e, e2, ?_⟩
  have he : Obj.mapSeq (fun x => x ++ us.toArray) (listOf vs.toArray n) = listOf (vs ++ us).toArray (if (vs.toArray ++ us.toArray).size == vs.toArray.size then n else n + 1) := by
    rw [show listOf vs.toArray n = { cls := .type "list", dict := none, data := .seq vs.toArray n, slots := #[] } from rfl, mapSeq_app]
    simp
  exact h _ (H.mut U s.toks H.tk (Heap.SameBut.update ..) ⟨_, by rw [Heap.get?_update_self _ e (by rw [he]; rfl)]; exact congrArg some he, _, rfl⟩)
/-- a def made within a def is called, without arguments, by its local name -/
theorem callN0 {pp : Pos} {Q : Value → Shared → Prop} (H : St w os B Z₀ Z L m l s) (hv : m x = some (.ref f)) (hf : ∃ oc od fd sl, Z f ⟨oc, od, .func fd, sl⟩) (h : wpAny (model prog w) A (call (.ref f) []) Q E s)
    (hk : env.scope.kind = .function := by rfl) (hl : env.kindOf x = some .local := by rfl) (hL : env.locals = L := by rfl) (hd : (x == ("__debug__" : Str)) = false := by decide) :
    wpAny (model prog w) A (eval (.Call (.Name x pp) [] [] pos) env) Q E s := by
  obtain ⟨oc, od, fd, sl, hz⟩ := hf
  exact Call_Name0 (nameL H hv (callWith_F0 (env := env) ⟨oc, od, fd, sl, H.frz _ _ hz⟩ h) hk hl hL hd)
end
/-! plain: the tokenizer -/
def pats : List Nat := [71, 121, 89, 117, 81, 113, 77, 76, 119, 87, 100, 68, 70, 103, 69, 101, 99, 97, 98, 66, 104, 72, 75, 107, 109, 115, 83, 65, 122, 90, 79, 118, 86, 120, 88]
def rep2 : List Nat → List Nat
  | 39 :: 39 :: r => 0 :: rep2 r
  | c :: r => c :: rep2 r
  | [] => []
def unq (l : List Nat) : List Nat := l.map fun c => if c = 0 then 39 else c
structure TS where
  res : List Tk
  q : Option (List Nat)
  cb : List Nat
  fc : Option Nat
  fn : Nat
def flF (s : TS) : TS := match s.fc with
  | some d => { s with res := s.res ++ [.fd d s.fn], fc := none, fn := 0 }
  | none => s
def flC (s : TS) : TS := if s.cb.isEmpty then s else { s with res := s.res ++ [.ch (unq s.cb)], cb := [] }
def flFC (s : TS) : TS := if s.fc.isSome then flF s else flC s
def tstep (s : TS) (c : Nat) : TS := match s.q with
  | none =>
    if c = 39 then { flFC s with q := some [] }
    else if pats.contains c then
      let s := flC s
      if s.fc = some c then { s with fn := s.fn + 1 } else { flF s with fc := some c, fn := 1 }
    else let s := flF s; { s with cb := s.cb ++ [c] }
  | some qb => if c = 39 then { s with cb := s.cb ++ qb, q := none } else { s with q := some (qb ++ [c]) }
def tokz (l : List Nat) : List Tk := (flFC ((rep2 l).foldl tstep ⟨[], none, [], none, 0⟩)).res
def TSz (k : Nat) (s : TS) : Prop := s.res.length ≤ 2 * k ∧ s.cb.length + (s.q.getD []).length ≤ k
theorem flF_sz {k : Nat} {s : TS} : (flF s).res.length ≤ s.res.length + 1 ∧ (flF s).cb = s.cb ∧ (flF s).q = s.q := by
  unfold flF; split <;> simp
theorem flC_sz {k : Nat} {s : TS} : (flC s).res.length ≤ s.res.length + 1 ∧ (flC s).cb.length ≤ s.cb.length ∧ (flC s).q = s.q := by
  unfold flC; split <;> simp
theorem flFC_sz {s : TS} : (flFC s).res.length ≤ s.res.length + 1 ∧ (flFC s).cb.length ≤ s.cb.length ∧ (flFC s).q = s.q := by
  unfold flFC; split
  · have := flF_sz (k := 0) (s := s); exact ⟨this.1, by rw [this.2.1]; exact Nat.le_refl _, this.2.2⟩
  · exact flC_sz (k := 0)
theorem TSz.step {k : Nat} {s : TS} {c : Nat} (h : TSz k s) : TSz (k + 1) (tstep s c) := by
  obtain ⟨h1, h2⟩ := h
  unfold tstep
  split
  · rename_i hq
    rw [hq] at h2
    simp only [Option.getD_none, List.length_nil, Nat.add_zero] at h2
    split
    · have := flFC_sz (s := s)
      exact ⟨by show (flFC s).res.length ≤ _; omega, by show (flFC s).cb.length + 0 ≤ _; omega⟩
    · split
      · have h3 := flC_sz (k := 0) (s := s)
        have h4 := flF_sz (k := 0) (s := flC s)
        dsimp only
        split
        · exact ⟨by show (flC s).res.length ≤ _; omega, by show (flC s).cb.length + ((flC s).q.getD []).length ≤ _; rw [h3.2.2, hq]; simp; omega⟩
        · exact ⟨by show (flF (flC s)).res.length ≤ _; omega, by show (flF (flC s)).cb.length + ((flF (flC s)).q.getD []).length ≤ _; rw [h4.2.1, h4.2.2, h3.2.2, hq]; simp; omega⟩
      · have h3 := flF_sz (k := 0) (s := s)
        exact ⟨by show (flF s).res.length ≤ _; omega, by show ((flF s).cb ++ [c]).length + ((flF s).q.getD []).length ≤ _; rw [h3.2.1, h3.2.2, hq]; simp; omega⟩
  · rename_i qb hq
    rw [hq] at h2
    simp only [Option.getD_some] at h2
    split
    · exact ⟨by show s.res.length ≤ _; omega, by show (s.cb ++ qb).length + 0 ≤ _; simp; omega⟩
    · exact ⟨by show s.res.length ≤ _; omega, by show s.cb.length + (qb ++ [c]).length ≤ _; simp; omega⟩
theorem TSz.fold : ∀ {l : List Nat} {k : Nat} {s : TS}, TSz k s → TSz (k + l.length) (l.foldl tstep s)
  | [], _, _, h => h
  | c :: l, k, s, h => by
    rw [List.length_cons, show k + (l.length + 1) = k + 1 + l.length from by omega]
    exact TSz.fold h.step
theorem rep2_len : ∀ l, (rep2 l).length ≤ l.length
  | [] => Nat.le_refl _
  | [c] => by simp [rep2]
  | c :: d :: r => by
    rw [rep2.eq_def]
    split
    · rename_i r' e
      simp only [List.cons.injEq] at e
      have := rep2_len r
      rw [e.2.2] at this
      simp only [List.length_cons, e.2.2]; omega
    · rename_i c' r' _ e
      simp only [List.cons.injEq] at e
      have := rep2_len (d :: r)
      rw [e.2] at this
      simp only [List.length_cons] at this ⊢
      have e3 := congrArg List.length e.2
      simp only [List.length_cons] at e3
      omega
    · rename_i e; simp at e
theorem perm_ends {α : Type} (x y : α) (l : List α) : (x :: (l ++ [y])).Perm (y :: (l ++ [x])) := by
  have h1 : (x :: (l ++ [y])).Perm ((l ++ [y]) ++ [x]) := (List.perm_append_singleton x _).symm
  rw [List.append_assoc] at h1
  exact h1.trans (List.perm_middle (l₁ := l) (a := y) (l₂ := [x]))
def untok1 : Tk → List Nat
  | .fd c n => List.replicate n c
  | .ch s => if s.any pats.contains then [39] ++ (s.flatMap fun d => if d = 39 then [39, 39] else [d]) ++ [39] else s
def untok (ts : List Tk) : List Nat := (ts.map untok1).flatten
/-! plain: replace, sign by sign -/
def rp (y z : List Nat) : Nat → List Nat → List Nat
  | _, [] => []
  | k + 1, _ :: r => rp y z k r
  | 0, c :: r => if y.isPrefixOf (c :: r) = true then z ++ rp y z (y.length - 1) r else c :: rp y z 0 r
section
open Builtin.Str StrLaws
def cutsF (x y : Str) : Nat → Nat → Nat → List Nat
  | 0, _, _ => []
  | k + 1, i, f => if (f ≤ i ∧ i + y.length ≤ x.length) ∧ subAt x y i = true then i :: cutsF x y k (i + 1) (i + y.length) else cutsF x y k (i + 1) f
theorem occ_cuts (x y : Str) (limit : Nat) : ∀ (k i : Nat) (st : Array Nat × Nat), st.fst.size + k ≤ limit →
    (forIn (List.range' i k) st (occBody x y x.length limit)).run.fst.toList = st.fst.toList ++ cutsF x y k i st.snd
  | 0, i, st, _ => by show st.fst.toList = _; simp [cutsF]
  | k + 1, i, st, h => by
    rw [List.range'_succ, List.forIn_cons]
    unfold occBody cutsF
    by_cases hc : (st.snd ≤ i ∧ i + y.length ≤ x.length) ∧ subAt x y i = true
    · rw [if_pos ⟨⟨⟨by omega, hc.1.1⟩, hc.1.2⟩, hc.2⟩, if_pos hc]
      have := occ_cuts x y limit k (i + 1) (st.fst.push i, i + y.length) (by simp only [Array.size_push]; omega)
      refine this.trans ?_
      simp
    · rw [if_neg (fun e => hc ⟨⟨e.1.1.2, e.1.2⟩, e.2⟩), if_neg hc]
      exact occ_cuts x y limit k (i + 1) st (by omega)
theorem prefix_at (x y : Str) (i : Nat) : (i + y.length ≤ x.length ∧ subAt x y i = true) ↔ y.cps.toList.isPrefixOf (x.cps.toList.drop i) = true ∧ i + y.length ≤ x.length := by
  rw [subAt_eq, List.isPrefixOf_iff_prefix, List.prefix_iff_eq_take]
  have e : y.cps.toList.length = y.length := by simp [Str.length]
  rw [e, beq_iff_eq]
  exact ⟨fun h => ⟨h.2.symm, h.1⟩, fun h => ⟨h.2, h.1.symm⟩⟩
theorem join_cons (z p : Str) {l : List Str} (h : l ≠ []) : (Str.join z (p :: l)).cps.toList = p.cps.toList ++ z.cps.toList ++ (Str.join z l).cps.toList := by
  cases l with
  | nil => exact absurd rfl h
  | cons q r => rw [PyProof.Rows.join_cons_cons]; simp [PyProof.Rows.cps_toList_append]
theorem parts_nil (x : Str) (w a : Nat) (cs : List Nat) : partsFrom x w a cs ≠ [] := by
  obtain ⟨p, r, e⟩ := partsFrom_ne x w a cs
  rw [e]; simp
theorem join_cuts (x y z : Str) (hy : 0 < y.length) : ∀ (k i a : Nat), i + k = x.length + 1 → a ≤ x.length →
    (Str.join z (partsFrom x y.length a (cutsF x y k i a))).cps.toList = if a ≤ i then (x.cps.toList.drop a).take (i - a) ++ rp y.cps.toList z.cps.toList 0 (x.cps.toList.drop i) else rp y.cps.toList z.cps.toList (a - i) (x.cps.toList.drop i) := by
  have hn : x.cps.toList.length = x.length := by simp [Str.length]
  have hyl : y.cps.toList.length = y.length := by simp [Str.length]
  intro k
  induction k with
  | zero =>
    intro i a hi ha
    have e : x.cps.toList.drop i = [] := List.drop_eq_nil_of_le (by omega)
    rw [if_pos (by omega), e]
    show (strSub x a x.length).cps.toList = _
    rw [strSub_toList, List.take_of_length_le (by simp only [List.length_drop]; omega), List.take_of_length_le (by simp only [List.length_drop]; omega)]
    simp [rp]
  | succ k ih =>
    intro i a hi ha
    unfold cutsF
    by_cases hai : a ≤ i
    · rw [if_pos hai]
      by_cases hm : i + y.length ≤ x.length ∧ subAt x y i = true
      · rw [if_pos ⟨⟨hai, hm.1⟩, hm.2⟩]
        show (Str.join z (strSub x a i :: partsFrom x y.length (i + y.length) (cutsF x y k (i + 1) (i + y.length)))).cps.toList = _
        rw [join_cons z _ (parts_nil _ _ _ _), ih (i + 1) (i + y.length) (by omega) hm.1]
        have hp := ((prefix_at x y i).mp hm).1
        have hlt : i < x.cps.toList.length := by omega
        have hd : x.cps.toList.drop i = x.cps.toList[i] :: x.cps.toList.drop (i + 1) := List.drop_eq_getElem_cons hlt
        have e : rp y.cps.toList z.cps.toList 0 (x.cps.toList.drop i) = z.cps.toList ++ rp y.cps.toList z.cps.toList (y.length - 1) (x.cps.toList.drop (i + 1)) := by
          rw [hd] at hp ⊢
          rw [rp, if_pos hp, hyl]
        rw [e, strSub_toList]
        by_cases h1 : y.length = 1
        · rw [if_pos (by omega), h1]; simp
        · rw [if_neg (by omega), show i + y.length - (i + 1) = y.length - 1 from by omega]; simp
      · rw [if_neg (fun e => hm ⟨e.1.2, e.2⟩), ih (i + 1) a (by omega) ha, if_pos (by omega)]
        rcases Nat.lt_or_ge i x.length with hlt | hge
        · have hlt' : i < x.cps.toList.length := by omega
          have hd : x.cps.toList.drop i = x.cps.toList[i] :: x.cps.toList.drop (i + 1) := List.drop_eq_getElem_cons hlt'
          have hnp : ¬ y.cps.toList.isPrefixOf (x.cps.toList.drop i) = true := by
            intro hp
            have : i + y.length ≤ x.length := by
              have := (List.isPrefixOf_iff_prefix.mp hp).length_le
              simp only [List.length_drop] at this; omega
            exact hm ((prefix_at x y i).mpr ⟨hp, this⟩)
          have e : rp y.cps.toList z.cps.toList 0 (x.cps.toList.drop i) = x.cps.toList[i] :: rp y.cps.toList z.cps.toList 0 (x.cps.toList.drop (i + 1)) := by
            rw [hd] at hnp ⊢
            rw [rp, if_neg hnp]
          rw [e, show i + 1 - a = (i - a) + 1 from by omega, List.take_add_one]
          have : (x.cps.toList.drop a)[i - a]? = some x.cps.toList[i] := by
            rw [List.getElem?_drop, show a + (i - a) = i from by omega]; simp [hlt]
          rw [this]; simp
        · have e1 : x.cps.toList.drop i = [] := List.drop_eq_nil_of_le (by omega)
          have e2 : x.cps.toList.drop (i + 1) = [] := List.drop_eq_nil_of_le (by omega)
          rw [e1, e2, List.take_of_length_le (by simp only [List.length_drop]; omega), List.take_of_length_le (by simp only [List.length_drop]; omega)]
    · rw [if_neg hai, if_neg (fun e => hai e.1.1), ih (i + 1) a (by omega) ha]
      have hlt' : i < x.cps.toList.length := by omega
      have hd : x.cps.toList.drop i = x.cps.toList[i] :: x.cps.toList.drop (i + 1) := List.drop_eq_getElem_cons hlt'
      have e : rp y.cps.toList z.cps.toList (a - i) (x.cps.toList.drop i) = rp y.cps.toList z.cps.toList (a - (i + 1)) (x.cps.toList.drop (i + 1)) := by
        rw [hd, show a - i = (a - (i + 1)) + 1 from by omega, rp]
      rw [e]
      by_cases h1 : a = i + 1
      · subst h1; rw [if_pos (Nat.le_refl _)]; simp
      · rw [if_neg (by omega)]
theorem replace_rp (x y z : Str) (hy : 0 < y.length) : (Txt.replace x y z).cps.toList = rp y.cps.toList z.cps.toList 0 x.cps.toList := by
  have hocc : occurrences x y 0 x.length (x.length + 1) = cutsF x y (x.length + 1) 0 0 := by
    rw [occ_eq]
    have := occ_cuts x y (x.length + 1) (x.length + 1) 0 (#[], 0) (by simp)
    simpa using this
  have key := join_cuts x y z hy (x.length + 1) 0 0 (by omega) (Nat.zero_le _)
  rw [if_pos (Nat.le_refl _)] at key
  simp only [Nat.sub_self, List.take_zero, List.nil_append, List.drop_zero] at key
  unfold Txt.replace
  rw [hocc]
  split
  · rename_i hc
    rcases Bool.or_eq_true _ _ ▸ hc with h | h
    · have e : cutsF x y (x.length + 1) 0 0 = [] := by simpa using h
      rw [e] at key
      rw [← key]
      show _ = (strSub x 0 x.length).cps.toList
      rw [sub_whole]
    · simp at h; omega
  · rw [glued_eq_join, partsBetween_eq, key]
end
theorem rp_one (c : Nat) (z : List Nat) : ∀ l, rp [c] z 0 l = l.flatMap fun d => if d = c then z else [d]
  | [] => rfl
  | d :: r => by
    rw [rp, List.flatMap_cons, ← rp_one c z r]
    by_cases h : d = c
    · subst h; simp
    · have : ¬ [c].isPrefixOf (d :: r) = true := by simp; exact fun e => h e.symm
      rw [if_neg this, if_neg h]; rfl
theorem rp_quotes : ∀ l, rp [39, 39] [0] 0 l = rep2 l
  | [] => rfl
  | [c] => by rw [rp, if_neg (by simp [List.isPrefixOf])]; simp [rep2, rp]
  | c :: d :: r => by
    rw [rp]
    by_cases h : c = 39 ∧ d = 39
    · obtain ⟨rfl, rfl⟩ := h
      rw [if_pos (by simp [List.isPrefixOf])]
      show 0 :: rp [39, 39] [0] 1 (39 :: r) = _
      rw [rp, rp_quotes r]; rfl
    · rw [if_neg (by simp [List.isPrefixOf]; intro e; intro e2; exact h ⟨e.symm, e2.symm⟩), rp_quotes (d :: r)]
      conv => rhs; rw [rep2.eq_def]
      split
      · rename_i r' e
        simp only [List.cons.injEq] at e
        exact absurd ⟨e.1, e.2.1⟩ h
      · rename_i c' r' _ e
        simp only [List.cons.injEq] at e
        rw [e.1, e.2]
      · rename_i e; simp at e
theorem k15 {P : Params} : ∃ es n, (KH P).lookup 15 = some ⟨.type "dict", none, .dict es n, #[]⟩ ∧ KeysLit P es.toList ∧ All2 (fun (e : DictEntry) c => ∃ t, e.key = .str (S [c]) t) es.toList pats := by
  refine ⟨_, _, rfl, ?_, ?_⟩
  · repeat' (first | exact True.intro | refine And.intro ⟨_, _, rfl, rfl⟩ ?_)
  · repeat' (first | exact .nil | refine .cons ⟨_, congrArg (fun z => Value.str z _) (by decide +kernel)⟩ ?_)
theorem pat_in {es : Array DictEntry} {c : Nat} (h : All2 (fun (e : DictEntry) c => ∃ t, e.key = .str (S [c]) t) es.toList pats) : (findBy Value.isStrOf es (S [c])).isSome = pats.contains c := by
  obtain ⟨l⟩ := es
  unfold findBy
  rw [List.find?_toArray, Option.isSome_map, List.isSome_find?]
  have : ∀ {l : List DictEntry} {ps : List Nat}, All2 (fun (e : DictEntry) c => ∃ t, e.key = .str (S [c]) t) l ps → l.any (fun e => Value.isStrOf (S [c]) e.key) = ps.contains c := by
    intro l ps h
    induction h with
    | nil => rfl
    | @cons e d l r he _ ih =>
      obtain ⟨t, he⟩ := he
      rw [List.any_cons, List.contains_cons, ih, he]
      congr 1
      show (S [d] == S [c]) = _
      rw [S_beq]
      by_cases hd : d = c
      · subst hd; simp
      · have hd' : ¬ c = d := fun e => hd e.symm
        simp; rw [beq_eq_false_iff_ne.mpr hd, beq_eq_false_iff_ne.mpr hd']
  exact this h
section
variable {prog : Program} {w : World} {os : OsState} {B Z₀ Z Z' : Fz} {L a : Addr} {m : Str → Option Value} {l : Led} {s : Shared} {A : Around} {E : Value → Shared → Prop} {c : Nat} {t : Tok} {vs : List Value} {xs : List (List Nat)}
theorem patIn {Q : Value → Shared → Prop} (H : St w os B Z₀ Z L m l s) (h : ∀ s', St w os B Z₀ Z L m l s' → Q (.bool (pats.contains c)) s') : wpAny (model prog w) A (compareOp .In (.str (S [c]) t) (.ref 15)) Q E s := by
  obtain ⟨es, n, hl, hk, ha⟩ := k15 (P := w.params)
  refine wpAny_in_of (strKind_is prog w (S [c]) t) (by decide) (mapOf_K (prog := prog) (H.wd.in H.frz) hl hk) ?_
  rw [pat_in ha]
  exact h _ H.tok1
theorem strs_of : ∀ {vs : List Value} {xs : List (List Nat)}, All2 StrV vs xs → ∃ ps : List (Str × Tok), strValues ps = vs ∧ ps.map (·.1) = xs.map S
  | _, _, .nil => ⟨[], rfl, rfl⟩
  | _, _, .cons ⟨t, h⟩ r => by
    obtain ⟨ps, h1, h2⟩ := strs_of r
    exact ⟨(_, t) :: ps, by rw [h, ← h1]; rfl, by simp only [List.map_cons, h2]⟩
/-- ''.join of texts -/
theorem joinS' {Q : Value → Shared → Prop} (H : St w os B Z₀ Z L m l s) (hh : Has Z l a (pL vs)) (hv : All2 StrV vs xs) (hsz : xs.flatten.length ≤ sizeLine) (h : ∀ s' t', St w os B Z₀ Z L m l s' → Q (.str (S xs.flatten) t') s') :
    wpAny (model prog w) A (call (.builtin "str.join") [.str (Str.ofString "") t, .ref a]) Q E s := by
  obtain ⟨ps, h1, h2⟩ := strs_of hv
  subst h1
  have hlen : ((ps.map (·.1)).map (·.length)).sum ≤ sizeLine := by
    rw [h2, List.map_map]
    refine Nat.le_trans (Nat.le_of_eq ?_) hsz
    rw [List.length_flatten]
    exact congrArg List.sum (List.map_congr_left fun x _ => S_len x)
  refine joinS H hh (joinOk0 hlen) fun s' t' H' => ?_
  have e : Txt.join (Str.ofString "") (ps.map (·.1)) = S xs.flatten := by
    have := join0 (ps.map (·.1))
    rw [h2, List.map_map] at this
    have e2 : (xs.map ((fun x : Str => x.cps.toList) ∘ S)) = xs := by
      conv => rhs; rw [← List.map_id xs]
      exact List.map_congr_left fun x _ => by simp
    rw [e2] at this
    rw [h2, ← this, S_cps]
  rw [e]
  exact h _ _ H'
end
theorem replace_S (x y z : List Nat) (hy : 0 < y.length) : Txt.replace (S x) (S y) (S z) = S (rp y z 0 x) := by
  have := replace_rp (S x) (S y) (S z) (by rw [S_len]; exact hy)
  simp only [S_list] at this
  rw [← this, S_cps]
theorem map_single {l : List Nat} : (l.map fun c => [c]).flatten = l := by induction l <;> simp_all
theorem St.get_ {w : World} {os : OsState} {B Z₀ Z : Fz} {L a : Addr} {m : Str → Option Value} {l : Led} {s : Shared} {vs : List Value} {k : Int} {v : Value} {t : Tok} {prog : Program} {A : Around} {E : Value → Shared → Prop} {Q : Value → Shared → Prop}
    (H : St w os B Z₀ Z L m l s) (hh : Has Z l a (pL vs)) (h0 : 0 ≤ k) (h1 : k < 2 ^ 63) (hx : vs[k.toNat]? = some v) (h : Q v s) : wpAny (model prog w) A (getItem (.ref a) (.int k t)) Q E s :=
  wpAny_getItem_list (H.list hh) h0 h1 (by simpa using hx) h
theorem mkFn' {prog : Program} {w : World} {os : OsState} {B Z₀ Z : Fz} {L c P : Addr} {m : Str → Option Value} {l : Led} {s : Shared} {A : Around} {E : Value → Shared → Prop} {env : Env} {pos : Pos} {name qn qual : Str} {params : Arguments} {body : List Stmt} {scope : Scope}
    {Q : Value → Shared → Prop} {cl : List (Str × Addr)} {sp : List (Pos × Str)} (H : St w os B Z₀ Z L m l s) (hq : qn = qual) (hP : (P, sp) ∈ tabSpec) (hC : codeHdIn (KH w.params) c P = true) (hcl : closureFor scope env = pure cl) (hcode : env.code = .ref c) (hpos : (pos, qual) ∈ sp)
    (hsp : ∀ x ∈ sp, ((pos.line : Int) == x.1.line && (pos.col : Int) == x.1.col) = true → x.2 = qual)
    (h : ∀ s' Z' f c' doc pm ctv, (∀ b o, Z b o → Z' b o) → CodeRecZ Z' (.ref c') qual → St w os B Z₀ Z' L m ((f, (· = fnMade name qual params body scope cl doc pm c' ctv)) :: l) s' → Q (.ref f) s')
    (hg : env.globals = mainGlobals := by rfl) : wpAny (model prog w) A (makeFunction name qn params (.stmts body) scope env [] [] [] pos pos.line) Q E s := by
  subst hq
  exact mkFn H hP hC hcl hcode hpos hsp h hg
section
variable {prog : Program} {w : World} {os : OsState} {B Z₀ Z Z' : Fz} {L Lc C a c f d I P : Addr} {m mC m' mc : Str → Option Value} {l l' ls lr : Led} {s s' : Shared} {p p' : Obj → Prop} {A : Around} {E : Value → Shared → Prop} {env : Env}
  {x y z : Str} {v : Value} {pos gpos px : Pos} {N : Nat} {t u : Tok} {elt iter : Expr} {ifs : List Expr} {scope : Scope} {cl : List (Str × Addr)}
theorem St.gens (H : St w os B Z₀ Z L m l s) {g : Array GenState} (hg : AllBare g) : St w os B Z₀ Z L m l { s with gens := g } :=
  { wd := H.wd, frz := H.frz, zt := H.zt, t := H.t, os := H.os, bare := hg, tk := H.tk, ns := H.ns, own := H.own, nd := H.nd, nt := H.nt, lo := H.lo, nz := H.nz, keep := H.keep, nb := H.nb, bt := H.bt, newz := H.newz, le := H.le }
/-- what a generator expression goes over, what it asks and what it gives -/
def GenThen (prog : Program) (w : World) (os : OsState) (B Z₀ : Fz) (L : Addr) (cenv : Addr → Value → Env) (x : Str) (ifs : List Expr) (elt : Expr) (Q : (N : Nat) → (Nat → Bool) → (Nat → Value → Prop) → Fz → (Str → Option Value) → Led → Prop) (xv : Value) (s : Shared) : Prop :=
  ∃ Z m l N item pz F, Src prog w Z xv N item ∧ St w os B Z₀ Z L m l s ∧
    (∀ (A' : Around) E' i v C code (s₂ : Shared) m₂, A'.handled = none → item i v → s₂.heap.Ns C m₂ → m₂ x = some v → (∀ b o, Z b o → s₂.heap.get? b = some o) →
      wpAny (model prog w) A' (forIn ifs true fun c r => if r = true then do let ok ← isTrue c (cenv C code) (eval c (cenv C code)); pure (ForInStep.yield ok) else pure (ForInStep.yield r)) (fun ok s₃ => ok = pz i ∧ Keeps s₂ s₃) E' s₂) ∧
    (∀ (A' : Around) E' i v C code (s₂ : Shared) m₂, A'.handled = none → item i v → pz i = true → s₂.heap.Ns C m₂ → m₂ x = some v → (∀ b o, Z b o → s₂.heap.get? b = some o) →
      wpAny (model prog w) A' (eval elt (cenv C code)) (fun y s₃ => F i y ∧ Keeps s₂ s₃) E' s₂) ∧
    Q N pz F Z m l
theorem genE {Q : Value → Shared → Prop} (_H : St w os B Z₀ Z L m l s) (hh : A.handled = none) (hroom : A.depth < recursionLimit) (hclos : closureFor scope env = pure cl) (hcode : env.code = .ref c) (hC : codeHdIn (KH w.params) c P = true) (hP : (P, []) ∈ tabSpec)
    (h : wpAny (model prog w) A (eval iter env) (GenThen prog w os B Z₀ L (fun C code => genEnv scope cl C code builtinsNs env) x ifs elt (fun N pz F Z m l => ∀ a fpr wr G s5 (SS : Nat → Shared → Prop) Z', (∀ b o, Z b o → Z' b o) →
      WalksS prog w A.in4 a fpr wr G (passing pz N 0).length (fun j y => ∃ i, (passing pz N 0)[j]? = some i ∧ F i y) SS → SS 0 s5 → (∀ b ∈ fpr, b < s5.heap.objs.size) → (∀ i s, SS i s → s.TypeIs (.ref a) "generator") → a ∈ fpr → (∀ s', Moved wr G s5 s' → St w os B Z₀ Z' L m l s') → Q (.ref a) s5)) E s)
    (hg : env.globals = mainGlobals := by rfl) (hco : scope.isCoroutine = false := by rfl) (hcell : ∀ y ∈ scope.names, y.2 ≠ .cell := by decide) (h0 : scope.names.lookup (".0" : Str) = some NameKind.local := by rfl)
    (hx : scope.names.lookup x = some .local := by rfl) (hkind : scope.kind = .function := by rfl) (hs : ∀ x, genFold iter env x = pure x := by intro _; rfl) :
    wpAny (model prog w) A (eval (.GeneratorExp elt [⟨.Name x px, iter, ifs, 0⟩] scope gpos) env) Q E s := by
  refine wpAny_with_toks (Nat.le_refl _) (wpAny_GeneratorExp_walksQ hh hco hclos hcell h0 hx hkind hroom (wpAny_mono h (fun xv s₁ h₁ => ?_) fun _ _ e _ => e) hs)
  obtain ⟨Z, m, l, N, item, pz, F, hS, H, htests, helt, hQ⟩ := h₁
  refine pyIter_src hh hS H fun I SW oI s₂ W hst H₂ => ⟨St.lim H₂.toBase, ?_⟩
  obtain ⟨fp, wr, WU, hfp, hwr⟩ := W.fp
  obtain ⟨ps, t1, t2, t3⟩ := H₂.t _ hP
  have hPt := mem_tabs hP
  have hZP : ∀ b o, Z b o → b ≠ P := fun b o e h => H₂.zt b o e (h ▸ hPt)
  have Cd := codeHd_of_K (H₂.wd.in H₂.frz) hC
  obtain ⟨mg, mb, a1, _⟩ := H₂.wd.ns
  have gen : ∀ (s₃ : Shared) (code : Value) (Z' : Fz), (∀ b o, Z b o → Z' b o) → St w os B Z₀ Z' L m ((I, (· = oI)) :: l) s₃ → SW 0 s₃.heap →
      wpAny (model prog w) A (builtinsFor env.globals env.builtins) (fun bi s₄ =>
        ∃ I' fp wr n₀ P St₀ pz F, Value.ref I = .ref I' ∧ (∀ A' : Around, A'.handled = none → Walks prog w A' I' fp wr n₀ P St₀) ∧ St₀ 0 s₄.heap ∧ (∀ b ∈ fp, b < s₄.heap.objs.size) ∧ s₄.heap.NoLimit ∧ cStatics ∉ wr ∧
          (∀ href : Heap, (∀ b o, s₄.heap.get? b = some o → href.get? b = some o) →
            QuietGen prog w (genEnv scope cl s₄.heap.objs.size code bi env) x ifs elt (List.range s₄.heap.objs.size) wr P pz F href) ∧
          (∀ a h₅ tk gs, gs.bare = true → s₄.heap.objs.size < a → h₅.objs.size = a + 1 → (∀ b o, s₄.heap.get? b = some o → h₅.get? b = some o) →
            WalksS prog w A.in4 a (a :: s₄.heap.objs.size :: List.range s₄.heap.objs.size) (s₄.heap.objs.size :: wr) (GenOnlyQ s₄.gens.size) (passing pz n₀ 0).length
              (fun j y => ∃ i, (passing pz n₀ 0)[j]? = some i ∧ F i y) (GenAt prog w A.in4 a s₄.gens.size s₄.heap.objs.size (List.range s₄.heap.objs.size) wr pz n₀ F) →
            GenAt prog w A.in4 a s₄.gens.size s₄.heap.objs.size (List.range s₄.heap.objs.size) wr pz n₀ F 0 { s₄ with gens := s₄.gens.push gs, toks := tk, heap := h₅ } →
            s.toks ≤ tk → Q (.ref a) { s₄ with gens := s₄.gens.push gs, toks := tk, heap := h₅ })) (fun e s' => s.toks ≤ s'.toks → E e s') s₃ := by
    intro s₃ code Z' hle H₃ hst₃
    have hgs := a1.mono hle
    have hgs' := hgs.ns H₃.frz
    obtain ⟨bm, ob, b1, b2, _, _, b3, b4, b5, b6⟩ := H₃.wd.bAt (T := P) H₃.frz (fun b o e h => H₃.zt b o e (h ▸ hPt)) hgs'
    rw [hg]
    refine wpAny_builtinsFor hgs' b1 b2 b3 b4 b5 b6 ?_
    have hIz : ∀ b o, Z' b o → b ≠ I := fun b o e h => H₃.nz b o e (h ▸ .tail _ (.head _))
    have hwz : ∀ b o, Z' b o → b ∉ wr := fun b o e hb => hIz b o e (hwr b hb)
    obtain ⟨mc, ml, mc2⟩ := H₃.wd.lim
    obtain ⟨ol, esl, epl, zl, _⟩ := ml
    have href9 : ∀ href : Heap, (∀ b o, s₃.heap.get? b = some o → href.get? b = some o) → ∀ s₂ : Shared, (∀ b ∈ List.range s₃.heap.objs.size, b ∉ wr → ∀ o, href.get? b = some o → s₂.heap.get? b = some o) → ∀ b o, Z b o → s₂.heap.get? b = some o :=
      fun href hk s₂ h2 b o e => h2 b (List.mem_range.mpr (Heap.lt_size (H₃.frz b o (hle _ _ e)))) (hwz b o (hle _ _ e)) o (hk b o (H₃.frz b o (hle _ _ e)))
    refine ⟨I, fp, wr, N, item, SW, pz, F, rfl, WU, hst₃, fun b hb => ?_, St.lim H₃.toBase, hwz _ _ zl, fun href hk => ⟨fun A' E' i v s₂ m₂ hA' hP' hn hm h2 => htests A' E' i v _ code s₂ m₂ hA' hP' hn hm (href9 href hk s₂ h2), fun A' E' i v s₂ m₂ hA' hP' hpz hn hm h2 => helt A' E' i v _ code s₂ m₂ hA' hP' hpz hn hm (href9 href hk s₂ h2)⟩, ?_⟩
    · rcases hfp b hb with rfl | ⟨o, ho⟩
      · exact H₃.lt _ (.tail _ (.head _))
      · exact Heap.lt_size (H₃.frz _ _ (hle _ _ ho))
    · intro a h₅ tk gs hb hlt hsz hk5 WS hGA htk5
      refine hQ a _ _ _ _ _ Z' hle WS hGA (fun b hb => ?_) (fun i s h => let ⟨o, nm, qn, ho, hc, _⟩ := h.1; ⟨o, ho, hc⟩) (.head _) fun s' hm => ?_
      · show b < h₅.objs.size
        rw [hsz]
        rcases List.mem_cons.mp hb with e | hb
        · exact e ▸ Nat.lt_succ_self _
        · rcases List.mem_cons.mp hb with e | hb
          · exact e ▸ Nat.lt_succ_of_lt hlt
          · exact Nat.lt_succ_of_lt (Nat.lt_trans (List.mem_range.mp hb) hlt)
      · have hx : Heap.ExtBut I s₃.heap s'.heap := fun b o hbI e => hm.heap b o (fun hb => by
          rcases List.mem_cons.mp hb with e' | hb
          · exact Nat.lt_irrefl _ (e' ▸ Heap.lt_size e)
          · exact hbI (hwr b hb)) (hk5 b o e)
        have htk : 0 < s'.toks := by
          have h1 := hm.toks
          have h2 : (0 : Nat) < tk := Nat.lt_of_lt_of_le _H.tk htk5
          exact Nat.lt_of_lt_of_le h2 h1
        have G := (H₃.lose s'.toks htk hx).gens (g := s'.gens) (hm.gens.bare (H₃.bare.push hb))
        obtain ⟨hp, gn, dr, tk', oo⟩ := s'
        have h3 : dr = s₃.drawn := hm.drawn
        have h4 : oo = s₃.os := hm.os
        subst h3; subst h4
        exact G
  rcases hf : codeAmong gpos ps.toList with _ | cv
  · refine wpAny_with_toks (Nat.le_refl _) (wpAny_genexprCodeX hcode (Cd.code t1 t2) (Cd.tab t1) hf fun c' h' tk hx' hge hlt _ hrec htb _ (htk : s₂.toks ≤ tk) => ?_)
    obtain ⟨Z', hle, hr, H₃⟩ := H₂.table hP t1 t2 tk (Nat.lt_of_lt_of_le H₂.tk htk) hx' hge hrec htb.2 (fun x hx => nomatch hx)
    refine gen _ _ Z' hle H₃ ((WU A hh).frame _ _ _ hst fun b hb o e => hx' b o ?_ e)
    rcases hfp b hb with rfl | ⟨o', ho'⟩
    · exact fun e => H₂.nt _ hPt (e ▸ .tail _ (.head _))
    · exact hZP _ _ ho'
  · refine wpAny_genexprCode_hit hcode (Cd.code t1 t2) hf ?_
    exact gen _ _ Z (fun _ _ e => e) H₂ hst
theorem passing_true (N : Nat) : passing (fun _ => true) N 0 = List.range N := by simp [passing]
/-- any(ELT for x in ITER) -/
theorem anyG {Q : Value → Shared → Prop} (H : St w os B Z₀ Z L m l s) (hh : A.handled = none) (hroom : A.depth < recursionLimit) (hclos : closureFor scope env = pure cl) (hcode : env.code = .ref c) (hC : codeHdIn (KH w.params) c P = true) (hP : (P, []) ∈ tabSpec)
    (h : wpAny (model prog w) A (eval iter env) (fun xv s₁ => ∃ Z m l N item tr, Src prog w Z xv N item ∧ St w os B Z₀ Z L m l s₁ ∧
      (∀ (A' : Around) E' i v C code (s₂ : Shared) m₂, A'.handled = none → item i v → s₂.heap.Ns C m₂ → m₂ x = some v → (∀ b o, Z b o → s₂.heap.get? b = some o) →
        wpAny (model prog w) A' (eval elt (genEnv scope cl C code builtinsNs env)) (fun y s₃ => y = .bool (tr i) ∧ Keeps s₂ s₃) E' s₂) ∧
      (∀ s' Z', (∀ b o, Z b o → Z' b o) → St w os B Z₀ Z' L m l s' → Q (.bool ((List.range N).any tr)) s')) E s)
    (hg : env.globals = mainGlobals := by rfl)
    (hco : scope.isCoroutine = false := by rfl) (hcell : ∀ y ∈ scope.names, y.2 ≠ .cell := by decide) (h0 : scope.names.lookup (".0" : Str) = some NameKind.local := by rfl)
    (hx : scope.names.lookup x = some .local := by rfl) (hkind : scope.kind = .function := by rfl) (hs : ∀ x, genFold iter env x = pure x := by intro _; rfl) :
    wpAny (model prog w) A (eval (.GeneratorExp elt [⟨.Name x px, iter, [], 0⟩] scope gpos) env) (fun v s₁ => wpAny (model prog w) A (call (.builtin "any") [v]) Q E s₁) E s := by
  refine genE H hh hroom hclos hcode hC hP (wpAny_mono h (fun xv s₁ h₁ => ?_) fun _ _ e => e) hg hco hcell h0 hx hkind hs
  obtain ⟨Z, m, l, N, item, tr, hS, H₁, helt, hQ⟩ := h₁
  refine ⟨Z, m, l, N, item, fun _ => true, fun i y => y = .bool (tr i), hS, H₁, fun A' E' i v C code s₂ m₂ hA' hv hn hm hz => wpAny_tests_nil ⟨rfl, s₂.heap, s₂.toks, rfl, fun _ _ e => e⟩, fun A' E' i v C code s₂ m₂ hA' hv _ hn hm hz => helt A' E' i v C code s₂ m₂ hA' hv hn hm hz, ?_⟩
  intro a fpr wr G s5 SS Z' hle WS hSS hfpr hT _ hM
  rw [passing_true] at WS
  refine call_any_walkS (WS.in4_1.self 0 _ _ _ hSS ⟨a, fpr, wr, G, N, _, SS, tr, rfl, by simpa using WS.in4_1, hSS, fun i v s Q E hv hq => ?_, fun s' hm => hQ s' Z' hle (hM s' hm)⟩)
  obtain ⟨j, hj, rfl⟩ := hv
  have : j = i := by
    obtain ⟨h1, h2⟩ := List.getElem?_eq_some_iff.mp hj
    simpa using h2.symm
  subst this
  exact wpAny_truthy_bool hq
end
theorem mulOk1 {c n : Nat} (h : n ≤ 100000) : MulOk (S [c]) (n : Int) := by
  refine ⟨by simp; omega, fun h1 h2 => ?_, fun h1 h2 => ?_⟩
  · have e : ((S [c]).length : Int) = 1 := by simp [Str.length]
    rw [e]
    have : (1 : Int) ≤ (2 ^ 63 - 1) / (n : Int) := by
      rw [Int.le_ediv_iff_mul_le (by omega)]
      omega
    omega
  · have e : (S [c]).length = 1 := by simp [Str.length]
    rw [e]
    unfold Builtin.Str.tooLong
    rw [sizeLine_eq]
    simp; omega
theorem mul1 (c n : Nat) : Txt.mul (S [c]) (n : Int) = S (List.replicate n c) := by
  have key : ∀ (k : Nat) (acc : Array Nat), (List.replicate k (#[c] : Array Nat)).foldl (· ++ ·) acc = acc ++ (List.replicate k c).toArray := by
    intro k
    induction k with
    | zero => intro acc; simp
    | succ k ih => intro acc; rw [List.replicate_succ, List.foldl_cons, ih, List.replicate_succ]; apply Array.toList_inj.mp; simp
  unfold Txt.mul
  rcases n with _ | _ | n
  · rw [if_pos (by decide)]; rfl
  · rw [if_neg (by decide), if_pos (by simp)]; rfl
  · rw [if_neg (by omega), if_neg (by simp [Str.length]; omega)]
    show Str.mk _ = Str.mk _
    rw [show ((((n + 1 + 1 : Nat) : Int)).toNat) = n + 1 + 1 from rfl]
    exact congrArg Str.mk ((key (n + 1 + 1) #[]).trans (by simp))
section
variable {prog : Program} {w : World} {os : OsState} {B Z₀ Z : Fz} {L : Addr} {m : Str → Option Value} {l : Led} {s : Shared} {A : Around} {E : Value → Shared → Prop} {y : Str} {t u : Tok} {c n : Nat}
theorem mulC {Q : Value → Shared → Prop} (H : St w os B Z₀ Z L m l s) (hn : n ≤ 100000) (h : ∀ s' t', St w os B Z₀ Z L m l s' → Q (.str (S (List.replicate n c)) t') s') : wpAny (model prog w) A (binaryOp .Mult (.str (S [c]) t) (.int (n : Nat) u)) Q E s :=
  mulS H (mulOk1 hn) (by rw [mul1]; exact h)
theorem quoted {Q : Value → Shared → Prop} (H : St w os B Z₀ Z L m l s) (hy : y.length ≤ 10000) (h : ∀ s' t', St w os B Z₀ Z L m l s' → Q (.str (Str.ofString "'" ++ y ++ Str.ofString "'") t') s') :
    wpAny (model prog w) A (binaryOp .Mod (.str (Str.ofString "'%s'") t) (.str y u)) Q E s := by
  refine wpAny_with_toks (Nat.le_refl _) ?_
  refine' KPc.mod_str ?kpcF ?kpcl ?kpcm ?_
  case kpcF => kpc_eq
  case kpcl => omega
  case kpcm => k_dflt kpc_run_s
  intro t' k e
  exact h _ _ (H.tk' e)
end
/-! plain: the splitting of an interval's pattern -/
structure SP where
  done : List (List Tk)
  cur : List Tk
  seen : List Nat
def sstep (s : SP) (t : Tk) : SP :=
  match t with
  | .fd c n => if s.seen.contains c then ⟨s.done ++ [s.cur], [.fd c n], [c]⟩ else ⟨s.done, s.cur ++ [.fd c n], c :: s.seen⟩
  | .ch x => ⟨s.done, s.cur ++ [.ch x], s.seen⟩
def splitF (ts : List Tk) : SP := ts.foldl sstep ⟨[], [], []⟩
def splitz (ts : List Tk) : List (List Tk) := (splitF ts).done ++ [(splitF ts).cur]
theorem sstep_flat (s : SP) (t : Tk) : ((sstep s t).done ++ [(sstep s t).cur]).flatten = (s.done ++ [s.cur]).flatten ++ [t] := by
  unfold sstep
  split
  · split <;> simp
  · simp
theorem splitF_flat (ts : List Tk) : ∀ s, ((ts.foldl sstep s).done ++ [(ts.foldl sstep s).cur]).flatten = (s.done ++ [s.cur]).flatten ++ ts := by
  induction ts with
  | nil => intro s; simp
  | cons t r ih => intro s; rw [List.foldl_cons, ih, sstep_flat, List.append_assoc]; rfl
theorem splitz_flat (ts : List Tk) : (splitz ts).flatten = ts := by
  have := splitF_flat ts ⟨[], [], []⟩
  simpa [splitz, splitF] using this
theorem sstep_done (s : SP) (t : Tk) : (sstep s t).done.length ≤ s.done.length + 1 ∧ (sstep s t).cur.length ≤ s.cur.length + 1 ∧ (sstep s t).seen.length ≤ s.seen.length + 1 := by
  unfold sstep
  split
  · split <;> simp
  · simp
theorem splitF_done (ts : List Tk) : ∀ s, (ts.foldl sstep s).done.length ≤ s.done.length + ts.length ∧ (ts.foldl sstep s).cur.length ≤ s.cur.length + ts.length ∧ (ts.foldl sstep s).seen.length ≤ s.seen.length + ts.length := by
  induction ts with
  | nil => intro s; simp
  | cons t r ih =>
    intro s
    have h1 := ih (sstep s t)
    have h2 := sstep_done s t
    rw [List.foldl_cons, List.length_cons]
    omega
theorem splitF_take (ts : List Tk) {i : Nat} {t : Tk} (h : ts[i]? = some t) : splitF (ts.take (i + 1)) = sstep (splitF (ts.take i)) t := by
  rw [splitF, List.take_add_one, h]; simp [splitF, List.foldl_append]
theorem untok_part {ts : List Tk} {p : List Tk} (h : p ∈ splitz ts) : (untok p).length ≤ (untok ts).length := by
  rw [← splitz_flat ts]
  generalize splitz ts = ps at h
  induction ps with
  | nil => cases h
  | cons a r ih =>
    have e : (untok (a :: r).flatten) = untok a ++ untok r.flatten := by simp [untok]
    rw [e, List.length_append]
    rcases List.mem_cons.mp h with rfl | h
    · omega
    · have := ih h; omega
theorem part_mem {ts : List Tk} {p : List Tk} (h : p ∈ splitz ts) {t : Tk} (ht : t ∈ p) : t ∈ ts := by
  rw [← splitz_flat ts]; exact List.mem_flatten.mpr ⟨p, h, ht⟩
theorem part_len {ts : List Tk} {p : List Tk} (h : p ∈ splitz ts) : p.length ≤ ts.length := by
  have : p.length ≤ (splitz ts).flatten.length := by
    generalize splitz ts = ps at h
    induction ps with
    | nil => cases h
    | cons a r ih =>
      rw [List.flatten_cons, List.length_append]
      rcases List.mem_cons.mp h with rfl | h
      · omega
      · have := ih h; omega
  rwa [splitz_flat] at this
/-! sets of texts -/
section
variable {prog : Program} {w : World} {os : OsState} {B Z₀ Z Z' : Fz} {L Lc C a b c f d I P : Addr} {m mC m' mc : Str → Option Value} {l l' ls lr : Led} {s s' : Shared} {p p' : Obj → Prop} {A : Around} {E : Value → Shared → Prop} {env : Env}
  {x y z : Str} {v : Value} {pos : Pos} {n : Nat} {t u : Tok} {G : Str → Bool}
def pSet (prog : Program) (w : World) (G : Str → Bool) (n : Nat) (o : Obj) : Prop := ∃ k, k ≤ n ∧ o.SetObjOf (strKind prog w) G k
theorem setNew {Q : Value → Shared → Prop} (H : St w os B Z₀ Z L m l s) (h : ∀ s' a, St w os B Z₀ Z L m ((a, pSet prog w (fun _ => false) 0) :: l) s' → Q (.ref a) s') :
    wpAny (model prog w) A (call (.type "set") []) Q E s :=
  call_set_0 fun led => h _ _ (H.alloc _ rfl ⟨0, Nat.le_refl _, setObjOf_fresh led⟩)
theorem St.setOf (H : St w os B Z₀ Z L m l s) (hm : (a, pSet prog w G n) ∈ l) (hn : n < 4000) : ∃ k, k ≤ n ∧ s.heap.SetOf (strKind prog w) a G k :=
  let ⟨_, e, k, hk, ho⟩ := H.own _ hm; ⟨k, hk, ho.setOf e (by show k < 4096; omega)⟩
theorem inSet {Q : Value → Shared → Prop} (H : St w os B Z₀ Z L m l s) (hm : (a, pSet prog w G n) ∈ l) (hn : n < 4000) (h : ∀ s', St w os B Z₀ Z L m l s' → Q (.bool (G x)) s') :
    wpAny (model prog w) A (compareOp .In (.str x t) (.ref a)) Q E s := by
  obtain ⟨k, _, hS⟩ := H.setOf hm hn
  exact wpAny_inSet_of (strKind_is prog w x t) rfl hS (h _ H.tok1)
theorem recvSet {R : Prop} (H : St w os B Z₀ Z L m l s) (hm : (a, pSet prog w G n) ∈ l) (h : R) : s.TypeIs (.ref a) "set" ∧ (∀ b, Value.ref a = .ref b → ∃ ob, s.heap.get? b = some ob ∧ ob.dict = none) ∧ R := by
  obtain ⟨o, e, k, _, ho⟩ := H.own _ hm
  exact ⟨⟨o, e, ho.1.1⟩, plain_of e ho.1.2.1, h⟩
theorem setAdd {Q : Value → Shared → Prop} (H : St w os B Z₀ Z L m l s) (U : Up l a (pSet prog w G n) (pSet prog w (fun y => G y || decide (y = x)) (n + 1)) l') (hn : n < 4000) (h : ∀ s', St w os B Z₀ Z L m l' s' → Q .none s') :
    wpAny (model prog w) A (call (.builtin "set.add") [.ref a, .str x t]) Q E s := by
  obtain ⟨k, hk, hS⟩ := H.setOf U.mem hn
  refine call_set_add (strKind_is prog w x t) rfl hS (by show k + 1 < 4096; omega) fun h' hs hS' => h _ ?_
  obtain ⟨o, e, ho⟩ := hS'.objOf
  exact H.mut U _ (Nat.succ_pos _) hs ⟨o, e, _, by split <;> omega, ho⟩
theorem call_set_clear {knd : KeyKind prog w Str} {n : Nat} {Q : Value → Shared → Prop} (hS : s.heap.SetOf knd a G n)
    (h : ∀ h', Heap.SameBut a s.heap h' → h'.SetOf knd a (fun _ => false) 0 → Q .none { s with heap := h' }) :
    wpAny (model prog w) A (call (.builtin "set.clear") [.ref a]) Q E s := by
  obtain ⟨o, es, ep, t, ho, hex, hd, hel, hmem, hb, hf, hn⟩ := id hS
  refine wpAny_call_entry F.slot_set_clear hS.typeIs F.entry_set_clear ?_ (F.args_set_clear_1 _)
  unfold Builtin.«set.clear» Builtin.Frozenset.noArgs
  simp only [List.isEmpty_nil, bind_assoc]
  unfold Builtin.Frozenset.addrOf
  refine wpAny_bind (wpAny_pure ?_)
  unfold Builtin.Frozenset.clearAll setClear
  refine wpAny_bind ?_
  refine wpAny_bind ?_
  have hst : ∀ (A' : Around) (Q' : Array (Int × Value) × Nat × SetTable → Shared → Prop) E', Q' (es, ep, t) s → wpAny (model prog w) A' (setState a) Q' E' s := fun A' Q' E' h => wpAny_setState_of ho hd hf h
  have htx : ∀ (A' : Around) (Q' : Bool → Shared → Prop) E', Q' (w.params.followText "set-order") s → wpAny (model prog w) A' setsByText Q' E' s := fun A' Q' E' h => by
    unfold setsByText
    exact wpAny_bind (wpAny_askSetting (wpAny_pure h))
  generalize hbt : w.params.followText "set-order" = bt at htx
  have hit : (bt || (t.led && t.plain) || decide (es.size ≤ 1)) = true → ∀ (A' : Around) (Q' : List Value → Shared → Prop) E', (∀ l, Q' l s) → wpAny (model prog w) A' (setItems a) Q' E' s := fun hk A' Q' E' h => by
    unfold setItems setWalk
    refine wpAny_bind (wpAny_bind (hst _ _ _ (wpAny_bind (htx _ _ _ ?_))))
    cases bt with
    | true => exact wpAny_bind (wpAny_askSetting (wpAny_pure (wpAny_pure (h _))))
    | false =>
      have hk' : (t.led = true ∧ t.plain = true) ∨ es.size ≤ 1 := by simpa using hk
      rw [if_neg (by decide)]
      show wpAny _ _ (if (!t.plain && decide (es.size > 1)) = true then _ else _) _ _ _
      rw [if_neg (show ¬ ((!t.plain && decide (es.size > 1)) = true) by
        rcases hk' with ⟨_, h2⟩ | h2
        · rw [h2]; simp
        · simp; intro; omega)]
      refine wpAny_bind ?_
      show wpAny _ _ (if (!t.led && decide (es.size > 1)) = true then _ else pure ()) _ _ _
      rw [if_neg (by
        rcases hk' with ⟨h2, _⟩ | h2
        · rw [h2]; simp
        · simp; intro; omega)]
      exact wpAny_pure (wpAny_pure (wpAny_pure (h _)))
  have fin : ∀ (old : Option (List Value)), wpAny (model prog w) A.in1 (do
        let __do_lift ← setState a
        have t : SetTable := __do_lift.snd.snd
        let __do_lift ← setsByText
        storeSet a #[] (t.cleared (!__do_lift && (t.led || t.finger == 0)))
        pure old) (fun old s' => ∃ h', s' = { s with heap := h' } ∧ Heap.SameBut a s.heap h' ∧ h'.SetOf knd a (fun _ => false) 0) E s := fun old => by
    refine wpAny_bind (hst _ _ _ (wpAny_bind (htx _ _ _ (wpAny_bind ?_))))
    refine wpAny_storeSet_of ho hd (wpAny_pure ⟨_, rfl, Heap.SameBut.update _ a _, ?_⟩)
    exact (SetOf_store (knd := knd) ho hex hd (es' := #[]) (fun e he => by simp at he) (fun k => by simp) (by decide) (by simp [SetTable.fits, SetTable.cleared, SetTable.fresh, SetTable.fill])).2
  refine wpAny_bind ?_
  unfold setDeathsKnown
  refine wpAny_bind (hst _ _ _ (wpAny_bind (htx _ _ _ (wpAny_pure ?_))))
  split
  · rename_i hk
    refine wpAny_bind (hit hk _ _ _ fun l => wpAny_bind (wpAny_pure (wpAny_mono (fin _) ?_ fun _ _ x => x)))
    rintro old s' ⟨h', rfl, h1, h2⟩
    cases old with
    | none => exact wpAny_point (wpAny_pure ⟨_, rfl, h _ h1 h2⟩)
    | some old => exact wpAny_letGo (wpAny_pure ⟨_, rfl, h _ h1 h2⟩)
  · refine wpAny_bind (wpAny_pure (wpAny_mono (fin _) ?_ fun _ _ x => x))
    rintro old s' ⟨h', rfl, h1, h2⟩
    cases old with
    | none => exact wpAny_point (wpAny_pure ⟨_, rfl, h _ h1 h2⟩)
    | some old => exact wpAny_letGo (wpAny_pure ⟨_, rfl, h _ h1 h2⟩)
theorem setClear_ {Q : Value → Shared → Prop} (H : St w os B Z₀ Z L m l s) (U : Up l a (pSet prog w G n) (pSet prog w (fun _ => false) 0) l') (hn : n < 4000) (h : ∀ s', St w os B Z₀ Z L m l' s' → Q .none s') :
    wpAny (model prog w) A (call (.builtin "set.clear") [.ref a]) Q E s := by
  obtain ⟨k, hk, hS⟩ := H.setOf U.mem hn
  refine call_set_clear hS fun h' hs hS' => h _ ?_
  obtain ⟨o, e, ho⟩ := hS'.objOf
  exact H.mut U s.toks H.tk hs ⟨o, e, 0, Nat.le_refl _, ho⟩
end
section
variable {prog : Program} {w : World} {os : OsState} {B Z₀ Z Z' : Fz} {L Lc C a b c f d I P : Addr} {m mC m' mc : Str → Option Value} {l l' ls lr : Led} {s s' : Shared} {p p' : Obj → Prop} {A : Around} {E : Value → Shared → Prop} {env : Env}
  {x y z : Str} {v : Value} {pos : Pos} {n : Nat} {t u : Tok}
theorem callT0 {id : String} {fn : Str} {pp : Pos} {Q : Value → Shared → Prop} (H : Base w os Z s) (e1 : nsIn (KH w.params) mainGlobals fn = some none) (hb : bootBuiltins fn = some (.type id))
    (h : wpAny (model prog w) A (call (.type id) []) Q E s) (hn : fn ≠ "__name__" := by decide)
    (hk : env.scope.kind = .function := by rfl) (hl : env.kindOf fn = some .globalImplicit := by rfl) (hg : env.globals = mainGlobals := by rfl) (hbb : env.builtins = builtinsNs := by rfl)
    (hd : (fn == ("__debug__" : Str)) = false := by decide) :
    wpAny (model prog w) A (eval (.Call (.Name fn pp) [] [] pos) env) Q E s := by
  refine Call_Name0 (nameB H e1 hb ?_ hn hk hl hg hbb hd)
  exact PySem.callWith_type rfl (evalArgs_nil3 h)
end
/-! sorted(ELT for x in ITER if …), of texts -/
section
variable {prog : Program} {w : World} {os : OsState} {B Z₀ Z Z' : Fz} {L Lc C a c f d I P : Addr} {m mC m' mc : Str → Option Value} {l l' ls lr : Led} {s s' : Shared} {p p' : Obj → Prop} {A : Around} {E : Value → Shared → Prop} {env : Env}
  {x y z : Str} {v : Value} {pos gpos px : Pos} {N : Nat} {t u : Tok} {elt iter : Expr} {ifs : List Expr} {scope : Scope} {cl : List (Str × Addr)}
theorem items_strs {Q : Nat → Str → Prop} {acc : Array Value} {ss : List Str} (h : ItemsOf (fun j v => ∃ x t, ss[j]? = some x ∧ v = .str x t) acc ss.length) : StrsAre acc.toList ss := by
  have hall : ∀ v, v ∈ acc.toList → ∃ x t, v = .str x t := by
    intro v hv
    obtain ⟨j, hj, e⟩ := List.getElem_of_mem hv
    obtain ⟨x, t, _, e'⟩ := h.2 j v (by rw [← e]; simp at hj ⊢)
    exact ⟨x, t, e'⟩
  have e : acc.toList.map strOf = ss := by
    apply List.ext_getElem?
    intro j
    rw [List.getElem?_map]
    cases hj : acc.toList[j]? with
    | none =>
      have : acc.size ≤ j := by simpa using hj
      rw [h.1] at this
      rw [List.getElem?_eq_none this]; rfl
    | some v =>
      obtain ⟨x, t, e1, e2⟩ := h.2 j v (by simpa using hj)
      rw [e1, e2]; rfl
  have := strsAre_map acc.toList hall
  rwa [e] at this
theorem St.sortedHeap {vs : List Value} (H : St w os B Z₀ Z L m l s) (out : Array Value) :
    St w os B Z₀ Z L m ((s.heap.objs.size, pL out.toList) :: l) { s with heap := sortedHeap (s.heap.push (seqObj "list" vs.toArray 0)) s.heap.objs.size vs out } := by
  have ho : (s.heap.push (seqObj "list" vs.toArray 0)).get? s.heap.objs.size = some (seqObj "list" vs.toArray 0) := Heap.get?_push_size _ rfl
  have H1 := H.alloc (p := pL vs) (seqObj "list" vs.toArray 0) rfl ⟨0, rfl⟩
  have H2 := H1.mut (p' := pL []) .here s.toks H.tk (Heap.SameBut.update _ _ (Obj.mapSeq fun _ => #[])) ⟨_, get?_update_seq ho (fun _ => #[]), _, rfl⟩
  have H4 := (H2.alloc (p := fun _ => True) (seqObj "tuple" vs.toArray 0) rfl trivial).drop .here
  have H5 := (H4.alloc (p := fun _ => True) (seqObj "list" #[] 0) rfl trivial).drop .here
  obtain ⟨o5, e5, n5, rfl⟩ := H5.own _ (.head _)
  exact H5.mut (p' := pL out.toList) .here s.toks H.tk (Heap.SameBut.update _ _ (Obj.mapSeq fun _ => out)) ⟨_, get?_update_seq e5 (fun _ => out), _, rfl⟩
theorem sortedG {Q : Value → Shared → Prop} (H : St w os B Z₀ Z L m l s) (hh : A.handled = none) (hroom : A.depth < recursionLimit) (hclos : closureFor scope env = pure cl) (hcode : env.code = .ref c) (hC : codeHdIn (KH w.params) c P = true) (hP : (P, []) ∈ tabSpec)
    (h : wpAny (model prog w) A (eval iter env) (GenThen prog w os B Z₀ L (fun C code => genEnv scope cl C code builtinsNs env) x ifs elt (fun N pz F Z m l => ∃ Fs : Nat → Str, (∀ i y, F i y → ∃ t, y = .str (Fs i) t) ∧ (passing pz N 0).length < 64 ∧
      ∀ s' Z' a vs ss, (∀ b o, Z b o → Z' b o) → StrsAre vs ss → ss.Perm ((passing pz N 0).map Fs) → sortedS ss = true → St w os B Z₀ Z' L m ((a, pL vs) :: l) s' → Q (.ref a) s')) E s)
    (hg : env.globals = mainGlobals := by rfl)
    (hco : scope.isCoroutine = false := by rfl) (hcell : ∀ y ∈ scope.names, y.2 ≠ .cell := by decide) (h0 : scope.names.lookup (".0" : Str) = some NameKind.local := by rfl)
    (hx : scope.names.lookup x = some .local := by rfl) (hkind : scope.kind = .function := by rfl) (hs : ∀ x, genFold iter env x = pure x := by intro _; rfl) :
    wpAny (model prog w) A (eval (.GeneratorExp elt [⟨.Name x px, iter, ifs, 0⟩] scope gpos) env) (fun v s₁ => wpAny (model prog w) A (call (.builtin "sorted") [v]) Q E s₁) E s := by
  refine genE H hh hroom hclos hcode hC hP (wpAny_mono h (fun xv s₁ h₁ => ?_) fun _ _ e => e) hg hco hcell h0 hx hkind hs
  obtain ⟨Z, m, l, N, item, pz, F, hS, H₁, htests, helt, Fs, hF, h64, hQ⟩ := h₁
  refine ⟨Z, m, l, N, item, pz, F, hS, H₁, htests, helt, ?_⟩
  intro a fpr wr G s5 SS Z' hle WS hSS hfpr hT hI hM
  refine Calls.call_function_entry kind_sorted plain_sorted entry_sorted (args_sorted1 _) ?_
  unfold Builtin.«sorted»
  refine wpAny_bind (m := checkCount "sorted" 1 1 _) (wpAny_pure ?_)
  refine wpAny_bind (wpAny_collect_gen WS.in4_2 hT hSS hfpr hI (fun s' acc hm hit => ?_) (by rw [sizeLine_eq]; omega))
  have H' := hM s' hm
  have hst : StrsAre acc.toList ((passing pz N 0).map Fs) := by
    refine items_strs (Q := fun _ _ => True) ⟨by rw [List.length_map]; exact hit.1, fun j v hj => ?_⟩
    obtain ⟨i, h1, h2⟩ := hit.2 j v hj
    obtain ⟨t, e⟩ := hF i v h2
    exact ⟨Fs i, t, by rw [List.getElem?_map, h1]; rfl, e⟩
  have hlen : acc.toList.length < 64 := by rw [Array.length_toList, hit.1]; exact h64
  refine wpAny_bind (wpAny_newList ?_)
  have hoL : (s'.heap.push (seqObj "list" acc.toList.toArray 0)).get? s'.heap.objs.size = some (seqObj "list" acc.toList.toArray 0) := Heap.get?_push_size _ rfl
  refine wpAny_bind (wpAny_holding (wpAny_call_entry slot_list_sort ⟨_, hoL, rfl⟩ entry_list_sort (list_sort_treeK strKind_oneLt hoL hst.keysOf (fun v₁ v₂ rest e => keyKind_strs (by rw [← e]; exact hst)) hlen fun st' hp hs => ⟨_, rfl, ?_⟩) (args_list_sort _)))
  obtain ⟨ss', h1, h2, h3⟩ := sorted_out_str hst hp hs
  exact wpAny_pure ⟨_, rfl, hQ _ Z' _ _ ss' hle h1 h2 h3 (H'.sortedHeap _)⟩
end
/-! dict(list of pairs) -/
section
variable {prog : Program} {w : World} {os : OsState} {B Z₀ Z Z' : Fz} {L Lc C a c f d I P : Addr} {m mC m' mc : Str → Option Value} {l l' ls lr : Led} {s s' : Shared} {p p' : Obj → Prop} {A : Around} {E : Value → Shared → Prop} {env : Env}
  {x y z : Str} {v : Value} {pos gpos px : Pos} {N : Nat} {t u : Tok}
theorem plain_update_loop : plainId "dict.update.loop" = true := by decide +kernel
theorem entry_update_loop : entryFor table "dict.update.loop" = some Builtin.«dict.update.loop» := entryFor_of_fast (by kernel_rfl)
def putF (kf : Nat → Str) (nf : Nat → Int) : Nat → Str → Int
  | 0, _ => 0
  | i + 1, y => if y = kf i then nf i else putF kf nf i y
theorem St.next {item : Nat → Value → Prop} {SW : Nat → Heap → Prop} {oI : Obj} {i : Nat} {fp wr : List Addr} {h' : Heap} {tk : Nat} (W : Itr prog w Z I N item SW) (hwr : ∀ b ∈ wr, b = I) (H' : St w os B Z₀ Z L m ((I, (· = oI)) :: l) s) (htk : 0 < tk) (hsw' : SW i h')
    (hk : ∀ b o, b ∉ wr → s.heap.get? b = some o → h'.get? b = some o) : ∃ o₁, St w os B Z₀ Z L m ((I, (· = o₁)) :: l) { s with heap := h', toks := tk } := by
  obtain ⟨o₁, ho₁, hok⟩ := W.at_ _ _ hsw'
  have hx : Heap.ExtBut I s.heap h' := fun b o hb e => hk b o (fun x => hb (hwr b x)) e
  have D := H'.lose tk htk hx
  refine ⟨o₁, { D.toBase with ns := D.ns, own := ?_, nd := H'.nd, nt := H'.nt, lo := H'.lo, nz := H'.nz, keep := D.keep, nb := H'.nb, bt := D.bt, newz := D.newz, le := D.le }⟩
  intro q hq
  rcases List.mem_cons.mp hq with rfl | hq
  · exact ⟨o₁, ho₁, rfl⟩
  · exact D.own q hq
theorem updLoop {item : Nat → Value → Prop} {SW : Nat → Heap → Prop} {kf : Nat → Str} {nf : Nat → Int} {R : Result → Shared → Prop} (hh : A.handled = none) (W : Itr prog w Z I N item SW)
    (hitem : ∀ i v, i < N → item i v → ∃ a o t u, v = .ref a ∧ Z a o ∧ pT [.str (kf i) t, .int (nf i) u] o) (hN : N ≤ 4000) :
    ∀ (k i n : Nat) (s : Shared) (oI : Obj), N - i = k → i ≤ N → n ≤ i → St w os B Z₀ Z L m ((I, (· = oI)) :: (d, pCnt prog w n (putF kf nf i)) :: l) s → SW i s.heap →
    (∀ s' n, n ≤ N → St w os B Z₀ Z L m ((d, pCnt prog w n (putF kf nf N)) :: l) s' → R (.ok (.ret .none)) s') →
    codeAny (model prog w) A (.builtin "dict.update.loop" ⟨[.ref d, .ref I, rawInt i, .none], []⟩) R s := by
  obtain ⟨fp, wr, WU, hfp, hwr⟩ := id W.fp
  have W₀ := WU A.in1 (by exact hh)
  intro k
  induction k with
  | zero =>
    intro i n s oI hk hi hn H hst hR
    have hin : i = N := by omega
    subst hin
    refine codeAny_builtin entry_update_loop ?_
    rw [Around.under_plainId plain_update_loop _]
    show wpAny _ A.in1 (pyNext (.ref I) >>= _) _ _ s
    refine wpAny_bind (wpAny_with_toks (n := s.toks) (Nat.le_refl _) (W₀.done s _ _ hst fun h' tk hk' htk => ?_))
    have D := H.lose tk (Nat.lt_of_lt_of_le H.tk htk) (h' := h') (fun b o hb e => hk' b o (fun x => hb (hwr b x)) e)
    exact wpAny_bind (wpAny_pure (wpAny_pure (hR _ n hn D)))
  | succ k ih =>
    intro i n s oI hk hi hn H hst hR
    have hlt : i < N := by omega
    refine codeAny_builtin entry_update_loop ?_
    rw [Around.under_plainId plain_update_loop _]
    show wpAny _ A.in1 (pyNext (.ref I) >>= _) _ _ s
    refine wpAny_bind (wpAny_with_toks (n := s.toks) (Nat.le_refl _) (W₀.item i s _ _ hlt hst fun v h' tk hP hst' hk' htk => ?_))
    obtain ⟨o₁, H1⟩ := H.next W hwr (fp := fp) (Nat.lt_of_lt_of_le H.tk htk) hst' hk'
    obtain ⟨a, o, t, u, rfl, hz, hp⟩ := hitem i v hlt hP
    have hT : Shared.TypeIs { s with heap := h', toks := tk } (.ref a) "tuple" := by
      obtain ⟨n0, rfl⟩ := hp
      exact ⟨_, H1.frz _ _ hz, rfl⟩
    have hzs := H1.frz _ _ hz
    obtain ⟨n0, rfl⟩ := id hp
    dsimp only
    refine wpAny_bind (wpAny_holding (wpAny_bind (wpAny_tryCatch ?_)))
    unfold Builtin.Dict.pairItems
    refine wpAny_bind (wpAny_typeOf hT ?_)
    rw [if_pos (by decide)]
    show wpAny _ A.in1 (seqItems? (.ref a) >>= _) _ _ _
    unfold seqItems?
    refine wpAny_bind (wpAny_bind (wpAny_load hzs (wpAny_pure (wpAny_pure ?_))))
    show wpAny _ A.in1 (holding _ (dictSet d (.str (kf i) t) (.int (nf i) u))) _ _ _
    refine wpAny_holding ?_
    obtain ⟨od, e, kvs, hd, hn', hv⟩ := H1.own _ (.tail _ (.head _))
    refine wpAny_dictSet_pairs (knd := strKind prog w) (strKind_is prog w (kf i) t) (Heap.dictOf_iff.mpr ⟨od, e, hd⟩) (fun h2 hd2 hs2 => ?_) (by rw [sizeLine_eq]; omega)
    obtain ⟨o2, ho2, hd2'⟩ := Heap.dictOf_iff.mp hd2
    have H2 := H1.mut (p' := pCnt prog w (n + 1) (putF kf nf (i + 1))) (.there .here) (tk + 1) (Nat.succ_pos tk) hs2 ⟨o2, ho2, pCnt.set hn' hv hd2'⟩
    refine wpAny_pure ⟨plainId_quiet plain_update_loop _, ?_⟩
    refine ih (i + 1) (n + 1) _ o₁ (by omega) hlt (by omega) H2 ?_ hR
    refine W₀.frame _ _ _ hst' fun b hb o e' => ?_
    rcases hfp b hb with rfl | ⟨o', ho'⟩
    · obtain ⟨o₃, h1, rfl⟩ := H1.own _ (.head _)
      obtain ⟨o₂, h3, rfl⟩ := H2.own _ (.head _)
      exact h3.trans (h1.symm.trans e')
    · have e1 := H1.frz b o' ho'
      exact (H2.frz b o' ho').trans (e1.symm.trans e')
end
section
variable {prog : Program} {w : World} {A : Around} {E : Value → Shared → Prop} {s : Shared} {a : Addr}
theorem list_no_keys : typeLookup (.type "list") "keys" = pure none := by rw [typeLookup_type, builtinLookup_eq_fast]; kernel_rfl
theorem keysMissing {xs : Array Value} {k : Nat} {Q : Option Value → Shared → Prop} (hx : s.heap.get? a = some (listOf xs k)) (hA : A.handled = none)
    (h : ∀ h' tk e, Heap.NewExcOf s.heap h' e "AttributeError" → Q none { s with heap := h', toks := tk }) :
    wpAny (model prog w) A (getAttr? (.ref a) "keys") Q E s := by
  obtain ⟨hp, g, d, tk, os⟩ := s
  have hT : ∀ tk', (⟨hp, g, d, tk', os⟩ : Shared).TypeIs (.ref a) "list" := fun _ => ⟨_, hx, rfl⟩
  have f1 := sub_AttributeError
  have f3 := F.slot_list_getattribute.lookup
  have f4 := F.slot_list_getattribute.bind (.ref a)
  have f5 := am_list_getattr_none
  unfold getAttr? getAttrBy? getAttrBy
  repeat (any_goals (first | assumption | exact hT _ | ((with_reducible show wpAny _ _ (call (Value.builtin "list.__getattribute__") _ _) _ _ _); refine call_meets F.slot_list_getattribute (hT _) am_entry_list_getattribute (F.args_list_getattribute_2 _ _) (meets_getattribute_miss_list a xs k #[] "keys" _ list_no_keys (by decide) (by size_fits)) ⟨hx, hA, fun h' tk' e hx' => ?_⟩) | wp_step))
  obtain ⟨t', u', he⟩ := hx'.there
  have hE : ∀ tk', (⟨h', g, d, tk', os⟩ : Shared).TypeIs (.ref e) "AttributeError" := fun _ => ⟨_, he, rfl⟩
  show wpAny _ _ (getattributeRaised _ _ _ _ _ _ _) _ _ _
  unfold getattributeRaised
  have f6 := h h'
  repeat (any_goals (first | assumption | exact hE _ | exact f6 _ _ hx'.of | wp_step))
end
section
variable {prog : Program} {w : World} {os : OsState} {B Z₀ Z Z' : Fz} {L la : Addr} {m : Str → Option Value} {l : Led} {s s' : Shared} {A : Around} {E : Value → Shared → Prop} {vs : List Value} {kf : Nat → Str} {nf : Nat → Int}
theorem dictPairs {Q : Value → Shared → Prop} (H : St w os B Z₀ Z L m l s) (hh : A.handled = none) (hz : ∃ o, Z la o ∧ pL vs o) (hN : vs.length ≤ 4000)
    (hvs : ∀ i v, vs[i]? = some v → ∃ a o t u, v = .ref a ∧ Z a o ∧ pT [.str (kf i) t, .int (nf i) u] o)
    (h : ∀ s' d n, n ≤ vs.length → St w os B Z₀ Z L m ((d, pCnt prog w n (putF kf nf vs.length)) :: l) s' → Q (.ref d) s') : wpAny (model prog w) A (call (.type "dict") [.ref la]) Q E s := by
  refine callType_codes (Q₁ := fun obj s₁ => obj = .ref s.heap.objs.size ∧ s₁ = { s with heap := s.heap.push { cls := .type "dict", data := .dict #[] } }) F.kt_called_dict (F.kt_typeCall_dict_1 _) F.entry_dict_init (kt_code_dict_new _ ⟨rfl, rfl⟩) ?_
  rintro obj s₁ ⟨rfl, rfl⟩
  have H1 := H.alloc (p := pCnt prog w 0 fun _ => 0) { cls := .type "dict", data := .dict #[] } rfl ⟨[], ⟨#[], 0, ⟨rfl, rfl, rfl⟩, rfl, fun _ he => by simp at he, Pairs.nil, List.nodup_nil⟩, Nat.le_refl _, fun _ => .inr ⟨rfl, rfl⟩⟩
  have hnew : (s.heap.push { cls := .type "dict", data := .dict #[] }).DictOf (strKind prog w) s.heap.objs.size [] := Heap.DictOf.new s.heap
  obtain ⟨o, hzo, n0, rfl⟩ := id hz
  have hl := H1.frz _ _ hzo
  refine ⟨hnew.typeIs, F.args_dict_init_2 _ _, ?_⟩
  unfold Builtin.«dict.__init__»
  refine wpAny_bind ?_
  unfold Builtin.Dict.selfAndRest
  refine wpAny_bind (wpAny_notOrdered_dict hnew.typeIs ?_)
  show wpAny _ _ (pure (s.heap.objs.size, [Value.ref la])) _ _ _
  refine wpAny_pure ?_
  show wpAny _ _ (Builtin.Dict.updateFrom "dict.__init__" s.heap.objs.size (.ref la) [] .none) _ _ _
  unfold Builtin.Dict.updateFrom
  refine wpAny_bind (wpAny_typeOf ⟨_, hl, rfl⟩ ?_)
  rw [if_pos (by decide)]
  refine wpAny_bind (wpAny_with_toks (Nat.le_refl _) (keysMissing hl (by exact hh) fun h' tk e hx htk => ?_))
  have H2 := H1.grow tk (Nat.lt_of_lt_of_le H1.tk htk) hx.keeps
  dsimp only [Option.isNone]
  rw [if_pos rfl]
  refine wpAny_bind (wpAny_rule ?_)
  refine wpAny_bind (pyIter_src (by exact hh) (.list hz) H2 fun I SW oI s3 W hst H3 => ?_)
  refine wpAny_pure ⟨plainId_quiet plain_update_loop _, ?_⟩
  refine updLoop (by exact hh) W (fun i v _ hv => hvs i v hv) hN vs.length 0 0 s3 oI rfl (Nat.zero_le _) (Nat.le_refl _) H3 hst fun s4 n4 h4 H4 => ?_
  exact ⟨rfl, h _ _ _ h4 H4⟩
end
/-! dict(E); a for over PATTERN_CHARS -/
section
variable {prog : Program} {w : World} {os : OsState} {B Z₀ Z Z' : Fz} {L a : Addr} {m : Str → Option Value} {l : Led} {s : Shared} {A : Around} {E : Value → Shared → Prop} {env : Env} {pos : Pos}
theorem loadL {x : Str} {v : Value} {Q : Value → Shared → Prop} (H : St w os B Z₀ Z L m l s) (hv : m x = some v) (h : Q v s)
    (hk : env.scope.kind = .function := by rfl) (hl : env.kindOf x = some .local := by rfl) (hL : env.locals = L := by rfl) : wpAny (model prog w) A (loadName env x) Q E s := by
  subst hL; exact wpAny_loadName_local hk hl H.ns hv h
theorem callT1 {id : String} {fn : Str} {pp : Pos} {e : Expr} {Q : Value → Shared → Prop} (H : Base w os Z s) (e1 : nsIn (KH w.params) mainGlobals fn = some none) (hb : bootBuiltins fn = some (.type id))
    (h : wpAny (model prog w) A (eval e env) (fun v s₁ => wpAny (model prog w) A (call (.type id) [v]) Q E s₁) E s) (hn : fn ≠ "__name__" := by decide)
    (he : starEach [e] env = [(false, eval e env)] := by rfl)
    (hk : env.scope.kind = .function := by rfl) (hl : env.kindOf fn = some .globalImplicit := by rfl) (hg : env.globals = mainGlobals := by rfl) (hbb : env.builtins = builtinsNs := by rfl)
    (hd : (fn == ("__debug__" : Str)) = false := by decide) :
    wpAny (model prog w) A (eval (.Call (.Name fn pp) [e] [] pos) env) Q E s := by
  refine Call_Name rfl (nameB H e1 hb ?_ hn hk hl hg hbb hd)
  rw [he]
  refine PySem.callWith_type rfl (evalArgs_plain ?_)
  show wpAny _ _ (do let v ← eval e env; let here ← (pure [v] : Sem (List Value)); return here ++ (← holding here (spliced []))) _ _ _
  exact wpAny_bind (wpAny_mono h (fun v s₂ h₂ => wpAny_bind (wpAny_pure (wpAny_bind (wpAny_holding (wpAny_pure (wpAny_pure h₂)))))) fun _ _ x => x)
theorem pairs_lit : ∀ {l : List DictEntry} {ps : List Nat}, All2 (fun (e : DictEntry) c => ∃ t, e.key = .str (S [c]) t) l ps → ∃ kvs : List (Str × Value), Pairs (strKind prog w) l kvs ∧ kvs.map (·.1) = ps.map fun c => S [c]
  | _, _, .nil => ⟨[], .nil, rfl⟩
  | _, _, .cons (a := e) (b := c) ⟨t, h⟩ r => by
    obtain ⟨kvs, h1, h2⟩ := pairs_lit r
    exact ⟨(S [c], e.val) :: kvs, .cons (by rw [h]; exact strKind_is prog w (S [c]) t) rfl h1, by rw [List.map_cons, List.map_cons, h2]⟩
theorem pats_src (H : Wd w.params Z) : ∃ N item, Src prog w Z (.ref 15) N item ∧ N = pats.length ∧ ∀ i v, item i v → ∃ c t, pats[i]? = some c ∧ v = .str (S [c]) t := by
  obtain ⟨es, n, hl, hk, ha⟩ := k15 (P := w.params)
  obtain ⟨kvs, h1, h2⟩ := pairs_lit (prog := prog) (w := w) ha
  refine ⟨_, _, .dict (kvs := kvs) (es := es) (ep := n) (by decide) ⟨_, H.k _ _ hl, rfl, fun h hh => ⟨_, es, hh, ⟨rfl, rfl, rfl⟩, rfl, fun e he => ?_, h1, ?_⟩⟩, ?_, ?_⟩
  · obtain ⟨x, t, e1, e2⟩ := hk.all e (Array.mem_toList_iff.mpr he)
    exact ⟨x, by rw [e1]; exact strKind_is prog w x t, e2⟩
  · rw [h2]; decide +kernel
  · have := congrArg List.length h2
    simpa using this
  · rintro i v ⟨k, x, hi, hv⟩
    have e := congrArg (fun q => q[i]?) h2
    simp only [List.getElem?_map, hi, Option.map_some] at e
    obtain ⟨c, hc, rfl⟩ := Option.map_eq_some_iff.mp e.symm
    obtain ⟨t, rfl⟩ := Value.isStrOf_shape hv
    exact ⟨c, t, hc, rfl⟩
end
/-! the walk's steps; H: the state, where a rule wants it -/
local macro_rules | `(tactic| tb_start) => `(tactic| first
  | with_reducible assumption
  | with_reducible exact upd_self
  | ((with_reducible refine upd_ne ?_ ?_); (decide); (tb_start))
  | with_reducible exact List.mem_cons_self
  | ((with_reducible refine List.mem_cons_of_mem _ ?_); tb_start)
  | with_reducible exact Up.here
  | ((with_reducible apply Up.there); tb_start)
  | ((with_reducible show Has _ _ _ _); first | (refine Or.inr ?_; with_reducible assumption) | (refine Or.inl ?_; tb_start))
  | exact rfl)
local macro_rules | `(tactic| kwd_less) => `(tactic| first | assumption | decide | (simp only [S_len, List.length_append, List.length_cons, List.length_nil, List.length_reverse, List.length_map, List.length_set, sizeLine_eq]; omega) | (rw [sizeLine_eq]; omega) | omega)
local macro_rules | `(tactic| tb_rel) => `(tactic| first
  | ((with_reducible show wpAny _ _ (execs _ _) _ _ _); first
    | ((with_reducible show wpAny _ _ (execs (_ :: _) _) _ _ _); refine wpAny_execs_cons ?_)
    | ((with_reducible show wpAny _ _ (execs [] _) _ _ _); refine wpAny_execs_nil ?_))
  | ((with_reducible show wpAny _ _ (eval _ _) _ _ _); first
    | ((with_reducible show wpAny _ _ (eval (Expr.Name _ _) _) _ _ _); (rename St _ _ _ _ _ _ _ _ _ => H8); first
        | (refine' nameL H8 ?hv ?_; (case hv => tb_start))
        | (refine' nameC H8 ?hc ?hv ?_; (case hc => exact rfl); (case hv => tb_start))
        | (refine' nameF H8 ?hc ?hv ?_; (case hc => exact rfl); (case hv => tb_start))
        | (refine' nameG H8.toBase ?he ?_; (case he => exact rfl))
        | (refine' nameB H8.toBase ?he ?hb ?_; (case he => exact rfl); (case hb => boot_fast)))
    | ((with_reducible show wpAny _ _ (eval (Expr.Constant (Const.int _) _ _) _) _ _ _); (rename St _ _ _ _ _ _ _ _ _ => H8); refine' constI H8 ?_; intro s9 t9 H9; clear H8)
    | ((with_reducible show wpAny _ _ (eval (Expr.Constant (Const.str _) _ _) _) _ _ _); (rename St _ _ _ _ _ _ _ _ _ => H8); refine' constS H8 ?_; intro s9 t9 H9; clear H8)
    | ((with_reducible show wpAny _ _ (eval (Expr.BinOp _ _ _ _) _) _ _ _); refine wpAny_BinOp ?_)
    | ((with_reducible show wpAny _ _ (eval (Expr.Dict [] [] _) _) _ _ _); (rename St _ _ _ _ _ _ _ _ _ => H8); refine' dictNew H8 ?_; intro s9 a9 H9; clear H8)
    | ((with_reducible show wpAny _ _ (eval (Expr.Call (Expr.Attribute _ (Str.ofString "get") _) [_, _] [] _) _) _ _ _); refine meth2 F.plainAttrs_dict F.slot_dict_get F.type_dict_get ?_)
    | ((with_reducible show wpAny _ _ (eval (Expr.Compare _ [_] [_] _) _) _ _ _); refine wpAny_Compare1 ?_)
    | ((with_reducible show wpAny _ _ (eval (Expr.IfExp _ _ _ _) _) _ _ _); refine wpAny_IfExp ?_)
    | ((with_reducible show wpAny _ _ (eval (Expr.BoolOp BoolOp.And [_, _] _) _) _ _ _); refine wpAny_And2 ?_)
    | ((with_reducible show wpAny _ _ (eval (Expr.BoolOp BoolOp.Or [_, _] _) _) _ _ _); refine wpAny_Or2 ?_)
    | ((with_reducible show wpAny _ _ (eval (Expr.UnaryOp _ _ _) _) _ _ _); refine wpAny_UnaryOp ?_)
    | ((with_reducible show wpAny _ _ (eval (Expr.Constant Const.none _ _) _) _ _ _); refine wpAny_Constant_none ?_)
    | ((with_reducible show wpAny _ _ (eval (Expr.Constant (Const.bool _) _ _) _) _ _ _); refine wpAny_Constant_bool ?_)
    | ((with_reducible show wpAny _ _ (eval (Expr.Subscript _ (Expr.Slice none none none _) _) _) _ _ _); (rename St _ _ _ _ _ _ _ _ _ => H8); refine' copyL H8 ?_)
    | ((with_reducible show wpAny _ _ (eval (Expr.Subscript _ (Expr.Slice _ _ none _) _) _) _ _ _); (rename St _ _ _ _ _ _ _ _ _ => H8); refine' sliceS H8 ?_)
    | ((with_reducible show wpAny _ _ (eval (Expr.Subscript _ (Expr.Slice _ _ _ _) _) _) _ _ _); fail)
    | ((with_reducible show wpAny _ _ (eval (Expr.Subscript _ _ _) _) _ _ _); refine Subscript_ ?_)
    | ((with_reducible show wpAny _ _ (eval (Expr.List _ _) _) _ _ _); refine List_ ?_)
    | ((with_reducible show wpAny _ _ (eval (Expr.Tuple _ _ _) _) _ _ _); refine Tuple_ ?_)
    | ((with_reducible show wpAny _ _ (eval (Expr.Call (Expr.Name (Str.ofString "set") _) [] [] _) _) _ _ _); (rename St _ _ _ _ _ _ _ _ _ => H8); (refine' callT0 H8.toBase ?e1 ?hb ?_; (case e1 => exact rfl); (case hb => boot_fast)))
    | ((with_reducible show wpAny _ _ (eval (Expr.Call (Expr.Name _ _) [] [] _) _) _ _ _); (rename St _ _ _ _ _ _ _ _ _ => H8); (refine' callN0 H8 ?hv ?hf ?_; (case hv => tb_start); (case hf => with_reducible assumption)))
    | ((with_reducible show wpAny _ _ (eval (Expr.Call (Expr.Name _ _) (_ :: _) [] _) _) _ _ _); (rename St _ _ _ _ _ _ _ _ _ => H8); (refine' callD H8.toBase ?hG ?ho ?_; (case hG => exact rfl); (case ho => kernel_rfl)))
    | ((with_reducible show wpAny _ _ (eval (Expr.Call (Expr.Name _ _) [_] [] _) _) _ _ _); (rename St _ _ _ _ _ _ _ _ _ => H8); (refine' callB1 H8.toBase ?e1 ?hb ?_; (case e1 => exact rfl); (case hb => boot_fast)))
    | ((with_reducible show wpAny _ _ (eval (Expr.Call (Expr.Attribute _ (Str.ofString "join") _) [_] [] _) _) _ _ _); refine meth1 F.plainAttrs_str F.slot_str_join F.type_str_join ?_)
    | ((with_reducible show wpAny _ _ (eval (Expr.Call (Expr.Attribute _ (Str.ofString "extend") _) [_] [] _) _) _ _ _); refine meth1 F.plainAttrs_list F.slot_list_extend F.type_list_extend ?_)
    | ((with_reducible show wpAny _ _ (eval (Expr.Call (Expr.Attribute _ (Str.ofString "clear") _) [] [] _) _) _ _ _); refine meth0 F.plainAttrs_set F.slot_set_clear F.type_set_clear ?_)
    | ((with_reducible show wpAny _ _ (eval (Expr.Call (Expr.Attribute _ (Str.ofString "add") _) [_] [] _) _) _ _ _); refine meth1 F.plainAttrs_set F.slot_set_add F.type_set_add ?_)
    | ((with_reducible show wpAny _ _ (eval (Expr.Call (Expr.Attribute _ (Str.ofString "append") _) [_] [] _) _) _ _ _); refine meth1 F.plainAttrs_list slot_list_append type_list_append ?_)
    | ((with_reducible show wpAny _ _ (eval (Expr.Call (Expr.Attribute _ (Str.ofString "replace") _) [_, _] [] _) _) _ _ _); (rename St _ _ _ _ _ _ _ _ _ => H8); refine replaceS H8 ?_))
  | ((with_reducible show wpAny _ _ (loadName _ _) _ _ _); (rename St _ _ _ _ _ _ _ _ _ => H8); refine' loadL H8 ?hv ?_; (case hv => tb_start))
  | ((with_reducible show wpAny _ _ (spliced _) _ _ _); first
    | ((with_reducible show wpAny _ _ (spliced (backTo _ (starEach [] _))) _ _ _); refine spliced_none ?_)
    | ((with_reducible show wpAny _ _ (spliced (backTo _ (starEach (_ :: _) _))) _ _ _); refine spliced_more ?_))
  | ((with_reducible show wpAny _ _ (binaryOp _ _ _) _ _ _); first
    | ((with_reducible show wpAny _ _ (binaryOp Operator.Add (Value.int _ _) (Value.int _ _)) _ _ _); refine P.add_int ?_; (rename St _ _ _ _ _ _ _ _ _ => H9); replace H9 := H9.tok1)
    | ((with_reducible show wpAny _ _ (binaryOp Operator.Sub (Value.int _ _) (Value.int _ _)) _ _ _); refine PySem.P.sub_int ?_; (rename St _ _ _ _ _ _ _ _ _ => H9); replace H9 := H9.tok1)
    | ((with_reducible show wpAny _ _ (binaryOp Operator.Mult (Value.str _ _) (Value.int _ _)) _ _ _); (rename St _ _ _ _ _ _ _ _ _ => H8); (refine' mulC H8 ?hn ?_; (case hn => kwd_less)); intro s9 t9 H9; clear H8)
    | ((with_reducible show wpAny _ _ (binaryOp Operator.Mod (Value.str _ _) (Value.str _ _)) _ _ _); (rename St _ _ _ _ _ _ _ _ _ => H8); (refine' quoted H8 ?hn ?_; (case hn => kwd_less)); intro s9 t9 H9; clear H8)
    | ((with_reducible show wpAny _ _ (binaryOp Operator.Mod (Value.int _ _) (Value.int _ _)) _ _ _); refine mod_int' ?hb ?_; (case hb => decide); (rename St _ _ _ _ _ _ _ _ _ => H9); replace H9 := H9.tok1)
    | ((with_reducible show wpAny _ _ (binaryOp Operator.FloorDiv (Value.int _ _) (Value.int _ _)) _ _ _); refine floordiv_int ?hb ?_ ?hp; (case hb => decide); (case hp => exact Or.inl (PyProof.noPylong_small (by decide))); (rename St _ _ _ _ _ _ _ _ _ => H9); replace H9 := H9.tok1)
    | ((with_reducible show wpAny _ _ (binaryOp Operator.Add (Value.str _ _) (Value.str _ _)) _ _ _); (rename St _ _ _ _ _ _ _ _ _ => H8); (refine' addS H8 ?hsz ?_; (case hsz => kwd_less)); intro s9 t9 H9; clear H8))
  | ((with_reducible show wpAny _ _ (storeName _ _ _) _ _ _); (rename St _ _ _ _ _ _ _ _ _ => H8); first | (refine' storeL H8 ?_; intro s9 H9; clear H8) | (refine' storeC H8 ?hc ?hU ?_; (case hc => exact rfl); (case hU => tb_start); intro s9 H9; clear H8))
  | ((with_reducible show wpAny _ _ (exec _ _) _ _ _); first
    | ((with_reducible show wpAny _ _ (exec (Stmt.Assign [Expr.Name _ _] _ _) _) _ _ _); refine wpAny_Assign_Name ?_)
    | ((with_reducible show wpAny _ _ (exec (Stmt.Assign [Expr.Subscript _ _ _] _ _) _) _ _ _); refine wpAny_Assign_Subscript ?_)
    | ((with_reducible show wpAny _ _ (exec (Stmt.Return (some _) _) _) _ _ _); refine wpAny_Return_some ?_)
    | ((with_reducible show wpAny _ _ (exec (Stmt.If _ _ _ _) _) _ _ _); refine wpAny_If ?_)
    | ((with_reducible show wpAny _ _ (exec (Stmt.Expr _ _) _) _ _ _); refine wpAny_Expr_any ?_)
    | ((with_reducible show wpAny _ _ (exec (Stmt.AugAssign (Expr.Subscript _ _ _) _ _ _) _) _ _ _); refine wpAny_AugAssign_SubscriptAny ?_)
    | ((with_reducible show wpAny _ _ (exec (Stmt.AugAssign (Expr.Name _ _) _ _ _) _) _ _ _); refine wpAny_AugAssign_Name ?_)
    | ((with_reducible show wpAny _ _ (exec (Stmt.Break _) _) _ _ _); refine wpAny_Break ?_)
    | ((with_reducible show wpAny _ _ (exec (Stmt.Continue _) _) _ _ _); refine wpAny_Continue ?_))
  | ((with_reducible show wpAny _ _ (isTrue _ _ _) _ _ _); first
    | ((with_reducible show wpAny _ _ (isTrue (Expr.Compare _ [_] [_] _) _ _) _ _ _); refine wpAny_isTrue_Compare1 ?_)
    | ((with_reducible show wpAny _ _ (isTrue (Expr.UnaryOp UnaryOp.Not _ _) _ _) _ _ _); refine wpAny_isTrue_Not ?_)
    | ((with_reducible show wpAny _ _ (isTrue (Expr.BoolOp _ _ _) _ _) _ _ _); refine wpAny_isTrue_BoolOp ?_)
    | ((with_reducible show wpAny _ _ (isTrue _ _ _) _ _ _); refine wpAny_isTrue_value ?_))
  | ((with_reducible show wpAny _ _ (truthy _) _ _ _); first
    | ((with_reducible show wpAny _ _ (truthy (Value.bool _)) _ _ _); refine wpAny_truthy_bool ?_)
    | ((with_reducible show wpAny _ _ (truthy (Value.int _ _)) _ _ _); refine PySem.P.truthy_int ?_)
    | ((with_reducible show wpAny _ _ (truthy Value.none) _ _ _); refine truthN ?_)
    | ((with_reducible show wpAny _ _ (truthy (Value.str _ _)) _ _ _); (rename St _ _ _ _ _ _ _ _ _ => H8); (refine' truthS H8 ?hx ?_; (case hx => kwd_less)); intro s9 H9; clear H8)
    | ((with_reducible show wpAny _ _ (truthy (Value.ref _)) _ _ _); (rename St _ _ _ _ _ _ _ _ _ => H8); (refine' truthL H8 ?hh ?hx ?_; (case hh => tb_start); (case hx => kwd_less)); intro s9 H9; clear H8))
  | ((with_reducible show wpAny _ _ (allTrue _ _ _) _ _ _); first
    | ((with_reducible show wpAny _ _ (allTrue BoolOp.And (_ :: _) _) _ _ _); refine wpAny_allTrue_And_cons ?_)
    | ((with_reducible show wpAny _ _ (allTrue BoolOp.Or (_ :: _) _) _ _ _); refine wpAny_allTrue_Or_cons ?_)
    | ((with_reducible show wpAny _ _ (allTrue BoolOp.And [] _) _ _ _); refine wpAny_allTrue_And_nil ?_)
    | ((with_reducible show wpAny _ _ (allTrue BoolOp.Or [] _) _ _ _); refine wpAny_allTrue_Or_nil ?_))
  | ((with_reducible show wpAny _ _ (compareOp _ _ _) _ _ _); first
    | ((with_reducible show wpAny _ _ (compareOp CmpOp.Eq (Value.int _ _) (Value.int _ _)) _ _ _); refine PySem.P.eq_int ?_)
    | ((with_reducible show wpAny _ _ (compareOp CmpOp.NotEq (Value.int _ _) (Value.int _ _)) _ _ _); refine PySem.P.ne_int ?_)
    | ((with_reducible show wpAny _ _ (compareOp CmpOp.Lt (Value.int _ _) (Value.int _ _)) _ _ _); refine PySem.P.lt_int ?_)
    | ((with_reducible show wpAny _ _ (compareOp CmpOp.LtE (Value.int _ _) (Value.int _ _)) _ _ _); refine PySem.P.le_int ?_)
    | ((with_reducible show wpAny _ _ (compareOp CmpOp.Gt (Value.int _ _) (Value.int _ _)) _ _ _); refine PySem.P.gt_int ?_)
    | ((with_reducible show wpAny _ _ (compareOp CmpOp.NotEq (Value.bool _) (Value.bool _)) _ _ _); refine PyProof.Rows.ne_bool ?_)
    | ((with_reducible show wpAny _ _ (compareOp CmpOp.Eq (Value.bool _) (Value.bool _)) _ _ _); refine PyProof.Rows.eq_bool ?_)
    | ((with_reducible show wpAny _ _ (compareOp CmpOp.Eq (Value.str _ _) (Value.str _ _)) _ _ _); refine PyProof.Rows.eq_str ?_)
    | ((with_reducible show wpAny _ _ (compareOp CmpOp.NotEq (Value.str _ _) (Value.str _ _)) _ _ _); refine PyProof.Rows.ne_str ?_)
    | ((with_reducible show wpAny _ _ (compareOp CmpOp.In (Value.str _ _) (Value.ref 15)) _ _ _); (rename St _ _ _ _ _ _ _ _ _ => H8); refine' patIn H8 ?_; intro s9 H9; clear H8)
    | ((with_reducible show wpAny _ _ (compareOp CmpOp.In (Value.str _ _) (Value.ref _)) _ _ _); (rename St _ _ _ _ _ _ _ _ _ => H8); (refine' inSet H8 ?hm ?hn ?_; (case hm => tb_start); (case hn => kwd_less)); intro s9 H9; clear H8)
    | ((with_reducible show wpAny _ _ (compareOp CmpOp.In (Value.str _ _) (Value.str _ _)) _ _ _); refine inS ?_)
    | ((with_reducible show wpAny _ _ (compareOp CmpOp.NotIn (Value.str _ _) (Value.str _ _)) _ _ _); refine notInS ?_)
    | ((with_reducible show wpAny _ _ (compareOp CmpOp.Is (Value.ref _) Value.none) _ _ _); refine isNoneR ?_)
    | ((with_reducible show wpAny _ _ (compareOp CmpOp.Is (Value.str _ _) Value.none) _ _ _); refine isNoneS ?_)
    | ((with_reducible show wpAny _ _ (compareOp CmpOp.Is Value.none Value.none) _ _ _); refine isNoneN ?_)
    | ((with_reducible show wpAny _ _ (compareOp CmpOp.IsNot (Value.ref _) Value.none) _ _ _); refine isNotNoneR ?_)
    | ((with_reducible show wpAny _ _ (compareOp CmpOp.IsNot (Value.str _ _) Value.none) _ _ _); refine isNotNoneS ?_)
    | ((with_reducible show wpAny _ _ (compareOp CmpOp.IsNot Value.none Value.none) _ _ _); refine isNotNoneN ?_))
  | ((with_reducible show wpAny _ _ (call (Value.builtin "dict.get") [Value.ref _, Value.str _ _, Value.int 0 _]) _ _ _); (rename St _ _ _ _ _ _ _ _ _ => H8); (refine' cntGet H8 ?hh ?hm ?_; (case hh => tb_start); (case hm => first | assumption | exact St.notMod H8 (by tb_start)); intro s9 t9 H9; clear H8))
  | ((with_reducible show wpAny _ _ (call (Value.type "set") []) _ _ _); (rename St _ _ _ _ _ _ _ _ _ => H8); (refine setNew H8 ?_); intro s9 a9 H9; clear H8)
  | ((with_reducible show wpAny _ _ (call (Value.builtin "set.clear") [Value.ref _]) _ _ _); (rename St _ _ _ _ _ _ _ _ _ => H8); (refine' setClear_ H8 ?U ?hn ?_; (case U => tb_start); (case hn => kwd_less)); intro s9 H9; clear H8)
  | ((with_reducible show wpAny _ _ (call (Value.builtin "set.add") [Value.ref _, Value.str _ _]) _ _ _); (rename St _ _ _ _ _ _ _ _ _ => H8); (refine' setAdd H8 ?U ?hn ?_; (case U => tb_start); (case hn => kwd_less)); intro s9 H9; clear H8)
  | ((with_reducible show wpAny _ _ (call (Value.builtin "len") [Value.str _ _]) _ _ _); (rename St _ _ _ _ _ _ _ _ _ => H8); (refine' lenS H8 ?hx ?_; (case hx => kwd_less)); intro s9 t9 H9; clear H8)
  | ((with_reducible show wpAny _ _ (call (Value.builtin "abs") [Value.int _ _]) _ _ _); (rename St _ _ _ _ _ _ _ _ _ => H8); (refine absI H8 ?_); intro s9 t9 H9; clear H8)
  | ((with_reducible show wpAny _ _ (call (Value.builtin "list.extend") [Value.ref _, Value.ref _]) _ _ _); (rename St _ _ _ _ _ _ _ _ _ => H8); (refine' extendL H8 ?U ?hb ?hsz ?_; (case U => tb_start); (case hb => tb_start); (case hsz => kwd_less)); intro s9 H9; clear H8)
  | ((with_reducible show wpAny _ _ (call (Value.builtin "str.join") [Value.str (Str.ofString "") _, Value.ref _]) _ _ _); (rename St _ _ _ _ _ _ _ _ _ => H8); (refine' joinS' H8 ?hh ?hv ?hsz ?_; (case hh => tb_start); (case hv => with_reducible assumption); (case hsz => kwd_less)); intro s9 t9 H9; clear H8)
  | ((with_reducible show wpAny _ _ (call (Value.builtin "list.append") [Value.ref _, _]) _ _ _); (rename St _ _ _ _ _ _ _ _ _ => H8); (refine' append H8 ?U ?_ ?hsz; (case U => tb_start); (case hsz => kwd_less)); intro s9 H9; clear H8)
  | ((with_reducible show wpAny _ _ (setItem _ _ _) _ _ _); first
    | ((with_reducible show wpAny _ _ (setItem (Value.ref _) (Value.str _ _) (Value.int _ _)) _ _ _); (rename St _ _ _ _ _ _ _ _ _ => H8); (refine' cntSet H8 ?hU ?hn ?_; (case hU => tb_start); (case hn => kwd_less); intro s9 H9; clear H8))
    | ((with_reducible show wpAny _ _ (setItem (Value.ref _) (Value.int _ _) _) _ _ _); (rename St _ _ _ _ _ _ _ _ _ => H8); (refine' setL H8 ?U ?h0 ?h1 ?hn ?_; (case U => tb_start); (case h0 => kwd_less); (case h1 => kwd_less); (case hn => kwd_less)); intro s9 H9; clear H8))
  | ((with_reducible show wpAny _ _ (unaryOp _ _) _ _ _); first
    | ((with_reducible show wpAny _ _ (unaryOp UnaryOp.Not _) _ _ _); refine not_value ?_)
    | ((with_reducible show wpAny _ _ (unaryOp UnaryOp.USub (Value.int _ _)) _ _ _); refine PySem.P.neg_int ?_; (rename St _ _ _ _ _ _ _ _ _ => H9); replace H9 := H9.tok1))
  | ((with_reducible show wpAny _ _ (evalPart _ _) _ _ _); first
    | ((with_reducible show wpAny _ _ (evalPart none _) _ _ _); refine evalPart_none_step ?_)
    | ((with_reducible show wpAny _ _ (evalPart (some _) _) _ _ _); refine evalPart_some_step ?_))
  | ((with_reducible show wpAny _ _ (getItem (Value.ref _) (Value.int _ _)) _ _ _); (rename St _ _ _ _ _ _ _ _ _ => H8); (refine' St.get_ H8 ?hh ?h0 ?h1 ?hx ?_; (case hh => tb_start); (case h0 => kwd_less); (case h1 => kwd_less); (case hx => rfl)))
  | ((with_reducible show wpAny _ _ (subscriptTail _ _ (Value.str _ _) (Value.int _ _)) _ _ _); (rename St _ _ _ _ _ _ _ _ _ => H8); (refine' itemS H8 ?h0 ?h1 ?hc ?_; (case h0 => kwd_less); (case h1 => kwd_less); (case hc => first | assumption | exact rfl)); intro s9 t9 H9; clear H8)
  | ((with_reducible show wpAny _ _ (subscriptTail _ _ (Value.ref _) (Value.int _ _)) _ _ _); (rename St _ _ _ _ _ _ _ _ _ => H8); first
    | (refine' itemL H8 ?hh ?h0 ?h1 ?hx ?_ ?hs; (case hh => tb_start); (case hs => with_unfolding_all rfl); (case h0 => kwd_less); (case h1 => kwd_less); (case hx => rfl))
    | ((with_reducible show wpAny _ _ (subscriptTail _ _ (Value.ref _) (Value.int (-1) _)) _ _ _); refine' itemLast H8 ?hh ?hn ?_ ?hs; (case hh => tb_start); (case hs => with_unfolding_all rfl); (case hn => kwd_less))
    | (refine' itemLneg H8 ?hh ?h0 ?h1 ?h2 ?hx ?_ ?hs; (case hh => tb_start); (case hs => with_unfolding_all rfl); (case h0 => decide); (case h1 => kwd_less); (case h2 => decide); (case hx => rfl))
    | (refine' itemT H8 ?hh ?h0 ?h1 ?hj ?hx ?_ ?hs; (case hh => tb_start); (case hs => with_unfolding_all rfl); (case h0 => decide); (case h1 => decide); (case hj => rfl); (case hx => rfl)))
  | ((with_reducible show wpAny _ _ (newList _) _ _ _); (rename St _ _ _ _ _ _ _ _ _ => H8); (refine' newL H8 ?_ ?hsz; (case hsz => kwd_less)); intro s9 a9 H9; clear H8)
  | ((with_reducible show wpAny _ _ (newTuple _) _ _ _); (rename St _ _ _ _ _ _ _ _ _ => H8); (refine' newT H8 ?_ ?hsz; (case hsz => kwd_less)); intro s9 a9 H9; clear H8)
  | ((with_reducible show wpAny _ _ (inplaceOp Operator.Add (Value.int _ _) (Value.int _ _)) _ _ _); refine PySem.P.iadd_int ?_; (rename St _ _ _ _ _ _ _ _ _ => H9); replace H9 := H9.tok1)
  | ((with_reducible show wpAny _ _ (assign (Expr.Tuple _ _ _) _ (Value.ref _)) _ _ _); (rename St _ _ _ _ _ _ _ _ _ => H8); (refine' assignT H8 ?hh ?ht ?_ ?hn ?hstar; (case hh => assumption); (case ht => tb_start); (case hn => exact rfl); (case hstar => exact rfl)); intro s9 H9; clear H8)
  | ((with_reducible show wpAny _ _ (assignInOrder _ (_ :: _)) _ _ _); refine wpAny_assignInOrder_more ?_; show wpAny _ _ (assign _ _ _) _ _ _)
  | ((with_reducible show wpAny _ _ (assignInOrder _ []) _ _ _); refine wpAny_assignInOrder_none ?_)
  | ((with_reducible show wpAny _ _ (assign (Expr.Name _ _) _ _) _ _ _); refine wpAny_assign_Name ?_)
  | ((with_reducible show Shared.TypeIs _ _ "set" ∧ _); (rename St _ _ _ _ _ _ _ _ _ => H8); (refine' recvSet H8 ?hh ?_; (case hh => tb_start)))
  | ((with_reducible show Shared.TypeIs _ _ "list" ∧ _); (rename St _ _ _ _ _ _ _ _ _ => H8); (refine' recvL H8 ?hh ?_; (case hh => tb_start)))
  | ((with_reducible show Shared.TypeIs _ _ "dict" ∧ _); (rename St _ _ _ _ _ _ _ _ _ => H8); (refine' recvD H8 ?hh ?_; (case hh => tb_start)))
  | ((with_reducible show Shared.TypeIs _ _ "str" ∧ _); refine recvS ?_)
  | ((with_reducible show SliceThen _ _ _ _ _ (Value.str _ _) Value.none (Value.int _ _) _ _); (rename St _ _ _ _ _ _ _ _ _ => H8); (refine' slice_ns H8 ?hx ?_; (case hx => kwd_less)); intro s9 t9 H9; clear H8)
  | ((with_reducible show SliceThen _ _ _ _ _ (Value.str _ _) (Value.int _ _) (Value.int _ _) _ _); (rename St _ _ _ _ _ _ _ _ _ => H8); (refine' slice_ss H8 ?hx ?_; (case hx => kwd_less)); intro s9 t9 H9; clear H8)
  | ((with_reducible show ReplThen _ _ _ _ _ _ _ (Value.str _ _) _ _); (rename St _ _ _ _ _ _ _ _ _ => H8); (refine' repl_then H8 ?hx ?_; (case hx => kwd_less)); intro s9 t9 H9; clear H8)
  | ((with_reducible show CopyThen _ _ _ _ _ (Value.ref _) _ _); (rename St _ _ _ _ _ _ _ _ _ => H8); (refine' copy_then H8 ?hh ?hx ?_; (case hh => tb_start); (case hx => kwd_less)); intro s9 a9 H9; clear H8)
  | ((with_reducible show CallThen _ _ _ _ _ _ _ _ _); (rename St _ _ _ _ _ _ _ _ _ => H8); refine And.intro ⟨_, H8.toBase⟩ ?_))
section
variable {prog : Program} {w : World} {os : OsState} {B Z₀ Z : Fz} {Lc oa : Addr} {mc : Str → Option Value} {lr : Led} {as : List Addr} {r : List Tk} {s : Shared} {A : Around} {E : Value → Shared → Prop} {c : Nat} {t : Tok} {Q : Value → Shared → Prop}
set_option maxHeartbeats 4000000 in
theorem add_spec (hA : Rm A 1) (H : St w os B Z₀ Z Lc mc (OutLed oa as r ++ lr) s) (hlen : as.length = r.length) (hb : r.length ≤ 100000) (hsz : ∀ t ∈ r, t.sz ≤ 100000)
    (hQ : ∀ s' as', as'.length = (addC c r).length → St w os B Z₀ Z Lc mc (OutLed oa as' (addC c r) ++ lr) s' → Q .none s') : wpAny (model prog w) A (call (.ref 85) [.ref oa, .str (S [c]) t]) Q E s := by
  refine enterW (binds := [(Str.ofString "out", .ref oa), (Str.ofString "sign", .str (S [c]) t)]) (by have := hA.dp; omega) H rfl (by rfl) (BindsTo.of_eq rfl) (by rfl) (fun s₁ L E' H₁ => ?_)
  refine wpAny_execs_cons ?_
  rcases r with _ | ⟨tk, r⟩
  · rcases as with _ | ⟨a1, as⟩
    · replace H₁ : St w os _ Z Z L _ [(oa, pL [])] s₁ := H₁
      (repeat' (first | tb_rel | ((with_reducible refine iteB (fun h9 => ?_) (fun h9 => ?_)) <;> (try (exfalso; first | exact absurd h9 (by decide) | (simp at h9; done))))))
      · rename_i H9
        exact hQ _ [_] rfl (H.leaveW (ls' := OutLed oa [_] [.ch [c]]) H9.swap.toCh)
    · simp at hlen
  · rcases as with _ | ⟨a1, as⟩
    · simp at hlen
    have hlen' : as.length = r.length := by simpa using hlen
    have hal : as.length ≤ 100000 := by simp at hb; omega
    rw [OutLed_cons] at H₁
    cases tk with
    | ch x =>
      have hx : x.length ≤ 100000 := hsz _ List.mem_cons_self
      obtain ⟨t1, t2, H₁⟩ := H₁.exCh
      (repeat' (first | tb_rel | ((with_reducible refine iteB (fun h9 => ?_) (fun h9 => ?_)) <;> (try (exfalso; first | exact absurd h9 (by decide) | (simp at h9; done))))))
      · rename_i H9
        have H9' := H.leaveW (ls' := (oa, pL ((as.map Value.ref).reverse ++ [.ref a1])) :: (a1, pTk (.ch (x ++ [c]))) :: tkLed as r) (by rw [S_append] at H9; exact H9.toCh)
        rw [← OutLed_cons] at H9'
        exact hQ _ (a1 :: as) (by simpa [addC] using hlen) H9'
    | fd d n =>
      obtain ⟨t1, t2, t3, H₁⟩ := H₁.exFd
      (repeat' (first | tb_rel | ((with_reducible refine iteB (fun h9 => ?_) (fun h9 => ?_)) <;> (try (exfalso; first | exact absurd h9 (by decide) | (simp at h9; done))))))
      · rename_i H9
        have H9' := H.leaveW (ls' := (oa, pL (((as.map Value.ref).reverse ++ [.ref a1]) ++ [.ref _])) :: (_, pTk (.ch [c])) :: (a1, pTk (.fd d n)) :: tkLed as r) (by
          exact (H9.swap.toCh).re (p' := pTk (.fd d n)) (.there (.there .here)) fun o hp => ⟨t1, t2, t3, hp⟩)
        have e : (((as.map Value.ref).reverse ++ [Value.ref a1])) = ((a1 :: as).map Value.ref).reverse := by simp
        rw [e] at H9'
        exact hQ _ (_ :: a1 :: as) (by simpa [addC] using hlen) (by rw [show addC c (.fd d n :: r) = .ch [c] :: .fd d n :: r from rfl, OutLed_cons]; exact H9')
theorem add_spec0 (hA : Rm A 1) (H : St w os B Z₀ Z Lc mc (OutLed oa as r) s) (hlen : as.length = r.length) (hb : r.length ≤ 100000) (hsz : ∀ t ∈ r, t.sz ≤ 100000)
    (hQ : ∀ s' as', as'.length = (addC c r).length → St w os B Z₀ Z Lc mc (OutLed oa as' (addC c r)) s' → Q .none s') : wpAny (model prog w) A (call (.ref 85) [.ref oa, .str (S [c]) t]) Q E s :=
  add_spec (lr := []) hA (by rw [List.append_nil]; exact H) hlen hb hsz fun s' as' h1 h2 => hQ s' as' h1 (by rw [List.append_nil] at h2; exact h2)
end
theorem quote_S : Str.ofString "'" = S [39] := by decide +kernel
theorem letters_S : Str.ofString "yMdEabhHkKzv" = S letters := by decide +kernel
section
variable {prog : Program} {w : World} {os : OsState} {Z : Fz} {oa : Addr} {s : Shared} {A : Around} {E : Value → Shared → Prop} {c : Nat} {t : Tok} {x : List Nat} {Q : Value → Shared → Prop}
theorem addC_len (c : Nat) (r : List Tk) : (addC c r).length ≤ r.length + 1 := by
  rcases r with _ | ⟨_ | _, r⟩ <;> simp [addC]
theorem addF_len (c : Nat) (r : List Tk) : (addF c r).length ≤ r.length + 1 := by
  rcases r with _ | ⟨_ | _, r⟩ <;> simp [addF]
  split <;> simp
theorem addC_sz {c k : Nat} {r : List Tk} (h : ∀ t ∈ r, t.sz ≤ k) : ∀ t ∈ addC c r, t.sz ≤ k + 1 := by
  rcases r with _ | ⟨x | ⟨d, n⟩, r⟩ <;> intro t ht <;> simp only [addC] at ht
  · simp only [List.mem_cons, List.not_mem_nil, or_false] at ht; subst ht; simp [Tk.sz]
  · rcases List.mem_cons.mp ht with rfl | ht
    · have := h _ List.mem_cons_self; simp only [Tk.sz, List.length_append, List.length_cons, List.length_nil] at *; omega
    · exact Nat.le_succ_of_le (h _ (.tail _ ht))
  · rcases List.mem_cons.mp ht with rfl | ht
    · simp [Tk.sz]
    · exact Nat.le_succ_of_le (h _ ht)
theorem addF_sz {c k : Nat} {r : List Tk} (h : ∀ t ∈ r, t.sz ≤ k) : ∀ t ∈ addF c r, t.sz ≤ k + 1 := by
  rcases r with _ | ⟨_ | ⟨d, n⟩, r⟩ <;> intro t ht <;> simp only [addF] at ht
  · simp only [List.mem_cons, List.not_mem_nil, or_false] at ht; subst ht; simp [Tk.sz]
  · rcases List.mem_cons.mp ht with rfl | ht
    · simp [Tk.sz]
    · exact Nat.le_succ_of_le (h _ ht)
  · split at ht
    · rcases List.mem_cons.mp ht with rfl | ht
      · have := h _ List.mem_cons_self; simp only [Tk.sz] at *; omega
      · exact Nat.le_succ_of_le (h _ (.tail _ ht))
    · rcases List.mem_cons.mp ht with rfl | ht
      · simp [Tk.sz]
      · exact Nat.le_succ_of_le (h _ ht)
theorem rd_q2 {l : List Nat} {ins : Bool} {r : List Tk} : rd (39 :: 39 :: l) ins r = rd l ins (addC 39 r) := by simp [rd]
theorem rd_q1 {l : List Nat} {ins : Bool} {r : List Tk} (h : l.take 1 ≠ [39]) : rd (39 :: l) ins r = rd l (!ins) r := by
  cases l with
  | nil => simp [rd]
  | cons d l =>
    have : d ≠ 39 := fun e => h (by simp [e])
    rw [rd]; simp [this]
theorem rd_c {c : Nat} {l : List Nat} {ins : Bool} {r : List Tk} (h : c ≠ 39) (h2 : (ins || !letters.contains c) = true) : rd (c :: l) ins r = rd l ins (addC c r) := by
  rw [rd.eq_def]; simp only [h, if_false]; rw [if_pos h2]
theorem rd_f {c : Nat} {l : List Nat} {ins : Bool} {r : List Tk} (h : c ≠ 39) (h2 : (ins || !letters.contains c) = false) : rd (c :: l) ins r = rd l ins (addF c r) := by
  rw [rd.eq_def]; simp only [h, if_false]; rw [if_neg (by rw [h2]; decide)]
theorem quote_ne {c : Nat} (h : (S [c] == Str.ofString "'") = false) : c ≠ 39 := fun e => by rw [e, quote_S] at h; simp at h
theorem quote_eq {c : Nat} (h : (S [c] == Str.ofString "'") = true) : c = 39 := by rw [quote_S, S_beq] at h; simpa using h
theorem letter_in {c : Nat} : Txt.contains (Str.ofString "yMdEabhHkKzv") (S [c]) = letters.contains c := by rw [contains_one, letters_S]; simp
theorem slice_two {x : List Nat} {k : Nat} (hk : k + 1 ≤ x.length) : Txt.slice (S x) (some ((k : Int) + 1)) (some ((k : Int) + 1 + 1)) = S ((x.drop (k + 1)).take 1) :=
  (slice_one (S x) (k := k + 1) (by rw [S_len]; exact hk)).trans (by rw [S_list])
/-- the reader's turn -/
def RdInv (w : World) (os : OsState) (B Z : Fz) (L oa : Addr) (x : List Nat) (t : Tok) (n : Nat) (s : Shared) : Prop :=
  ∃ k ins r as m u, n = x.length - k ∧ k ≤ x.length ∧ rd (x.drop k) ins r = rd x false [] ∧ as.length = r.length ∧ r.length ≤ k ∧ (∀ t ∈ r, t.sz ≤ k) ∧
    m (Str.ofString "out") = some (.ref oa) ∧ m (Str.ofString "inside") = some (.bool ins) ∧ m (Str.ofString "at") = some (.int (k : Nat) u) ∧ m (Str.ofString "text") = some (.str (S x) t) ∧
    St w os B Z Z L m (OutLed oa as r) s
theorem RdInv.of {os : OsState} {B : Fz} {L : Addr} {k : Nat} {ins : Bool} {r : List Tk} {as : List Addr} {m : Str → Option Value} {u : Tok} (H : St w os B Z Z L m (OutLed oa as r) s)
    (h1 : m (Str.ofString "out") = some (.ref oa)) (h2 : m (Str.ofString "inside") = some (.bool ins)) (h3 : m (Str.ofString "at") = some (.int (k : Nat) u)) (h4 : m (Str.ofString "text") = some (.str (S x) t))
    (hk : k ≤ x.length) (hrd : rd (x.drop k) ins r = rd x false []) (hl : as.length = r.length) (hr : r.length ≤ k) (hsz : ∀ t ∈ r, t.sz ≤ k) : RdInv w os B Z L oa x t (x.length - k) s :=
  ⟨k, ins, r, as, m, u, rfl, hk, hrd, hl, hr, hsz, h1, h2, h3, h4, H⟩
set_option maxHeartbeats 8000000 in
theorem reads_spec (hA : Rm A 2) (H : Base w os Z s) (hx : x.length ≤ 1000)
    (hP : Post w os Z s (fun Z' v => RdZ Z' v (rd x false [])) Q) : wpAny (model prog w) A (call (.ref 92) [.str (S x) t]) Q E s := by
  refine enter (binds := [(Str.ofString "text", .str (S x) t)]) (by have := hA.dp; omega) H rfl (by rfl) (BindsTo.of_eq rfl) (by rfl) (fun s₁ L E' H₁ => ?_)
  refine wpAny_execs_cons ?_
  (repeat' (first | tb_rel | ((with_reducible refine iteB (fun h9 => ?_) (fun h9 => ?_)) <;> (try (exfalso; first | exact absurd h9 (by decide) | (exact Bool.noConfusion (h9.symm.trans (by assumption) : true = false)) | (exact Bool.noConfusion (h9.symm.trans (by assumption) : false = true)) | (simp at h9; done))))))
  refine joinF (fun s' => ∃ oa, RdInv w os (Below0 s) Z L oa x t 0 s') ?_ ?_
  · obtain ⟨oa, hoa⟩ : ∃ oa, RdInv w os (Below0 s) Z L oa x t (x.length - 0) _ := ⟨_, RdInv.of (as := []) (r := []) (k := 0) (by assumption) (by tb_start) (by tb_start) (by tb_start) (by tb_start) (Nat.zero_le _) rfl rfl (Nat.le_refl _) (fun _ h => nomatch h)⟩
    refine whileC (RdInv w os (Below0 s) Z L oa x t) _ hoa ?_
    rintro n s' E'' ⟨k, ins, r, as, m, u, rfl, hk, hrd, hlen, hrk, hsz, h1, h2, h3, h4, H'⟩
    have h5 : (S x).length ≤ sizeLine := by rw [S_len, sizeLine_eq]; omega
    refine wpAny_isTrue_Compare1 ?_
    (repeat tb_rel)
    refine iteB (fun h9 => ?_) (fun h9 => ?_)
    · have hlt : k < x.length := by simpa [S_len] using h9
      obtain ⟨c, hc⟩ : ∃ c, x[k]? = some c := ⟨x[k], by simp [hlt]⟩
      have hd : x.drop k = c :: x.drop (k + 1) := by rw [List.drop_eq_getElem_cons hlt]; simp [hlt] at hc; rw [hc]
      have hc' : (S x).cps.toList[((k : Nat) : Int).toNat]? = some c := by simpa using hc
      clear h9
      (repeat' (first | tb_rel | ((with_reducible refine iteB (fun h9 => ?_) (fun h9 => ?_)) <;> (try (exfalso; first | exact absurd h9 (by decide) | (exact Bool.noConfusion (h9.symm.trans (by assumption) : true = false)) | (exact Bool.noConfusion (h9.symm.trans (by assumption) : false = true)) | (simp at h9; done))))))
      · -- a doubled quote
        obtain rfl := quote_eq (by assumption)
        have e2 : (x.drop (k + 1)).take 1 = [39] := by
          rename (Txt.slice _ _ _ == _) = true => h7
          rw [slice_two (by omega), quote_S, S_beq] at h7
          simpa using h7
        obtain ⟨y, hy⟩ : ∃ y, x.drop (k + 1) = 39 :: y := by
          cases hq : x.drop (k + 1) with
          | nil => rw [hq] at e2; simp at e2
          | cons d y => rw [hq] at e2; simp at e2; exact ⟨y, by rw [e2]⟩
        have hy2 : x.drop (k + 2) = y := by
          have : x.drop (k + 2) = (x.drop (k + 1)).drop 1 := by rw [List.drop_drop]
          rw [this, hy]; rfl
        have hk2 : k + 2 ≤ x.length := by have := congrArg List.length hy; simp at this; omega
        refine add_spec0 hA.deeper (by assumption) hlen (by omega) (fun t ht => Nat.le_trans (hsz t ht) (by omega)) fun s' as' hl' H' => ?_
        (repeat tb_rel)
        refine ⟨_, ?_, RdInv.of (k := k + 2) H' (by tb_start) (by tb_start) (upd_self.trans rfl) (by tb_start) hk2 ?_ hl' (Nat.le_trans (addC_len _ _) (by omega)) (fun t ht => Nat.le_succ_of_le (addC_sz hsz t ht))⟩
        · omega
        · rw [hy2, ← hrd, hd, hy, rd_q2]
      · -- a quote
        obtain rfl := quote_eq (by assumption)
        have e2 : (x.drop (k + 1)).take 1 ≠ [39] := by
          intro e2
          rename (Txt.slice _ _ _ == _) = false => h7
          rw [slice_two (by omega), quote_S, S_beq] at h7
          simp [e2] at h7
        refine ⟨_, ?_, RdInv.of (k := k + 1) (by assumption) (by tb_start) (by tb_start) (upd_ne (by decide) (upd_self.trans rfl)) (by tb_start) (by omega) ?_ hlen (by omega) (fun t ht => Nat.le_succ_of_le (hsz t ht))⟩
        · omega
        · rw [← hrd, hd, rd_q1 e2]
      · -- within quotes
        have h39 := quote_ne (by assumption)
        rename ins = true => hins
        refine add_spec0 hA.deeper (by assumption) hlen (by omega) (fun t ht => Nat.le_trans (hsz t ht) (by omega)) fun s' as' hl' H' => ?_
        (repeat tb_rel)
        refine ⟨_, ?_, RdInv.of (k := k + 1) H' (by tb_start) (by tb_start) (upd_self.trans rfl) (by tb_start) (by omega) ?_ hl' (Nat.le_trans (addC_len _ _) (by omega)) (addC_sz hsz)⟩
        · omega
        · rw [← hrd, hd, rd_c h39 (by rw [hins]; rfl)]
      · -- no letter
        have h39 := quote_ne (by assumption)
        rename (!Txt.contains _ _) = true => h7
        refine add_spec0 hA.deeper (by assumption) hlen (by omega) (fun t ht => Nat.le_trans (hsz t ht) (by omega)) fun s' as' hl' H' => ?_
        (repeat tb_rel)
        refine ⟨_, ?_, RdInv.of (k := k + 1) H' (by tb_start) (by tb_start) (upd_self.trans rfl) (by tb_start) (by omega) ?_ hl' (Nat.le_trans (addC_len _ _) (by omega)) (addC_sz hsz)⟩
        · omega
        · rw [letter_in] at h7
          rw [← hrd, hd, rd_c h39 (by rw [h7]; cases ins <;> rfl)]
      · -- a letter
        have h39 := quote_ne (by assumption)
        rename (!Txt.contains _ _) = false => h7
        rename ins = false => hins
        rw [letter_in] at h7
        have hrd' : rd (x.drop (k + 1)) ins (addF c r) = rd x false [] := by rw [← hrd, hd, rd_f h39 (by rw [h7, hins]; rfl)]
        have hl9 := addF_len c r
        have hs9 := addF_sz (c := c) hsz
        have hal : as.length ≤ 1000 := by omega
        rename St _ _ _ _ _ _ _ _ _ => H'
        clear hrd hd hins h7 h39
        rcases r with _ | ⟨tk, r⟩
        · rcases as with _ | ⟨a1, as⟩
          · replace H' : St w os _ Z Z L _ [(oa, pL [])] _ := H'
            (repeat' (first | tb_rel | ((with_reducible refine iteB (fun h9 => ?_) (fun h9 => ?_)) <;> (try (exfalso; first | exact absurd h9 (by decide) | (exact Bool.noConfusion (h9.symm.trans (by assumption) : true = false)) | (exact Bool.noConfusion (h9.symm.trans (by assumption) : false = true)) | (simp at h9; done))))))
            rename St _ _ _ _ _ _ _ _ _ => H9
            refine ⟨_, ?_, RdInv.of (k := k + 1) (as := [_]) (r := [.fd c 1]) H9.swap.toFd (by tb_start) (by tb_start) (upd_self.trans rfl) (by tb_start) (by omega) hrd' rfl (by simp) hs9⟩
            omega
          · simp at hlen
        · rcases as with _ | ⟨a1, as⟩
          · simp at hlen
          rw [OutLed_cons] at H'
          have hlen' : as.length = r.length := by simpa using hlen
          have hal' : as.length ≤ 1000 := by simp at hal; omega
          cases tk with
          | ch x =>
            obtain ⟨t1, t2, H'⟩ := H'.exCh
            (repeat' (first | tb_rel | ((with_reducible refine iteB (fun h9 => ?_) (fun h9 => ?_)) <;> (try (exfalso; first | exact absurd h9 (by decide) | (exact Bool.noConfusion (h9.symm.trans (by assumption) : true = false)) | (exact Bool.noConfusion (h9.symm.trans (by assumption) : false = true)) | (simp at h9; done))))))
            rename St _ _ _ _ _ _ _ _ _ => H9
            have e : (((as.map Value.ref).reverse ++ [Value.ref a1])) = ((a1 :: as).map Value.ref).reverse := by simp
            have H9 := H9.swap.toFd.re (p' := pTk (.ch x)) (.there (.there .here)) fun o hp => ⟨t1, t2, hp⟩
            rw [e] at H9
            refine ⟨_, ?_, RdInv.of (k := k + 1) (as := _ :: a1 :: as) (r := .fd c 1 :: .ch x :: r) (by rw [OutLed_cons]; exact H9) (by tb_start) (by tb_start) (upd_self.trans rfl) (by tb_start) (by omega) hrd' (by simpa using hlen') (by simpa using hrk) hs9⟩
            omega
          | fd d n =>
            obtain ⟨t1, t2, t3, H'⟩ := H'.exFd
            (repeat' (first | tb_rel | ((with_reducible refine iteB (fun h9 => ?_) (fun h9 => ?_)) <;> (try (exfalso; first | exact absurd h9 (by decide) | (exact Bool.noConfusion (h9.symm.trans (by assumption) : true = false)) | (exact Bool.noConfusion (h9.symm.trans (by assumption) : false = true)) | (simp at h9; done))))))
            · rename (S [d] == S [c]) = true => h7
              rw [S_beq] at h7
              obtain rfl : d = c := by simpa using h7
              have hrd' : rd (x.drop (k + 1)) ins (.fd d (n + 1) :: r) = rd x false [] := by simpa [addF] using hrd'
              have hs9 : ∀ t ∈ Tk.fd d (n + 1) :: r, t.sz ≤ k + 1 := by simpa [addF] using hs9
              rename St _ _ _ _ _ _ _ _ _ => H9
              refine ⟨_, ?_, RdInv.of (k := k + 1) (as := a1 :: as) (r := .fd d (n + 1) :: r) (by rw [OutLed_cons]; exact St.toFd (n := n + 1) H9) (by tb_start) (by tb_start) (upd_self.trans rfl) (by tb_start) (by omega) hrd' hlen (by simp at hrk; simp; omega) hs9⟩
              omega
            · rename (S [d] == S [c]) = false => h7
              rw [S_beq] at h7
              have hdc : ¬ d = c := by intro e; rw [e] at h7; simp at h7
              have e9 : addF c (.fd d n :: r) = .fd c 1 :: .fd d n :: r := by simp [addF, hdc]
              rw [e9] at hrd' hs9
              rename St _ _ _ _ _ _ _ _ _ => H9
              have e : (((as.map Value.ref).reverse ++ [Value.ref a1])) = ((a1 :: as).map Value.ref).reverse := by simp
              have H9 := H9.swap.toFd.re (p' := pTk (.fd d n)) (.there (.there .here)) fun o hp => ⟨t1, t2, t3, hp⟩
              rw [e] at H9
              refine ⟨_, ?_, RdInv.of (k := k + 1) (as := _ :: a1 :: as) (r := .fd c 1 :: .fd d n :: r) (by rw [OutLed_cons]; exact H9) (by tb_start) (by tb_start) (upd_self.trans rfl) (by tb_start) (by omega) hrd' (by simpa using hlen') (by simpa using hrk) hs9⟩
              omega
    · refine wpAny_execs_nil ⟨rfl, oa, k, ins, r, as, _, u, ?_, hk, hrd, hlen, hrk, hsz, h1, h2, h3, h4, by assumption⟩
      simp [S_len] at h9; omega
  · rintro s' ⟨oa, k, ins, r, as, m, u, hk0, hk, hrd, hlen, hrk, hsz, h1, h2, h3, h4, H'⟩
    have e : x.drop k = [] := List.drop_eq_nil_of_le (by omega)
    rw [e] at hrd
    have e2 : rd x false [] = (r, ins) := by rw [← hrd]; rfl
    (repeat tb_rel)
    rename St _ _ _ _ _ _ _ _ _ => H9
    obtain ⟨Z1, hle1, ⟨o1, hz1, hp1⟩, H9⟩ := H9.freeze .here
    obtain ⟨Z2, hle2, hq, H9⟩ := St.freezeAll (lr := []) (OutLed oa as r) (by rw [List.append_nil]; exact H9)
    obtain ⟨o2, hz2, hp2⟩ := hq _ List.mem_cons_self
    refine H9.leave hP ⟨_, o1, _, rfl, hle2 _ _ hz1, by rw [e2]; exact hp1, oa, o2, _, rfl, hz2, hp2, ?_⟩
    rw [e2]
    exact (tkLed_all hlen fun q hq' => hq q (.tail _ hq')).reverse
end
def pTp (Z : Fz) : Tk → Obj → Prop
  | .ch x => fun o => ∃ t1 t2, pT [.str (Str.ofString "chars") t1, .str (S x) t2] o
  | .fd c n => fun o => ∃ t1 b, pT [.str (Str.ofString "field") t1, .ref b] o ∧ ∃ ob t2 t3, Z b ob ∧ pT [.str (S [c]) t2, .int n t3] ob
def TpZ (Z : Fz) (v : Value) (t : Tk) : Prop := ∃ a o, v = .ref a ∧ Z a o ∧ pTp Z t o
def TpsZ (Z : Fz) (v : Value) (ts : List Tk) : Prop := ∃ a o vs, v = .ref a ∧ Z a o ∧ pL vs o ∧ All2 (TpZ Z) vs ts
theorem TpZ.mono {Z Z' : Fz} {v t} (k : ∀ b o, Z b o → Z' b o) : TpZ Z v t → TpZ Z' v t := by
  rintro ⟨a, o, e, h, r⟩
  refine ⟨a, o, e, k _ _ h, ?_⟩
  cases t with
  | ch x => exact r
  | fd c n => obtain ⟨t1, b, r1, ob, t2, t3, r2, r3⟩ := r; exact ⟨t1, b, r1, ob, t2, t3, k _ _ r2, r3⟩
theorem TpsZ.mono {Z Z' : Fz} {v t} (k : ∀ b o, Z b o → Z' b o) : TpsZ Z v t → TpsZ Z' v t := fun ⟨a, o, vs, e, h, r, q⟩ => ⟨a, o, vs, e, k _ _ h, r, q.mono fun _ _ => .mono k⟩
theorem unq_flat : ∀ cb : List Nat, (cb.flatMap fun d => if d = 0 then [39] else [d]) = unq cb
  | [] => rfl
  | c :: r => by
    rw [List.flatMap_cons, unq_flat r]
    show _ = (if c = 0 then 39 else c) :: unq r
    split <;> rfl
def fcL : Option Nat → List Nat
  | none => []
  | some c => [c]
def QV (v : Value) (lq : Led) : Option (List Nat) → Prop
  | none => v = .none ∧ lq = []
  | some qb => ∃ qa qvs, v = .ref qa ∧ All2 StrV qvs (qb.map fun c => [c]) ∧ lq = [(qa, pL qvs)]
def TokI (na fa ca ra fC fF : Addr) (Z : Fz) (m : Str → Option Value) (l : Led) (st : TS) : Prop :=
  ∃ rvs cvs t1 t2 qv lq, All2 (TpZ Z) rvs st.res ∧ All2 StrV cvs (st.cb.map fun c => [c]) ∧ m (Str.ofString "append_chars") = some (.ref fC) ∧ m (Str.ofString "append_field") = some (.ref fF) ∧ m (Str.ofString "quotebuf") = some qv ∧ QV qv lq st.q ∧
    l = [(na, pL [.int (st.fn : Nat) t1]), (fa, pL [.str (S (fcL st.fc)) t2]), (ca, pL cvs), (ra, pL rvs)] ++ lq
theorem TokI.of {na fa ca ra fC fF : Addr} {Z : Fz} {m : Str → Option Value} {st : TS} {rvs cvs : List Value} {t1 t2 : Tok} {qv : Value} {lq : Led} (hr : All2 (TpZ Z) rvs st.res) (hc : All2 StrV cvs (st.cb.map fun c => [c])) (k1 : m (Str.ofString "append_chars") = some (.ref fC))
    (k2 : m (Str.ofString "append_field") = some (.ref fF)) (k3 : m (Str.ofString "quotebuf") = some qv) (hq : QV qv lq st.q) :
    TokI na fa ca ra fC fF Z m ([(na, pL [.int (st.fn : Nat) t1]), (fa, pL [.str (S (fcL st.fc)) t2]), (ca, pL cvs), (ra, pL rvs)] ++ lq) st := ⟨rvs, cvs, t1, t2, qv, lq, hr, hc, k1, k2, k3, hq, rfl⟩
theorem upE {Z Z' : Fz} {a : Addr} {p : Obj → Prop} (h : ∃ o, Z a o ∧ p o) (k : ∀ b o, Z b o → Z' b o) : ∃ o, Z' a o ∧ p o := let ⟨o, h, r⟩ := h; ⟨o, k _ _ h, r⟩
theorem upF {Z Z' : Fz} {f : Addr} (h : ∃ oc od fd sl, Z f ⟨oc, od, .func fd, sl⟩) (k : ∀ b o, Z b o → Z' b o) : ∃ oc od fd sl, Z' f ⟨oc, od, .func fd, sl⟩ := let ⟨a, b, c, d, h⟩ := h; ⟨a, b, c, d, k _ _ h⟩
section
variable {prog : Program} {w : World} {os : OsState} {Z : Fz} {s : Shared} {A : Around} {E : Value → Shared → Prop} {c : Nat} {t : Tok} {x : List Nat} {Q : Value → Shared → Prop}
set_option maxHeartbeats 1600000 in
theorem tok_spec (hA : Rm A 3) (H : Base w os Z s) (hx : x.length ≤ 1000)
    (hP : Post w os Z s (fun Z' v => TpsZ Z' v (tokz x)) Q) : wpAny (model prog w) A (call (.ref 53) [.str (S x) t]) Q E s := by
  refine enterC (binds := [(Str.ofString "pattern", .str (S x) t)]) (by have := hA.dp; omega) H rfl (by rfl) rfl (by rfl) (fun s₁ L E' H₁ => ?_)
  generalize hm : bindL _ _ _ = m at H₁
  have hm1 : m (Str.ofString "pattern") = some (.str (S x) t) := by subst hm; rfl
  clear hm
  replace H₁ : St w os (Below0 s) Z Z L m [(L + 1 + 1 + 1 + 1, pCell none), (L + 1 + 1 + 1, pCell none), (L + 1 + 1, pCell none), (L + 1, pCell none)] s₁ := H₁
  refine wpAny_execs_cons ?_
  (repeat tb_rel)
  rename_i ra _ _ _ ca _ _ t1 _ fa _ _ t0 _ na s2 H'
  obtain ⟨Z1, hle1, hz1, H'⟩ := H'.freeze (.there (.there (.there (.there .here))))
  obtain ⟨Z2, hle2, hz2, H'⟩ := H'.freeze (.there (.there (.there (.there .here))))
  obtain ⟨Z3, hle3, hz3, H'⟩ := H'.freeze (.there (.there (.there (.there .here))))
  obtain ⟨Z4, hle4, hz4, H'⟩ := H'.freeze (.there (.there (.there (.there .here))))
  replace hz1 : ∃ o, Z4 (L + 1 + 1 + 1 + 1) o ∧ pCell _ o := let ⟨o, h, r⟩ := hz1; ⟨o, hle4 _ _ (hle3 _ _ (hle2 _ _ h)), r⟩
  replace hz2 : ∃ o, Z4 (L + 1 + 1 + 1) o ∧ pCell _ o := let ⟨o, h, r⟩ := hz2; ⟨o, hle4 _ _ (hle3 _ _ h), r⟩
  replace hz3 : ∃ o, Z4 (L + 1 + 1) o ∧ pCell _ o := let ⟨o, h, r⟩ := hz3; ⟨o, hle4 _ _ h, r⟩
  refine nestDef_K rfl rfl rfl ?_
  refine' mkFn' (P := 48) (c := 52) H' ?hq List.mem_cons_self ?hC ?hcl rfl List.mem_cons_self ?hsp ?_
  case hq => kernel_rfl
  case hC => kernel_rfl
  case hcl => exact rfl
  case hsp => decide +kernel
  intro s2 Z5 fC cC docC pmC ctC hle5 hrC H'
  (repeat tb_rel)
  rename St _ _ _ _ _ _ _ _ _ => H'
  obtain ⟨Z6, hle6, ⟨oC, hzC, rfl⟩, H'⟩ := H'.freeze .here
  refine nestDef_K rfl rfl rfl ?_
  refine' mkFn' (P := 48) (c := 52) H' ?hq List.mem_cons_self ?hC ?hcl rfl (.tail _ List.mem_cons_self) ?hsp ?_
  case hq => kernel_rfl
  case hC => kernel_rfl
  case hcl => exact rfl
  case hsp => decide +kernel
  intro s3 Z7 fF cF docF pmF ctF hle7 hrF H'
  (repeat tb_rel)
  rename St _ _ _ _ _ _ _ _ _ => H'
  obtain ⟨Z8, hle8, ⟨oF, hzF, rfl⟩, H'⟩ := H'.freeze .here
  replace hzC := hle8 _ _ (hle7 _ _ hzC)
  replace hrC := hrC.mono fun b o e => hle8 _ _ (hle7 _ _ (hle6 _ _ e))
  replace hrF := hrF.mono hle8
  have h48 : ∀ b o, Z4 b o → Z8 b o := fun b o e => hle8 _ _ (hle7 _ _ (hle6 _ _ (hle5 _ _ e)))
  replace hz1 : ∃ o, Z8 (L + 1 + 1 + 1 + 1) o ∧ pCell _ o := let ⟨o, h, r⟩ := hz1; ⟨o, h48 _ _ h, r⟩
  replace hz2 : ∃ o, Z8 (L + 1 + 1 + 1) o ∧ pCell _ o := let ⟨o, h, r⟩ := hz2; ⟨o, h48 _ _ h, r⟩
  replace hz3 : ∃ o, Z8 (L + 1 + 1) o ∧ pCell _ o := let ⟨o, h, r⟩ := hz3; ⟨o, h48 _ _ h, r⟩
  replace hz4 : ∃ o, Z8 (L + 1) o ∧ pCell _ o := let ⟨o, h, r⟩ := hz4; ⟨o, h48 _ _ h, r⟩
  clear hle1 hle2 hle3 hle4 hle5 hle6 hle7 hle8 h48
  have specC : ∀ {Z9 : Fz} {m9 : Str → Option Value} {lr : Led} {rvs cvs : List Value} {v1 v2 : Value} {cb : List Nat} {s9 : Shared} {E9 : Value → Shared → Prop} {Q9 : Value → Shared → Prop} {env9 : Env}, (∀ b o, Z8 b o → Z9 b o) → All2 StrV cvs (cb.map fun c => [c]) → cb.length ≤ 100000 → rvs.length ≤ 100000 →
      St w os (Below0 s) Z Z9 L m9 ([(na, pL [v1]), (fa, pL [v2]), (ca, pL cvs), (ra, pL rvs)] ++ lr) s9 →
      (∀ s' Z' v, (∀ b o, Z9 b o → Z' b o) → TpZ Z' v (.ch (unq cb)) → St w os (Below0 s) Z Z' L m9 ([(na, pL [v1]), (fa, pL [v2]), (ca, pL []), (ra, pL (rvs ++ [v]))] ++ lr) s' → Q9 .none s') →
      wpAny (model prog w) (A.deeper env9) (call (.ref fC) []) Q9 E9 s9 := by
    clear H' hzF hrF
    intro Z9 m9 lr rvs cvs v1 v2 cb s9 E9 Q9 env9 hle hcv hcb hrv H9 hQ
    refine enterX (binds := []) (by have := hA.dp; show A.depth + 1 < _; omega) H9 (hle _ _ hzC) (hrC.mono hle) rfl rfl (fun s₁ L' E' H₁ => ?_)
    have f1 : ∃ o, Z9 (L + 1 + 1 + 1 + 1) o ∧ pCell (some (.ref ra)) o := let ⟨o, h, r⟩ := hz1; ⟨o, hle _ _ h, r⟩
    have f4 : ∃ o, Z9 (L + 1) o ∧ pCell (some (.ref ca)) o := let ⟨o, h, r⟩ := hz4; ⟨o, hle _ _ h, r⟩
    have hfl' : (cb.map fun c => [c]).flatten.length ≤ 100000 := by rw [map_single]; exact hcb
    have hfl : (cb.map fun c => [c]).flatten.length ≤ sizeLine := by rw [sizeLine_eq]; omega
    have hcl9 : cvs.length ≤ 100000 := by have := hcv.len; simp at this; omega
    refine wpAny_execs_cons ?_
    (repeat tb_rel)
    refine delS (by assumption) ?_
    (repeat tb_rel)
    rename St _ _ _ _ _ _ _ _ _ => H3
    refine ⟨ca, cvs, _, _, _, _, rfl, H3, by tb_start, by rw [sizeLine_eq]; omega, fun s' H4 => ?_⟩
    (repeat tb_rel)
    rename St _ _ _ _ _ _ _ _ _ => H5
    obtain ⟨Z', hle', ⟨o, hz, hp⟩, H6⟩ := H5.freeze .here
    have e : Txt.replace (S (cb.map fun c => [c]).flatten) (Str.ofString "\x00") (Str.ofString "'") = S (unq cb) := by
      rw [map_single, show Str.ofString "\x00" = S [0] from by decide +kernel, quote_S, replace_S _ _ _ (by decide), rp_one]
      exact congrArg S (unq_flat cb)
    rw [e] at hp
    exact hQ _ Z' _ hle' ⟨_, o, rfl, hz, _, _, hp⟩ (H9.leaveW (ls' := [(na, pL [v1]), (fa, pL [v2]), (ca, pL []), (ra, pL (rvs ++ [_]))]) H6)
  have specF : ∀ {Z9 : Fz} {m9 : Str → Option Value} {lr : Led} {rvs cvs : List Value} {c n : Nat} {t1 t2 : Tok} {s9 : Shared} {E9 : Value → Shared → Prop} {Q9 : Value → Shared → Prop} {env9 : Env}, (∀ b o, Z8 b o → Z9 b o) → rvs.length ≤ 100000 →
      St w os (Below0 s) Z Z9 L m9 ([(na, pL [.int n t1]), (fa, pL [.str (S [c]) t2]), (ca, pL cvs), (ra, pL rvs)] ++ lr) s9 →
      (∀ s' Z' v t1 t2, (∀ b o, Z9 b o → Z' b o) → TpZ Z' v (.fd c n) → St w os (Below0 s) Z Z' L m9 ([(na, pL [.int (0 : Nat) t1]), (fa, pL [.str (S []) t2]), (ca, pL cvs), (ra, pL (rvs ++ [v]))] ++ lr) s' → Q9 .none s') →
      wpAny (model prog w) (A.deeper env9) (call (.ref fF) []) Q9 E9 s9 := by
    clear H' hzC hrC specC
    intro Z9 m9 lr rvs cvs c n t1 t2 s9 E9 Q9 env9 hle hrv H9 hQ
    refine enterX (binds := []) (by have := hA.dp; show A.depth + 1 < _; omega) H9 (hle _ _ hzF) (hrF.mono hle) rfl rfl (fun s₁ L' E' H₁ => ?_)
    have f1 : ∃ o, Z9 (L + 1 + 1 + 1 + 1) o ∧ pCell (some (.ref ra)) o := let ⟨o, h, r⟩ := hz1; ⟨o, hle _ _ h, r⟩
    have f2 : ∃ o, Z9 (L + 1 + 1 + 1) o ∧ pCell (some (.ref na)) o := let ⟨o, h, r⟩ := hz2; ⟨o, hle _ _ h, r⟩
    have f3 : ∃ o, Z9 (L + 1 + 1) o ∧ pCell (some (.ref fa)) o := let ⟨o, h, r⟩ := hz3; ⟨o, hle _ _ h, r⟩
    refine wpAny_execs_cons ?_
    (repeat tb_rel)
    rename St _ _ _ _ _ _ _ _ _ => H5
    obtain ⟨Z', hle', ⟨o, hz, hp⟩, H6⟩ := H5.freeze .here
    obtain ⟨Z2, hle2, ⟨o2, hz2, hp2⟩, H7⟩ := H6.freeze .here
    exact hQ _ Z2 _ _ _ (fun b o e => hle2 _ _ (hle' _ _ e)) ⟨_, o, rfl, hle2 _ _ hz, _, _, hp, o2, _, _, hz2, hp2⟩ (H9.leaveW (ls' := [(na, pL [.int (0 : Nat) _]), (fa, pL [.str (S []) _]), (ca, pL cvs), (ra, pL (rvs ++ [_]))]) H7)
  have hfC : ∃ oc od fd sl, Z8 fC ⟨oc, od, .func fd, sl⟩ := ⟨_, _, _, _, hzC⟩
  have hfF : ∃ oc od fd sl, Z8 fF ⟨oc, od, .func fd, sl⟩ := ⟨_, _, _, _, hzF⟩
  clear hzC hzF hrC hrF
  have hh := hA.hd
  have hS : (S x).length ≤ 1048576 := by rw [S_len]; omega
  have hY : (rep2 x).length ≤ 1000 := Nat.le_trans (rep2_len x) hx
  refine joinF (fun s' => ∃ Z' m' l', (∀ b o, Z8 b o → Z' b o) ∧ TokI na fa ca ra fC fF Z' m' l' ((rep2 x).foldl tstep ⟨[], none, [], none, 0⟩) ∧ St w os (Below0 s) Z Z' L m' l' s') ?_ ?_
  · refine forC H' hA.hd ?_
    (repeat tb_rel)
    rename St _ _ _ _ _ _ _ _ _ => H2
    have e0 : Txt.replace (S x) (Str.ofString "''") (Str.ofString "\x00") = S (rep2 x) := by
      rw [show Str.ofString "''" = S [39, 39] from by decide +kernel, show Str.ofString "\x00" = S [0] from by decide +kernel, replace_S _ _ _ (by decide), rp_quotes]
    rw [e0]
    refine loop_then H2 .str (fun i Z' m' l' => (∀ b o, Z8 b o → Z' b o) ∧ TokI na fa ca ra fC fF Z' m' l' (((rep2 x).take i).foldl tstep ⟨[], none, [], none, 0⟩)) ⟨fun _ _ e => e, ?_⟩ ?_ ?_
    · refine ⟨[], [], t0, t1, .none, [], .nil, .nil, by tb_start, by tb_start, by tb_start, ⟨rfl, rfl⟩, ?_⟩
      rw [show Str.ofString "" = S [] from by decide]; rfl
    · clear H' H2
      rintro i v Z' m' l' I p s' E' hi ⟨c, u, hc, rfl⟩ hle ⟨h8, rvs, cvs, t1, t2, qv, lq, hrv, hcv, k1, k2, k3, hqv, rfl⟩ H'
      have hc' : (rep2 x)[i]? = some c := by simpa using hc
      have ht' : ((rep2 x).take (i + 1)).foldl tstep ⟨[], none, [], none, 0⟩ = tstep (((rep2 x).take i).foldl tstep ⟨[], none, [], none, 0⟩) c := by
        rw [List.take_add_one, hc']; simp [List.foldl_append]
      have hsz : TSz (0 + ((rep2 x).take i).length) (((rep2 x).take i).foldl tstep ⟨[], none, [], none, 0⟩) := TSz.fold ⟨Nat.le_refl _, Nat.le_refl _⟩
      rw [ht']
      have hi9 : ((rep2 x).take i).length ≤ 1000 := by simp; omega
      generalize ((rep2 x).take i).foldl tstep ⟨[], none, [], none, 0⟩ = st at *
      obtain ⟨res, q, cb, fc, fn⟩ := st
      dsimp only at *
      have hrl := hrv.len
      have hcl := hcv.len
      rw [List.length_map] at hcl
      obtain ⟨hz9, hz8⟩ := hsz
      dsimp only at hz9 hz8
      have H' := H'.perm (List.perm_middle (l₁ := [(na, pL [.int (fn : Nat) t1]), (fa, pL [.str (S (fcL fc)) t2]), (ca, pL cvs), (ra, pL rvs)]) (a := (I, p)) (l₂ := lq)).symm
      simp only [List.cons_append, List.nil_append] at H'
      have f1 := upE hz1 h8; have f2 := upE hz2 h8; have f3 := upE hz3 h8; have f4 := upE hz4 h8; have g1 := upF hfC h8; have g2 := upF hfF h8
      cases q with
      | none =>
        obtain ⟨rfl, rfl⟩ := hqv
        have hce : cvs.isEmpty = cb.isEmpty := by cases cvs <;> cases cb <;> simp_all
        cases fc with
        | none =>
          simp only [fcL] at H'
          (repeat' (first | tb_rel | ((with_reducible refine iteB (fun h9 => ?_) (fun h9 => ?_)) <;> (try (exfalso; first | exact absurd h9 (by decide) | (exact Bool.noConfusion (h9.symm.trans (by assumption) : true = false)) | (exact Bool.noConfusion (h9.symm.trans (by assumption) : false = true)) | (simp at h9; done) | (simp [fcL, Str.length] at h9; done))))))
          · rename ({ cps := #[c] } == Str.ofString "'") = true => h39; have h39 := quote_eq h39; rename (!cvs.isEmpty) = true => hcb; rw [hce] at hcb; have hcb : cb ≠ [] := (by intro e; simp [e] at hcb)
            refine specC (rvs := rvs) (lr := [(I, p)]) h8 hcv (by omega) (by omega) (by assumption) ?_
            intro s5 Z5 v5 hle5 hv5 H5
            simp only [List.cons_append, List.nil_append] at H5
            have h85 : ∀ b o, Z8 b o → Z5 b o := fun b o e => hle5 b o (h8 b o e)
            have f1 := upE f1 hle5; have f2 := upE f2 hle5; have f3 := upE f3 hle5; have f4 := upE f4 hle5; have g1 := upF g1 hle5; have g2 := upF g2 hle5
            (repeat' (first | tb_rel | ((with_reducible refine iteB (fun h9 => ?_) (fun h9 => ?_)) <;> (try (exfalso; first | exact absurd h9 (by decide) | (exact Bool.noConfusion (h9.symm.trans (by assumption) : true = false)) | (exact Bool.noConfusion (h9.symm.trans (by assumption) : false = true)) | (simp at h9; done) | (simp [fcL, Str.length] at h9; done))))))
            have hst : tstep ⟨res, none, cb, none, fn⟩ c = ⟨res ++ [.ch (unq cb)], some [], [], none, fn⟩ := by simp [tstep, flFC, flF, flC, h39, hcb]
            rename St _ _ _ _ _ _ _ _ _ => H9
            have H9 : St w os (Below0 s) Z Z5 L _ ((_, pL []) :: ([(na, pL [.int ((fn : Nat) : Int) _]), (fa, pL [.str (S (fcL none)) _]), (ca, pL []), (ra, pL (rvs ++ [v5]))] ++ [(I, p)])) _ := H9
            have H9 := H9.perm (perm_ends _ _ _)
            refine ⟨_, _, _, H9, hle5, h85, ?_⟩
            rw [hst]
            refine TokI.of (st := ⟨res ++ [.ch (unq cb)], some [], [], none, fn⟩) ((hrv.mono fun _ _ => .mono hle5).append (.cons hv5 .nil)) .nil ?_ ?_ ?_ ⟨_, [], rfl, .nil, rfl⟩ <;> tb_start
          · rename ({ cps := #[c] } == Str.ofString "'") = true => h39; have h39 := quote_eq h39; rename (!cvs.isEmpty) = false => hcb; rw [hce] at hcb; have hcb : cb = [] := (by simpa using hcb)
            have hst : tstep ⟨res, none, cb, none, fn⟩ c = ⟨res, some [], cb, none, fn⟩ := by simp [tstep, flFC, flF, flC, h39, hcb]
            rename St _ _ _ _ _ _ _ _ _ => H9
            have H9 : St w os (Below0 s) Z Z' L _ ((_, pL []) :: ([(na, pL [.int ((fn : Nat) : Int) _]), (fa, pL [.str (S (fcL none)) _]), (ca, pL cvs), (ra, pL rvs)] ++ [(I, p)])) _ := H9
            have H9 := H9.perm (perm_ends _ _ _)
            refine ⟨_, _, _, H9, fun _ _ e => e, h8, ?_⟩
            rw [hst]
            refine TokI.of (st := ⟨res, some [], cb, none, fn⟩) hrv hcv ?_ ?_ ?_ ⟨_, [], rfl, .nil, rfl⟩ <;> tb_start
          · rename ({ cps := #[c] } == Str.ofString "'") = false => h39; have h39 := quote_ne h39; rename pats.contains c = true => hpat; have hpat : c ∈ pats := (by simpa using hpat); rename (!cvs.isEmpty) = true => hcb; rw [hce] at hcb; have hcb : cb ≠ [] := (by intro e; simp [e] at hcb)
            refine specC (rvs := rvs) (lr := [(I, p)]) h8 hcv (by omega) (by omega) (by assumption) ?_
            intro s5 Z5 v5 hle5 hv5 H5
            simp only [List.cons_append, List.nil_append] at H5
            have h85 : ∀ b o, Z8 b o → Z5 b o := fun b o e => hle5 b o (h8 b o e)
            have f1 := upE f1 hle5; have f2 := upE f2 hle5; have f3 := upE f3 hle5; have f4 := upE f4 hle5; have g1 := upF g1 hle5; have g2 := upF g2 hle5
            (repeat' (first | tb_rel | ((with_reducible refine iteB (fun h9 => ?_) (fun h9 => ?_)) <;> (try (exfalso; first | exact absurd h9 (by decide) | (exact Bool.noConfusion (h9.symm.trans (by assumption) : true = false)) | (exact Bool.noConfusion (h9.symm.trans (by assumption) : false = true)) | (simp at h9; done) | (simp [fcL, Str.length] at h9; done))))))
            have hst : tstep ⟨res, none, cb, none, fn⟩ c = ⟨res ++ [.ch (unq cb)], none, [], (some c), 1⟩ := by simp [tstep, flFC, flF, flC, h39, hcb, hpat]
            rename St _ _ _ _ _ _ _ _ _ => H9
            have H9 : St w os (Below0 s) Z Z5 L _ ([(na, pL [.int ((1 : Nat) : Int) _]), (fa, pL [.str (S (fcL (some c))) _]), (ca, pL []), (ra, pL (rvs ++ [v5]))] ++ (I, p) :: []) _ := H9
            have H9 := H9.perm List.perm_middle
            refine ⟨_, _, _, H9, hle5, h85, ?_⟩
            rw [hst]
            refine TokI.of (st := ⟨res ++ [.ch (unq cb)], none, [], (some c), 1⟩) ((hrv.mono fun _ _ => .mono hle5).append (.cons hv5 .nil)) .nil ?_ ?_ ?_ ⟨rfl, rfl⟩ <;> tb_start
          · rename ({ cps := #[c] } == Str.ofString "'") = false => h39; have h39 := quote_ne h39; rename pats.contains c = true => hpat; have hpat : c ∈ pats := (by simpa using hpat); rename (!cvs.isEmpty) = false => hcb; rw [hce] at hcb; have hcb : cb = [] := (by simpa using hcb)
            have hst : tstep ⟨res, none, cb, none, fn⟩ c = ⟨res, none, cb, (some c), 1⟩ := by simp [tstep, flFC, flF, flC, h39, hcb, hpat]
            rename St _ _ _ _ _ _ _ _ _ => H9
            have H9 : St w os (Below0 s) Z Z' L _ ([(na, pL [.int ((1 : Nat) : Int) _]), (fa, pL [.str (S (fcL (some c))) _]), (ca, pL cvs), (ra, pL rvs)] ++ (I, p) :: []) _ := H9
            have H9 := H9.perm List.perm_middle
            refine ⟨_, _, _, H9, fun _ _ e => e, h8, ?_⟩
            rw [hst]
            refine TokI.of (st := ⟨res, none, cb, (some c), 1⟩) hrv hcv ?_ ?_ ?_ ⟨rfl, rfl⟩ <;> tb_start
          · rename ({ cps := #[c] } == Str.ofString "'") = false => h39; have h39 := quote_ne h39; rename pats.contains c = false => hpat; have hpat : ¬ c ∈ pats := (by simpa using hpat)
            have hst : tstep ⟨res, none, cb, none, fn⟩ c = ⟨res, none, cb ++ [c], none, fn⟩ := by simp [tstep, flFC, flF, flC, h39, hpat]
            rename St _ _ _ _ _ _ _ _ _ => H9
            have H9 : St w os (Below0 s) Z Z' L _ ([(na, pL [.int ((fn : Nat) : Int) _]), (fa, pL [.str (S (fcL none)) _]), (ca, pL (cvs ++ [_])), (ra, pL rvs)] ++ (I, p) :: []) _ := H9
            have H9 := H9.perm List.perm_middle
            refine ⟨_, _, _, H9, fun _ _ e => e, h8, ?_⟩
            rw [hst]
            refine TokI.of (st := ⟨res, none, cb ++ [c], none, fn⟩) hrv (by rw [List.map_append]; exact hcv.append (.cons ⟨u, rfl⟩ .nil)) ?_ ?_ ?_ ⟨rfl, rfl⟩ <;> tb_start
        | some d =>
          simp only [fcL] at H'
          (repeat' (first | tb_rel | ((with_reducible refine iteB (fun h9 => ?_) (fun h9 => ?_)) <;> (try (exfalso; first | exact absurd h9 (by decide) | (exact Bool.noConfusion (h9.symm.trans (by assumption) : true = false)) | (exact Bool.noConfusion (h9.symm.trans (by assumption) : false = true)) | (simp at h9; done) | (simp [fcL, Str.length] at h9; done))))))
          · rename ({ cps := #[c] } == Str.ofString "'") = true => h39; have h39 := quote_eq h39
            refine specF (rvs := rvs) (lr := [(I, p)]) h8 (by first | omega | (simp; omega)) (by assumption) ?_
            intro s5 Z5 v5 t5 u5 hle5 hv5 H5
            simp only [List.cons_append, List.nil_append] at H5
            have h85 : ∀ b o, Z8 b o → Z5 b o := fun b o e => hle5 b o (h8 b o e)
            have f1 := upE f1 hle5; have f2 := upE f2 hle5; have f3 := upE f3 hle5; have f4 := upE f4 hle5; have g1 := upF g1 hle5; have g2 := upF g2 hle5
            (repeat' (first | tb_rel | ((with_reducible refine iteB (fun h9 => ?_) (fun h9 => ?_)) <;> (try (exfalso; first | exact absurd h9 (by decide) | (exact Bool.noConfusion (h9.symm.trans (by assumption) : true = false)) | (exact Bool.noConfusion (h9.symm.trans (by assumption) : false = true)) | (simp at h9; done) | (simp [fcL, Str.length] at h9; done))))))
            have hst : tstep ⟨res, none, cb, some d, fn⟩ c = ⟨res ++ [.fd d fn], some [], cb, none, 0⟩ := by simp [tstep, flFC, flF, flC, h39]
            rename St _ _ _ _ _ _ _ _ _ => H9
            have H9 : St w os (Below0 s) Z Z5 L _ ((_, pL []) :: ([(na, pL [.int ((0 : Nat) : Int) _]), (fa, pL [.str (S (fcL none)) _]), (ca, pL cvs), (ra, pL (rvs ++ [v5]))] ++ [(I, p)])) _ := H9
            have H9 := H9.perm (perm_ends _ _ _)
            refine ⟨_, _, _, H9, hle5, h85, ?_⟩
            rw [hst]
            refine TokI.of (st := ⟨res ++ [.fd d fn], some [], cb, none, 0⟩) ((hrv.mono fun _ _ => .mono hle5).append (.cons hv5 .nil)) hcv ?_ ?_ ?_ ⟨_, [], rfl, .nil, rfl⟩ <;> tb_start
          · rename ({ cps := #[c] } == Str.ofString "'") = false => h39; have h39 := quote_ne h39; rename pats.contains c = true => hpat; have hpat : c ∈ pats := (by simpa using hpat); rename (!cvs.isEmpty) = true => hcb; rw [hce] at hcb; have hcb : cb ≠ [] := (by intro e; simp [e] at hcb)
            refine specC (rvs := rvs) (lr := [(I, p)]) h8 hcv (by omega) (by omega) (by assumption) ?_
            intro s5 Z5 v5 hle5 hv5 H5
            simp only [List.cons_append, List.nil_append] at H5
            have h85 : ∀ b o, Z8 b o → Z5 b o := fun b o e => hle5 b o (h8 b o e)
            have f1 := upE f1 hle5; have f2 := upE f2 hle5; have f3 := upE f3 hle5; have f4 := upE f4 hle5; have g1 := upF g1 hle5; have g2 := upF g2 hle5
            (repeat' (first | tb_rel | ((with_reducible refine iteB (fun h9 => ?_) (fun h9 => ?_)) <;> (try (exfalso; first | exact absurd h9 (by decide) | (exact Bool.noConfusion (h9.symm.trans (by assumption) : true = false)) | (exact Bool.noConfusion (h9.symm.trans (by assumption) : false = true)) | (simp at h9; done) | (simp [fcL, Str.length] at h9; done))))))
            · rename ({ cps := #[c] } == S [d]) = true => hdc; have hdc : c = d := (by rw [show ({ cps := #[c] } : Str) = S [c] from rfl, S_beq] at hdc; simpa [fcL] using hdc)
              subst hdc
              have hst : tstep ⟨res, none, cb, some c, fn⟩ c = ⟨res ++ [.ch (unq cb)], none, [], (some c), fn + 1⟩ := by simp [tstep, flFC, flF, flC, h39, hcb, hpat]
              rename St _ _ _ _ _ _ _ _ _ => H9
              have H9 : St w os (Below0 s) Z Z5 L _ ([(na, pL [.int ((fn + 1 : Nat) : Int) _]), (fa, pL [.str (S (fcL (some c))) _]), (ca, pL []), (ra, pL (rvs ++ [v5]))] ++ (I, p) :: []) _ := H9
              have H9 := H9.perm List.perm_middle
              refine ⟨_, _, _, H9, hle5, h85, ?_⟩
              rw [hst]
              refine TokI.of (st := ⟨res ++ [.ch (unq cb)], none, [], (some c), fn + 1⟩) ((hrv.mono fun _ _ => .mono hle5).append (.cons hv5 .nil)) .nil ?_ ?_ ?_ ⟨rfl, rfl⟩ <;> tb_start
            · rename ({ cps := #[c] } == S [d]) = false => hdc; have hdc : ¬ d = c := (by rw [show ({ cps := #[c] } : Str) = S [c] from rfl, S_beq] at hdc; intro e; simp [fcL, e] at hdc)
              refine specF (rvs := (rvs ++ [v5])) (lr := [(I, p)]) h85 (by first | omega | (simp; omega)) (by assumption) ?_
              intro s6 Z6 v6 t6 u6 hle6 hv6 H6
              simp only [List.cons_append, List.nil_append] at H6
              have h86 : ∀ b o, Z8 b o → Z6 b o := fun b o e => hle6 b o (h85 b o e)
              have f1 := upE f1 hle6; have f2 := upE f2 hle6; have f3 := upE f3 hle6; have f4 := upE f4 hle6; have g1 := upF g1 hle6; have g2 := upF g2 hle6
              (repeat' (first | tb_rel | ((with_reducible refine iteB (fun h9 => ?_) (fun h9 => ?_)) <;> (try (exfalso; first | exact absurd h9 (by decide) | (exact Bool.noConfusion (h9.symm.trans (by assumption) : true = false)) | (exact Bool.noConfusion (h9.symm.trans (by assumption) : false = true)) | (simp at h9; done) | (simp [fcL, Str.length] at h9; done))))))
              have hst : tstep ⟨res, none, cb, some d, fn⟩ c = ⟨res ++ [.ch (unq cb)] ++ [.fd d fn], none, [], (some c), 1⟩ := by simp [tstep, flFC, flF, flC, h39, hcb, hpat, hdc]
              rename St _ _ _ _ _ _ _ _ _ => H9
              have H9 : St w os (Below0 s) Z Z6 L _ ([(na, pL [.int ((1 : Nat) : Int) _]), (fa, pL [.str (S (fcL (some c))) _]), (ca, pL []), (ra, pL (rvs ++ [v5] ++ [v6]))] ++ (I, p) :: []) _ := H9
              have H9 := H9.perm List.perm_middle
              refine ⟨_, _, _, H9, fun b o e => hle6 b o (hle5 b o e), h86, ?_⟩
              rw [hst]
              refine TokI.of (st := ⟨res ++ [.ch (unq cb)] ++ [.fd d fn], none, [], (some c), 1⟩) ((((hrv.mono fun _ _ => .mono hle5).append (.cons hv5 .nil)).mono fun _ _ => .mono hle6).append (.cons hv6 .nil)) .nil ?_ ?_ ?_ ⟨rfl, rfl⟩ <;> tb_start
          · rename ({ cps := #[c] } == Str.ofString "'") = false => h39; have h39 := quote_ne h39; rename pats.contains c = true => hpat; have hpat : c ∈ pats := (by simpa using hpat); rename (!cvs.isEmpty) = false => hcb; rw [hce] at hcb; have hcb : cb = [] := (by simpa using hcb)
            rename ({ cps := #[c] } == S [d]) = true => hdc; have hdc : c = d := (by rw [show ({ cps := #[c] } : Str) = S [c] from rfl, S_beq] at hdc; simpa [fcL] using hdc)
            subst hdc
            have hst : tstep ⟨res, none, cb, some c, fn⟩ c = ⟨res, none, cb, (some c), fn + 1⟩ := by simp [tstep, flFC, flF, flC, h39, hcb, hpat]
            rename St _ _ _ _ _ _ _ _ _ => H9
            have H9 : St w os (Below0 s) Z Z' L _ ([(na, pL [.int ((fn + 1 : Nat) : Int) _]), (fa, pL [.str (S (fcL (some c))) _]), (ca, pL cvs), (ra, pL rvs)] ++ (I, p) :: []) _ := H9
            have H9 := H9.perm List.perm_middle
            refine ⟨_, _, _, H9, fun _ _ e => e, h8, ?_⟩
            rw [hst]
            refine TokI.of (st := ⟨res, none, cb, (some c), fn + 1⟩) hrv hcv ?_ ?_ ?_ ⟨rfl, rfl⟩ <;> tb_start
          · rename ({ cps := #[c] } == Str.ofString "'") = false => h39; have h39 := quote_ne h39; rename pats.contains c = true => hpat; have hpat : c ∈ pats := (by simpa using hpat); rename (!cvs.isEmpty) = false => hcb; rw [hce] at hcb; have hcb : cb = [] := (by simpa using hcb)
            rename ({ cps := #[c] } == S [d]) = false => hdc; have hdc : ¬ d = c := (by rw [show ({ cps := #[c] } : Str) = S [c] from rfl, S_beq] at hdc; intro e; simp [fcL, e] at hdc)
            refine specF (rvs := rvs) (lr := [(I, p)]) h8 (by first | omega | (simp; omega)) (by assumption) ?_
            intro s5 Z5 v5 t5 u5 hle5 hv5 H5
            simp only [List.cons_append, List.nil_append] at H5
            have h85 : ∀ b o, Z8 b o → Z5 b o := fun b o e => hle5 b o (h8 b o e)
            have f1 := upE f1 hle5; have f2 := upE f2 hle5; have f3 := upE f3 hle5; have f4 := upE f4 hle5; have g1 := upF g1 hle5; have g2 := upF g2 hle5
            (repeat' (first | tb_rel | ((with_reducible refine iteB (fun h9 => ?_) (fun h9 => ?_)) <;> (try (exfalso; first | exact absurd h9 (by decide) | (exact Bool.noConfusion (h9.symm.trans (by assumption) : true = false)) | (exact Bool.noConfusion (h9.symm.trans (by assumption) : false = true)) | (simp at h9; done) | (simp [fcL, Str.length] at h9; done))))))
            have hst : tstep ⟨res, none, cb, some d, fn⟩ c = ⟨res ++ [.fd d fn], none, cb, (some c), 1⟩ := by simp [tstep, flFC, flF, flC, h39, hcb, hpat, hdc]
            rename St _ _ _ _ _ _ _ _ _ => H9
            have H9 : St w os (Below0 s) Z Z5 L _ ([(na, pL [.int ((1 : Nat) : Int) _]), (fa, pL [.str (S (fcL (some c))) _]), (ca, pL cvs), (ra, pL (rvs ++ [v5]))] ++ (I, p) :: []) _ := H9
            have H9 := H9.perm List.perm_middle
            refine ⟨_, _, _, H9, hle5, h85, ?_⟩
            rw [hst]
            refine TokI.of (st := ⟨res ++ [.fd d fn], none, cb, (some c), 1⟩) ((hrv.mono fun _ _ => .mono hle5).append (.cons hv5 .nil)) hcv ?_ ?_ ?_ ⟨rfl, rfl⟩ <;> tb_start
          · rename ({ cps := #[c] } == Str.ofString "'") = false => h39; have h39 := quote_ne h39; rename pats.contains c = false => hpat; have hpat : ¬ c ∈ pats := (by simpa using hpat)
            refine specF (rvs := rvs) (lr := [(I, p)]) h8 (by first | omega | (simp; omega)) (by assumption) ?_
            intro s5 Z5 v5 t5 u5 hle5 hv5 H5
            simp only [List.cons_append, List.nil_append] at H5
            have h85 : ∀ b o, Z8 b o → Z5 b o := fun b o e => hle5 b o (h8 b o e)
            have f1 := upE f1 hle5; have f2 := upE f2 hle5; have f3 := upE f3 hle5; have f4 := upE f4 hle5; have g1 := upF g1 hle5; have g2 := upF g2 hle5
            (repeat' (first | tb_rel | ((with_reducible refine iteB (fun h9 => ?_) (fun h9 => ?_)) <;> (try (exfalso; first | exact absurd h9 (by decide) | (exact Bool.noConfusion (h9.symm.trans (by assumption) : true = false)) | (exact Bool.noConfusion (h9.symm.trans (by assumption) : false = true)) | (simp at h9; done) | (simp [fcL, Str.length] at h9; done))))))
            have hst : tstep ⟨res, none, cb, some d, fn⟩ c = ⟨res ++ [.fd d fn], none, cb ++ [c], none, 0⟩ := by simp [tstep, flFC, flF, flC, h39, hpat]
            rename St _ _ _ _ _ _ _ _ _ => H9
            have H9 : St w os (Below0 s) Z Z5 L _ ([(na, pL [.int ((0 : Nat) : Int) _]), (fa, pL [.str (S (fcL none)) _]), (ca, pL (cvs ++ [_])), (ra, pL (rvs ++ [v5]))] ++ (I, p) :: []) _ := H9
            have H9 := H9.perm List.perm_middle
            refine ⟨_, _, _, H9, hle5, h85, ?_⟩
            rw [hst]
            refine TokI.of (st := ⟨res ++ [.fd d fn], none, cb ++ [c], none, 0⟩) ((hrv.mono fun _ _ => .mono hle5).append (.cons hv5 .nil)) (by rw [List.map_append]; exact hcv.append (.cons ⟨u, rfl⟩ .nil)) ?_ ?_ ?_ ⟨rfl, rfl⟩ <;> tb_start
      | some qb =>
        obtain ⟨qa, qvs, rfl, hqs, rfl⟩ := hqv
        simp only [Option.getD_some] at hz8
        have hql := hqs.len
        rw [List.length_map] at hql
        (repeat' (first | tb_rel | ((with_reducible refine iteB (fun h9 => ?_) (fun h9 => ?_)) <;> (try (exfalso; first | exact absurd h9 (by decide) | (exact Bool.noConfusion (h9.symm.trans (by assumption) : true = false)) | (exact Bool.noConfusion (h9.symm.trans (by assumption) : false = true)) | (simp at h9; done) | (simp [fcL, Str.length] at h9; done))))))
        · rename ({ cps := #[c] } == Str.ofString "'") = true => h39; have h39 := quote_eq h39
          rename St _ _ _ _ _ _ _ _ _ => H9
          replace H9 := H9.drop (.there (.there (.there (.there (.there .here)))))
          have hst : tstep ⟨res, some qb, cb, fc, fn⟩ c = ⟨res, none, cb ++ qb, fc, fn⟩ := by simp [tstep, flFC, flF, flC, h39]
          rename St _ _ _ _ _ _ _ _ _ => H9
          have H9 : St w os (Below0 s) Z Z' L _ ([(na, pL [.int ((fn : Nat) : Int) _]), (fa, pL [.str (S (fcL fc)) _]), (ca, pL (cvs ++ qvs)), (ra, pL rvs)] ++ (I, p) :: []) _ := H9
          have H9 := H9.perm List.perm_middle
          refine ⟨_, _, _, H9, fun _ _ e => e, h8, ?_⟩
          rw [hst]
          refine TokI.of (st := ⟨res, none, cb ++ qb, fc, fn⟩) hrv (by rw [List.map_append]; exact hcv.append hqs) ?_ ?_ ?_ ⟨rfl, rfl⟩ <;> tb_start
        · rename ({ cps := #[c] } == Str.ofString "'") = false => h39; have h39 := quote_ne h39
          have hst : tstep ⟨res, some qb, cb, fc, fn⟩ c = ⟨res, some (qb ++ [c]), cb, fc, fn⟩ := by simp [tstep, flFC, flF, flC, h39]
          rename St _ _ _ _ _ _ _ _ _ => H9
          have H9 : St w os (Below0 s) Z Z' L _ ([(na, pL [.int ((fn : Nat) : Int) _]), (fa, pL [.str (S (fcL fc)) _]), (ca, pL cvs), (ra, pL rvs)] ++ (I, p) :: [(qa, pL (qvs ++ [_]))]) _ := H9
          have H9 := H9.perm List.perm_middle
          refine ⟨_, _, _, H9, fun _ _ e => e, h8, ?_⟩
          rw [hst]
          refine TokI.of (st := ⟨res, some (qb ++ [c]), cb, fc, fn⟩) hrv hcv ?_ ?_ ?_ ⟨_, _, rfl, (by rw [List.map_append]; exact hqs.append (.cons ⟨u, rfl⟩ .nil)), rfl⟩ <;> tb_start
    · rintro Z' m' l' s' hle ⟨h8, hT⟩ H'
      rw [show (S (rep2 x)).cps.size = (rep2 x).length from by simp, List.take_length] at hT
      exact ⟨rfl, Z', m', l', h8, hT, H'⟩
  · rintro s4 ⟨Z9, m9, l9, h8, ⟨rvs, cvs, t1, t2, qv, lq, hrv, hcv, k1, k2, k3, hqv, rfl⟩, H'⟩
    have htok : tokz x = (flFC ((rep2 x).foldl tstep ⟨[], none, [], none, 0⟩)).res := rfl
    have hsz : TSz (0 + (rep2 x).length) ((rep2 x).foldl tstep ⟨[], none, [], none, 0⟩) := TSz.fold ⟨Nat.le_refl _, Nat.le_refl _⟩
    generalize (rep2 x).foldl tstep ⟨[], none, [], none, 0⟩ = st at *
    obtain ⟨res, q, cb, fc, fn⟩ := st
    dsimp only at *
    have hrl := hrv.len
    have hcl := hcv.len
    rw [List.length_map] at hcl
    obtain ⟨hz9, hz8⟩ := hsz
    dsimp only at hz9 hz8
    have hce : cvs.isEmpty = cb.isEmpty := by cases cvs <;> cases cb <;> simp_all
    simp only [List.cons_append, List.nil_append] at H'
    have f1 := upE hz1 h8; have f2 := upE hz2 h8; have f3 := upE hz3 h8; have f4 := upE hz4 h8; have g1 := upF hfC h8; have g2 := upF hfF h8
    cases fc with
    | none =>
      simp only [fcL] at H'
      (repeat' (first | tb_rel | ((with_reducible refine iteB (fun h9 => ?_) (fun h9 => ?_)) <;> (try (exfalso; first | exact absurd h9 (by decide) | (exact Bool.noConfusion (h9.symm.trans (by assumption) : true = false)) | (exact Bool.noConfusion (h9.symm.trans (by assumption) : false = true)) | (simp at h9; done) | (simp [fcL, Str.length] at h9; done))))))
      · rename (!cvs.isEmpty) = true => hcb; rw [hce] at hcb
        refine specC (rvs := rvs) (lr := lq) h8 hcv (by omega) (by omega) (by assumption) ?_
        intro s5 Z5 v5 hle5 hv5 H5
        simp only [List.cons_append, List.nil_append] at H5
        have f1 := upE f1 hle5
        (repeat' (first | tb_rel | ((with_reducible refine iteB (fun h9 => ?_) (fun h9 => ?_)) <;> (try (exfalso; first | exact absurd h9 (by decide) | (exact Bool.noConfusion (h9.symm.trans (by assumption) : true = false)) | (exact Bool.noConfusion (h9.symm.trans (by assumption) : false = true)) | (simp at h9; done) | (simp [fcL, Str.length] at h9; done))))))
        have htk : tokz x = res ++ [.ch (unq cb)] := by rw [htok]; simp at hcb; simp [flFC, flC, hcb]
        rename St _ _ _ _ _ _ _ _ _ => H9
        obtain ⟨Zz, hlez, ⟨oz, hzz, hpz⟩, H9⟩ := H9.freeze (.there (.there (.there .here)))
        refine H9.leave hP ⟨_, oz, _, rfl, hzz, hpz, ?_⟩
        rw [htk]
        exact ((hrv.mono fun _ _ => .mono hle5).append (.cons hv5 .nil)).mono fun _ _ => .mono hlez
      · rename (!cvs.isEmpty) = false => hcb; rw [hce] at hcb
        have htk : tokz x = res := by rw [htok]; simp at hcb; simp [flFC, flC, hcb]
        rename St _ _ _ _ _ _ _ _ _ => H9
        obtain ⟨Zz, hlez, ⟨oz, hzz, hpz⟩, H9⟩ := H9.freeze (.there (.there (.there .here)))
        refine H9.leave hP ⟨_, oz, _, rfl, hzz, hpz, ?_⟩
        rw [htk]
        exact hrv.mono fun _ _ => .mono hlez
    | some d =>
      simp only [fcL] at H'
      (repeat' (first | tb_rel | ((with_reducible refine iteB (fun h9 => ?_) (fun h9 => ?_)) <;> (try (exfalso; first | exact absurd h9 (by decide) | (exact Bool.noConfusion (h9.symm.trans (by assumption) : true = false)) | (exact Bool.noConfusion (h9.symm.trans (by assumption) : false = true)) | (simp at h9; done) | (simp [fcL, Str.length] at h9; done))))))
      refine specF (rvs := rvs) (lr := lq) h8 (by omega) (by assumption) ?_
      intro s5 Z5 v5 t5 u5 hle5 hv5 H5
      simp only [List.cons_append, List.nil_append] at H5
      have f1 := upE f1 hle5
      (repeat' (first | tb_rel | ((with_reducible refine iteB (fun h9 => ?_) (fun h9 => ?_)) <;> (try (exfalso; first | exact absurd h9 (by decide) | (exact Bool.noConfusion (h9.symm.trans (by assumption) : true = false)) | (exact Bool.noConfusion (h9.symm.trans (by assumption) : false = true)) | (simp at h9; done) | (simp [fcL, Str.length] at h9; done))))))
      have htk : tokz x = res ++ [.fd d fn] := by rw [htok]; simp [flFC, flF]
      rename St _ _ _ _ _ _ _ _ _ => H9
      obtain ⟨Zz, hlez, ⟨oz, hzz, hpz⟩, H9⟩ := H9.freeze (.there (.there (.there .here)))
      refine H9.leave hP ⟨_, oz, _, rfl, hzz, hpz, ?_⟩
      rw [htk]
      exact ((hrv.mono fun _ _ => .mono hle5).append (.cons hv5 .nil)).mono fun _ _ => .mono hlez
end
section
variable {prog : Program} {w : World} {os : OsState} {Z : Fz} {s : Shared} {A : Around} {E : Value → Shared → Prop} {ta : Addr} {tvs : List Value} {ts : List Tk} {Q : Value → Shared → Prop}
theorem sum_le_of_mem {l : List (List Nat)} {x : List Nat} (h : x ∈ l) : x.length ≤ l.flatten.length := by
  induction l with
  | nil => cases h
  | cons a r ih =>
    rw [List.flatten_cons, List.length_append]
    rcases List.mem_cons.mp h with rfl | h
    · omega
    · have := ih h; omega
theorem quote_S' : Str.ofString "'" = S [39] := by decide +kernel
theorem quote_S2 : Str.ofString "''" = S [39, 39] := by decide +kernel
theorem rep_quote (x : List Nat) : Txt.replace (S x) (Str.ofString "'") (Str.ofString "''") = S (x.flatMap fun d => if d = 39 then [39, 39] else [d]) := by
  rw [quote_S', quote_S2, replace_S _ _ _ (by decide), rp_one]
theorem qq_len : ∀ x : List Nat, (x.flatMap fun d => if d = 39 then [39, 39] else [d]).length ≤ 2 * x.length
  | [] => by simp
  | d :: r => by
    have := qq_len r
    rw [List.flatMap_cons, List.length_append, List.length_cons]
    split
    · simp only [List.length_cons, List.length_nil]; omega
    · simp only [List.length_cons, List.length_nil]; omega
set_option maxHeartbeats 1600000 in
theorem untok_spec (hA : Rm A 2) (H : Base w os Z s) (ht : ∃ o, Z ta o ∧ pL tvs o) (hv : All2 (TpZ Z) tvs ts) (hl : ts.length ≤ 10000) (hb : ∀ t ∈ ts, t.sz ≤ 1000) (hu : (untok ts).length ≤ 100000)
    (hP : Post w os Z s (fun Z' v => ∃ t, v = .str (S (untok ts)) t) Q) : wpAny (model prog w) A (call (.ref 60) [.ref ta]) Q E s := by
  refine enter (binds := [(Str.ofString "tokens", .ref ta)]) (by have := hA.dp; omega) H rfl (by rfl) (BindsTo.of_eq rfl) (by rfl) (fun s₁ L E' H₁ => ?_)
  refine wpAny_execs_cons ?_
  (repeat tb_rel)
  have hh := hA.hd
  rename_i oa _ H₁
  refine joinF (fun s' => ∃ Z' m' ovs, m' (Str.ofString "output") = some (.ref oa) ∧ All2 StrV ovs (ts.map untok1) ∧ St w os (Below0 s) Z Z' L m' [(oa, pL ovs)] s') ?_ ?_
  · refine forC H₁ hA.hd ?_
    (repeat tb_rel)
    rename St _ _ _ _ _ _ _ _ _ => H2
    refine loop_then H2 (.list ht) (fun i Z' m' l' => m' (Str.ofString "output") = some (.ref oa) ∧ ∃ ovs, All2 StrV ovs ((ts.take i).map untok1) ∧ l' = [(oa, pL ovs)]) ⟨by tb_start, [], .nil, rfl⟩ ?_ ?_
    · clear H2
      rintro i v Z' m' l' I p s' E' hi hv' hle ⟨k1, ovs, hov, rfl⟩ H'
      obtain ⟨tk, htk, hz⟩ := hv.get hv'
      replace hz := hz.mono hle
      have ht' : (ts.take (i + 1)).map untok1 = (ts.take i).map untok1 ++ [untok1 tk] := by rw [List.take_add_one, htk]; simp
      have hsz := hb tk (List.mem_of_getElem? htk)
      have hol : ovs.length ≤ 10000 := by have := hov.len; simp at this; omega
      obtain ⟨a, o, rfl, hza, hpa⟩ := hz
      cases tk with
      | fd c n =>
        obtain ⟨t1, b, hp1, ob, t2, t3, hzb, hp2⟩ := hpa
        have f1 : ∃ o, Z' a o ∧ pT _ o := ⟨_, hza, hp1⟩
        have f2 : ∃ o, Z' b o ∧ pT _ o := ⟨_, hzb, hp2⟩
        have hn : n ≤ 100000 := by have : n ≤ 1000 := hsz; omega
        (repeat' (first | tb_rel | ((with_reducible refine iteB (fun h9 => ?_) (fun h9 => ?_)) <;> (try (exfalso; first | exact absurd h9 (by decide) | (exact Bool.noConfusion (h9.symm.trans (by assumption) : true = false)) | (exact Bool.noConfusion (h9.symm.trans (by assumption) : false = true)) | (simp at h9; done) | (simp [Str.length] at h9; done))))))
        exact ⟨_, _, _, by assumption, fun _ _ e => e, by tb_start, _, by rw [ht']; exact hov.append (.cons ⟨_, rfl⟩ .nil), rfl⟩
      | ch x =>
        obtain ⟨t1, t2, hp1⟩ := hpa
        have f1 : ∃ o, Z' a o ∧ pT _ o := ⟨_, hza, hp1⟩
        have hx : x.length ≤ 1000 := hsz
        (repeat' (first | tb_rel | ((with_reducible refine iteB (fun h9 => ?_) (fun h9 => ?_)) <;> (try (exfalso; first | exact absurd h9 (by decide) | (exact Bool.noConfusion (h9.symm.trans (by assumption) : true = false)) | (exact Bool.noConfusion (h9.symm.trans (by assumption) : false = true)) | (simp at h9; done) | (simp [Str.length] at h9; done))))))
        rename St _ _ _ _ _ _ _ _ _ => H3
        refine anyG H3 (by exact hA.hd) (by have := hA.dp; show A.depth + 1 < _; omega) rfl rfl (P := 55) (c := 59) (by kernel_rfl) (.tail _ List.mem_cons_self) ?_
        (repeat tb_rel)
        rename St _ _ _ _ _ _ _ _ _ => H4
        refine ⟨Z', _, _, _, _, fun i => pats.contains (x.getD i 0), .str, H4, ?_, ?_⟩
        · rintro A' E9 i' v C code s9 m9 hA' ⟨c, u, hc, rfl⟩ hn9 hm9 hz9
          have hc' : x.getD i' 0 = c := by
            have : x[i']? = some c := by simpa using hc
            simp [List.getD_eq_getElem?_getD, this]
          dsimp only
          rw [hc']
          refine wpAny_Compare1 (wpAny_Name (wpAny_loadName_local rfl rfl hn9 hm9 ?_) (by decide))
          obtain ⟨mg, mb, a1, _⟩ := H4.wd.ns
          refine Name_function_global rfl rfl (loadGlobal_global (a1.ns hz9) (mg_of (v := .ref 15) (H4.wd.in hz9) (a1.ns hz9) (by kernel_rfl)) ?_) (by decide)
          obtain ⟨es, n, hl15, hk15, ha15⟩ := k15 (P := w.params)
          refine wpAny_in_of (strKind_is prog w (S [c]) u) (by decide) (mapOf_K (prog := prog) (H4.wd.in hz9) hl15 hk15) ?_
          rw [pat_in ha15]
          exact ⟨rfl, _, _, rfl, fun _ _ e => e⟩
        · intro s5 Z5 hle5 H5
          have hany : (List.range (S x).cps.size).any (fun i => pats.contains (x.getD i 0)) = x.any pats.contains := by
            have e : x.any pats.contains = ((List.range x.length).map fun i => x.getD i 0).any pats.contains := by rw [range_getD]
            rw [e, List.any_map]; simp [Function.comp_def]
          rw [hany]
          clear H4
          have hS : (S x).length ≤ 1048576 := by rw [S_len]; omega
          have hrep := rep_quote x
          have hfm := qq_len x
          have hrl : (Txt.replace (S x) (Str.ofString "'") (Str.ofString "''")).length ≤ 10000 := by rw [hrep, S_len]; omega
          (repeat' (first | tb_rel | ((with_reducible refine iteB (fun h9 => ?_) (fun h9 => ?_)) <;> (try (exfalso; first | exact absurd h9 (by decide) | (exact Bool.noConfusion (h9.symm.trans (by assumption) : true = false)) | (exact Bool.noConfusion (h9.symm.trans (by assumption) : false = true)) | (simp at h9; done) | (simp [Str.length] at h9; done))))))
          · refine ⟨_, _, _, by assumption, hle5, by tb_start, _, ?_, rfl⟩
            rw [ht']
            refine hov.append (.cons ⟨t2, ?_⟩ .nil)
            have h10 : x.any pats.contains = false := by simpa using h9
            rw [untok1, if_neg (by rw [h10]; decide)]
          · refine ⟨_, _, _, by assumption, hle5, by tb_start, _, ?_, rfl⟩
            rw [ht']
            refine hov.append (.cons ⟨by assumption, ?_⟩ .nil)
            have h10 : x.any pats.contains = true := by simpa using h9
            rw [untok1, if_pos h10, hrep, quote_S', S_append, S_append]
    · rintro Z' m' l' s' hle ⟨k1, ovs, hov, rfl⟩ H'
      have hvl := hv.len
      rw [hvl, List.take_length] at hov
      exact ⟨rfl, Z', m', ovs, k1, hov, H'⟩
  · rintro s4 ⟨Z9, m9, ovs, k1, hov, H'⟩
    have hfl' : (ts.map untok1).flatten.length ≤ 100000 := hu
    have hfl : (ts.map untok1).flatten.length ≤ sizeLine := by rw [sizeLine_eq]; omega
    (repeat tb_rel)
    rename St _ _ _ _ _ _ _ _ _ => H9
    exact H9.leave hP ⟨_, rfl⟩
end
section
variable {prog : Program} {w : World} {os : OsState} {Z : Fz} {s : Shared} {A : Around} {E : Value → Shared → Prop} {x : List Nat} {t : Tok} {Q : Value → Shared → Prop}
def seenB (l : List Nat) (y : Str) : Bool := l.any fun c => decide (y = S [c])
def TpLs (Z : Fz) (v : Value) (ts : List Tk) : Prop := ∃ a o vs, v = .ref a ∧ Z a o ∧ pL vs o ∧ All2 (TpZ Z) vs ts
def StrsZ (Z : Fz) (v : Value) (xs : List (List Nat)) : Prop := ∃ a o vs, v = .ref a ∧ Z a o ∧ pL vs o ∧ All2 StrV vs xs
theorem seenB_cons {c : Nat} {l : List Nat} : (fun y => seenB l y || decide (y = S [c])) = seenB (c :: l) := by
  funext y; simp [seenB, Bool.or_comm]
theorem seenB_one {c : Nat} : (fun y => false || decide (y = S [c])) = seenB [c] := by
  funext y; simp [seenB]
theorem seenB_S {c : Nat} {l : List Nat} : seenB l (S [c]) = l.contains c := by
  have e : ∀ d, (S [c] = S [d]) ↔ c = d := fun d => ⟨fun h => by have := congrArg (fun z : Str => z.cps.toList) h; simpa using this, fun h => by rw [h]⟩
  induction l with
  | nil => rfl
  | cons d l ih =>
    rw [List.contains_cons, ← ih, seenB, List.any_cons]
    by_cases h : c = d
    · subst h; simp [seenB]
    · have h' : ¬ S [c] = S [d] := fun q => h ((e d).mp q)
      simp [seenB, h, h']
theorem TpLs.mono {Z Z' : Fz} {v : Value} {ts : List Tk} (k : ∀ b o, Z b o → Z' b o) : TpLs Z v ts → TpLs Z' v ts := fun ⟨a, o, vs, e, h1, h2, h3⟩ => ⟨a, o, vs, e, k _ _ h1, h2, h3.mono fun _ _ h => h.mono k⟩
set_option maxHeartbeats 1600000 in
theorem split_spec (hA : Rm A 4) (H : Base w os Z s) (hx : x.length ≤ 1000) (hb : ∀ t ∈ tokz x, t.sz ≤ 1000) (hl : (tokz x).length ≤ 3000) (hu : (untok (tokz x)).length ≤ 100000)
    (hP : Post w os Z s (fun Z' v => StrsZ Z' v ((splitz (tokz x)).map untok)) Q) : wpAny (model prog w) A (call (.ref 65) [.str (S x) t]) Q E s := by
  refine enter (binds := [(Str.ofString "pattern", .str (S x) t)]) (by have := hA.dp; omega) H rfl (by rfl) (BindsTo.of_eq rfl) (by rfl) (fun s₁ L E' H₁ => ?_)
  refine wpAny_execs_cons ?_
  (repeat tb_rel)
  rename_i sa _ _ ca _ pa _ H₁
  have hh := hA.hd
  refine joinF (fun s' => ∃ Z' m' dv ca cvs G n, m' (Str.ofString "parts") = some (.ref pa) ∧ All2 (TpLs Z') dv (splitF (tokz x)).done ∧ All2 (TpZ Z') cvs (splitF (tokz x)).cur ∧ St w os (Below0 s) Z Z' L m' [(pa, pL (dv ++ [.ref ca])), (ca, pL cvs), (sa, pSet prog w G n)] s') ?_ ?_
  · refine forC H₁ hh ?_
    (repeat tb_rel)
    rename St _ _ _ _ _ _ _ _ _ => H2
    refine tok_spec (by exact hA.deeper) H2.toBase hx (H2.back fun s3 Z3 v3 H3 hle3 hr => ?_)
    obtain ⟨ta, to, tvs, rfl, hto, hptvs, htv⟩ := hr
    refine loop_then H3 (.list ⟨to, hto, hptvs⟩) (fun i Z' m' l' => m' (Str.ofString "parts") = some (.ref pa) ∧ m' (Str.ofString "seen_fields") = some (.ref sa) ∧ ∃ dv ca cvs n, n ≤ i ∧
      All2 (TpLs Z') dv (splitF ((tokz x).take i)).done ∧ All2 (TpZ Z') cvs (splitF ((tokz x).take i)).cur ∧ l' = [(pa, pL (dv ++ [.ref ca])), (ca, pL cvs), (sa, pSet prog w (seenB (splitF ((tokz x).take i)).seen) n)]) ?_ ?_ ?_
    · exact ⟨by tb_start, by tb_start, [], ca, [], 0, Nat.le_refl _, .nil, .nil, rfl⟩
    · clear H3 H2
      rintro i v Z' m' l' I p s' E' hi hv' hle ⟨k1, k2, dv, ca, cvs, n, hn, hdv, hcv, rfl⟩ H'
      obtain ⟨tk, htk, hz⟩ := htv.get hv'
      replace hz := hz.mono hle
      have ht' := splitF_take _ htk
      have hl9 := splitF_done ((tokz x).take i) ⟨[], [], []⟩
      have hti : ((tokz x).take i).length ≤ 3000 := by rw [List.length_take]; omega
      change (splitF ((tokz x).take i)).done.length ≤ _ ∧ (splitF ((tokz x).take i)).cur.length ≤ _ ∧ _ at hl9
      simp only [List.length_nil, Nat.zero_add] at hl9
      have hil : i < 3000 := by have := htv.len; omega
      have hdl : dv.length ≤ 3000 := by have := hdv.len; omega
      have hcl : cvs.length ≤ 3000 := by have := hcv.len; omega
      generalize splitF ((tokz x).take i) = sp at *
      obtain ⟨a, o, rfl, hza, hpa⟩ := id hz
      cases tk with
      | fd c n' =>
        obtain ⟨t1, b, hp1, ob, t2, t3, hzb, hp2⟩ := hpa
        have f1 : ∃ o, Z' a o ∧ pT _ o := ⟨_, hza, hp1⟩
        have f2 : ∃ o, Z' b o ∧ pT _ o := ⟨_, hzb, hp2⟩
        (repeat' (first | tb_rel | ((with_reducible refine iteB (fun h9 => ?_) (fun h9 => ?_)) <;> (try (exfalso; first | exact absurd h9 (by decide) | (exact Bool.noConfusion (h9.symm.trans (by assumption) : true = false)) | (exact Bool.noConfusion (h9.symm.trans (by assumption) : false = true)) | (simp at h9; done) | (simp [Str.length] at h9; done))))))
        · rename seenB sp.seen (S [c]) = true => h7
          rename St _ _ _ _ _ _ _ _ _ => H9
          obtain ⟨Z1, hle1, ⟨o1, hz1, hp1'⟩, H9⟩ := H9.freeze .here
          obtain ⟨Z2, hle2, ⟨o2, hz2, hp2'⟩, H9⟩ := H9.freeze (a := ca) (.there (.there (.there .here)))
          rw [seenB_S] at h7
          rw [seenB_one] at H9
          have e9 : sstep sp (.fd c n') = ⟨sp.done ++ [sp.cur], [.fd c n'], [c]⟩ := by rw [sstep, if_pos h7]
          refine ⟨_, _, _, H9.perm (List.Perm.trans (List.Perm.swap _ _ _) ((List.Perm.swap _ _ _).cons _)), fun _ _ e => hle2 _ _ (hle1 _ _ e), by tb_start, by tb_start, ?_⟩
          rw [ht', e9]
          exact ⟨_, _, _, 1, by omega, (hdv.mono fun _ _ h => (h.mono hle1).mono hle2).append (.cons ⟨_, _, _, rfl, hz2, hp2', hcv.mono fun _ _ h => (h.mono hle1).mono hle2⟩ .nil),
            .cons ⟨_, o1, rfl, hle2 _ _ hz1, _, _, hp1', ob, t2, t3, hle2 _ _ (hle1 _ _ hzb), hp2⟩ .nil, rfl⟩
        · rename seenB sp.seen (S [c]) = false => h7
          rename St _ _ _ _ _ _ _ _ _ => H9
          obtain ⟨Z1, hle1, ⟨o1, hz1, hp1'⟩, H9⟩ := H9.freeze .here
          rw [seenB_S] at h7
          rw [seenB_cons] at H9
          have e9 : sstep sp (.fd c n') = ⟨sp.done, sp.cur ++ [.fd c n'], c :: sp.seen⟩ := by rw [sstep, if_neg (by rw [h7]; decide)]
          refine ⟨_, _, _, H9, hle1, by tb_start, by tb_start, ?_⟩
          rw [ht', e9]
          exact ⟨_, _, _, n + 1, by omega, hdv.mono fun _ _ h => h.mono hle1, (hcv.mono fun _ _ h => h.mono hle1).append (.cons ⟨_, o1, rfl, hz1, _, _, hp1', ob, t2, t3, hle1 _ _ hzb, hp2⟩ .nil), rfl⟩
      | ch y =>
        obtain ⟨t1, t2, hp1⟩ := hpa
        have f1 : ∃ o, Z' a o ∧ pT _ o := ⟨_, hza, hp1⟩
        (repeat' (first | tb_rel | ((with_reducible refine iteB (fun h9 => ?_) (fun h9 => ?_)) <;> (try (exfalso; first | exact absurd h9 (by decide) | (exact Bool.noConfusion (h9.symm.trans (by assumption) : true = false)) | (exact Bool.noConfusion (h9.symm.trans (by assumption) : false = true)) | (simp at h9; done) | (simp [Str.length] at h9; done))))))
        rename St _ _ _ _ _ _ _ _ _ => H9
        obtain ⟨Z1, hle1, ⟨o1, hz1, hp1'⟩, H9⟩ := H9.freeze .here
        have e9 : sstep sp (.ch y) = ⟨sp.done, sp.cur ++ [.ch y], sp.seen⟩ := rfl
        refine ⟨_, _, _, H9, hle1, by tb_start, by tb_start, ?_⟩
        rw [ht', e9]
        exact ⟨_, _, _, n, by omega, hdv.mono fun _ _ h => h.mono hle1, (hcv.mono fun _ _ h => h.mono hle1).append (.cons ⟨_, o1, rfl, hz1, _, _, hp1'⟩ .nil), rfl⟩
    · rintro Z' m' l' s' hle ⟨k1, k2, dv, ca, cvs, n, hn, hdv, hcv, rfl⟩ H'
      rw [htv.len, List.take_length] at *
      exact ⟨rfl, Z', m', dv, ca, cvs, _, _, k1, hdv, hcv, H'⟩
  · rintro s4 ⟨Z9, m9, dv, ca, cvs, G, n, k1, hdv, hcv, H'⟩
    obtain ⟨Zp, hlep, ⟨op, hzp, hpp⟩, H'⟩ := H'.freeze .here
    obtain ⟨Zc, hlec, ⟨oc, hzc, hpc⟩, H'⟩ := H'.freeze .here
    have hall : All2 (TpLs Zc) (dv ++ [.ref ca]) (splitz (tokz x)) := (hdv.mono fun _ _ ⟨a, o, vs, e, h1, h2, h3⟩ => ⟨a, o, vs, e, hlec _ _ (hlep _ _ h1), h2, h3.mono fun _ _ h => (h.mono hlep).mono hlec⟩).append (.cons ⟨ca, oc, cvs, rfl, hzc, hpc, hcv.mono fun _ _ h => (h.mono hlep).mono hlec⟩ .nil)
    have f1 : ∃ o, Zc pa o ∧ pL (dv ++ [.ref ca]) o := ⟨op, hlec _ _ hzp, hpp⟩
    (repeat tb_rel)
    refine compE (by assumption) hA.hd (cl := []) rfl ?_
    (repeat tb_rel)
    rename St _ _ _ _ _ _ _ _ _ => H5
    have hpl : (dv ++ [Value.ref ca]).length = (splitz (tokz x)).length := hall.len
    have hps : (splitz (tokz x)).length ≤ 4000 := by
      have := (splitF_done (tokz x) ⟨[], [], []⟩).1
      change (splitF (tokz x)).done.length ≤ _ at this
      simp only [List.length_nil, Nat.zero_add] at this
      simp only [splitz, List.length_append, List.length_cons, List.length_nil]; omega
    refine ⟨_, comp_then H5 (.list f1) (by rw [sizeLine_eq]; omega) (fun i Z2 vs l' => l' = [(sa, pSet prog w G n)] ∧ All2 StrV vs (((splitz (tokz x)).take i).map untok)) ⟨rfl, .nil⟩ ?_ ?_⟩
    · rintro i v Z2 vs l' C I' p' D mC s' E' hi hv' hle ⟨rfl, hvs⟩ H'
      obtain ⟨pt, hpt, hz⟩ := hall.get hv'
      obtain ⟨a, o, us, rfl, hza, hpa, hus⟩ := hz.mono hle
      have hmem := List.mem_of_getElem? hpt
      have ht' : (splitz (tokz x)).take (i + 1) = (splitz (tokz x)).take i ++ [pt] := by rw [List.take_add_one, hpt]; rfl
      (repeat tb_rel)
      refine wpAny_tests_nil ?_
      rw [if_pos rfl]
      (repeat tb_rel)
      rename St _ _ _ _ _ _ _ _ _ => H6
      have hl1 := part_len hmem
      have hu1 := untok_part hmem
      refine untok_spec (by exact hA.deeper.le (by decide)) H6.toBase ⟨o, hza, hpa⟩ hus (by omega) (fun t ht => hb t (part_mem hmem ht)) (by omega) (H6.back fun s7 Z7 v7 H7 hle7 hr => ?_)
      exact ⟨_, _, _, H7, hle7, rfl, by rw [ht', List.map_append]; exact hvs.append (.cons hr .nil)⟩
    · rintro Z2 vs l' D s' hle ⟨rfl, hvs⟩ H'
      rw [hpl, List.take_length] at hvs
      obtain ⟨Zd, hled, ⟨od, hzd, hpd⟩, H'⟩ := H'.freeze .here
      exact H'.leave hP ⟨D, od, vs, rfl, hzd, hpd, hvs⟩
end
section
variable {prog : Program} {w : World} {os : OsState} {Z : Fz} {s : Shared} {A : Around} {E : Value → Shared → Prop} {x : Str} {t : Tok} {Q : Value → Shared → Prop}
set_option maxHeartbeats 2000000 in
theorem sizes_spec {B Z₀ : Fz} {Lc : Addr} {mc : Str → Option Value} {lr : Led} (hA : Rm A 1) (H : St w os B Z₀ Z Lc mc lr s) (hx : x.cps.size ≤ 1000)
    (hQ : ∀ s' a n, n ≤ 1000 → St w os B Z₀ Z Lc mc ((a, pCnt prog w n (cnt1 x.cps.toList)) :: lr) s' → Q (.ref a) s') : wpAny (model prog w) A (call (.ref 113) [.str x t]) Q E s := by
  refine enterW (ls := []) (lr := lr) (binds := [(Str.ofString "text", .str x t)]) (by have := hA.dp; omega) H rfl (by rfl) (BindsTo.of_eq rfl) (by rfl) (fun s₁ L E' H₁ => ?_)
  repeat tb_rel
  refine forS (N := x.cps.size) (item := SignAt x) (by assumption) hA.hd (fun i Z' m' l' => Z' = Z ∧ ∃ d, m' (Str.ofString "sizes") = some (.ref d) ∧ l' = [(d, pCnt prog w i (cnt1 (x.cps.toList.take i)))]) ?_ ?_ ?_
  · tb_rel
    exact ⟨_, _, _, .str, fun _ _ e => e, by assumption, rfl, _, upd_self, rfl⟩
  · rintro i v Z' m' l' I p s' E' hi ⟨c, u, hc, rfl⟩ hle ⟨rfl, d, hd, rfl⟩ H'
    repeat tb_rel
    refine ⟨_, _, _, by assumption, fun _ _ e => e, rfl, d, by tb_start, ?_⟩
    have e : x.cps.toList.take (i + 1) = x.cps.toList.take i ++ [c] := by
      rw [List.take_add_one]; simp [hc]
    rw [e, cnt1_snoc]
  · rintro Z' m' l' s' hle ⟨rfl, d, hd, rfl⟩ H'
    dsimp only
    repeat tb_rel
    rename St _ _ _ _ _ _ _ _ _ => H'
    have H' := H.leaveW H'
    rw [List.take_of_length_le (by simp)] at H'
    exact hQ _ _ _ hx H'
end
section
variable {prog : Program} {w : World} {os : OsState} {Z : Fz} {kn : Addr} {s : Shared} {A : Around} {E : Value → Shared → Prop} {c : Nat} {t : Tok} {x : List Nat} {ks : List (List Nat)} {kvs : List Value} {al : Bool} {Q : Value → Shared → Prop}
theorem stands_at (H : Wd w.params Z) {i : Nat} {v : Value} (hv : [Value.ref 73, .ref 74, .ref 75, .ref 76, .ref 77][i]? = some v) : ∃ q p t1 t2, v = .ref q ∧ standPairs[i]? = some p ∧ ∃ o, Z q o ∧ pT [.str p.1 t1, .str p.2 t2] o := by
  rcases i with _ | _ | _ | _ | _ | i
  · cases Option.some.inj hv; obtain ⟨o, t1, t2, hl, hp⟩ := k73 (P := w.params); exact ⟨73, _, t1, t2, rfl, rfl, o, H.k _ _ hl, hp⟩
  · cases Option.some.inj hv; obtain ⟨o, t1, t2, hl, hp⟩ := k74 (P := w.params); exact ⟨74, _, t1, t2, rfl, rfl, o, H.k _ _ hl, hp⟩
  · cases Option.some.inj hv; obtain ⟨o, t1, t2, hl, hp⟩ := k75 (P := w.params); exact ⟨75, _, t1, t2, rfl, rfl, o, H.k _ _ hl, hp⟩
  · cases Option.some.inj hv; obtain ⟨o, t1, t2, hl, hp⟩ := k76 (P := w.params); exact ⟨76, _, t1, t2, rfl, rfl, o, H.k _ _ hl, hp⟩
  · cases Option.some.inj hv; obtain ⟨o, t1, t2, hl, hp⟩ := k77 (P := w.params); exact ⟨77, _, t1, t2, rfl, rfl, o, H.k _ _ hl, hp⟩
  · simp at hv
def BestV (Z : Fz) (v : Value) : Option (Int × List Nat) → Prop
  | none => v = .none
  | some q => ∃ b t1 t2 o, v = .ref b ∧ Z b o ∧ pT [.int q.1 t1, .str (S q.2) t2] o
def NM (m : Str → Option Value) (kn d : Addr) (al : Bool) : Prop := m (Str.ofString "known") = some (.ref kn) ∧ m (Str.ofString "allow") = some (.bool al) ∧ m (Str.ofString "sizes") = some (.ref d)
set_option maxHeartbeats 1600000 in
theorem nearest_spec (hA : Rm A 2) (H : Base w os Z s) (hx : x.length ≤ 1000) (hk : ∃ o, Z kn o ∧ pL kvs o) (hv : All2 StrV kvs ks) (hl : ks.length ≤ 1000) (hks : ∀ y ∈ ks, y.length ≤ 1000)
    (hP : Post w os Z s (fun Z' v => match nearestB x ks al with | none => v = .none | some q => ∃ t, v = .str (S q.2) t) Q) : wpAny (model prog w) A (call (.ref 118) [.str (S x) t, .ref kn, .bool al]) Q E s := by
  refine enterC (binds := [(Str.ofString "wanted", .str (S x) t), (Str.ofString "known", .ref kn), (Str.ofString "allow", .bool al)]) (by have := hA.dp; omega) H rfl (by rfl) rfl (by rfl) (fun s₁ L E' H₁ => ?_)
  generalize hm : bindL _ _ _ = m at H₁
  have hm1 : m (Str.ofString "wanted") = some (.str (S x) t) := by subst hm; rfl
  have hm2 : m (Str.ofString "known") = some (.ref kn) := by subst hm; rfl
  have hm3 : m (Str.ofString "allow") = some (.bool al) := by subst hm; rfl
  clear hm
  replace H₁ : St w os (Below0 s) Z Z L m [(L + 1, pCell none)] s₁ := H₁
  refine wpAny_execs_cons ?_
  (repeat tb_rel)
  refine sizes_spec hA.deeper (by assumption) (by simpa using hx) fun s₂ d n hn H₂ => ?_
  (repeat tb_rel)
  rename St _ _ _ _ _ _ _ _ _ => H₃
  try clear H₂
  have hkl : kvs.length = ks.length := hv.len
  have hu : A.units + 3 < cLine := by have := hA.un; omega
  have hh := hA.hd
  refine joinF (fun s' => ∃ m n vc, n ≤ 1010 ∧ NM m kn d al ∧ St w os (Below0 s) Z Z L m [(d, pCnt prog w n (standPairs.foldl (stand ks) (cnt1 x))), (L + 1, pCell vc)] s') ?_ ?_
  · refine forC H₃ hA.hd ?_
    (repeat tb_rel)
    rename St _ _ _ _ _ _ _ _ _ => H'
    obtain ⟨o78, l78, p78⟩ := k78 (P := w.params)
    refine loop_then H' (.tup ⟨o78, H'.wd.k _ _ l78, p78⟩) (fun i Z' m' l' => Z' = Z ∧ NM m' kn d al ∧ ∃ n vc, n ≤ 1000 + 2 * i ∧ l' = [(d, pCnt prog w n ((standPairs.take i).foldl (stand ks) (cnt1 x))), (L + 1, pCell vc)])
      ⟨rfl, ⟨by tb_start, by tb_start, by tb_start⟩, n, none, hn, rfl⟩ ?_ ?_
    · clear H'
      rintro i v Z' m' l' I p s' E' hi hv' hle ⟨rfl, ⟨k1, k2, k3⟩, n, vc, hn, rfl⟩ H'
      have hi5 : i < 5 := hi
      obtain ⟨q, pr, t1, t2, rfl, hpr, hq⟩ := stands_at H'.wd hv'
      have ht5 : standPairs.take (i + 1) = standPairs.take i ++ [pr] := by rw [List.take_add_one, hpr]; rfl
      generalize hg : (standPairs.take i).foldl (stand ks) (cnt1 x) = g at H'
      (repeat tb_rel)
      refine compE (by assumption) hA.hd (cl := [(Str.ofString "letter", L + 1)]) rfl ?_
      (repeat tb_rel)
      rename St _ _ _ _ _ _ _ _ _ => H'
      refine ⟨_, comp_then H' (.list hk) (by rw [sizeLine_eq]; omega) (fun i Z2 vs l' => Z2 = Z' ∧ l' = [(I, p), (d, pCnt prog w n g), (L + 1, pCell (some (.str pr.1 t1)))] ∧ vs.isEmpty = !((ks.take i).any fun y => Txt.contains (S y) pr.1)) ⟨rfl, rfl, rfl⟩ ?_ ?_⟩
      · rintro i v Z2 vs l' C I' p' D mC s' E' hi hv' hle ⟨rfl, rfl, hvs⟩ H'
        obtain ⟨y, hy, ty, rfl⟩ := hv.get hv'
        have ht' : ks.take (i + 1) = ks.take i ++ [y] := by rw [List.take_add_one, hy]; rfl
        (repeat tb_rel)
        refine wpAny_tests_one ?_
        (repeat' (first | tb_rel | ((with_reducible refine iteB (fun h9 => ?_) (fun h9 => ?_)) <;> (try (exfalso; first | exact absurd h9 (by decide) | (exact Bool.noConfusion (h9.symm.trans (by assumption) : true = false)) | (exact Bool.noConfusion (h9.symm.trans (by assumption) : false = true)) | (simp at h9; done))))))
        · refine ⟨_, _, _, by assumption, fun _ _ e => e, rfl, rfl, ?_⟩
          rename Txt.contains _ _ = true => h7
          rw [ht', List.any_append]; simp [h7]
        · refine ⟨_, _, _, by assumption, fun _ _ e => e, rfl, rfl, ?_⟩
          rename Txt.contains _ _ = false => h7
          rw [ht', List.any_append]; simp [h7, hvs]
      · rintro Z2 vs l' D s' hle ⟨rfl, rfl, hvs⟩ H'
        rw [hkl, List.take_length] at hvs
        (repeat tb_rel)
        rename St _ _ _ _ _ _ _ _ _ => H'
        refine eqNil H' hu (by tb_start) (by tb_start) ?_
        (repeat' (first | tb_rel | ((with_reducible refine iteB (fun h9 => ?_) (fun h9 => ?_)) <;> (try (exfalso; first | exact absurd h9 (by decide) | (exact Bool.noConfusion (h9.symm.trans (by assumption) : true = false)) | (exact Bool.noConfusion (h9.symm.trans (by assumption) : false = true)) | (simp at h9; done))))))
        · rename vs.isEmpty = true => h7
          rw [hvs] at h7
          have e : stand ks g pr = fun y => if y = pr.1 then 0 else if y = pr.2 then g pr.2 + g pr.1 else g y := by
            unfold stand; rw [if_neg (by simpa using h7)]
          rename St _ _ _ _ _ _ _ _ _ => H'
          refine ⟨_, _, _, (H'.drop .here).drop .here, fun _ _ e => e, rfl, ⟨by tb_start, by tb_start, by tb_start⟩, n + 1 + 1, some (.str pr.1 t1), by omega, ?_⟩
          rw [ht5, List.foldl_append, hg]
          show _ = [(d, pCnt prog w (n + 1 + 1) (stand ks g pr)), _]
          rw [e]
        · rename vs.isEmpty = false => h7
          rw [hvs] at h7
          have e : stand ks g pr = g := by
            unfold stand; rw [if_pos (by simpa using h7)]
          rename St _ _ _ _ _ _ _ _ _ => H'
          refine ⟨_, _, _, (H'.drop .here).drop .here, fun _ _ e => e, rfl, ⟨by tb_start, by tb_start, by tb_start⟩, n, some (.str pr.1 t1), by omega, ?_⟩
          rw [ht5, List.foldl_append, hg]
          show _ = [(d, pCnt prog w n (stand ks g pr)), _]
          rw [e]
    · rintro Z' m' l' s' hle ⟨rfl, k, n, vc, hn, rfl⟩ H'
      exact ⟨rfl, m', n, vc, hn, k, H'⟩
  · rintro s₃ ⟨m, n, vc, hn, ⟨k1, k2, k3⟩, H'⟩
    generalize hg : standPairs.foldl (stand ks) (cnt1 x) = g at H'
    (repeat tb_rel)
    refine joinF (fun s' => ∃ Z1 m vb l', BestV Z1 vb (nearestB x ks al) ∧ m (Str.ofString "best") = some vb ∧ St w os (Below0 s) Z Z1 L m l' s') ?_ ?_
    · refine forC (by assumption) hA.hd ?_
      (repeat tb_rel)
      rename St _ _ _ _ _ _ _ _ _ => H'
      refine loop_then H' (.list hk) (fun i Z' m' l' => NM m' kn d al ∧ ∃ vb vc, BestV Z' vb ((ks.take i).foldl (bestStep g al) none) ∧ m' (Str.ofString "best") = some vb ∧ l' = [(d, pCnt prog w n g), (L + 1, pCell vc)])
        ⟨⟨by tb_start, by tb_start, by tb_start⟩, .none, vc, rfl, by tb_start, rfl⟩ ?_ ?_
      · clear H'
        rintro i v Z' m' l' I p s' E' hi hv' hle ⟨⟨k1, k2, k3⟩, vb, vc, hb, kb, rfl⟩ H'
        obtain ⟨y, hy, ty, rfl⟩ := hv.get hv'
        have hym : y.length ≤ 1000 := hks y (List.mem_of_getElem? hy)
        have ht' : ks.take (i + 1) = ks.take i ++ [y] := by rw [List.take_add_one, hy]; rfl
        (repeat tb_rel)
        refine sizes_spec hA.deeper (by assumption) (by simpa using hym) fun s'' d2 n2 hn2 H2 => ?_
        (repeat tb_rel)
        rw [show (S y).cps.toList = y from by simp] at *
        refine joinF (fun s'' => ∃ m3 t vc, NM m3 kn d al ∧ m3 (Str.ofString "best") = some vb ∧ m3 (Str.ofString "text") = some (.str (S y) ty) ∧ m3 (Str.ofString "far") = some (.int (farOf g (cnt1 y) al letters).1 t) ∧ m3 (Str.ofString "fits") = some (.bool (farOf g (cnt1 y) al letters).2) ∧
          St w os (Below0 s) Z Z' L m3 [(d2, pCnt prog w n2 (cnt1 y)), (I, p), (d, pCnt prog w n g), (L + 1, pCell vc)] s'') ?_ ?_
        · refine forC (by assumption) hA.hd ?_
          (repeat tb_rel)
          rename St _ _ _ _ _ _ _ _ _ => H'
          refine loop_then H' .str (fun j Z3 m3 l3 => Z3 = Z' ∧ NM m3 kn d al ∧ m3 (Str.ofString "best") = some vb ∧ m3 (Str.ofString "text") = some (.str (S y) ty) ∧ m3 (Str.ofString "its") = some (.ref d2) ∧
            ∃ t, m3 (Str.ofString "far") = some (.int (farOf g (cnt1 y) al (letters.take j)).1 t) ∧ m3 (Str.ofString "fits") = some (.bool (farOf g (cnt1 y) al (letters.take j)).2) ∧
            ∃ vc, l3 = [(d2, pCnt prog w n2 (cnt1 y)), (I, p), (d, pCnt prog w n g), (L + 1, pCell vc)])
            ⟨rfl, ⟨by tb_start, by tb_start, by tb_start⟩, by tb_start, by tb_start, by tb_start, _, by tb_start, by tb_start, vc, rfl⟩ ?_ ?_
          · clear H'
            rintro j v Z3 m3 l3 I3 p3 s3 E3 hj ⟨c, u, hc, rfl⟩ hle3 ⟨rfl, ⟨k1, k2, k3⟩, kb, kt, ki, t3, kf, kk, vc, rfl⟩ H'
            have hc' : letters[j]? = some c := by rw [letters_S] at hc; simpa using hc
            have ht3 : farOf g (cnt1 y) al (letters.take (j + 1)) = farStep g (cnt1 y) al (farOf g (cnt1 y) al (letters.take j)) c := by
              unfold farOf; rw [List.take_add_one, hc']; simp [List.foldl_append]
            generalize farOf g (cnt1 y) al (letters.take j) = fa at kf kk ht3
            (repeat' (first | tb_rel | ((with_reducible refine iteB (fun h9 => ?_) (fun h9 => ?_)) <;> (try (exfalso; first | exact absurd h9 (by decide) | (exact Bool.noConfusion (h9.symm.trans (by assumption) : true = false)) | (exact Bool.noConfusion (h9.symm.trans (by assumption) : false = true)) | (simp at h9; done))))))
            all_goals (
              simp only [farStep, S, *, Bool.true_and, Bool.and_true, Bool.false_and, Bool.and_false, Bool.true_or, Bool.or_true, Bool.false_or, Bool.or_false, Bool.false_eq_true, if_true, if_false] at ht3
              rename St _ _ _ _ _ _ _ _ _ => H'
              refine ⟨_, _, _, H', fun _ _ e => e, rfl, ⟨by tb_start, by tb_start, by tb_start⟩, by tb_start, by tb_start, by tb_start, ?_⟩
              rw [ht3]
              exact ⟨_, by tb_start, by first | tb_start | exact Eq.trans (b := some (.bool fa.snd)) (by tb_start) (by simp [*]), _, rfl⟩)
          · rintro Z3 m3 l3 s3 hle3 ⟨rfl, k, kb, kt, ki, t3, kf, kk, vc, rfl⟩ H'
            rw [show letters.take (Str.ofString "yMdEabhHkKzv").cps.size = letters from by rw [letters_S]; rfl] at kf kk
            exact ⟨rfl, m3, t3, vc, k, kb, kt, kf, kk, H'⟩
        · rintro s4 ⟨m3, t, vc, ⟨k1, k2, k3⟩, kb, kt, kf, kk, H'⟩
          have hbs : (ks.take (i + 1)).foldl (bestStep g al) none = bestStep g al ((ks.take i).foldl (bestStep g al) none) y := by rw [ht', List.foldl_append]; rfl
          generalize (ks.take i).foldl (bestStep g al) none = bq at hb hbs
          generalize hfa : farOf g (cnt1 y) al letters = fa at kf kk
          cases bq with
          | none =>
            obtain rfl : vb = .none := hb
            (repeat' (first | tb_rel | ((with_reducible refine iteB (fun h9 => ?_) (fun h9 => ?_)) <;> (try (exfalso; first | exact absurd h9 (by decide) | (exact Bool.noConfusion (h9.symm.trans (by assumption) : true = false)) | (exact Bool.noConfusion (h9.symm.trans (by assumption) : false = true)) | (simp at h9; done))))))
            · rename fa.snd = true => h7
              have e : bestStep g al none y = some (fa.1, y) := by unfold bestStep; simp only [hfa, h7]; rfl
              rename St _ _ _ _ _ _ _ _ _ => H'
              obtain ⟨Z2, hle2, ⟨o2, hz2, hp2⟩, H'⟩ := H'.freeze .here
              refine ⟨Z2, _, _, H'.drop .here, hle2, ⟨by tb_start, by tb_start, by tb_start⟩, .ref _, vc, ?_, by tb_start, rfl⟩
              rw [hbs, e]
              exact ⟨_, t, ty, o2, rfl, hz2, hp2⟩
            · rename fa.snd = false => h7
              have e : bestStep g al none y = none := by unfold bestStep; simp only [hfa, h7]; rfl
              rename St _ _ _ _ _ _ _ _ _ => H'
              refine ⟨_, _, _, H'.drop .here, fun _ _ e => e, ⟨by tb_start, by tb_start, by tb_start⟩, .none, vc, ?_, by tb_start, rfl⟩
              rw [hbs, e]; rfl
          | some q =>
            obtain ⟨b, t1, t2, o, rfl, hz, hp⟩ := hb
            have hb' : ∃ o, Z' b o ∧ pT _ o := ⟨o, hz, hp⟩
            (repeat' (first | tb_rel | ((with_reducible refine iteB (fun h9 => ?_) (fun h9 => ?_)) <;> (try (exfalso; first | exact absurd h9 (by decide) | (exact Bool.noConfusion (h9.symm.trans (by assumption) : true = false)) | (exact Bool.noConfusion (h9.symm.trans (by assumption) : false = true)) | (simp at h9; done))))))
            · rename fa.snd = true => h7
              rename St _ _ _ _ _ _ _ _ _ => H'
              refine ltT' H' hu (by tb_start) (by tb_start) ?_
              (repeat' (first | tb_rel | ((with_reducible refine iteB (fun h9 => ?_) (fun h9 => ?_)) <;> (try (exfalso; first | exact absurd h9 (by decide) | (exact Bool.noConfusion (h9.symm.trans (by assumption) : true = false)) | (exact Bool.noConfusion (h9.symm.trans (by assumption) : false = true)) | (simp at h9; done))))))
              · rename lexLt _ _ = true => h8
                have e : bestStep g al (some q) y = some (fa.1, y) := by unfold bestStep; simp only [hfa, h7]; rw [h8]; rfl
                rename St _ _ _ _ _ _ _ _ _ => H'
                obtain ⟨Z2, hle2, ⟨o2, hz2, hp2⟩, H'⟩ := H'.freeze .here
                refine ⟨Z2, _, _, (H'.drop .here).drop .here, hle2, ⟨by tb_start, by tb_start, by tb_start⟩, .ref _, vc, ?_, by tb_start, rfl⟩
                rw [hbs, e]
                exact ⟨_, t, ty, o2, rfl, hz2, hp2⟩
              · rename lexLt _ _ = false => h8
                have e : bestStep g al (some q) y = some q := by unfold bestStep; simp only [hfa, h7]; rw [h8]; rfl
                rename St _ _ _ _ _ _ _ _ _ => H'
                refine ⟨_, _, _, (H'.drop .here).drop .here, fun _ _ e => e, ⟨by tb_start, by tb_start, by tb_start⟩, .ref b, vc, ?_, by tb_start, rfl⟩
                rw [hbs, e]; exact ⟨_, t1, t2, o, rfl, hz, hp⟩
            · rename fa.snd = false => h7
              have e : bestStep g al (some q) y = some q := by unfold bestStep; simp only [hfa, h7]; rfl
              rename St _ _ _ _ _ _ _ _ _ => H'
              refine ⟨_, _, _, H'.drop .here, fun _ _ e => e, ⟨by tb_start, by tb_start, by tb_start⟩, .ref b, vc, ?_, by tb_start, rfl⟩
              rw [hbs, e]; exact ⟨_, t1, t2, o, rfl, hz, hp⟩
      · rintro Z' m' l' s' hle ⟨k, vb, vc, hb, kb, rfl⟩ H'
        rw [hkl, List.take_length] at hb
        exact ⟨rfl, Z', m', vb, _, by unfold nearestB; rw [hg]; exact hb, kb, H'⟩
    · rintro s4 ⟨Z1, m1, vb, l1, hb, kb, H'⟩
      cases hq : nearestB x ks al with
      | none =>
        rw [hq] at hb; obtain rfl := hb
        (repeat' (first | tb_rel | ((with_reducible refine iteB (fun h9 => ?_) (fun h9 => ?_)) <;> (try (exfalso; first | exact absurd h9 (by decide) | (exact Bool.noConfusion (h9.symm.trans (by assumption) : true = false)) | (exact Bool.noConfusion (h9.symm.trans (by assumption) : false = true)) | (simp at h9; done))))))
        rename St _ _ _ _ _ _ _ _ _ => H'
        refine H'.leave hP ?_
        show match nearestB x ks al with | none => _ | some q => _
        rw [hq]
      | some q =>
        rw [hq] at hb; obtain ⟨b, t1, t2, o, rfl, hz, hp⟩ := hb
        have hb' : ∃ o, Z1 b o ∧ pT _ o := ⟨o, hz, hp⟩
        (repeat' (first | tb_rel | ((with_reducible refine iteB (fun h9 => ?_) (fun h9 => ?_)) <;> (try (exfalso; first | exact absurd h9 (by decide) | (exact Bool.noConfusion (h9.symm.trans (by assumption) : true = false)) | (exact Bool.noConfusion (h9.symm.trans (by assumption) : false = true)) | (simp at h9; done))))))
        rename St _ _ _ _ _ _ _ _ _ => H'
        refine H'.leave hP ?_
        show match nearestB x ks al with | none => _ | some q => _
        rw [hq]
        exact ⟨_, rfl⟩
end
/-! _law_base, _law_option: seven runs, each of one letter of its class -/
def cls : Nat → List Nat
  | 0 => [121] | 1 => [77] | 2 => [100] | 3 => [69] | 4 => [97, 98] | 5 => [104, 72, 107, 75] | _ => [122, 118]
abbrev ClsOk (i : Nat) (x : Str) : Prop := x.length ≤ 5 ∧ (∀ c ∈ x.cps.toList, c ∈ cls i) ∧ ∀ c ∈ x.cps.toList, ∀ d ∈ x.cps.toList, c = d
theorem slice_mem {x : Str} {lo hi : Option Int} : ∀ c ∈ (Txt.slice x lo hi).cps.toList, c ∈ x.cps.toList := by
  intro c hc
  unfold Txt.slice at hc
  split at hc
  · exact hc
  · simp only [List.mem_filterMap] at hc
    obtain ⟨i, _, hi⟩ := hc
    obtain ⟨h1, h2⟩ := Array.getElem?_eq_some_iff.mp hi
    rw [← h2]; simp
theorem ClsOk.slice {i : Nat} {x : Str} {lo hi : Option Int} (h : ClsOk i x) : ClsOk i (Txt.slice x lo hi) :=
  ⟨Nat.le_trans (Txt.slice_le x _ _) h.1, fun c hc => h.2.1 c (slice_mem c hc), fun c hc d hd => h.2.2 c (slice_mem c hc) d (slice_mem d hd)⟩
def R7 (o : Obj) : Prop := ∃ x0 t0 x1 t1 x2 t2 x3 t3 x4 t4 x5 t5 x6 t6, pL [.str x0 t0, .str x1 t1, .str x2 t2, .str x3 t3, .str x4 t4, .str x5 t5, .str x6 t6] o ∧
  ClsOk 0 x0 ∧ ClsOk 1 x1 ∧ ClsOk 2 x2 ∧ ClsOk 3 x3 ∧ ClsOk 4 x4 ∧ ClsOk 5 x5 ∧ ClsOk 6 x6
theorem fmod_pos {a b : Int} (h : 0 < b) : 0 ≤ a.fmod b ∧ a.fmod b < b := by
  rw [Int.fmod_eq_emod_of_nonneg _ (Int.le_of_lt h)]
  exact ⟨Int.emod_nonneg _ (by omega), Int.emod_lt_of_pos _ h⟩
section
variable {prog : Program} {w : World} {os : OsState} {Z : Fz} {s : Shared} {A : Around} {E : Value → Shared → Prop} {x : Str} {t : Tok} {Q : Value → Shared → Prop}
set_option maxHeartbeats 4000000 in
theorem base_spec {n : Int} (hA : Rm A 1) (H : Base w os Z s)
    (hP : Post w os Z s (fun Z' v => ∃ a o, v = .ref a ∧ Z' a o ∧ R7 o) Q) : wpAny (model prog w) A (call (.ref 99) [.int n t]) Q E s := by
  refine enter (binds := [(Str.ofString "m", .int n t)]) (by have := hA.dp; omega) H rfl (by rfl) (BindsTo.of_eq rfl) (by rfl) (fun s₁ L E' H₁ => ?_)
  obtain ⟨m₀, hm₀, H₁⟩ : ∃ m, m (Str.ofString "m") = some (.int n t) ∧ St w os (Below0 s) Z Z L m [] s₁ := ⟨_, rfl, H₁⟩
  refine wpAny_execs_cons (wpAny_Return_some (List_ (spliced_more (joinV (fun v s' => ∃ x t, v = .str x t ∧ ClsOk 0 x ∧ St w os (Below0 s) Z Z L m₀ [] s') ?_ ?_))))
  · (repeat tb_rel)
    (refine' itemTany ?H ?hh ?h0 ?h1 ?h2 ?_; (case H => assumption); (case hh => tb_start); (case h0 => exact (fmod_pos (by decide)).1); (case h1 => exact (fmod_pos (by decide)).2); (case h2 => simp); rename St _ _ _ _ _ _ _ _ _ => H'; intro v9 hv9; have H' := H'.drop .here; simp only [List.mem_cons, List.not_mem_nil, or_false] at hv9)
    rcases hv9 with rfl | rfl | rfl <;> exact ⟨_, _, rfl, by decide +kernel, H'⟩
  rintro _ s' ⟨x0, t0, rfl, c0, H'⟩; clear H₁
  refine spliced_more (joinV (fun v s' => ∃ x t, v = .str x t ∧ ClsOk 1 x ∧ St w os (Below0 s) Z Z L m₀ [] s') ?_ ?_)
  · (repeat tb_rel)
    exact ⟨_, _, rfl, ClsOk.slice (by decide +kernel), by assumption⟩
  rintro _ s' ⟨x1, t1, rfl, c1, H'⟩
  refine spliced_more (joinV (fun v s' => ∃ x t, v = .str x t ∧ ClsOk 2 x ∧ St w os (Below0 s) Z Z L m₀ [] s') ?_ ?_)
  · (repeat tb_rel)
    exact ⟨_, _, rfl, ClsOk.slice (by decide +kernel), by assumption⟩
  rintro _ s' ⟨x2, t2, rfl, c2, H'⟩
  refine spliced_more (joinV (fun v s' => ∃ x t, v = .str x t ∧ ClsOk 3 x ∧ St w os (Below0 s) Z Z L m₀ [] s') ?_ ?_)
  · (repeat tb_rel)
    split <;> (repeat tb_rel) <;> exact ⟨_, _, rfl, by decide +kernel, by assumption⟩
  rintro _ s' ⟨x3, t3, rfl, c3, H'⟩
  refine spliced_more (joinV (fun v s' => ∃ x t, v = .str x t ∧ ClsOk 4 x ∧ St w os (Below0 s) Z Z L m₀ [] s') ?_ ?_)
  · (repeat tb_rel)
    (refine' itemTany ?H ?hh ?h0 ?h1 ?h2 ?_; (case H => assumption); (case hh => tb_start); (case h0 => exact (fmod_pos (by decide)).1); (case h1 => exact (fmod_pos (by decide)).2); (case h2 => simp); rename St _ _ _ _ _ _ _ _ _ => H'; intro v9 hv9; have H' := H'.drop .here; simp only [List.mem_cons, List.not_mem_nil, or_false] at hv9)
    rcases hv9 with rfl | rfl | rfl <;> exact ⟨_, _, rfl, by decide +kernel, H'⟩
  rintro _ s' ⟨x4, t4, rfl, c4, H'⟩
  refine spliced_more (joinV (fun v s' => ∃ x t, v = .str x t ∧ ClsOk 5 x ∧ St w os (Below0 s) Z Z L m₀ [] s') ?_ ?_)
  · (repeat tb_rel)
    (refine' itemTany ?H ?hh ?h0 ?h1 ?h2 ?_; (case H => assumption); (case hh => tb_start); (case h0 => exact (fmod_pos (by decide)).1); (case h1 => exact (fmod_pos (by decide)).2); (case h2 => simp); rename St _ _ _ _ _ _ _ _ _ => H'; intro v9 hv9; have H' := H'.drop .here; simp only [List.mem_cons, List.not_mem_nil, or_false] at hv9)
    rcases hv9 with rfl | rfl | rfl | rfl | rfl <;> exact ⟨_, _, rfl, by decide +kernel, H'⟩
  rintro _ s' ⟨x5, t5, rfl, c5, H'⟩
  refine spliced_more (joinV (fun v s' => ∃ x t, v = .str x t ∧ ClsOk 6 x ∧ St w os (Below0 s) Z Z L m₀ [] s') ?_ ?_)
  · (repeat tb_rel)
    (refine' itemTany ?H ?hh ?h0 ?h1 ?h2 ?_; (case H => assumption); (case hh => tb_start); (case h0 => exact (fmod_pos (by decide)).1); (case h1 => exact (fmod_pos (by decide)).2); (case h2 => simp); rename St _ _ _ _ _ _ _ _ _ => H'; intro v9 hv9; have H' := H'.drop .here; simp only [List.mem_cons, List.not_mem_nil, or_false] at hv9)
    rcases hv9 with rfl | rfl | rfl <;> exact ⟨_, _, rfl, by decide +kernel, H'⟩
  rintro _ s' ⟨x6, t6, rfl, c6, H'⟩
  repeat tb_rel
  rename St _ _ _ _ _ _ _ _ _ => H'
  obtain ⟨Z'', hle', ⟨o, hz, hp⟩, H''⟩ := H'.freeze .here
  exact H''.leave hP ⟨_, o, rfl, hz, x0, t0, x1, t1, x2, t2, x3, t3, x4, t4, x5, t5, x6, t6, hp, c0, c1, c2, c3, c4, c5, c6⟩
end
section
variable {prog : Program} {w : World} {os : OsState} {B Z₀ Z : Fz} {L a b : Addr} {m : Str → Option Value} {l : Led} {s : Shared} {A : Around} {E : Value → Shared → Prop} {x : Str} {t tn : Tok} {Q : Value → Shared → Prop} {n : Int}
theorem St.r7 (H : St w os B Z₀ Z L m ((a, R7) :: l) s) : ∃ x0 t0 x1 t1 x2 t2 x3 t3 x4 t4 x5 t5 x6 t6, St w os B Z₀ Z L m ((a, pL [.str x0 t0, .str x1 t1, .str x2 t2, .str x3 t3, .str x4 t4, .str x5 t5, .str x6 t6]) :: l) s ∧
  ClsOk 0 x0 ∧ ClsOk 1 x1 ∧ ClsOk 2 x2 ∧ ClsOk 3 x3 ∧ ClsOk 4 x4 ∧ ClsOk 5 x5 ∧ ClsOk 6 x6 := by
  obtain ⟨o, e, x0, t0, x1, t1, x2, t2, x3, t3, x4, t4, x5, t5, x6, t6, hp, c⟩ := H.own _ List.mem_cons_self
  exact ⟨x0, t0, x1, t1, x2, t2, x3, t3, x4, t4, x5, t5, x6, t6, H.mut .here s.toks H.tk ⟨rfl, fun _ _ => rfl⟩ ⟨o, e, hp⟩, c⟩
theorem St.to7 {x0 x1 x2 x3 x4 x5 x6 : Str} {t0 t1 t2 t3 t4 t5 t6 : Tok} (H : St w os B Z₀ Z L m ((a, pL [.str x0 t0, .str x1 t1, .str x2 t2, .str x3 t3, .str x4 t4, .str x5 t5, .str x6 t6]) :: l) s)
    (c0 : ClsOk 0 x0) (c1 : ClsOk 1 x1) (c2 : ClsOk 2 x2) (c3 : ClsOk 3 x3) (c4 : ClsOk 4 x4) (c5 : ClsOk 5 x5) (c6 : ClsOk 6 x6) : St w os B Z₀ Z L m ((a, R7) :: l) s :=
  H.re .here fun o hp => ⟨x0, t0, x1, t1, x2, t2, x3, t3, x4, t4, x5, t5, x6, t6, hp, c0, c1, c2, c3, c4, c5, c6⟩
theorem St.r7' {I : Addr} {p : Obj → Prop} (H : St w os B Z₀ Z L m ((I, p) :: (a, R7) :: l) s) : ∃ x0 t0 x1 t1 x2 t2 x3 t3 x4 t4 x5 t5 x6 t6, St w os B Z₀ Z L m ((I, p) :: (a, pL [.str x0 t0, .str x1 t1, .str x2 t2, .str x3 t3, .str x4 t4, .str x5 t5, .str x6 t6]) :: l) s ∧
  ClsOk 0 x0 ∧ ClsOk 1 x1 ∧ ClsOk 2 x2 ∧ ClsOk 3 x3 ∧ ClsOk 4 x4 ∧ ClsOk 5 x5 ∧ ClsOk 6 x6 := by
  obtain ⟨o, e, x0, t0, x1, t1, x2, t2, x3, t3, x4, t4, x5, t5, x6, t6, hp, c⟩ := H.own _ (List.mem_cons_of_mem _ List.mem_cons_self)
  exact ⟨x0, t0, x1, t1, x2, t2, x3, t3, x4, t4, x5, t5, x6, t6, H.mut (.there .here) s.toks H.tk ⟨rfl, fun _ _ => rfl⟩ ⟨o, e, hp⟩, c⟩
theorem St.to7' {I : Addr} {p : Obj → Prop} {x0 x1 x2 x3 x4 x5 x6 : Str} {t0 t1 t2 t3 t4 t5 t6 : Tok} (H : St w os B Z₀ Z L m ((I, p) :: (a, pL [.str x0 t0, .str x1 t1, .str x2 t2, .str x3 t3, .str x4 t4, .str x5 t5, .str x6 t6]) :: l) s)
    (c0 : ClsOk 0 x0) (c1 : ClsOk 1 x1) (c2 : ClsOk 2 x2) (c3 : ClsOk 3 x3) (c4 : ClsOk 4 x4) (c5 : ClsOk 5 x5) (c6 : ClsOk 6 x6) : St w os B Z₀ Z L m ((I, p) :: (a, R7) :: l) s :=
  H.re (.there .here) fun o hp => ⟨x0, t0, x1, t1, x2, t2, x3, t3, x4, t4, x5, t5, x6, t6, hp, c0, c1, c2, c3, c4, c5, c6⟩
/-- a text of seven such runs -/
def Skel (x : Str) : Prop := ∃ x0 x1 x2 x3 x4 x5 x6 : Str, x.cps.toList = x0.cps.toList ++ (x1.cps.toList ++ (x2.cps.toList ++ (x3.cps.toList ++ (x4.cps.toList ++ (x5.cps.toList ++ x6.cps.toList))))) ∧
  ClsOk 0 x0 ∧ ClsOk 1 x1 ∧ ClsOk 2 x2 ∧ ClsOk 3 x3 ∧ ClsOk 4 x4 ∧ ClsOk 5 x5 ∧ ClsOk 6 x6
def J7 (w : World) (os : OsState) (s : Shared) (Z : Fz) (L a : Addr) (n : Int) (tn : Tok) (s' : Shared) : Prop :=
  ∃ Z1 m, m (Str.ofString "runs") = some (.ref a) ∧ m (Str.ofString "o") = some (.int n tn) ∧ St w os (Below0 s) Z Z1 L m [(a, R7)] s'
theorem St.toJ7 {x0 x1 x2 x3 x4 x5 x6 : Str} {t0 t1 t2 t3 t4 t5 t6 : Tok} {s' : Shared} {Z1 : Fz} (H : St w os (Below0 s) Z Z1 L m [(a, pL [.str x0 t0, .str x1 t1, .str x2 t2, .str x3 t3, .str x4 t4, .str x5 t5, .str x6 t6])] s')
    (hr : m (Str.ofString "runs") = some (.ref a)) (ho : m (Str.ofString "o") = some (.int n tn))
    (c0 : ClsOk 0 x0) (c1 : ClsOk 1 x1) (c2 : ClsOk 2 x2) (c3 : ClsOk 3 x3) (c4 : ClsOk 4 x4) (c5 : ClsOk 5 x5) (c6 : ClsOk 6 x6) : J7 w os s Z L a n tn s' := ⟨Z1, m, hr, ho, H.to7 c0 c1 c2 c3 c4 c5 c6⟩
set_option maxHeartbeats 4000000 in
theorem option_spec {ob : Obj} (hA : Rm A 1) (H : Base w os Z s) (hz : Z b ob) (hb : R7 ob)
    (hP : Post w os Z s (fun Z' v => ∃ x t, v = .str x t ∧ Skel x) Q) : wpAny (model prog w) A (call (.ref 106) [.ref b, .int n tn]) Q E s := by
  obtain ⟨bx0, bt0, bx1, bt1, bx2, bt2, bx3, bt3, bx4, bt4, bx5, bt5, bx6, bt6, hb, bc0, bc1, bc2, bc3, bc4, bc5, bc6⟩ := hb
  have hz' : ∃ o, Z b o ∧ pL [.str bx0 bt0, .str bx1 bt1, .str bx2 bt2, .str bx3 bt3, .str bx4 bt4, .str bx5 bt5, .str bx6 bt6] o := ⟨_, hz, hb⟩
  refine enter (binds := [(Str.ofString "base", .ref b), (Str.ofString "o", .int n tn)]) (by have := hA.dp; omega) H rfl (by rfl) (BindsTo.of_eq rfl) (by rfl) (fun s₁ L E' H₁ => ?_)
  refine wpAny_execs_cons (joinF (fun s' => ∃ a, J7 w os s Z L a n tn s') ?_ ?_)
  · (repeat tb_rel)
    exact ⟨rfl, _, St.toJ7 (by assumption) (by tb_start) (by tb_start) bc0 bc1 bc2 bc3 bc4 bc5 bc6⟩
  rintro s₂ ⟨a, Z1, m₁, hr, ho, H₁⟩
  refine wpAny_execs_cons (joinF (J7 w os s Z L a n tn) ?_ ?_)
  · obtain ⟨x0, t0, x1, t1, x2, t2, x3, t3, x4, t4, x5, t5, x6, t6, H', c0, c1, c2, c3, c4, c5, c6⟩ := H₁.r7; (have l0 : x0.length ≤ 16777216 := Nat.le_trans c0.1 (by decide); have l1 : x1.length ≤ 16777216 := Nat.le_trans c1.1 (by decide); have l2 : x2.length ≤ 16777216 := Nat.le_trans c2.1 (by decide); have l3 : x3.length ≤ 16777216 := Nat.le_trans c3.1 (by decide))
    (repeat tb_rel)
    refine iteB (fun h9 => ?_) (fun h9 => ?_)
    · (repeat tb_rel)
      (refine' itemTany ?H ?hh ?h0 ?h1 ?h2 ?_; (case H => assumption); (case hh => tb_start); (case h0 => exact (fmod_pos (by decide)).1); (case h1 => exact (fmod_pos (by decide)).2); (case h2 => simp); rename St _ _ _ _ _ _ _ _ _ => H'; intro v9 hv9; have H' := H'.drop .here; simp only [List.mem_cons, List.not_mem_nil, or_false] at hv9)
      rcases hv9 with rfl | rfl | rfl <;> (repeat tb_rel) <;> exact ⟨rfl, St.toJ7 (by assumption) (by tb_start) (by tb_start) (by first | assumption | decide +kernel | exact ClsOk.slice (by decide +kernel)) (by first | assumption | decide +kernel | exact ClsOk.slice (by decide +kernel)) (by first | assumption | decide +kernel | exact ClsOk.slice (by decide +kernel)) (by first | assumption | decide +kernel | exact ClsOk.slice (by decide +kernel)) (by first | assumption | decide +kernel | exact ClsOk.slice (by decide +kernel)) (by first | assumption | decide +kernel | exact ClsOk.slice (by decide +kernel)) (by first | assumption | decide +kernel | exact ClsOk.slice (by decide +kernel))⟩
    · (repeat tb_rel); exact ⟨rfl, St.toJ7 (by assumption) (by tb_start) (by tb_start) (by first | assumption | decide +kernel | exact ClsOk.slice (by decide +kernel)) (by first | assumption | decide +kernel | exact ClsOk.slice (by decide +kernel)) (by first | assumption | decide +kernel | exact ClsOk.slice (by decide +kernel)) (by first | assumption | decide +kernel | exact ClsOk.slice (by decide +kernel)) (by first | assumption | decide +kernel | exact ClsOk.slice (by decide +kernel)) (by first | assumption | decide +kernel | exact ClsOk.slice (by decide +kernel)) (by first | assumption | decide +kernel | exact ClsOk.slice (by decide +kernel))⟩
  rintro _ ⟨Z1, m₁, hr, ho, H₁⟩
  refine wpAny_execs_cons (joinF (J7 w os s Z L a n tn) ?_ ?_)
  · obtain ⟨x0, t0, x1, t1, x2, t2, x3, t3, x4, t4, x5, t5, x6, t6, H', c0, c1, c2, c3, c4, c5, c6⟩ := H₁.r7; (have l0 : x0.length ≤ 16777216 := Nat.le_trans c0.1 (by decide); have l1 : x1.length ≤ 16777216 := Nat.le_trans c1.1 (by decide); have l2 : x2.length ≤ 16777216 := Nat.le_trans c2.1 (by decide); have l3 : x3.length ≤ 16777216 := Nat.le_trans c3.1 (by decide))
    repeat' (first | tb_rel | with_reducible refine iteB (fun h9 => ?_) (fun h9 => ?_))
    all_goals exact ⟨rfl, St.toJ7 (by assumption) (by tb_start) (by tb_start) (by first | assumption | decide +kernel | exact ClsOk.slice (by decide +kernel)) (by first | assumption | decide +kernel | exact ClsOk.slice (by decide +kernel)) (by first | assumption | decide +kernel | exact ClsOk.slice (by decide +kernel)) (by first | assumption | decide +kernel | exact ClsOk.slice (by decide +kernel)) (by first | assumption | decide +kernel | exact ClsOk.slice (by decide +kernel)) (by first | assumption | decide +kernel | exact ClsOk.slice (by decide +kernel)) (by first | assumption | decide +kernel | exact ClsOk.slice (by decide +kernel))⟩
  rintro _ ⟨Z1, m₁, hr, ho, H₁⟩
  refine wpAny_execs_cons (joinF (J7 w os s Z L a n tn) ?_ ?_)
  · obtain ⟨x0, t0, x1, t1, x2, t2, x3, t3, x4, t4, x5, t5, x6, t6, H', c0, c1, c2, c3, c4, c5, c6⟩ := H₁.r7; (have l0 : x0.length ≤ 16777216 := Nat.le_trans c0.1 (by decide); have l1 : x1.length ≤ 16777216 := Nat.le_trans c1.1 (by decide); have l2 : x2.length ≤ 16777216 := Nat.le_trans c2.1 (by decide); have l3 : x3.length ≤ 16777216 := Nat.le_trans c3.1 (by decide))
    repeat' (first | tb_rel | with_reducible refine iteB (fun h9 => ?_) (fun h9 => ?_))
    all_goals exact ⟨rfl, St.toJ7 (by assumption) (by tb_start) (by tb_start) (by first | assumption | decide +kernel | exact ClsOk.slice (by decide +kernel)) (by first | assumption | decide +kernel | exact ClsOk.slice (by decide +kernel)) (by first | assumption | decide +kernel | exact ClsOk.slice (by decide +kernel)) (by first | assumption | decide +kernel | exact ClsOk.slice (by decide +kernel)) (by first | assumption | decide +kernel | exact ClsOk.slice (by decide +kernel)) (by first | assumption | decide +kernel | exact ClsOk.slice (by decide +kernel)) (by first | assumption | decide +kernel | exact ClsOk.slice (by decide +kernel))⟩
  rintro _ ⟨Z1, m₁, hr, ho, H₁⟩
  -- the loop
  refine wpAny_execs_cons (joinF (J7 w os s Z L a n tn) ?_ ?_)
  · have hh := hA.hd
    refine forC H₁ hA.hd ?_
    (repeat tb_rel)
    rename St _ _ _ _ _ _ _ _ _ => H'
    obtain ⟨Z2, hle2, hz2, H'⟩ := H'.freeze .here
    obtain ⟨Z3, hle3, ⟨o3, hz3, hp3⟩, H'⟩ := H'.freeze .here
    obtain ⟨Z4, hle4, ⟨o4, hz4, hp4⟩, H'⟩ := H'.freeze .here
    obtain ⟨Z5, hle5, ⟨o5, hz5, hp5⟩, H'⟩ := H'.freeze .here
    obtain ⟨o2, hz2, hp2⟩ := hz2
    refine loop_then H' (.tup ⟨o2, hle5 _ _ (hle4 _ _ (hle3 _ _ hz2)), hp2⟩) (fun i Z' m' l' => m' (Str.ofString "runs") = some (.ref a) ∧ m' (Str.ofString "o") = some (.int n tn) ∧ l' = [(a, R7)]) ⟨hr, ho, rfl⟩ ?_ ?_
    · rintro i v Z' m' l' I p s' E' hi hv hle ⟨hr, ho, rfl⟩ H'
      have hz3 := hle _ _ (hle5 _ _ (hle4 _ _ hz3)); have hz4 := hle _ _ (hle5 _ _ hz4); have hz5 := hle _ _ hz5
      have f3 : ∃ o, Z' _ o ∧ pT _ o := ⟨_, hz3, hp3⟩
      have f4 : ∃ o, Z' _ o ∧ pT _ o := ⟨_, hz4, hp4⟩
      have f5 : ∃ o, Z' _ o ∧ pT _ o := ⟨_, hz5, hp5⟩
      obtain ⟨x0, t0, x1, t1, x2, t2, x3, t3, x4, t4, x5, t5, x6, t6, H', c0, c1, c2, c3, c4, c5, c6⟩ := H'.r7'; (have l0 : x0.length ≤ 16777216 := Nat.le_trans c0.1 (by decide); have l1 : x1.length ≤ 16777216 := Nat.le_trans c1.1 (by decide); have l2 : x2.length ≤ 16777216 := Nat.le_trans c2.1 (by decide); have l3 : x3.length ≤ 16777216 := Nat.le_trans c3.1 (by decide))
      rcases i with _ | _ | _ | i
      · cases Option.some.inj hv
        repeat' (first | tb_rel | with_reducible refine iteB (fun h9 => ?_) (fun h9 => ?_))
        all_goals (try dsimp only)
        all_goals exact ⟨_, _, _, St.to7' (by assumption) (by first | assumption | decide +kernel | exact ClsOk.slice (by decide +kernel)) (by first | assumption | decide +kernel | exact ClsOk.slice (by decide +kernel)) (by first | assumption | decide +kernel | exact ClsOk.slice (by decide +kernel)) (by first | assumption | decide +kernel | exact ClsOk.slice (by decide +kernel)) (by first | assumption | decide +kernel | exact ClsOk.slice (by decide +kernel)) (by first | assumption | decide +kernel | exact ClsOk.slice (by decide +kernel)) (by first | assumption | decide +kernel | exact ClsOk.slice (by decide +kernel)), fun _ _ e => e, by tb_start, by tb_start, rfl⟩
      · cases Option.some.inj hv
        repeat' (first | tb_rel | with_reducible refine iteB (fun h9 => ?_) (fun h9 => ?_))
        all_goals (try dsimp only)
        all_goals exact ⟨_, _, _, St.to7' (by assumption) (by first | assumption | decide +kernel | exact ClsOk.slice (by decide +kernel)) (by first | assumption | decide +kernel | exact ClsOk.slice (by decide +kernel)) (by first | assumption | decide +kernel | exact ClsOk.slice (by decide +kernel)) (by first | assumption | decide +kernel | exact ClsOk.slice (by decide +kernel)) (by first | assumption | decide +kernel | exact ClsOk.slice (by decide +kernel)) (by first | assumption | decide +kernel | exact ClsOk.slice (by decide +kernel)) (by first | assumption | decide +kernel | exact ClsOk.slice (by decide +kernel)), fun _ _ e => e, by tb_start, by tb_start, rfl⟩
      · cases Option.some.inj hv
        repeat' (first | tb_rel | with_reducible refine iteB (fun h9 => ?_) (fun h9 => ?_))
        all_goals (try dsimp only)
        all_goals exact ⟨_, _, _, St.to7' (by assumption) (by first | assumption | decide +kernel | exact ClsOk.slice (by decide +kernel)) (by first | assumption | decide +kernel | exact ClsOk.slice (by decide +kernel)) (by first | assumption | decide +kernel | exact ClsOk.slice (by decide +kernel)) (by first | assumption | decide +kernel | exact ClsOk.slice (by decide +kernel)) (by first | assumption | decide +kernel | exact ClsOk.slice (by decide +kernel)) (by first | assumption | decide +kernel | exact ClsOk.slice (by decide +kernel)) (by first | assumption | decide +kernel | exact ClsOk.slice (by decide +kernel)), fun _ _ e => e, by tb_start, by tb_start, rfl⟩
      · exact absurd hi (by simp)
    · rintro Z' m' l' s' hle ⟨hr, ho, rfl⟩ H'
      exact ⟨rfl, _, _, hr, ho, H'⟩
  rintro _ ⟨Z1, m₁, hr, ho, H₁⟩
  refine wpAny_execs_cons (joinF (J7 w os s Z L a n tn) ?_ ?_)
  · obtain ⟨x0, t0, x1, t1, x2, t2, x3, t3, x4, t4, x5, t5, x6, t6, H', c0, c1, c2, c3, c4, c5, c6⟩ := H₁.r7; (have l0 : x0.length ≤ 16777216 := Nat.le_trans c0.1 (by decide); have l1 : x1.length ≤ 16777216 := Nat.le_trans c1.1 (by decide); have l2 : x2.length ≤ 16777216 := Nat.le_trans c2.1 (by decide); have l3 : x3.length ≤ 16777216 := Nat.le_trans c3.1 (by decide))
    repeat' (first | tb_rel | with_reducible refine iteB (fun h9 => ?_) (fun h9 => ?_))
    all_goals exact ⟨rfl, St.toJ7 (by assumption) (by tb_start) (by tb_start) (by first | assumption | decide +kernel | exact ClsOk.slice (by decide +kernel)) (by first | assumption | decide +kernel | exact ClsOk.slice (by decide +kernel)) (by first | assumption | decide +kernel | exact ClsOk.slice (by decide +kernel)) (by first | assumption | decide +kernel | exact ClsOk.slice (by decide +kernel)) (by first | assumption | decide +kernel | exact ClsOk.slice (by decide +kernel)) (by first | assumption | decide +kernel | exact ClsOk.slice (by decide +kernel)) (by first | assumption | decide +kernel | exact ClsOk.slice (by decide +kernel))⟩
  rintro _ ⟨Z1, m₁, hr, ho, H₁⟩
  refine wpAny_execs_cons (joinF (J7 w os s Z L a n tn) ?_ ?_)
  · obtain ⟨x0, t0, x1, t1, x2, t2, x3, t3, x4, t4, x5, t5, x6, t6, H', c0, c1, c2, c3, c4, c5, c6⟩ := H₁.r7; (have l0 : x0.length ≤ 16777216 := Nat.le_trans c0.1 (by decide); have l1 : x1.length ≤ 16777216 := Nat.le_trans c1.1 (by decide); have l2 : x2.length ≤ 16777216 := Nat.le_trans c2.1 (by decide); have l3 : x3.length ≤ 16777216 := Nat.le_trans c3.1 (by decide))
    repeat' (first | tb_rel | with_reducible refine iteB (fun h9 => ?_) (fun h9 => ?_))
    all_goals exact ⟨rfl, St.toJ7 (by assumption) (by tb_start) (by tb_start) (by first | assumption | decide +kernel | exact ClsOk.slice (by decide +kernel)) (by first | assumption | decide +kernel | exact ClsOk.slice (by decide +kernel)) (by first | assumption | decide +kernel | exact ClsOk.slice (by decide +kernel)) (by first | assumption | decide +kernel | exact ClsOk.slice (by decide +kernel)) (by first | assumption | decide +kernel | exact ClsOk.slice (by decide +kernel)) (by first | assumption | decide +kernel | exact ClsOk.slice (by decide +kernel)) (by first | assumption | decide +kernel | exact ClsOk.slice (by decide +kernel))⟩
  rintro _ ⟨Z1, m₁, hr, ho, H₁⟩
  refine wpAny_execs_cons (joinF (J7 w os s Z L a n tn) ?_ ?_)
  · obtain ⟨x0, t0, x1, t1, x2, t2, x3, t3, x4, t4, x5, t5, x6, t6, H', c0, c1, c2, c3, c4, c5, c6⟩ := H₁.r7; (have l0 : x0.length ≤ 16777216 := Nat.le_trans c0.1 (by decide); have l1 : x1.length ≤ 16777216 := Nat.le_trans c1.1 (by decide); have l2 : x2.length ≤ 16777216 := Nat.le_trans c2.1 (by decide); have l3 : x3.length ≤ 16777216 := Nat.le_trans c3.1 (by decide))
    repeat' (first | tb_rel | with_reducible refine iteB (fun h9 => ?_) (fun h9 => ?_))
    all_goals exact ⟨rfl, St.toJ7 (by assumption) (by tb_start) (by tb_start) (by first | assumption | decide +kernel | exact ClsOk.slice (by decide +kernel)) (by first | assumption | decide +kernel | exact ClsOk.slice (by decide +kernel)) (by first | assumption | decide +kernel | exact ClsOk.slice (by decide +kernel)) (by first | assumption | decide +kernel | exact ClsOk.slice (by decide +kernel)) (by first | assumption | decide +kernel | exact ClsOk.slice (by decide +kernel)) (by first | assumption | decide +kernel | exact ClsOk.slice (by decide +kernel)) (by first | assumption | decide +kernel | exact ClsOk.slice (by decide +kernel))⟩
  rintro _ ⟨Z1, m₁, hr, ho, H₁⟩
  obtain ⟨x0, t0, x1, t1, x2, t2, x3, t3, x4, t4, x5, t5, x6, t6, H', c0, c1, c2, c3, c4, c5, c6⟩ := H₁.r7
  (repeat tb_rel)
  rename St _ _ _ _ _ _ _ _ _ => H'
  refine joinS (xs := [(x0, t0), (x1, t1), (x2, t2), (x3, t3), (x4, t4), (x5, t5), (x6, t6)]) H' (.inl List.mem_cons_self) (joinOk0 ?_) fun s' t' H' => H'.leave hP ⟨_, _, rfl, x0, x1, x2, x3, x4, x5, x6, ?_, c0, c1, c2, c3, c4, c5, c6⟩
  · have := c0.1; have := c1.1; have := c2.1; have := c3.1; have := c4.1; have := c5.1; have := c6.1
    simp [sizeLine_eq]; omega
  · rw [join0]; simp
end
/-! plain: match_skeleton -/
def widStep (f : Nat → Nat) : Tk → Nat → Nat
  | .fd c n => fun y => if y = c then n else f y
  | .ch _ => f
def wid (ts : List Tk) : Nat → Nat := ts.foldl widStep fun _ => 0
def distStep (al : Bool) (iw ow : Nat → Nat) (c : Nat) (acc : Nat) : Option Nat :=
  if iw c = ow c then some acc
  else if ow c = 0 ∨ iw c = 0 then (if al then some (acc + 4096) else none)
  else if c = 77 ∧ ((2 < iw c ∧ ow c ≤ 2) ∨ (iw c ≤ 2 ∧ 2 < ow c)) then some (acc + 256)
  else some (acc + (iw c - ow c + (ow c - iw c)))
def distB (al : Bool) (iw ow : Nat → Nat) : List Nat → Nat → Option Nat
  | [], acc => some acc
  | c :: r, acc => match distStep al iw ow c acc with
    | none => none
    | some d => distB al iw ow r d
def bestM (al : Bool) (iw : Nat → Nat) : List (List Nat) → Option (Nat × List Nat) → Option (Nat × List Nat)
  | [], b => b
  | y :: ys, b => match distB al iw (wid (tokz y)) pats 0 with
    | none => bestM al iw ys b
    | some d =>
      let b' := match b with | none => some (d, y) | some q => if d < q.1 then some (d, y) else some q
      if d = 0 then b' else bestM al iw ys b'
/-- the letter c gives way to text t, where no option has it -/
def giveWay (ys : List (List Nat)) (x : List Nat) (c : Nat) (t : List Nat) : List Nat :=
  if x.contains c && !(ys.any fun y => y.contains c) then x.flatMap fun d => if d = c then t else [d] else x
def wantedM (ys : List (List Nat)) (x : List Nat) : List Nat :=
  giveWay ys (giveWay ys (giveWay ys (giveWay ys (giveWay ys x 122 [118]) 107 [72]) 75 [104]) 97 []) 98 []
def matchM (x : List Nat) (ys : List (List Nat)) (al : Bool) : Option (List Nat) := (bestM al (wid (tokz (wantedM ys x))) ys none).map (·.2)
section
variable {prog : Program} {w : World} {os : OsState} {Z : Fz} {s : Shared} {A : Around} {E : Value → Shared → Prop} {x : List Nat} {t : Tok} {Q : Value → Shared → Prop} {oa : Addr} {ovs : List Value} {oys : List (Option (List Nat))} {al : Bool}
/-- a text or None -/
def OptV (v : Value) (y : Option (List Nat)) : Prop := match y with | none => v = .none | some y => StrV v y
def truthyO (y : Option (List Nat)) : Bool := match y with | none => false | some y => !y.isEmpty
def optsOf (oys : List (Option (List Nat))) : List (List Nat) := (oys.filter truthyO).map fun y => y.getD []
def MatchRes (x : List Nat) (oys : List (Option (List Nat))) (al : Bool) (v : Value) : Prop :=
  ∃ zs : List (List Nat), zs.Perm (optsOf oys) ∧ sortedS (zs.map S) = true ∧ OptV v (matchM x zs al)
theorem mem_optsOf {oys : List (Option (List Nat))} {i : Nat} {y : List Nat} (h : oys[i]? = some (some y)) (ht : truthyO (some y) = true) : y ∈ optsOf oys :=
  List.mem_map.mpr ⟨some y, List.mem_filter.mpr ⟨List.mem_of_getElem? h, ht⟩, rfl⟩
theorem passing_filter (pz : Nat → Bool) (N : Nat) : passing pz N 0 = (List.range N).filter pz := by simp [passing]
theorem has_one {y : List Nat} {c : Nat} {z : Str} (hz : z = S [c]) : Txt.contains (S y) z = y.contains c := by rw [hz, contains_one]; simp
theorem any_range {vs : List Value} {zs : List (List Nat)} {c : Nat} (h : vs.length = zs.length) : ((List.range vs.length).any fun i => (zs.getD i []).contains c) = zs.any fun y => y.contains c := by
  rw [h]
  have e : (List.range zs.length).map (fun i => zs.getD i []) = zs := by
    apply List.ext_getElem?
    intro i
    rw [List.getElem?_map]
    rcases Nat.lt_or_ge i zs.length with hi | hi
    · rw [List.getElem?_range hi]; simp [List.getD_eq_getElem?_getD, hi]
    · rw [List.getElem?_eq_none (by simpa using hi), List.getElem?_eq_none hi]; rfl
  conv => rhs; rw [← e]
  rw [List.any_map]; rfl
theorem giveWay_len {ys : List (List Nat)} {x : List Nat} {c : Nat} {t : List Nat} (ht : t.length ≤ 1) : (giveWay ys x c t).length ≤ x.length := by
  unfold giveWay
  split
  · rename_i h
    clear h
    induction x with
    | nil => simp
    | cons d r ih =>
      rw [List.flatMap_cons, List.length_append, List.length_cons]
      split
      · omega
      · simp only [List.length_cons, List.length_nil]; omega
  · exact Nat.le_refl _
theorem giveWay_yes {ys : List (List Nat)} {x t : List Nat} {c : Nat} {z y : Str} (h1 : Txt.contains (S x) z = true) (h2 : (!ys.any fun y => y.contains c) = true) (hz : z = S [c]) (hy : y = S t) : Txt.replace (S x) z y = S (giveWay ys x c t) := by
  rw [has_one hz] at h1
  rw [hz, hy, replace_S _ _ _ (by simp), rp_one, giveWay, h1, h2]; rfl
theorem giveWay_no2 {ys : List (List Nat)} {x t : List Nat} {c : Nat} (h2 : (!ys.any fun y => y.contains c) = false) : giveWay ys x c t = x := by
  rw [giveWay, h2, Bool.and_false]; rfl
theorem giveWay_no1 {ys : List (List Nat)} {x t : List Nat} {c : Nat} {z : Str} (h1 : Txt.contains (S x) z = false) (hz : z = S [c]) : giveWay ys x c t = x := by
  rw [has_one hz] at h1
  rw [giveWay, h1, Bool.false_and]; rfl
/-- the names that stand before the widths -/
def MM (m : Str → Option Value) (a : Addr) (al : Bool) (x : List Nat) : Prop := (∃ t, m (Str.ofString "skeleton") = some (.str (S x) t)) ∧ m (Str.ofString "options") = some (.ref a) ∧ m (Str.ofString "allow_different_fields") = some (.bool al)
theorem strsAre_All2 : ∀ {vs : List Value} {ss : List Str}, StrsAre vs ss → All2 StrV vs (ss.map fun x => x.cps.toList)
  | _, _, .nil => .nil
  | _, _, .cons x t h => .cons ⟨t, by rw [S_cps]⟩ (strsAre_All2 h)
theorem map_S_cps {ss : List Str} : (ss.map fun x => x.cps.toList).map S = ss := by
  rw [List.map_map]; conv => rhs; rw [← List.map_id ss]
  exact List.map_congr_left fun x _ => S_cps x
theorem opts_passing {oys : List (Option (List Nat))} {N : Nat} (hN : N = oys.length) : ((passing (fun i => truthyO (oys.getD i none)) N 0).map fun i => (oys.getD i none).getD []) = optsOf oys := by
  subst hN
  rw [passing_filter, optsOf]
  have e : (List.range oys.length).map (fun i => oys.getD i none) = oys := by
    apply List.ext_getElem?
    intro i
    rw [List.getElem?_map]
    rcases Nat.lt_or_ge i oys.length with hi | hi
    · rw [List.getElem?_range hi]; simp [List.getD_eq_getElem?_getD, hi]
    · rw [List.getElem?_eq_none (by simpa using hi), List.getElem?_eq_none hi]; rfl
  conv => rhs; rw [← e]
  rw [List.filter_map, List.map_map]; rfl
/-! the widths -/
def fds (ts : List Tk) : List (Nat × Nat) := ts.filterMap fun t => match t with | .fd c n => some (c, n) | .ch _ => none
def widF (ts : List Tk) : Str → Int := putF (fun i => S [((fds ts).getD i (0, 0)).1]) (fun i => (((fds ts).getD i (0, 0)).2 : Nat)) (fds ts).length
theorem S_one_eq {c d : Nat} : S [c] = S [d] ↔ c = d := ⟨fun h => by have := congrArg (fun z : Str => z.cps.toList) h; simpa using this, fun h => by rw [h]⟩
theorem putF_take (l : List (Nat × Nat)) (c : Nat) : ∀ i, i ≤ l.length → putF (fun i => S [(l.getD i (0, 0)).1]) (fun i => ((l.getD i (0, 0)).2 : Nat)) i (S [c]) = (((l.take i).foldl (fun f (p : Nat × Nat) y => if y = p.1 then p.2 else f y) (fun _ => 0)) c : Nat)
  | 0, _ => rfl
  | i + 1, h => by
    have hi : i < l.length := h
    rw [putF, putF_take l c i (by omega), List.take_add_one, List.getElem?_eq_getElem hi, List.foldl_append]
    simp only [List.getD_eq_getElem?_getD, List.getElem?_eq_getElem hi, Option.getD_some, Option.toList_some, List.foldl_cons, List.foldl_nil, S_one_eq]
    split <;> rfl
theorem widF_S (ts : List Tk) (c : Nat) : widF ts (S [c]) = (wid ts c : Nat) := by
  rw [widF, putF_take _ _ _ (Nat.le_refl _), List.take_length]
  congr 1
  have : ∀ (ts : List Tk) (f : Nat → Nat), (fds ts).foldl (fun f (p : Nat × Nat) y => if y = p.1 then p.2 else f y) f = ts.foldl widStep f := by
    intro ts
    induction ts with
    | nil => intro f; rfl
    | cons t r ih =>
      intro f
      cases t with
      | fd c n => exact ih _
      | ch x => exact ih _
  rw [this]; rfl
theorem fds_take {ts : List Tk} {i : Nat} {t : Tk} (h : ts[i]? = some t) : fds (ts.take (i + 1)) = fds (ts.take i) ++ fds [t] := by
  rw [List.take_add_one, h]; simp [fds, List.filterMap_append]
theorem fds_len (ts : List Tk) : (fds ts).length ≤ ts.length := List.length_filterMap_le ..
def PrZ (Z : Fz) (v : Value) (p : Nat × Nat) : Prop := ∃ a o t u, v = .ref a ∧ Z a o ∧ pT [.str (S [p.1]) t, .int (p.2 : Nat) u] o
theorem PrZ.mono {Z Z' : Fz} (k : ∀ b o, Z b o → Z' b o) {v : Value} {p : Nat × Nat} : PrZ Z v p → PrZ Z' v p := fun ⟨a, o, t, u, e, h, r⟩ => ⟨a, o, t, u, e, k _ _ h, r⟩
theorem PrZ.at {Z : Fz} {vs : List Value} {l : List (Nat × Nat)} (h : All2 (PrZ Z) vs l) (i : Nat) (v : Value) (hv : vs[i]? = some v) : ∃ a o t u, v = .ref a ∧ Z a o ∧ pT [.str (S [(l.getD i (0, 0)).1]) t, .int ((l.getD i (0, 0)).2 : Nat) u] o := by
  obtain ⟨p, hp, a, o, t, u, e, hz, hpt⟩ := h.get hv
  exact ⟨a, o, t, u, e, hz, by simpa [List.getD_eq_getElem?_getD, hp] using hpt⟩
theorem tokz_len (l : List Nat) : (tokz l).length ≤ 2 * l.length + 1 := by
  have h1 := (TSz.fold (l := rep2 l) (k := 0) (s := ⟨[], none, [], none, 0⟩) ⟨by simp, by simp⟩).1
  have h2 := (flFC_sz (s := (rep2 l).foldl tstep ⟨[], none, [], none, 0⟩)).1
  have h3 := rep2_len l
  show (flFC _).res.length ≤ _
  omega
/-! the distance -/
theorem distB_append (al : Bool) (iw ow : Nat → Nat) (r : List Nat) : ∀ (l : List Nat) (acc : Nat), distB al iw ow (l ++ r) acc = match distB al iw ow l acc with | none => none | some d => distB al iw ow r d
  | [], _ => rfl
  | c :: l, acc => by
    show (match distStep al iw ow c acc with | none => none | some d => distB al iw ow (l ++ r) d) = _
    cases h : distStep al iw ow c acc with
    | none => simp [distB, h]
    | some d => simp only [distB, h]; exact distB_append al iw ow r l d
theorem distB_take {al : Bool} {iw ow : Nat → Nat} {l : List Nat} {j c acc : Nat} (hc : l[j]? = some c) (h : distB al iw ow (l.take j) 0 = some acc) : distB al iw ow (l.take (j + 1)) 0 = distStep al iw ow c acc := by
  rw [List.take_add_one, hc, distB_append, h]
  show distB al iw ow [c] acc = _
  unfold distB
  cases distStep al iw ow c acc <;> rfl
theorem distB_stop {al : Bool} {iw ow : Nat → Nat} {l : List Nat} {j : Nat} (h : distB al iw ow (l.take j) 0 = none) : distB al iw ow l 0 = none := by
  have := distB_append al iw ow (l.drop j) (l.take j) 0
  rw [List.take_append_drop, h] at this; exact this
def BestMV : Option (Nat × List Nat) → Value → Value → Prop
  | none, vb, vd => vb = .none ∧ vd = .none
  | some q, vb, vd => q.2 ≠ [] ∧ q.2.length ≤ 1000 ∧ ∃ t u, vb = .str (S q.2) t ∧ vd = .int (q.1 : Nat) u
def MM2 (m : Str → Option Value) (d : Addr) (al : Bool) (vb vd : Value) : Prop :=
  m (Str.ofString "input_widths") = some (.ref d) ∧ m (Str.ofString "allow_different_fields") = some (.bool al) ∧ m (Str.ofString "best_skeleton") = some vb ∧ m (Str.ofString "best_distance") = some vd
theorem opts_ne {oys : List (Option (List Nat))} {y : List Nat} (h : y ∈ optsOf oys) : y ≠ [] := by
  obtain ⟨z, hz, rfl⟩ := List.mem_map.mp h
  have := (List.mem_filter.mp hz).2
  cases z with
  | none => exact Bool.noConfusion this
  | some z => intro e; simp only [Option.getD_some] at e; subst e; exact Bool.noConfusion this
theorem bestM_cons (al : Bool) (iw : Nat → Nat) (y : List Nat) (ys : List (List Nat)) (b : Option (Nat × List Nat)) : bestM al iw (y :: ys) b = match distB al iw (wid (tokz y)) pats 0 with
    | none => bestM al iw ys b
    | some d => if d = 0 then (match b with | none => some (d, y) | some q => if d < q.1 then some (d, y) else some q) else bestM al iw ys (match b with | none => some (d, y) | some q => if d < q.1 then some (d, y) else some q) := rfl
theorem isM {c : Nat} : (S [c] == Str.ofString "M") = decide (c = 77) := by
  have e : Str.ofString "M" = S [77] := by decide +kernel
  rw [e]
  by_cases h : c = 77
  · subst h; simp
  · have : ¬ S [c] = S [77] := fun q => h (S_one_eq.mp q)
    simp [h, this]
section
variable {iw ow : Nat → Nat} {c acc : Nat}
theorem distStep_eq (h : iw c = ow c) : distStep al iw ow c acc = some acc := by unfold distStep; rw [if_pos h]
theorem distStep_0t (h : iw c ≠ ow c) (h0 : ow c = 0 ∨ iw c = 0) (ha : al = true) : distStep al iw ow c acc = some (acc + 4096) := by unfold distStep; rw [if_neg h, if_pos h0, if_pos ha]
theorem distStep_0f (h : iw c ≠ ow c) (h0 : ow c = 0 ∨ iw c = 0) (ha : al = false) : distStep al iw ow c acc = none := by unfold distStep; rw [if_neg h, if_pos h0, if_neg (by rw [ha]; decide)]
theorem distStep_M (h : iw c ≠ ow c) (h0 : ¬(ow c = 0 ∨ iw c = 0)) (hM : c = 77) (h2 : (2 < iw c ∧ ow c ≤ 2) ∨ (iw c ≤ 2 ∧ 2 < ow c)) : distStep al iw ow c acc = some (acc + 256) := by
  unfold distStep; rw [if_neg h, if_neg h0, if_pos ⟨hM, h2⟩]
theorem distStep_d (h : iw c ≠ ow c) (h0 : ¬(ow c = 0 ∨ iw c = 0)) (h2 : ¬(c = 77 ∧ ((2 < iw c ∧ ow c ≤ 2) ∨ (iw c ≤ 2 ∧ 2 < ow c)))) : distStep al iw ow c acc = some (acc + (iw c - ow c + (ow c - iw c))) := by
  unfold distStep; rw [if_neg h, if_neg h0, if_neg h2]
end
set_option maxHeartbeats 1600000 in
theorem match_spec (hA : Rm A 4) (H : Base w os Z s) (hx : x.length ≤ 1000) (ho : ∃ o, Z oa o ∧ pL ovs o) (hov : All2 OptV ovs oys) (hn : oys.length ≤ 60) (hol : ∀ y ∈ optsOf oys, y.length ≤ 1000)
    (hP : Post w os Z s (fun _ v => MatchRes x oys al v) Q) : wpAny (model prog w) A (call (.ref 71) [.str (S x) t, .ref oa, .bool al]) Q E s := by
  refine enter (binds := [(Str.ofString "skeleton", .str (S x) t), (Str.ofString "options", .ref oa), (Str.ofString "allow_different_fields", .bool al)]) (by have := hA.dp; omega) H rfl (by rfl) (kp_binds (H.wd.in H.frz) (fun _ => rfl)) (by rfl) (fun s₁ L E' H₁ => ?_)
  refine wpAny_execs_cons ?_
  (repeat tb_rel)
  rename St _ _ _ _ _ _ _ _ _ => H3
  refine sortedG H3 (by exact hA.hd) (by have := hA.dp; show A.depth + 1 < _; omega) rfl rfl (P := 68) (c := 70) (by kernel_rfl) (.tail _ (.tail _ List.mem_cons_self)) ?_
  (repeat tb_rel)
  rename St _ _ _ _ _ _ _ _ _ => H4
  refine ⟨Z, _, _, _, _, fun i => truthyO (oys.getD i none), fun i v => ∃ t, v = .str (S ((oys.getD i none).getD [])) t, .list ho, H4, ?_, ?_, fun i => S ((oys.getD i none).getD []), fun i y h => h, ?_, ?_⟩
  · intro A' E9 i v C code s9 m9 hA' hi hn9 hm9 hz9
    obtain ⟨oy, hoy, hv⟩ := hov.get hi
    have e : oys.getD i none = oy := by simp [List.getD_eq_getElem?_getD, hoy]
    dsimp only
    rw [e]
    refine wpAny_tests_one (wpAny_isTrue_value (wpAny_Name (wpAny_loadName_local rfl rfl hn9 hm9 ?_) (by decide)))
    cases oy with
    | none =>
      obtain rfl : v = .none := hv
      refine truthN ?_
      exact ⟨rfl, _, _, rfl, fun _ _ e => e⟩
    | some y =>
      obtain ⟨ty, rfl⟩ : StrV v y := hv
      have hyl : y.length ≤ 1000 := by
        rcases y with _ | ⟨c, r⟩
        · exact Nat.zero_le _
        · exact hol _ (mem_optsOf hoy rfl)
      refine P.truthy_str (by rw [S_len]; omega) ?_
      refine ⟨?_, _, _, rfl, fun _ _ e => e⟩
      rw [S_len]
      rcases y with _ | ⟨c, r⟩
      · rfl
      · have h9 : ((c :: r).length : Int) ≠ 0 := by simp; omega
        simp only [bne_iff_ne, ne_eq, h9, not_false_eq_true, truthyO, List.isEmpty_cons, Bool.not_false, decide_true]
  · intro A' E9 i v C code s9 m9 hA' hi hpz hn9 hm9 hz9
    obtain ⟨oy, hoy, hv⟩ := hov.get hi
    have e : oys.getD i none = oy := by simp [List.getD_eq_getElem?_getD, hoy]
    dsimp only at hpz ⊢
    rw [e] at hpz ⊢
    refine wpAny_Name (wpAny_loadName_local rfl rfl hn9 hm9 ?_) (by decide)
    cases oy with
    | none => exact Bool.noConfusion hpz
    | some y =>
      obtain ⟨ty, rfl⟩ : StrV v y := hv
      exact ⟨⟨ty, rfl⟩, _, _, rfl, fun _ _ e => e⟩
  · have hl9 := hov.len
    have : (passing (fun i => truthyO (oys.getD i none)) ovs.length 0).length ≤ ovs.length := by
      rw [passing_filter]
      exact Nat.le_trans (List.length_filter_le _ _) (by simp)
    omega
  · intro s' Z' a yvs ss hle hst hperm hsort H5
    obtain ⟨zs, hvz, hzp, hzsort⟩ : ∃ zs : List (List Nat), All2 StrV yvs zs ∧ zs.Perm (optsOf oys) ∧ sortedS (zs.map S) = true := by
      refine ⟨ss.map fun x => x.cps.toList, strsAre_All2 hst, ?_, by rw [map_S_cps]; exact hsort⟩
      rw [← opts_passing hov.len]
      have := hperm.map fun x : Str => x.cps.toList
      rw [List.map_map] at this
      exact this
    obtain ⟨Z1, hle1, ⟨o1, hz1, hp1⟩, H6⟩ := H5.freeze .here
    have hoZ : ∃ o, Z1 a o ∧ pL yvs o := ⟨o1, hz1, hp1⟩
    have hleZ : ∀ b o, Z1 b o → Z1 b o := fun _ _ e => e
    tb_rel
    clear H5
--BEGIN5
    have hx0 : x.length ≤ 1000 := hx
    refine wpAny_execs_cons (joinF (fun s' => ∃ Z' m', (∀ b o, Z1 b o → Z' b o) ∧ MM m' a al (giveWay zs x 122 [118]) ∧ St w os (Below0 s) Z Z' L m' [] s') ?_ ?_)
    · have hx9 : (S x).length ≤ 16777216 := by rw [S_len]; omega
      (repeat' (first | tb_rel | ((with_reducible refine iteB (fun h9 => ?_) (fun h9 => ?_)) <;> (try (exfalso; first | exact absurd h9 (by decide) | (exact Bool.noConfusion (h9.symm.trans (by assumption) : true = false)) | (exact Bool.noConfusion (h9.symm.trans (by assumption) : false = true)) | (simp at h9; done) | (simp [Str.length] at h9; done))))))
      · rename St _ _ _ _ _ _ _ _ _ => H7
        refine anyG H7 (by exact hA.hd) (by have := hA.dp; show A.depth + 1 < _; omega) rfl rfl (P := 68) (c := 70) (by kernel_rfl) (.tail _ (.tail _ List.mem_cons_self)) ?_
        (repeat tb_rel)
        rename St _ _ _ _ _ _ _ _ _ => H8
        refine ⟨_, _, _, _, _, fun i => (zs.getD i []).contains 122, .list hoZ, H8, ?_, ?_⟩
        · intro A' E9 i v C code s9 m9 hA' hi hn9 hm9 hz9
          obtain ⟨y, hy, ty, rfl⟩ := hvz.get hi
          have e : zs.getD i [] = y := by simp [List.getD_eq_getElem?_getD, hy]
          refine wpAny_Compare1 (wpAny_Constant_str ?_)
          refine wpAny_Name (wpAny_loadName_local rfl rfl hn9 hm9 ?_) (by decide)
          refine inS ?_
          dsimp only
          rw [e]
          exact ⟨congrArg Value.bool (has_one (by decide +kernel)), _, _, rfl, fun _ _ e => e⟩
        · intro s5 Z5 hle5 H9
          rw [any_range hvz.len]
          (repeat' (first | tb_rel | ((with_reducible refine iteB (fun h9 => ?_) (fun h9 => ?_)) <;> (try (exfalso; first | exact absurd h9 (by decide) | (exact Bool.noConfusion (h9.symm.trans (by assumption) : true = false)) | (exact Bool.noConfusion (h9.symm.trans (by assumption) : false = true)) | (simp at h9; done) | (simp [Str.length] at h9; done))))))
          · rename St _ _ _ _ _ _ _ _ _ => H10
            have e9 := giveWay_yes (ys := zs) (x := x) (c := 122) (t := [118]) (z := Str.ofString "z") (y := Str.ofString "v") (by assumption) (by assumption) (by decide +kernel) (by decide +kernel)
            refine ⟨rfl, Z5, _, fun b o e => hle5 _ _ (hleZ _ _ e), ⟨?_, ?_, ?_⟩, H10⟩
            · rw [← e9]; exact ⟨_, by tb_start⟩
            · tb_start
            · tb_start
          · rename St _ _ _ _ _ _ _ _ _ => H10
            have e9 := giveWay_no2 (ys := zs) (x := x) (c := 122) (t := [118]) (by assumption)
            refine ⟨rfl, Z5, _, fun b o e => hle5 _ _ (hleZ _ _ e), ⟨?_, ?_, ?_⟩, H10⟩
            · rw [e9]; exact ⟨_, by tb_start⟩
            · tb_start
            · tb_start
      · rename St _ _ _ _ _ _ _ _ _ => H10
        have e9 := giveWay_no1 (ys := zs) (x := x) (c := 122) (t := [118]) (z := Str.ofString "z") (by assumption) (by decide +kernel)
        refine ⟨rfl, _, _, hleZ, ⟨?_, ?_, ?_⟩, H10⟩
        · rw [e9]; exact ⟨_, by tb_start⟩
        · tb_start
        · tb_start
    clear hoZ hleZ
    rintro s6 ⟨Z6, m6, hleZ, ⟨⟨t6, k1⟩, k2, k3⟩, H6⟩
    have hoZ : ∃ o, Z6 a o ∧ pL yvs o := ⟨o1, hleZ _ _ hz1, hp1⟩
    have hx1 : (giveWay zs x 122 [118]).length ≤ 1000 := Nat.le_trans (giveWay_len (by decide)) hx0
    refine wpAny_execs_cons (joinF (fun s' => ∃ Z' m', (∀ b o, Z1 b o → Z' b o) ∧ MM m' a al (giveWay zs (giveWay zs x 122 [118]) 107 [72]) ∧ St w os (Below0 s) Z Z' L m' [] s') ?_ ?_)
    · have hx9 : (S (giveWay zs x 122 [118])).length ≤ 16777216 := by rw [S_len]; omega
      (repeat' (first | tb_rel | ((with_reducible refine iteB (fun h9 => ?_) (fun h9 => ?_)) <;> (try (exfalso; first | exact absurd h9 (by decide) | (exact Bool.noConfusion (h9.symm.trans (by assumption) : true = false)) | (exact Bool.noConfusion (h9.symm.trans (by assumption) : false = true)) | (simp at h9; done) | (simp [Str.length] at h9; done))))))
      · rename St _ _ _ _ _ _ _ _ _ => H7
        refine anyG H7 (by exact hA.hd) (by have := hA.dp; show A.depth + 1 < _; omega) rfl rfl (P := 68) (c := 70) (by kernel_rfl) (.tail _ (.tail _ List.mem_cons_self)) ?_
        (repeat tb_rel)
        rename St _ _ _ _ _ _ _ _ _ => H8
        refine ⟨_, _, _, _, _, fun i => (zs.getD i []).contains 107, .list hoZ, H8, ?_, ?_⟩
        · intro A' E9 i v C code s9 m9 hA' hi hn9 hm9 hz9
          obtain ⟨y, hy, ty, rfl⟩ := hvz.get hi
          have e : zs.getD i [] = y := by simp [List.getD_eq_getElem?_getD, hy]
          refine wpAny_Compare1 (wpAny_Constant_str ?_)
          refine wpAny_Name (wpAny_loadName_local rfl rfl hn9 hm9 ?_) (by decide)
          refine inS ?_
          dsimp only
          rw [e]
          exact ⟨congrArg Value.bool (has_one (by decide +kernel)), _, _, rfl, fun _ _ e => e⟩
        · intro s5 Z5 hle5 H9
          rw [any_range hvz.len]
          (repeat' (first | tb_rel | ((with_reducible refine iteB (fun h9 => ?_) (fun h9 => ?_)) <;> (try (exfalso; first | exact absurd h9 (by decide) | (exact Bool.noConfusion (h9.symm.trans (by assumption) : true = false)) | (exact Bool.noConfusion (h9.symm.trans (by assumption) : false = true)) | (simp at h9; done) | (simp [Str.length] at h9; done))))))
          · rename St _ _ _ _ _ _ _ _ _ => H10
            have e9 := giveWay_yes (ys := zs) (x := (giveWay zs x 122 [118])) (c := 107) (t := [72]) (z := Str.ofString "k") (y := Str.ofString "H") (by assumption) (by assumption) (by decide +kernel) (by decide +kernel)
            refine ⟨rfl, Z5, _, fun b o e => hle5 _ _ (hleZ _ _ e), ⟨?_, ?_, ?_⟩, H10⟩
            · rw [← e9]; exact ⟨_, by tb_start⟩
            · tb_start
            · tb_start
          · rename St _ _ _ _ _ _ _ _ _ => H10
            have e9 := giveWay_no2 (ys := zs) (x := (giveWay zs x 122 [118])) (c := 107) (t := [72]) (by assumption)
            refine ⟨rfl, Z5, _, fun b o e => hle5 _ _ (hleZ _ _ e), ⟨?_, ?_, ?_⟩, H10⟩
            · rw [e9]; exact ⟨_, by tb_start⟩
            · tb_start
            · tb_start
      · rename St _ _ _ _ _ _ _ _ _ => H10
        have e9 := giveWay_no1 (ys := zs) (x := (giveWay zs x 122 [118])) (c := 107) (t := [72]) (z := Str.ofString "k") (by assumption) (by decide +kernel)
        refine ⟨rfl, _, _, hleZ, ⟨?_, ?_, ?_⟩, H10⟩
        · rw [e9]; exact ⟨_, by tb_start⟩
        · tb_start
        · tb_start
    clear hoZ hleZ
    rintro s6 ⟨Z6, m6, hleZ, ⟨⟨t6, k1⟩, k2, k3⟩, H6⟩
    have hoZ : ∃ o, Z6 a o ∧ pL yvs o := ⟨o1, hleZ _ _ hz1, hp1⟩
    have hx2 : (giveWay zs (giveWay zs x 122 [118]) 107 [72]).length ≤ 1000 := Nat.le_trans (giveWay_len (by decide)) hx1
    refine wpAny_execs_cons (joinF (fun s' => ∃ Z' m', (∀ b o, Z1 b o → Z' b o) ∧ MM m' a al (giveWay zs (giveWay zs (giveWay zs x 122 [118]) 107 [72]) 75 [104]) ∧ St w os (Below0 s) Z Z' L m' [] s') ?_ ?_)
    · have hx9 : (S (giveWay zs (giveWay zs x 122 [118]) 107 [72])).length ≤ 16777216 := by rw [S_len]; omega
      (repeat' (first | tb_rel | ((with_reducible refine iteB (fun h9 => ?_) (fun h9 => ?_)) <;> (try (exfalso; first | exact absurd h9 (by decide) | (exact Bool.noConfusion (h9.symm.trans (by assumption) : true = false)) | (exact Bool.noConfusion (h9.symm.trans (by assumption) : false = true)) | (simp at h9; done) | (simp [Str.length] at h9; done))))))
      · rename St _ _ _ _ _ _ _ _ _ => H7
        refine anyG H7 (by exact hA.hd) (by have := hA.dp; show A.depth + 1 < _; omega) rfl rfl (P := 68) (c := 70) (by kernel_rfl) (.tail _ (.tail _ List.mem_cons_self)) ?_
        (repeat tb_rel)
        rename St _ _ _ _ _ _ _ _ _ => H8
        refine ⟨_, _, _, _, _, fun i => (zs.getD i []).contains 75, .list hoZ, H8, ?_, ?_⟩
        · intro A' E9 i v C code s9 m9 hA' hi hn9 hm9 hz9
          obtain ⟨y, hy, ty, rfl⟩ := hvz.get hi
          have e : zs.getD i [] = y := by simp [List.getD_eq_getElem?_getD, hy]
          refine wpAny_Compare1 (wpAny_Constant_str ?_)
          refine wpAny_Name (wpAny_loadName_local rfl rfl hn9 hm9 ?_) (by decide)
          refine inS ?_
          dsimp only
          rw [e]
          exact ⟨congrArg Value.bool (has_one (by decide +kernel)), _, _, rfl, fun _ _ e => e⟩
        · intro s5 Z5 hle5 H9
          rw [any_range hvz.len]
          (repeat' (first | tb_rel | ((with_reducible refine iteB (fun h9 => ?_) (fun h9 => ?_)) <;> (try (exfalso; first | exact absurd h9 (by decide) | (exact Bool.noConfusion (h9.symm.trans (by assumption) : true = false)) | (exact Bool.noConfusion (h9.symm.trans (by assumption) : false = true)) | (simp at h9; done) | (simp [Str.length] at h9; done))))))
          · rename St _ _ _ _ _ _ _ _ _ => H10
            have e9 := giveWay_yes (ys := zs) (x := (giveWay zs (giveWay zs x 122 [118]) 107 [72])) (c := 75) (t := [104]) (z := Str.ofString "K") (y := Str.ofString "h") (by assumption) (by assumption) (by decide +kernel) (by decide +kernel)
            refine ⟨rfl, Z5, _, fun b o e => hle5 _ _ (hleZ _ _ e), ⟨?_, ?_, ?_⟩, H10⟩
            · rw [← e9]; exact ⟨_, by tb_start⟩
            · tb_start
            · tb_start
          · rename St _ _ _ _ _ _ _ _ _ => H10
            have e9 := giveWay_no2 (ys := zs) (x := (giveWay zs (giveWay zs x 122 [118]) 107 [72])) (c := 75) (t := [104]) (by assumption)
            refine ⟨rfl, Z5, _, fun b o e => hle5 _ _ (hleZ _ _ e), ⟨?_, ?_, ?_⟩, H10⟩
            · rw [e9]; exact ⟨_, by tb_start⟩
            · tb_start
            · tb_start
      · rename St _ _ _ _ _ _ _ _ _ => H10
        have e9 := giveWay_no1 (ys := zs) (x := (giveWay zs (giveWay zs x 122 [118]) 107 [72])) (c := 75) (t := [104]) (z := Str.ofString "K") (by assumption) (by decide +kernel)
        refine ⟨rfl, _, _, hleZ, ⟨?_, ?_, ?_⟩, H10⟩
        · rw [e9]; exact ⟨_, by tb_start⟩
        · tb_start
        · tb_start
    clear hoZ hleZ
    rintro s6 ⟨Z6, m6, hleZ, ⟨⟨t6, k1⟩, k2, k3⟩, H6⟩
    have hoZ : ∃ o, Z6 a o ∧ pL yvs o := ⟨o1, hleZ _ _ hz1, hp1⟩
    have hx3 : (giveWay zs (giveWay zs (giveWay zs x 122 [118]) 107 [72]) 75 [104]).length ≤ 1000 := Nat.le_trans (giveWay_len (by decide)) hx2
    refine wpAny_execs_cons (joinF (fun s' => ∃ Z' m', (∀ b o, Z1 b o → Z' b o) ∧ MM m' a al (giveWay zs (giveWay zs (giveWay zs (giveWay zs x 122 [118]) 107 [72]) 75 [104]) 97 []) ∧ St w os (Below0 s) Z Z' L m' [] s') ?_ ?_)
    · have hx9 : (S (giveWay zs (giveWay zs (giveWay zs x 122 [118]) 107 [72]) 75 [104])).length ≤ 16777216 := by rw [S_len]; omega
      (repeat' (first | tb_rel | ((with_reducible refine iteB (fun h9 => ?_) (fun h9 => ?_)) <;> (try (exfalso; first | exact absurd h9 (by decide) | (exact Bool.noConfusion (h9.symm.trans (by assumption) : true = false)) | (exact Bool.noConfusion (h9.symm.trans (by assumption) : false = true)) | (simp at h9; done) | (simp [Str.length] at h9; done))))))
      · rename St _ _ _ _ _ _ _ _ _ => H7
        refine anyG H7 (by exact hA.hd) (by have := hA.dp; show A.depth + 1 < _; omega) rfl rfl (P := 68) (c := 70) (by kernel_rfl) (.tail _ (.tail _ List.mem_cons_self)) ?_
        (repeat tb_rel)
        rename St _ _ _ _ _ _ _ _ _ => H8
        refine ⟨_, _, _, _, _, fun i => (zs.getD i []).contains 97, .list hoZ, H8, ?_, ?_⟩
        · intro A' E9 i v C code s9 m9 hA' hi hn9 hm9 hz9
          obtain ⟨y, hy, ty, rfl⟩ := hvz.get hi
          have e : zs.getD i [] = y := by simp [List.getD_eq_getElem?_getD, hy]
          refine wpAny_Compare1 (wpAny_Constant_str ?_)
          refine wpAny_Name (wpAny_loadName_local rfl rfl hn9 hm9 ?_) (by decide)
          refine inS ?_
          dsimp only
          rw [e]
          exact ⟨congrArg Value.bool (has_one (by decide +kernel)), _, _, rfl, fun _ _ e => e⟩
        · intro s5 Z5 hle5 H9
          rw [any_range hvz.len]
          (repeat' (first | tb_rel | ((with_reducible refine iteB (fun h9 => ?_) (fun h9 => ?_)) <;> (try (exfalso; first | exact absurd h9 (by decide) | (exact Bool.noConfusion (h9.symm.trans (by assumption) : true = false)) | (exact Bool.noConfusion (h9.symm.trans (by assumption) : false = true)) | (simp at h9; done) | (simp [Str.length] at h9; done))))))
          · rename St _ _ _ _ _ _ _ _ _ => H10
            have e9 := giveWay_yes (ys := zs) (x := (giveWay zs (giveWay zs (giveWay zs x 122 [118]) 107 [72]) 75 [104])) (c := 97) (t := []) (z := Str.ofString "a") (y := Str.ofString "") (by assumption) (by assumption) (by decide +kernel) (by decide +kernel)
            refine ⟨rfl, Z5, _, fun b o e => hle5 _ _ (hleZ _ _ e), ⟨?_, ?_, ?_⟩, H10⟩
            · rw [← e9]; exact ⟨_, by tb_start⟩
            · tb_start
            · tb_start
          · rename St _ _ _ _ _ _ _ _ _ => H10
            have e9 := giveWay_no2 (ys := zs) (x := (giveWay zs (giveWay zs (giveWay zs x 122 [118]) 107 [72]) 75 [104])) (c := 97) (t := []) (by assumption)
            refine ⟨rfl, Z5, _, fun b o e => hle5 _ _ (hleZ _ _ e), ⟨?_, ?_, ?_⟩, H10⟩
            · rw [e9]; exact ⟨_, by tb_start⟩
            · tb_start
            · tb_start
      · rename St _ _ _ _ _ _ _ _ _ => H10
        have e9 := giveWay_no1 (ys := zs) (x := (giveWay zs (giveWay zs (giveWay zs x 122 [118]) 107 [72]) 75 [104])) (c := 97) (t := []) (z := Str.ofString "a") (by assumption) (by decide +kernel)
        refine ⟨rfl, _, _, hleZ, ⟨?_, ?_, ?_⟩, H10⟩
        · rw [e9]; exact ⟨_, by tb_start⟩
        · tb_start
        · tb_start
    clear hoZ hleZ
    rintro s6 ⟨Z6, m6, hleZ, ⟨⟨t6, k1⟩, k2, k3⟩, H6⟩
    have hoZ : ∃ o, Z6 a o ∧ pL yvs o := ⟨o1, hleZ _ _ hz1, hp1⟩
    have hx4 : (giveWay zs (giveWay zs (giveWay zs (giveWay zs x 122 [118]) 107 [72]) 75 [104]) 97 []).length ≤ 1000 := Nat.le_trans (giveWay_len (by decide)) hx3
    refine wpAny_execs_cons (joinF (fun s' => ∃ Z' m', (∀ b o, Z1 b o → Z' b o) ∧ MM m' a al (giveWay zs (giveWay zs (giveWay zs (giveWay zs (giveWay zs x 122 [118]) 107 [72]) 75 [104]) 97 []) 98 []) ∧ St w os (Below0 s) Z Z' L m' [] s') ?_ ?_)
    · have hx9 : (S (giveWay zs (giveWay zs (giveWay zs (giveWay zs x 122 [118]) 107 [72]) 75 [104]) 97 [])).length ≤ 16777216 := by rw [S_len]; omega
      (repeat' (first | tb_rel | ((with_reducible refine iteB (fun h9 => ?_) (fun h9 => ?_)) <;> (try (exfalso; first | exact absurd h9 (by decide) | (exact Bool.noConfusion (h9.symm.trans (by assumption) : true = false)) | (exact Bool.noConfusion (h9.symm.trans (by assumption) : false = true)) | (simp at h9; done) | (simp [Str.length] at h9; done))))))
      · rename St _ _ _ _ _ _ _ _ _ => H7
        refine anyG H7 (by exact hA.hd) (by have := hA.dp; show A.depth + 1 < _; omega) rfl rfl (P := 68) (c := 70) (by kernel_rfl) (.tail _ (.tail _ List.mem_cons_self)) ?_
        (repeat tb_rel)
        rename St _ _ _ _ _ _ _ _ _ => H8
        refine ⟨_, _, _, _, _, fun i => (zs.getD i []).contains 98, .list hoZ, H8, ?_, ?_⟩
        · intro A' E9 i v C code s9 m9 hA' hi hn9 hm9 hz9
          obtain ⟨y, hy, ty, rfl⟩ := hvz.get hi
          have e : zs.getD i [] = y := by simp [List.getD_eq_getElem?_getD, hy]
          refine wpAny_Compare1 (wpAny_Constant_str ?_)
          refine wpAny_Name (wpAny_loadName_local rfl rfl hn9 hm9 ?_) (by decide)
          refine inS ?_
          dsimp only
          rw [e]
          exact ⟨congrArg Value.bool (has_one (by decide +kernel)), _, _, rfl, fun _ _ e => e⟩
        · intro s5 Z5 hle5 H9
          rw [any_range hvz.len]
          (repeat' (first | tb_rel | ((with_reducible refine iteB (fun h9 => ?_) (fun h9 => ?_)) <;> (try (exfalso; first | exact absurd h9 (by decide) | (exact Bool.noConfusion (h9.symm.trans (by assumption) : true = false)) | (exact Bool.noConfusion (h9.symm.trans (by assumption) : false = true)) | (simp at h9; done) | (simp [Str.length] at h9; done))))))
          · rename St _ _ _ _ _ _ _ _ _ => H10
            have e9 := giveWay_yes (ys := zs) (x := (giveWay zs (giveWay zs (giveWay zs (giveWay zs x 122 [118]) 107 [72]) 75 [104]) 97 [])) (c := 98) (t := []) (z := Str.ofString "b") (y := Str.ofString "") (by assumption) (by assumption) (by decide +kernel) (by decide +kernel)
            refine ⟨rfl, Z5, _, fun b o e => hle5 _ _ (hleZ _ _ e), ⟨?_, ?_, ?_⟩, H10⟩
            · rw [← e9]; exact ⟨_, by tb_start⟩
            · tb_start
            · tb_start
          · rename St _ _ _ _ _ _ _ _ _ => H10
            have e9 := giveWay_no2 (ys := zs) (x := (giveWay zs (giveWay zs (giveWay zs (giveWay zs x 122 [118]) 107 [72]) 75 [104]) 97 [])) (c := 98) (t := []) (by assumption)
            refine ⟨rfl, Z5, _, fun b o e => hle5 _ _ (hleZ _ _ e), ⟨?_, ?_, ?_⟩, H10⟩
            · rw [e9]; exact ⟨_, by tb_start⟩
            · tb_start
            · tb_start
      · rename St _ _ _ _ _ _ _ _ _ => H10
        have e9 := giveWay_no1 (ys := zs) (x := (giveWay zs (giveWay zs (giveWay zs (giveWay zs x 122 [118]) 107 [72]) 75 [104]) 97 [])) (c := 98) (t := []) (z := Str.ofString "b") (by assumption) (by decide +kernel)
        refine ⟨rfl, _, _, hleZ, ⟨?_, ?_, ?_⟩, H10⟩
        · rw [e9]; exact ⟨_, by tb_start⟩
        · tb_start
        · tb_start
    clear hoZ hleZ
    rintro s6 ⟨Z6, m6, hleZ, ⟨⟨t6, k1⟩, k2, k3⟩, H6⟩
    have hoZ : ∃ o, Z6 a o ∧ pL yvs o := ⟨o1, hleZ _ _ hz1, hp1⟩
--END5
--TAIL
    have hx5 := Nat.le_trans (giveWay_len (ys := zs) (c := 98) (t := []) (by decide)) hx4
    have hxw : wantedM zs x = giveWay zs (giveWay zs (giveWay zs (giveWay zs (giveWay zs x 122 [118]) 107 [72]) 75 [104]) 97 []) 98 [] := rfl
    rw [← hxw] at hx5 k1
    generalize hX : wantedM zs x = X at hx5 k1
    clear hx1 hx2 hx3 hx4
    refine wpAny_execs_cons ?_
    refine wpAny_Assign_Name ?_
    refine callT1 H6.toBase rfl (by boot_fast) ?_
    refine compE (by assumption) hA.hd (cl := []) rfl ?_
    (repeat tb_rel)
    rename St _ _ _ _ _ _ _ _ _ => H7
    refine tok_spec (by exact hA.deeper) H7.toBase (by assumption) (H7.back fun s3 Z3 v3 H3 hle3 hr => ?_)
    obtain ⟨ta, to, tvs, rfl, hto, hptvs, htv⟩ := hr
    have htl := tokz_len X
    have htvl := htv.len
    refine ⟨_, comp_then H3 (.list ⟨to, hto, hptvs⟩) (by rw [sizeLine_eq]; omega) (fun i Z2 vs l' => l' = [] ∧ All2 (PrZ Z2) vs (fds ((tokz X).take i))) ⟨rfl, .nil⟩ ?_ ?_⟩
    · rintro i v Z2 vs l' C I' p' D mC s' E' hi hv' hle ⟨rfl, hvs⟩ H'
      obtain ⟨tk, htk, hz⟩ := htv.get hv'
      replace hz := hz.mono hle
      have ht' := fds_take htk
      obtain ⟨a, o, rfl, hza, hpa⟩ := id hz
      cases tk with
      | fd c n' =>
        obtain ⟨t1, b, hp1, ob, t2, t3, hzb, hp2⟩ := hpa
        have f1 : ∃ o, Z2 a o ∧ pT _ o := ⟨_, hza, hp1⟩
        (repeat tb_rel)
        refine wpAny_tests_one ?_
        (repeat' (first | tb_rel | ((with_reducible refine iteB (fun h9 => ?_) (fun h9 => ?_)) <;> (try (exfalso; first | exact absurd h9 (by decide) | (exact Bool.noConfusion (h9.symm.trans (by assumption) : true = false)) | (exact Bool.noConfusion (h9.symm.trans (by assumption) : false = true)) | (simp at h9; done) | (simp [Str.length] at h9; done))))))
        rename St _ _ _ _ _ _ _ _ _ => H9
        refine ⟨_, _, _, H9, fun _ _ e => e, rfl, ?_⟩
        rw [ht']
        exact hvs.append (.cons ⟨_, ob, t2, t3, rfl, hzb, hp2⟩ .nil)
      | ch y =>
        obtain ⟨t1, t2, hp1⟩ := hpa
        have f1 : ∃ o, Z2 a o ∧ pT _ o := ⟨_, hza, hp1⟩
        (repeat tb_rel)
        refine wpAny_tests_one ?_
        (repeat' (first | tb_rel | ((with_reducible refine iteB (fun h9 => ?_) (fun h9 => ?_)) <;> (try (exfalso; first | exact absurd h9 (by decide) | (exact Bool.noConfusion (h9.symm.trans (by assumption) : true = false)) | (exact Bool.noConfusion (h9.symm.trans (by assumption) : false = true)) | (simp at h9; done) | (simp [Str.length] at h9; done))))))
        rename St _ _ _ _ _ _ _ _ _ => H9
        refine ⟨_, _, _, H9, fun _ _ e => e, rfl, ?_⟩
        rw [ht', show fds [Tk.ch y] = [] from rfl, List.append_nil]
        exact hvs
    · rintro Z2 vs l' D s' hle ⟨rfl, hvs⟩ H'
      rw [htvl, List.take_length] at hvs
      obtain ⟨Zd, hled, ⟨od, hzd, hpd⟩, H'⟩ := H'.freeze .here
      have hfl := fds_len (tokz X)
      have hvl := hvs.len
      refine dictPairs H' (by exact hA.hd) ⟨od, hzd, hpd⟩ (by omega) (PrZ.at (hvs.mono fun _ _ h => h.mono hled)) fun s8 d n hn H8 => ?_
      rw [hvl] at hn H8
      replace H8 : St w os (Below0 s) Z Zd L m6 [(d, pCnt prog w n (widF (tokz X)))] s8 := H8
      replace hn : n ≤ 2100 := by omega
      have hoZ : ∃ o, Zd a o ∧ pL yvs o := ⟨o1, hled _ _ (hle _ _ (hle3 _ _ (hleZ _ _ hz1))), hp1⟩
      clear hvs H' hled hle hle3 hleZ hzd hpd H7 H6 H3 htv hto hptvs
      obtain ⟨iG, hiG⟩ : ∃ G, G = widF (tokz X) := ⟨_, rfl⟩
      have hiw : ∀ c, iG (S [c]) = (wid (tokz X) c : Nat) := fun c => by rw [hiG, widF_S]
      rw [← hiG] at H8
      generalize hW : wid (tokz X) = iw at hiw
      (repeat tb_rel)
      refine joinF (fun s' => ∃ Z' m' vb l', m' (Str.ofString "best_skeleton") = some vb ∧ OptV vb ((bestM al iw zs none).map (·.2)) ∧ St w os (Below0 s) Z Z' L m' l' s') ?_ ?_
      · refine forC (by assumption) hA.hd ?_
        (repeat tb_rel)
        rename St _ _ _ _ _ _ _ _ _ => H9
        refine loop_then H9 (.list hoZ) (fun i Z' m' l' => ∃ b vb vd, bestM al iw zs none = bestM al iw (zs.drop i) b ∧ BestMV b vb vd ∧ MM2 m' d al vb vd ∧ l' = [(d, pCnt prog w n iG)]) ?_ ?_ ?_
        · exact ⟨none, .none, .none, rfl, ⟨rfl, rfl⟩, ⟨by tb_start, by tb_start, by tb_start, by tb_start⟩, rfl⟩
        · clear H9
          rintro i v Z' m' l' I p s' E' hi hv' hle ⟨b, vb, vd, hb, hbv, ⟨k1, k2, k3, k4⟩, rfl⟩ H'
          obtain ⟨y, hy, ty, rfl⟩ := hvz.get hv'
          have hmem := hzp.mem_iff.mp (List.mem_of_getElem? hy)
          have hym : y.length ≤ 1000 := hol y hmem
          have hyne : y ≠ [] := opts_ne hmem
          have hdr : zs.drop i = y :: zs.drop (i + 1) := by
            obtain ⟨h1, h2⟩ := List.getElem?_eq_some_iff.mp hy
            rw [List.drop_eq_getElem_cons h1, h2]
          rw [hdr] at hb
          clear hv' hmem hdr
          (repeat tb_rel)
          rename St _ _ _ _ _ _ _ _ _ => H6
          refine callT1 H6.toBase rfl (by boot_fast) ?_
          refine compE (by assumption) (by exact hA.hd) (cl := []) rfl ?_
          (repeat tb_rel)
          rename St _ _ _ _ _ _ _ _ _ => H7
          refine tok_spec (by exact hA.deeper) H7.toBase (by assumption) (H7.back fun s3 Z3 v3 H3 hle3 hr => ?_)
          obtain ⟨ta, to, tvs, rfl, hto, hptvs, htv⟩ := hr
          have htl := tokz_len y
          have htvl := htv.len
          refine ⟨_, comp_then H3 (.list ⟨to, hto, hptvs⟩) (by rw [sizeLine_eq]; omega) (fun i Z2 vs l' => l' = [(I, p), (d, pCnt prog w n iG)] ∧ All2 (PrZ Z2) vs (fds ((tokz y).take i))) ⟨rfl, .nil⟩ ?_ ?_⟩
          · rintro i v Z2 vs l' C I' p' D mC s' E' hi hv' hle ⟨rfl, hvs⟩ H'
            obtain ⟨tk, htk, hz⟩ := htv.get hv'
            replace hz := hz.mono hle
            have ht' := fds_take htk
            obtain ⟨a, o, rfl, hza, hpa⟩ := id hz
            cases tk with
            | fd c n' =>
              obtain ⟨t1, b, hp1, ob, t2, t3, hzb, hp2⟩ := hpa
              have f1 : ∃ o, Z2 a o ∧ pT _ o := ⟨_, hza, hp1⟩
              (repeat tb_rel)
              refine wpAny_tests_one ?_
              (repeat' (first | tb_rel | ((with_reducible refine iteB (fun h9 => ?_) (fun h9 => ?_)) <;> (try (exfalso; first | exact absurd h9 (by decide) | (exact Bool.noConfusion (h9.symm.trans (by assumption) : true = false)) | (exact Bool.noConfusion (h9.symm.trans (by assumption) : false = true)) | (simp at h9; done) | (simp [Str.length] at h9; done))))))
              rename St _ _ _ _ _ _ _ _ _ => H9
              refine ⟨_, _, _, H9, fun _ _ e => e, rfl, ?_⟩
              rw [ht']
              exact hvs.append (.cons ⟨_, ob, t2, t3, rfl, hzb, hp2⟩ .nil)
            | ch y =>
              obtain ⟨t1, t2, hp1⟩ := hpa
              have f1 : ∃ o, Z2 a o ∧ pT _ o := ⟨_, hza, hp1⟩
              (repeat tb_rel)
              refine wpAny_tests_one ?_
              (repeat' (first | tb_rel | ((with_reducible refine iteB (fun h9 => ?_) (fun h9 => ?_)) <;> (try (exfalso; first | exact absurd h9 (by decide) | (exact Bool.noConfusion (h9.symm.trans (by assumption) : true = false)) | (exact Bool.noConfusion (h9.symm.trans (by assumption) : false = true)) | (simp at h9; done) | (simp [Str.length] at h9; done))))))
              rename St _ _ _ _ _ _ _ _ _ => H9
              refine ⟨_, _, _, H9, fun _ _ e => e, rfl, ?_⟩
              rw [ht', show fds [Tk.ch y] = [] from rfl, List.append_nil]
              exact hvs
          rintro Z2 vs l' D s' hle2 ⟨rfl, hvs⟩ H'
          rw [htvl, List.take_length] at hvs
          obtain ⟨Zd, hled, ⟨od, hzd, hpd⟩, H'⟩ := H'.freeze .here
          have hfl := fds_len (tokz y)
          have hvl := hvs.len
          refine dictPairs H' (by exact hA.hd) ⟨od, hzd, hpd⟩ (by omega) (PrZ.at (hvs.mono fun _ _ h => h.mono hled)) fun s8 d2 n2 hn2 H8 => ?_
          rw [hvl] at hn2 H8
          replace H8 : St w os (Below0 s) Z Zd L _ [(d2, pCnt prog w n2 (widF (tokz y))), (I, p), (d, pCnt prog w n iG)] s8 := H8
          have hleD : ∀ b o, Z' b o → Zd b o := fun b o e => hled _ _ (hle2 _ _ (hle3 _ _ e))
          clear hvs H' hzd hpd H7 H6 H3 htv hto hptvs
          obtain ⟨oG, hoG⟩ : ∃ G, G = widF (tokz y) := ⟨_, rfl⟩
          have how : ∀ c, oG (S [c]) = (wid (tokz y) c : Nat) := fun c => by rw [hoG, widF_S]
          rw [← hoG] at H8
          have hbc := hb.trans (bestM_cons al iw y (zs.drop (i + 1)) b)
          generalize hV : wid (tokz y) = ow at how hbc
          (repeat tb_rel)
          refine joinF (fun s'' => ∃ m3, MM2 m3 d al vb vd ∧ ((distB al iw ow pats 0 = none ∧ m3 (Str.ofString "option") = some .none) ∨ ∃ acc t, distB al iw ow pats 0 = some acc ∧ m3 (Str.ofString "option") = some (.str (S y) ty) ∧ m3 (Str.ofString "distance") = some (.int (acc : Nat) t)) ∧ St w os (Below0 s) Z Zd L m3 [(d2, pCnt prog w n2 oG), (I, p), (d, pCnt prog w n iG)] s'') ?_ ?_
          · refine forC (by assumption) (by exact hA.hd) ?_
            (repeat tb_rel)
            rename St _ _ _ _ _ _ _ _ _ => H9
            obtain ⟨N, item, hS, hNp, hitem⟩ := pats_src (prog := prog) (w := w) H9.wd
            refine loop_then H9 hS (fun j Z3 m3 l3 => Z3 = Zd ∧ MM2 m3 d al vb vd ∧ m3 (Str.ofString "opt_widths") = some (.ref d2) ∧ m3 (Str.ofString "option") = some (.str (S y) ty) ∧ ∃ acc t, distB al iw ow (pats.take j) 0 = some acc ∧ m3 (Str.ofString "distance") = some (.int (acc : Nat) t) ∧ l3 = [(d2, pCnt prog w n2 oG), (I, p), (d, pCnt prog w n iG)]) ?_ ?_ ?_
            · exact ⟨rfl, ⟨by tb_start, by tb_start, by tb_start, by tb_start⟩, by tb_start, by tb_start, 0, _, rfl, by tb_start, rfl⟩
            · clear H9
              rintro j v3 Z3 m3 l3 I3 p3 s3 E3 hj hv3 hle3 ⟨rfl, ⟨k1, k2, k3, k4⟩, ko, kw, acc, t3, hacc, kd, rfl⟩ H'
              obtain ⟨c, u, hc, rfl⟩ := hitem j v3 hv3
              have htk := distB_take hc hacc
              clear hv3 hitem hS
              (repeat' (first | tb_rel | ((with_reducible refine iteB (fun h9 => ?_) (fun h9 => ?_)) <;> (try (exfalso; first | exact absurd h9 (by decide) | (exact Bool.noConfusion (h9.symm.trans (by assumption) : true = false)) | (exact Bool.noConfusion (h9.symm.trans (by assumption) : false = true)) | (simp at h9; done) | (simp [Str.length] at h9; done))))))
              all_goals (
                rename St _ _ _ _ _ _ _ _ _ => H9
                have e1 := hiw c
                have e2 := how c
                clear hb hbc hiG hoG hiw how hacc hzp hzsort hol hov hn hvz
                simp only [beq_iff_eq, beq_eq_false_iff_ne, ne_eq, decide_eq_true_eq, decide_eq_false_iff_not, gt_iff_lt, isM, Bool.not_eq_true', Bool.not_eq_false'] at *
                first
                | refine ⟨_, _, _, H9, fun _ _ e => e, rfl, ⟨by tb_start, by tb_start, by tb_start, by tb_start⟩, by tb_start, by tb_start, ?_⟩
                  rw [htk]
                  first
                  | exact ⟨acc, t3, distStep_eq (by omega), by tb_start, rfl⟩
                  | exact ⟨acc + 4096, _, distStep_0t (by omega) (by omega) (by assumption), upd_self.trans (congrArg (fun z => some (Value.int z _)) (by omega)), rfl⟩
                  | exact ⟨acc + 256, _, distStep_M (by omega) (by omega) (by assumption) (by omega), upd_self.trans (congrArg (fun z => some (Value.int z _)) (by omega)), rfl⟩
                  | exact ⟨_, _, distStep_d (by omega) (by omega) (by omega), upd_self.trans (congrArg (fun z => some (Value.int z _)) (by split <;> omega)), rfl⟩
                | exact ⟨by first | rfl | trivial, _, ⟨by tb_start, by tb_start, by tb_start, by tb_start⟩, .inl ⟨distB_stop (j := j + 1) (htk.trans (distStep_0f (by omega) (by omega) (by assumption))), by tb_start⟩, H9.drop .here⟩)
            · rintro Z3 m3 l3 s3 hle3 ⟨rfl, k, ko, kw, acc, t3, hacc, kd, rfl⟩ H'
              rw [hNp, List.take_length] at hacc
              exact ⟨rfl, m3, k, .inr ⟨acc, t3, hacc, kw, kd⟩, H'⟩
          · rintro s4 ⟨m3, ⟨k1, k2, k3, k4⟩, hres, H'⟩
            rcases hres with ⟨hdn, ko⟩ | ⟨acc, t3, hda, ko, kd⟩
            · rw [hdn] at hbc
              (repeat' (first | tb_rel | ((with_reducible refine iteB (fun h9 => ?_) (fun h9 => ?_)) <;> (try (exfalso; first | exact absurd h9 (by decide) | (exact Bool.noConfusion (h9.symm.trans (by assumption) : true = false)) | (exact Bool.noConfusion (h9.symm.trans (by assumption) : false = true)) | (simp at h9; done) | (simp [Str.length] at h9; done))))))
              rename St _ _ _ _ _ _ _ _ _ => H9
              exact ⟨_, _, _, H9.drop .here, hleD, b, vb, vd, hbc, hbv, ⟨by tb_start, by tb_start, by tb_start, by tb_start⟩, rfl⟩
            · rw [hda] at hbc
              dsimp only at hbc
              have hyl : y.length ≠ 0 := fun e => hyne (List.length_eq_zero_iff.mp e)
              have hy0 : (!(S y).length != 0) = false := by simp [S_len, hyl]
              cases b with
              | none =>
                obtain ⟨rfl, rfl⟩ := hbv
                (repeat' (first | tb_rel | ((with_reducible refine iteB (fun h9 => ?_) (fun h9 => ?_)) <;> (try (exfalso; first | exact absurd h9 (by decide) | (exact Bool.noConfusion (h9.symm.trans (by assumption) : true = false)) | (exact Bool.noConfusion (h9.symm.trans (by assumption) : false = true)) | (simp at h9; done) | (simp [Str.length] at h9; done))))))
                · rename St _ _ _ _ _ _ _ _ _ => H9
                  rename ((acc : Int) == 0) = true => h7
                  rw [if_pos (by simpa using h7)] at hbc
                  exact ⟨rfl, Zd, _, _, _, by tb_start, by rw [hbc]; exact ⟨ty, rfl⟩, H9⟩
                · rename St _ _ _ _ _ _ _ _ _ => H9
                  rename ((acc : Int) == 0) = false => h7
                  rw [if_neg (by simpa using h7)] at hbc
                  exact ⟨_, _, _, H9.drop .here, hleD, some (acc, y), _, _, hbc, ⟨hyne, hym, ty, t3, rfl, rfl⟩, ⟨by tb_start, by tb_start, by tb_start, by tb_start⟩, rfl⟩
              | some q =>
                obtain ⟨hqn, hql, t, u, rfl, rfl⟩ := hbv
                have hqn' : q.2.length ≠ 0 := fun e => hqn (List.length_eq_zero_iff.mp e)
                have hq0 : (!(S q.2).length != 0) = false := by simp [S_len, hqn']
                dsimp only at hbc
                (repeat' (first | tb_rel | ((with_reducible refine iteB (fun h9 => ?_) (fun h9 => ?_)) <;> (try (exfalso; first | exact absurd h9 (by decide) | (exact Bool.noConfusion (h9.symm.trans (by assumption) : true = false)) | (exact Bool.noConfusion (h9.symm.trans (by assumption) : false = true)) | (simp at h9; done) | (simp [Str.length] at h9; done))))))
                · rename St _ _ _ _ _ _ _ _ _ => H9
                  rename ((acc : Int) == 0) = true => h7
                  rename decide ((acc : Int) < _) = true => h8
                  rw [if_pos (by simpa using h7), if_pos (by simpa using h8)] at hbc
                  exact ⟨rfl, Zd, _, _, _, by tb_start, by rw [hbc]; exact ⟨ty, rfl⟩, H9⟩
                · rename St _ _ _ _ _ _ _ _ _ => H9
                  rename ((acc : Int) == 0) = false => h7
                  rename decide ((acc : Int) < _) = true => h8
                  rw [if_neg (by simpa using h7), if_pos (by simpa using h8)] at hbc
                  exact ⟨_, _, _, H9.drop .here, hleD, some (acc, y), _, _, hbc, ⟨hyne, hym, ty, t3, rfl, rfl⟩, ⟨by tb_start, by tb_start, by tb_start, by tb_start⟩, rfl⟩
                · rename St _ _ _ _ _ _ _ _ _ => H9
                  rename ((acc : Int) == 0) = true => h7
                  rename decide ((acc : Int) < _) = false => h8
                  rw [if_pos (by simpa using h7), if_neg (by simpa using h8)] at hbc
                  exact ⟨rfl, Zd, _, _, _, by tb_start, by rw [hbc]; exact ⟨t, rfl⟩, H9⟩
                · rename St _ _ _ _ _ _ _ _ _ => H9
                  rename ((acc : Int) == 0) = false => h7
                  rename decide ((acc : Int) < _) = false => h8
                  rw [if_neg (by simpa using h7), if_neg (by simpa using h8)] at hbc
                  exact ⟨_, _, _, H9.drop .here, hleD, some q, _, _, hbc, ⟨hqn, hql, t, u, rfl, rfl⟩, ⟨by tb_start, by tb_start, by tb_start, by tb_start⟩, rfl⟩
        · rintro Z' m' l' s' hle ⟨b, vb, vd, hb, hbv, ⟨k1, k2, k3, k4⟩, rfl⟩ H'
          refine ⟨rfl, Z', m', vb, _, k3, ?_, H'⟩
          rw [hb, hvz.len, List.drop_length]
          cases b with
          | none => exact hbv.1
          | some q => obtain ⟨_, _, t, u, h1, _⟩ := hbv; exact ⟨t, h1⟩
      · rintro s4 ⟨Z9, m9, vb, l9, k9, hvb, H9⟩
        (repeat tb_rel)
        refine St.leave (by assumption) hP ⟨zs, hzp, hzsort, ?_⟩
        rw [matchM, hX, hW]; exact hvb
end
/-! plain: texts of runs; the tokenizer upon them -/
def ClsL (i : Nat) (l : List Nat) : Prop := l.length ≤ 5 ∧ (∀ c ∈ l, c ∈ cls i) ∧ ∀ c ∈ l, ∀ d ∈ l, c = d
def SkelL (l : List Nat) : Prop := ∃ l0 l1 l2 l3 l4 l5 l6, l = l0 ++ (l1 ++ (l2 ++ (l3 ++ (l4 ++ (l5 ++ l6))))) ∧ ClsL 0 l0 ∧ ClsL 1 l1 ∧ ClsL 2 l2 ∧ ClsL 3 l3 ∧ ClsL 4 l4 ∧ ClsL 5 l5 ∧ ClsL 6 l6
theorem Skel.L {x : Str} (h : Skel x) : SkelL x.cps.toList :=
  let ⟨x0, x1, x2, x3, x4, x5, x6, e, c0, c1, c2, c3, c4, c5, c6⟩ := h
  ⟨_, _, _, _, _, _, _, e, c0, c1, c2, c3, c4, c5, c6⟩
theorem SkelL.len {l : List Nat} : SkelL l → l.length ≤ 35 := by
  rintro ⟨l0, l1, l2, l3, l4, l5, l6, rfl, c0, c1, c2, c3, c4, c5, c6⟩
  have := c0.1; have := c1.1; have := c2.1; have := c3.1; have := c4.1; have := c5.1; have := c6.1
  simp only [List.length_append]; omega
def runsT (rs : List (Nat × Nat)) : List Nat := rs.flatMap fun r => List.replicate r.2 r.1
def runsK (rs : List (Nat × Nat)) : List Tk := rs.map fun r => Tk.fd r.1 r.2
/-- runs of letters, each letter once -/
structure Runs (rs : List (Nat × Nat)) : Prop where
  let_ : ∀ r ∈ rs, r.1 ∈ letters
  pos : ∀ r ∈ rs, 1 ≤ r.2
  top : ∀ r ∈ rs, r.2 ≤ 5
  nd : (rs.map (·.1)).Nodup
def runOf : List Nat → List (Nat × Nat)
  | [] => []
  | c :: l => [(c, l.length + 1)]
def idx (c : Nat) : Nat := if c = 121 then 0 else if c = 77 then 1 else if c = 100 then 2 else if c = 69 then 3 else if c = 97 ∨ c = 98 then 4 else if c = 104 ∨ c = 72 ∨ c = 107 ∨ c = 75 then 5 else 6
theorem idx_cls : ∀ i, i < 7 → ∀ c ∈ cls i, idx c = i ∧ c ∈ letters := by decide +kernel
theorem runOf_T {i : Nat} {l : List Nat} (h : ClsL i l) : runsT (runOf l) = l := by
  cases l with
  | nil => rfl
  | cons c l =>
    have : c :: l = List.replicate (l.length + 1) c := List.eq_replicate_iff.mpr ⟨rfl, fun d hd => h.2.2 d hd c List.mem_cons_self⟩
    rw [runOf, runsT, List.flatMap_cons, List.flatMap_nil, List.append_nil]; exact this.symm
def Inc (i : Nat) (rs : List (Nat × Nat)) : Prop := (∀ r ∈ rs, r.1 ∈ letters ∧ 1 ≤ r.2 ∧ r.2 ≤ 5 ∧ i ≤ idx r.1) ∧ rs.Pairwise fun a b => idx a.1 < idx b.1
theorem Inc.add {i : Nat} {l : List Nat} {rs : List (Nat × Nat)} (hi : i < 7) (hl : ClsL i l) (h : Inc (i + 1) rs) : Inc i (runOf l ++ rs) := by
  cases l with
  | nil => exact ⟨fun r hr => let ⟨a, b, c, d⟩ := h.1 r hr; ⟨a, b, c, by omega⟩, h.2⟩
  | cons c l =>
    have hc := idx_cls i hi c (hl.2.1 c List.mem_cons_self)
    have hlen := hl.1
    simp only [List.length_cons] at hlen
    refine ⟨fun r hr => ?_, List.pairwise_cons.mpr ⟨fun r hr => ?_, h.2⟩⟩
    · rcases List.mem_cons.mp hr with rfl | hr
      · exact ⟨hc.2, by simp, by simpa using hlen, by simp only [hc.1]; exact Nat.le_refl _⟩
      · have := h.1 r hr; exact ⟨this.1, this.2.1, this.2.2.1, by omega⟩
    · have := h.1 r hr
      simp only [hc.1]; omega
theorem Inc.runs {i : Nat} {rs : List (Nat × Nat)} (h : Inc i rs) : Runs rs where
  let_ := fun r hr => (h.1 r hr).1
  pos := fun r hr => (h.1 r hr).2.1
  top := fun r hr => (h.1 r hr).2.2.1
  nd := List.Pairwise.map _ (fun a b (hab : idx a.1 < idx b.1) (e : a.1 = b.1) => by rw [e] at hab; exact Nat.lt_irrefl _ hab) h.2
theorem SkelL.runs {l : List Nat} (h : SkelL l) : ∃ rs, l = runsT rs ∧ Runs rs := by
  obtain ⟨l0, l1, l2, l3, l4, l5, l6, rfl, c0, c1, c2, c3, c4, c5, c6⟩ := h
  refine ⟨runOf l0 ++ (runOf l1 ++ (runOf l2 ++ (runOf l3 ++ (runOf l4 ++ (runOf l5 ++ (runOf l6 ++ [])))))), ?_, Inc.runs (i := 0) ?_⟩
  · have e : ∀ a b, runsT (a ++ b) = runsT a ++ runsT b := fun a b => by simp [runsT]
    simp only [e, runOf_T c0, runOf_T c1, runOf_T c2, runOf_T c3, runOf_T c4, runOf_T c5, runOf_T c6]
    simp [runsT]
  · exact .add (by decide) c0 (.add (by decide) c1 (.add (by decide) c2 (.add (by decide) c3 (.add (by decide) c4 (.add (by decide) c5 (.add (by decide) c6 ⟨(fun r hr => by cases hr), List.Pairwise.nil⟩))))))
theorem letters_pats : ∀ c ∈ letters, pats.contains c = true ∧ c ≠ 39 := by decide +kernel
/-! the tokenizer's turn -/
theorem tstep_new {s : TS} {c : Nat} (hq : s.q = none) (hc : pats.contains c = true) (h39 : c ≠ 39) (hb : s.cb = [] ∨ s.fc = none) (hf : s.fc ≠ some c) : tstep s c = ⟨(flFC s).res, none, [], some c, 1⟩ := by
  obtain ⟨res, q, cb, fc, fn⟩ := s
  have hm : c ∈ pats := by simpa using hc
  cases hq
  cases fc with
  | none =>
    cases cb <;> simp [tstep, h39, hm, flFC, flC, flF]
  | some d =>
    have hcb : cb = [] := hb.resolve_right (by simp)
    subst hcb
    have hd : ¬ d = c := fun e => hf (by rw [e])
    simp [tstep, h39, hm, flFC, flC, flF, hd]
theorem tstep_more {res : List Tk} {c n : Nat} (hc : pats.contains c = true) (h39 : c ≠ 39) : tstep ⟨res, none, [], some c, n⟩ c = ⟨res, none, [], some c, n + 1⟩ := by
  have hm : c ∈ pats := by simpa using hc
  simp [tstep, h39, hm, flC]
theorem tstep_rep {res : List Tk} {c : Nat} (hc : pats.contains c = true) (h39 : c ≠ 39) : ∀ (k n : Nat), (List.replicate k c).foldl tstep ⟨res, none, [], some c, n⟩ = ⟨res, none, [], some c, n + k⟩
  | 0, _ => rfl
  | k + 1, n => by rw [List.replicate_succ, List.foldl_cons, tstep_more hc h39, tstep_rep hc h39 k (n + 1)]; congr 1; omega
/-- a run -/
theorem tstep_run {s : TS} {c n : Nat} (hq : s.q = none) (hc : c ∈ letters) (hb : s.cb = [] ∨ s.fc = none) (hf : s.fc ≠ some c) (hn : 1 ≤ n) : (List.replicate n c).foldl tstep s = ⟨(flFC s).res, none, [], some c, n⟩ := by
  obtain ⟨h1, h2⟩ := letters_pats c hc
  obtain ⟨k, rfl⟩ : ∃ k, n = k + 1 := ⟨n - 1, by omega⟩
  rw [List.replicate_succ, List.foldl_cons, tstep_new hq h1 h2 hb hf, tstep_rep h1 h2 k 1]; congr 1; omega
theorem rep2_cons {c : Nat} {l : List Nat} (h : c ≠ 39) : rep2 (c :: l) = c :: rep2 l := by
  conv => lhs; rw [rep2.eq_def]
  split
  · rename_i r e; simp only [List.cons.injEq] at e; exact absurd e.1 h
  · rename_i c' r' _ e; simp only [List.cons.injEq] at e; rw [e.1, e.2]
  · rename_i e; simp at e
theorem rep2_plain : ∀ {a b : List Nat}, (∀ c ∈ a, c ≠ 39) → rep2 (a ++ b) = a ++ rep2 b
  | [], _, _ => rfl
  | c :: a, b, h => by rw [List.cons_append, rep2_cons (h c List.mem_cons_self), rep2_plain fun d hd => h d (.tail _ hd)]; rfl
theorem runsT_mem {rs : List (Nat × Nat)} (h : ∀ r ∈ rs, r.1 ∈ letters) : ∀ c ∈ runsT rs, c ∈ letters := by
  intro c hc
  obtain ⟨r, hr, h2⟩ := List.mem_flatMap.mp hc
  rw [(List.mem_replicate.mp h2).2]; exact h r hr
/-- runs, one behind the other, with adjacent letters unlike -/
theorem fold_runs : ∀ {rs : List (Nat × Nat)} {s : TS}, (∀ r ∈ rs, r.1 ∈ letters) → (∀ r ∈ rs, 1 ≤ r.2) → (rs.map (·.1)).Nodup → s.q = none → s.cb = [] → (∀ r ∈ rs, s.fc ≠ some r.1) →
    (flFC ((runsT rs).foldl tstep s)).res = (flFC s).res ++ runsK rs ∧ ((runsT rs).foldl tstep s).q = none ∧ ((runsT rs).foldl tstep s).cb = []
  | [], s, _, _, _, hq, hb, _ => by simp [runsT, runsK, hq, hb]
  | r :: rs, s, h1, h2, h3, hq, hb, hf => by
    have e : runsT (r :: rs) = List.replicate r.2 r.1 ++ runsT rs := by simp [runsT]
    rw [e, List.foldl_append, tstep_run hq (h1 r List.mem_cons_self) (.inl hb) (hf r List.mem_cons_self) (h2 r List.mem_cons_self)]
    rw [List.map_cons, List.nodup_cons] at h3
    have ih := fold_runs (rs := rs) (s := ⟨(flFC s).res, none, [], some r.1, r.2⟩) (fun q hq => h1 q (.tail _ hq)) (fun q hq => h2 q (.tail _ hq)) h3.2 rfl rfl
      (fun q hq e => h3.1 (by simp only [Option.some.injEq] at e; rw [e]; exact List.mem_map_of_mem (f := (·.1)) hq))
    refine ⟨ih.1.trans ?_, ih.2⟩
    simp [flFC, flF, runsK]
theorem tokz_runs {rs : List (Nat × Nat)} (h : Runs rs) : tokz (runsT rs) = runsK rs := by
  have e : rep2 (runsT rs) = runsT rs := by
    have := rep2_plain (a := runsT rs) (b := []) fun c hc => (letters_pats c (runsT_mem h.let_ c hc)).2
    simpa [rep2] using this
  have := (fold_runs (s := ⟨[], none, [], none, 0⟩) h.let_ h.pos h.nd rfl rfl (fun _ _ e => by simp at e)).1
  rw [tokz, e, this]
  rfl
/-! the law's reader upon runs -/
theorem rd_plain {c : Nat} {l : List Nat} {ins : Bool} {r : List Tk} (h : c ≠ 39) : rd (c :: l) ins r = if ins || !letters.contains c then rd l ins (addC c r) else rd l ins (addF c r) := by
  conv => lhs; rw [rd.eq_def]
  simp only [h, if_false]
theorem rd_letter {c : Nat} {l : List Nat} {r : List Tk} (hc : c ∈ letters) : rd (c :: l) false r = rd l false (addF c r) := by
  rw [rd_plain (letters_pats c hc).2]
  simp [hc]
theorem rd_rep {c : Nat} (hc : c ∈ letters) {l : List Nat} {r : List Tk} : ∀ (k n : Nat), rd (List.replicate k c ++ l) false (.fd c n :: r) = rd l false (.fd c (n + k) :: r)
  | 0, _ => rfl
  | k + 1, n => by
    rw [List.replicate_succ, List.cons_append, rd_letter hc, addF, if_pos rfl, rd_rep hc k (n + 1)]; congr 3; omega
theorem rd_run {c n : Nat} (hc : c ∈ letters) (hn : 1 ≤ n) {l : List Nat} {r : List Tk} (hr : ∀ m, r.head? ≠ some (.fd c m)) : rd (List.replicate n c ++ l) false r = rd l false (.fd c n :: r) := by
  obtain ⟨k, rfl⟩ : ∃ k, n = k + 1 := ⟨n - 1, by omega⟩
  have e : addF c r = .fd c 1 :: r := by
    cases r with
    | nil => rfl
    | cons t r =>
      cases t with
      | ch s => rfl
      | fd d m =>
        have : ¬ d = c := fun e => hr m (by rw [e]; rfl)
        simp [addF, this]
  rw [List.replicate_succ, List.cons_append, rd_letter hc, e, rd_rep hc k 1]; congr 3; omega
theorem rd_runs : ∀ {rs : List (Nat × Nat)} {r : List Tk}, (∀ q ∈ rs, q.1 ∈ letters) → (∀ q ∈ rs, 1 ≤ q.2) → (rs.map (·.1)).Nodup → (∀ q ∈ rs, ∀ m, r.head? ≠ some (.fd q.1 m)) → rd (runsT rs) false r = ((runsK rs).reverse ++ r, false)
  | [], r, _, _, _, _ => by simp [runsT, runsK, rd]
  | q :: rs, r, h1, h2, h3, h4 => by
    have e : runsT (q :: rs) = List.replicate q.2 q.1 ++ runsT rs := by simp [runsT]
    rw [List.map_cons, List.nodup_cons] at h3
    rw [e, rd_run (h1 q List.mem_cons_self) (h2 q List.mem_cons_self) (h4 q List.mem_cons_self), rd_runs (fun q hq => h1 q (.tail _ hq)) (fun q hq => h2 q (.tail _ hq)) h3.2]
    · simp [runsK]
    · intro p hp m e
      simp only [List.head?_cons, Option.some.injEq, Tk.fd.injEq] at e
      exact h3.1 (by rw [e.1]; exact List.mem_map_of_mem (f := (·.1)) hp)
theorem rd_skel {rs : List (Nat × Nat)} (h : Runs rs) : rd (runsT rs) false [] = ((runsK rs).reverse, false) := by
  rw [rd_runs h.let_ h.pos h.nd (fun _ _ m e => by simp at e), List.append_nil]
/-! widths are counts -/
theorem count_runs {rs : List (Nat × Nat)} (d : Nat) : (runsT rs).count d = (rs.map fun r => if r.1 = d then r.2 else 0).sum := by
  induction rs with
  | nil => rfl
  | cons r rs ih =>
    have e : runsT (r :: rs) = List.replicate r.2 r.1 ++ runsT rs := by simp [runsT]
    rw [e, List.count_append, ih, List.map_cons, List.sum_cons, List.count_replicate]
    simp
theorem wid_fold {rs : List (Nat × Nat)} (d : Nat) : ∀ {f : Nat → Nat}, (rs.map (·.1)).Nodup → (runsK rs).foldl widStep f d = if d ∈ rs.map (·.1) then (rs.map fun r => if r.1 = d then r.2 else 0).sum else f d := by
  induction rs with
  | nil => intro f _; rfl
  | cons r rs ih =>
    intro f h
    rw [List.map_cons, List.nodup_cons] at h
    show (runsK rs).foldl widStep (widStep f (.fd r.1 r.2)) d = _
    rw [ih h.2]
    have z : r.1 = d → (rs.map fun r => if r.1 = d then r.2 else 0).sum = 0 := by
      intro e
      have : (rs.map fun r => if r.1 = d then r.2 else 0) = rs.map fun _ => 0 := List.map_congr_left fun q hq => by
        rw [if_neg]; intro e2; exact h.1 (by rw [e, ← e2]; exact List.mem_map_of_mem (f := (·.1)) hq)
      rw [this]; clear this ih h; induction rs <;> simp_all
    by_cases hd : d ∈ rs.map (·.1)
    · have hne : ¬ r.1 = d := fun e => h.1 (by rw [e]; exact hd)
      rw [if_pos hd, if_pos (by rw [List.map_cons]; exact .tail _ hd), List.map_cons, List.sum_cons, if_neg hne, Nat.zero_add]
    · rw [if_neg hd]
      by_cases e : r.1 = d
      · rw [if_pos (by rw [List.map_cons, e]; exact List.mem_cons_self), List.map_cons, List.sum_cons, z e, if_pos e]
        show (if d = r.1 then r.2 else f d) = _
        rw [if_pos e.symm]; rfl
      · have hn : ¬ d ∈ (r :: rs).map (·.1) := by
          rw [List.map_cons, List.mem_cons]
          intro h9
          rcases h9 with h9 | h9
          · exact e h9.symm
          · exact hd h9
        rw [if_neg hn]
        show (if d = r.1 then r.2 else f d) = _
        rw [if_neg (fun h9 => e h9.symm)]
theorem wid_count {rs : List (Nat × Nat)} (h : Runs rs) (d : Nat) : wid (tokz (runsT rs)) d = (runsT rs).count d := by
  rw [tokz_runs h, wid, wid_fold d h.nd, count_runs]
  split
  · rfl
  · rename_i hd
    symm
    have : (rs.map fun r => if r.1 = d then r.2 else 0) = rs.map fun _ => 0 := List.map_congr_left fun q hq => by
      rw [if_neg]; intro e2; exact hd (by rw [← e2]; exact List.mem_map_of_mem (f := (·.1)) hq)
    rw [this]; clear this hd h; induction rs <;> simp_all
theorem SkelL.wid {x : List Nat} (h : SkelL x) (d : Nat) : wid (tokz x) d = x.count d := by
  obtain ⟨rs, rfl, hr⟩ := h.runs
  exact wid_count hr d
/-! plain: the wanted text gives way; the law's sizes likewise -/
theorem mem_flat {c d : Nat} {t l : List Nat} : d ∈ (l.flatMap fun e => if e = c then t else [e]) ↔ (c ∈ l ∧ d ∈ t) ∨ (d ∈ l ∧ d ≠ c) := by
  rw [List.mem_flatMap]
  constructor
  · rintro ⟨e, he, hd⟩
    by_cases h : e = c
    · rw [if_pos h] at hd; exact .inl ⟨h ▸ he, hd⟩
    · rw [if_neg h] at hd; cases List.mem_singleton.mp hd; exact .inr ⟨he, h⟩
  · rintro (⟨h1, h2⟩ | ⟨h1, h2⟩)
    · exact ⟨c, h1, by rw [if_pos rfl]; exact h2⟩
    · exact ⟨d, h1, by rw [if_neg h2]; exact List.mem_cons_self⟩
theorem flat_len {c : Nat} {t l : List Nat} (ht : t.length ≤ 1) : (l.flatMap fun e => if e = c then t else [e]).length ≤ l.length := by
  induction l with
  | nil => exact Nat.le_refl _
  | cons d r ih =>
    rw [List.flatMap_cons, List.length_append, List.length_cons]
    split
    · omega
    · simp only [List.length_cons, List.length_nil]; omega
theorem ClsL.flat {i c : Nat} {t l : List Nat} (h : ClsL i l) (ht : t.length ≤ 1) (hc : c ∈ cls i → ∀ d ∈ t, d ∈ cls i) : ClsL i (l.flatMap fun e => if e = c then t else [e]) := by
  refine ⟨Nat.le_trans (flat_len ht) h.1, fun d hd => ?_, fun d hd e he => ?_⟩
  · rcases mem_flat.mp hd with ⟨h1, h2⟩ | ⟨h1, _⟩
    · exact hc (h.2.1 c h1) d h2
    · exact h.2.1 d h1
  · rcases mem_flat.mp hd with ⟨h1, h2⟩ | ⟨h1, h2⟩ <;> rcases mem_flat.mp he with ⟨h3, h4⟩ | ⟨h3, h4⟩
    · match t, ht with
      | [a], _ => rw [List.mem_singleton.mp h2, List.mem_singleton.mp h4]
    · exact absurd (h.2.2 e h3 c h1) h4
    · exact absurd (h.2.2 d h1 c h3) h2
    · exact h.2.2 d h1 e h3
theorem SkelL.flat {c : Nat} {t x : List Nat} (h : SkelL x) (ht : t.length ≤ 1) (hc : ∀ i, i < 7 → c ∈ cls i → ∀ d ∈ t, d ∈ cls i) : SkelL (x.flatMap fun e => if e = c then t else [e]) := by
  obtain ⟨l0, l1, l2, l3, l4, l5, l6, rfl, c0, c1, c2, c3, c4, c5, c6⟩ := h
  refine ⟨_, _, _, _, _, _, _, by simp only [List.flatMap_append], c0.flat ht (hc 0 (by decide)), c1.flat ht (hc 1 (by decide)), c2.flat ht (hc 2 (by decide)), c3.flat ht (hc 3 (by decide)), c4.flat ht (hc 4 (by decide)), c5.flat ht (hc 5 (by decide)), c6.flat ht (hc 6 (by decide))⟩
theorem SkelL.give {c : Nat} {t x : List Nat} {ys : List (List Nat)} (h : SkelL x) (ht : t.length ≤ 1) (hc : ∀ i, i < 7 → c ∈ cls i → ∀ d ∈ t, d ∈ cls i) : SkelL (giveWay ys x c t) := by
  unfold giveWay
  split
  · exact h.flat ht hc
  · exact h
theorem SkelL.wanted {x : List Nat} {ys : List (List Nat)} (h : SkelL x) : SkelL (wantedM ys x) :=
  ((((h.give (by decide) (by decide +kernel)).give (by decide) (by decide +kernel)).give (by decide) (by decide +kernel)).give (by decide) (by decide +kernel)).give (by decide) (by decide +kernel)
theorem count_flat {c d : Nat} {t l : List Nat} : (l.flatMap fun e => if e = c then t else [e]).count d = l.count c * t.count d + if d = c then 0 else l.count d := by
  induction l with
  | nil => simp
  | cons e r ih =>
    rw [List.flatMap_cons, List.count_append, ih, List.count_cons, List.count_cons]
    by_cases h : e = c
    · subst h
      simp only [if_true, beq_self_eq_true, Nat.add_mul, Nat.one_mul, beq_iff_eq]
      by_cases h2 : d = e
      · simp [h2]; omega
      · have h3 : ¬ e = d := fun q => h2 q.symm
        simp [h2, h3]; omega
    · simp only [h, if_false, beq_iff_eq, List.count_cons, List.count_nil, Nat.add_zero, Nat.zero_add]
      by_cases h2 : d = c
      · subst h2; simp [h]
      · simp [h2]; omega
theorem contains_S1 {y : List Nat} {c : Nat} : Txt.contains (S y) (S [c]) = y.contains c := by rw [contains_one]; simp
theorem stand_give {ks : List (List Nat)} {x t : List Nat} {c : Nat} {g : Str → Int} {p : Str × Str} (hp : p = (S [c], S t)) (ht : t = [] ∨ ∃ e, t = [e] ∧ e ≠ c) (hg : ∀ d, g (S [d]) = (x.count d : Nat)) (d : Nat) :
    stand ks g p (S [d]) = ((giveWay ks x c t).count d : Nat) := by
  subst hp
  unfold stand giveWay
  simp only [contains_S1]
  by_cases hk : (ks.any fun y => y.contains c) = true
  · rw [if_pos hk, if_neg (by rw [hk]; simp)]; exact hg d
  · have hk' : (ks.any fun y => y.contains c) = false := Bool.not_eq_true _ ▸ (by simpa using hk)
    simp only [hk', Bool.false_eq_true, if_false, Bool.not_false, Bool.and_true]
    have e1 : (S [d] = S [c]) ↔ d = c := by rw [S_inj]; simp
    by_cases hx : x.contains c = true
    · rw [if_pos hx, count_flat]
      simp only [e1]
      by_cases hdc : d = c
      · subst hdc
        have : t.count d = 0 := by
          rcases ht with rfl | ⟨e, rfl, he⟩
          · rfl
          · simp [List.count_cons, he]
        simp [this]
      · rw [if_neg hdc, if_neg hdc]
        rcases ht with rfl | ⟨e, rfl, he⟩
        · rw [if_neg (by rw [S_inj]; simp), hg]; simp
        · by_cases hde : d = e
          · subst hde
            rw [if_pos rfl, hg, hg]
            simp; omega
          · rw [if_neg (by rw [S_inj]; simpa using hde), hg]
            have : ¬ e = d := fun q => hde q.symm
            simp [List.count_cons, this]
    · rw [if_neg hx]
      have hx0 : x.count c = 0 := List.count_eq_zero.mpr (by simpa using hx)
      simp only [e1]
      by_cases hdc : d = c
      · subst hdc; rw [if_pos rfl, hx0]; rfl
      · rw [if_neg hdc]
        split
        · rename_i h9
          rw [← h9, hg, hg, hx0]; simp
        · exact hg d
theorem cnt1_S {x : List Nat} (d : Nat) : cnt1 x (S [d]) = (x.count d : Nat) := by
  unfold cnt1
  rw [List.count_eq_countP, List.countP_eq_length_filter]
  congr 2
  apply List.filter_congr
  intro c _
  show (S [d] == S [c]) = (c == d)
  by_cases h : c = d
  · subst h; simp
  · have h1 : ¬ S [d] = S [c] := fun q => h (by have := S_inj.mp q; simpa using this.symm)
    rw [beq_eq_false_iff_ne.mpr h1, beq_eq_false_iff_ne.mpr h]
theorem stands_wanted {ks : List (List Nat)} {x : List Nat} (d : Nat) : standPairs.foldl (stand ks) (cnt1 x) (S [d]) = ((wantedM ks x).count d : Nat) := by
  have hz : ∀ {a b : String} {c : Nat} {t : List Nat}, Str.ofString a = S [c] → Str.ofString b = S t → (Str.ofString a, Str.ofString b) = (S [c], S t) := fun h1 h2 => by rw [h1, h2]
  show stand ks (stand ks (stand ks (stand ks (stand ks (cnt1 x) _) _) _) _) _ (S [d]) = _
  refine stand_give (hz (c := 98) (t := []) (by decide +kernel) (by decide +kernel)) (.inl rfl) (fun d => ?_) d
  refine stand_give (hz (c := 97) (t := []) (by decide +kernel) (by decide +kernel)) (.inl rfl) (fun d => ?_) d
  refine stand_give (hz (c := 75) (t := [104]) (by decide +kernel) (by decide +kernel)) (.inr ⟨_, rfl, by decide⟩) (fun d => ?_) d
  refine stand_give (hz (c := 107) (t := [72]) (by decide +kernel) (by decide +kernel)) (.inr ⟨_, rfl, by decide⟩) (fun d => ?_) d
  exact stand_give (hz (c := 122) (t := [118]) (by decide +kernel) (by decide +kernel)) (.inr ⟨_, rfl, by decide⟩) (fun d => cnt1_S d) d
theorem giveWay_perm {ys zs : List (List Nat)} (h : ys.Perm zs) {x : List Nat} {c : Nat} {t : List Nat} : giveWay ys x c t = giveWay zs x c t := by
  unfold giveWay; rw [h.any_eq]
theorem wantedM_perm {ys zs : List (List Nat)} (h : ys.Perm zs) {x : List Nat} : wantedM ys x = wantedM zs x := by
  unfold wantedM; simp only [giveWay_perm h]
/-! distances -/
def dl (iw ow : Nat → Nat) (c : Nat) : Nat :=
  if iw c = ow c then 0 else if ow c = 0 ∨ iw c = 0 then 4096 else if c = 77 ∧ ((2 < iw c ∧ ow c ≤ 2) ∨ (iw c ≤ 2 ∧ 2 < ow c)) then 256 else iw c - ow c + (ow c - iw c)
def bad (al : Bool) (iw ow : Nat → Nat) (c : Nat) : Bool := decide (¬ iw c = ow c ∧ (ow c = 0 ∨ iw c = 0)) && !al
theorem distStep_dl (al : Bool) (iw ow : Nat → Nat) (c acc : Nat) : distStep al iw ow c acc = if bad al iw ow c = true then none else some (acc + dl iw ow c) := by
  unfold distStep bad dl
  by_cases h1 : iw c = ow c
  · simp [h1]
  · by_cases h2 : ow c = 0 ∨ iw c = 0
    · cases al <;> simp [h1, h2]
    · rw [if_neg h1, if_neg h2, if_neg h1, if_neg h2]
      have e2 : (decide (¬iw c = ow c ∧ (ow c = 0 ∨ iw c = 0)) && !al) = false := by simp [h2]
      rw [e2, if_neg (by decide : ¬ false = true)]
      split <;> rfl
theorem distB_dl (al : Bool) (iw ow : Nat → Nat) : ∀ (l : List Nat) (acc : Nat), distB al iw ow l acc = if l.any (bad al iw ow) = true then none else some (acc + (l.map (dl iw ow)).sum)
  | [], _ => rfl
  | c :: l, acc => by
    show (match distStep al iw ow c acc with | none => none | some d => distB al iw ow l d) = _
    rw [distStep_dl]
    cases hb : bad al iw ow c with
    | true => simp [hb]
    | false =>
      rw [if_neg (by decide)]
      dsimp only
      rw [distB_dl al iw ow l, List.any_cons, hb, Bool.false_or, List.map_cons, List.sum_cons, Nat.add_assoc]
theorem farStep_dl {g its : Str → Int} {al : Bool} {iw ow : Nat → Nat} (hg : ∀ d, g (S [d]) = (iw d : Nat)) (hi : ∀ d, its (S [d]) = (ow d : Nat)) (fa : Int × Bool) (c : Nat) : farStep g its al fa c = (fa.1 + (dl iw ow c : Nat), fa.2 && !bad al iw ow c) := by
  unfold farStep bad dl
  rw [hg, hi, isM]
  by_cases h1 : iw c = ow c
  · simp [h1]
  · have h1' : ((iw c : Int) != (ow c : Int)) = true := bne_iff_ne.mpr (by omega)
    by_cases h2 : ow c = 0 ∨ iw c = 0
    · have h2' : ((iw c : Int) == 0 || (ow c : Int) == 0) = true := by
        simp; rcases h2 with h | h
        · exact .inr h
        · exact .inl h
      rw [if_pos (by rw [h1', h2']; rfl), if_neg h1, if_pos h2]
      cases al <;> cases fa.2 <;> simp [h1, h2]
    · have h2' : ((iw c : Int) == 0 || (ow c : Int) == 0) = false := by
        simp; omega
      rw [if_neg (by rw [h1', h2']; decide), if_neg h1, if_neg h2]
      have e2 : (decide (¬iw c = ow c ∧ (ow c = 0 ∨ iw c = 0)) && !al) = false := by simp [h2]
      rw [e2]
      by_cases h3 : c = 77 ∧ ((2 < iw c ∧ ow c ≤ 2) ∨ (iw c ≤ 2 ∧ 2 < ow c))
      · rw [if_pos h3, if_pos (by
          obtain ⟨h4, h5⟩ := h3
          simp only [h4, decide_true, Bool.true_and, bne_iff_ne, ne_eq, decide_eq_decide]
          subst h4; omega)]
        simp
      · rw [if_neg h3, if_neg (by
          simp only [Bool.and_eq_true, decide_eq_true_eq, bne_iff_ne, ne_eq, decide_eq_decide]
          omega)]
        simp only [Bool.not_false, Bool.and_true, Prod.mk.injEq, and_true]
        split <;> omega
theorem far_dl {g its : Str → Int} {al : Bool} {iw ow : Nat → Nat} (hg : ∀ d, g (S [d]) = (iw d : Nat)) (hi : ∀ d, its (S [d]) = (ow d : Nat)) : ∀ (l : List Nat) (fa : Int × Bool), l.foldl (farStep g its al) fa = (fa.1 + ((l.map (dl iw ow)).sum : Nat), fa.2 && !l.any (bad al iw ow))
  | [], fa => by simp
  | c :: l, fa => by
    rw [List.foldl_cons, farStep_dl hg hi, far_dl hg hi l, List.map_cons, List.sum_cons, List.any_cons]
    refine Prod.ext ?_ ?_
    · dsimp only; omega
    · dsimp only; cases fa.2 <;> cases bad al iw ow c <;> simp
def others : List Nat := [71, 89, 117, 81, 113, 76, 119, 87, 68, 70, 103, 101, 99, 66, 109, 115, 83, 65, 90, 79, 86, 120, 88]
theorem pats_perm : pats.Perm (letters ++ others) := by decide +kernel
theorem others_not : ∀ c ∈ others, c ∉ letters := by decide +kernel
theorem perm_sum {a b : List Nat} (h : a.Perm b) : a.sum = b.sum := by
  induction h with
  | nil => rfl
  | cons x _ ih => simp only [List.sum_cons, ih]
  | swap x y l => simp only [List.sum_cons]; omega
  | trans _ _ h1 h2 => exact h1.trans h2
theorem dist_far {g its : Str → Int} {al : Bool} {iw ow : Nat → Nat} (hg : ∀ d, g (S [d]) = (iw d : Nat)) (hi : ∀ d, its (S [d]) = (ow d : Nat)) (zi : ∀ d, d ∉ letters → iw d = 0) (zo : ∀ d, d ∉ letters → ow d = 0) :
    farOf g its al letters = ((((letters.map (dl iw ow)).sum : Nat) : Int), (distB al iw ow pats 0).isSome) ∧ ∀ d, distB al iw ow pats 0 = some d → d = (letters.map (dl iw ow)).sum := by
  have h0 : ∀ c ∈ others, dl iw ow c = 0 ∧ bad al iw ow c = false := fun c hc => by
    have := others_not c hc
    simp [dl, bad, zi c this, zo c this]
  have hany : pats.any (bad al iw ow) = letters.any (bad al iw ow) := by
    rw [pats_perm.any_eq, List.any_append]
    have : others.any (bad al iw ow) = false := List.any_eq_false.mpr fun c hc => by rw [(h0 c hc).2]; decide
    rw [this, Bool.or_false]
  have hsum : (pats.map (dl iw ow)).sum = (letters.map (dl iw ow)).sum := by
    rw [perm_sum (pats_perm.map _), List.map_append, List.sum_append]
    have : others.map (dl iw ow) = others.map fun _ => 0 := List.map_congr_left fun c hc => (h0 c hc).1
    rw [this]; rfl
  refine ⟨?_, fun d hd => ?_⟩
  · unfold farOf
    rw [far_dl hg hi, distB_dl, hany]
    refine Prod.ext ?_ ?_
    · simp
    · cases letters.any (bad al iw ow) <;> rfl
  · rw [distB_dl, hsum] at hd
    split at hd
    · cases hd
    · simpa using (Option.some.inj hd).symm
/-! plain: the nearest -/
abbrev LTp (p q : Nat × List Nat) : Prop := p.1 < q.1 ∨ (p.1 = q.1 ∧ p.2 < q.2)
theorem ltL_irrefl (x : List Nat) : ¬ x < x := List.lt_irrefl x
theorem ltL_trans {x y z : List Nat} (h1 : x < y) (h2 : y < z) : x < z := List.lt_trans h1 h2
theorem ltL_anti {x y : List Nat} (h1 : ¬ x < y) (h2 : ¬ y < x) : x = y := List.le_antisymm (List.not_lt.mp h2) (List.not_lt.mp h1)
theorem geL_trans {x y z : List Nat} (h1 : ¬ y < x) (h2 : ¬ z < y) : ¬ z < x := List.not_lt.mpr (List.le_trans (List.not_lt.mp h1) (List.not_lt.mp h2))
theorem LTp.irrefl (p : Nat × List Nat) : ¬ LTp p p := fun h => h.elim (Nat.lt_irrefl _) fun h => ltL_irrefl _ h.2
theorem LTp.trans {p q r : Nat × List Nat} (h1 : LTp p q) (h2 : LTp q r) : LTp p r := by
  rcases h1 with h1 | ⟨h1, h1'⟩ <;> rcases h2 with h2 | ⟨h2, h2'⟩
  · exact .inl (Nat.lt_trans h1 h2)
  · exact .inl (by omega)
  · exact .inl (by omega)
  · exact .inr ⟨h1.trans h2, ltL_trans h1' h2'⟩
theorem LTp.anti {p q : Nat × List Nat} (h1 : ¬ LTp p q) (h2 : ¬ LTp q p) : p = q := by
  have e : p.1 = q.1 := Nat.le_antisymm (Nat.not_lt.mp fun h => h2 (.inl h)) (Nat.not_lt.mp fun h => h1 (.inl h))
  exact Prod.ext e (ltL_anti (fun h => h1 (.inr ⟨e, h⟩)) fun h => h2 (.inr ⟨e.symm, h⟩))
theorem lexLt_LTp {a b : Nat} {x y : List Nat} : lexLt ((a : Int), x) ((b : Int), y) = decide (LTp (a, x) (b, y)) := by
  unfold lexLt LTp
  dsimp only
  by_cases h : a = b
  · subst h
    by_cases h2 : x = y
    · subst h2; simp [ltL_irrefl]
    · simp [h2]
  · have h' : ¬ (a : Int) = (b : Int) := by omega
    simp [h, h']
def IsMin (D : List Nat → Option Nat) (ks : List (List Nat)) : Option (Nat × List Nat) → Prop
  | none => ∀ y ∈ ks, D y = none
  | some q => q.2 ∈ ks ∧ D q.2 = some q.1 ∧ ∀ y ∈ ks, ∀ d, D y = some d → ¬ LTp (d, y) q
def stepN (D : List Nat → Option Nat) (r : Option (Nat × List Nat)) (y : List Nat) : Option (Nat × List Nat) := match D y with
  | none => r
  | some d => match r with
    | none => some (d, y)
    | some q => if LTp (d, y) q then some (d, y) else some q
theorem IsMin.step {D : List Nat → Option Nat} {l : List (List Nat)} {r : Option (Nat × List Nat)} {y : List Nat} (h : IsMin D l r) : IsMin D (l ++ [y]) (stepN D r y) := by
  unfold stepN
  cases hd : D y with
  | none =>
    cases r with
    | none =>
      intro z hz
      rcases List.mem_append.mp hz with hz | hz
      · exact h z hz
      · cases List.mem_singleton.mp hz; exact hd
    | some q =>
      refine ⟨List.mem_append_left _ h.1, h.2.1, fun z hz d e => ?_⟩
      rcases List.mem_append.mp hz with hz | hz
      · exact h.2.2 z hz d e
      · cases List.mem_singleton.mp hz; rw [hd] at e; cases e
  | some d =>
    have hy : ∀ {q}, (∀ z ∈ l, ∀ d, D z = some d → ¬ LTp (d, z) q) → ¬ LTp (d, y) q → ∀ z ∈ l ++ [y], ∀ d, D z = some d → ¬ LTp (d, z) q := by
      intro q h1 h2 z hz d' e
      rcases List.mem_append.mp hz with hz | hz
      · exact h1 z hz d' e
      · cases List.mem_singleton.mp hz; rw [hd] at e; cases e; exact h2
    cases r with
    | none => exact ⟨List.mem_append_right _ List.mem_cons_self, hd, hy (fun z hz d e => by rw [h z hz] at e; cases e) (LTp.irrefl _)⟩
    | some q =>
      dsimp only
      by_cases hlt : LTp (d, y) q
      · rw [if_pos hlt]
        exact ⟨List.mem_append_right _ List.mem_cons_self, hd, hy (fun z hz d e hl => h.2.2 z hz d e (hl.trans hlt)) (LTp.irrefl _)⟩
      · rw [if_neg hlt]
        exact ⟨List.mem_append_left _ h.1, h.2.1, hy h.2.2 hlt⟩
theorem IsMin.fold {D : List Nat → Option Nat} : ∀ {l pre : List (List Nat)} {r : Option (Nat × List Nat)}, IsMin D pre r → IsMin D (pre ++ l) (l.foldl (stepN D) r)
  | [], pre, r, h => by rw [List.append_nil]; exact h
  | y :: l, pre, r, h => by
    have := IsMin.fold (l := l) (h.step (y := y))
    rwa [List.append_assoc] at this
theorem IsMin.uniq {D : List Nat → Option Nat} {ks zs : List (List Nat)} {r r' : Option (Nat × List Nat)} (hp : zs.Perm ks) (h : IsMin D ks r) (h' : IsMin D zs r') : r = r' := by
  cases r with
  | none =>
    cases r' with
    | none => rfl
    | some q =>
      have := h q.2 (hp.mem_iff.mp h'.1)
      rw [h'.2.1] at this; cases this
  | some q =>
    cases r' with
    | none =>
      have := h' q.2 (hp.mem_iff.mpr h.1)
      rw [h.2.1] at this; cases this
    | some q' => exact congrArg some (LTp.anti (h'.2.2 q.2 (hp.mem_iff.mpr h.1) q.1 h.2.1) (h.2.2 q'.2 (hp.mem_iff.mp h'.1) q'.1 h'.2.1))
def pickM (b : Option (Nat × List Nat)) (d : Nat) (y : List Nat) : Option (Nat × List Nat) := match b with
  | none => some (d, y)
  | some q => if d < q.1 then some (d, y) else some q
theorem bestM_cons2 (al : Bool) (iw : Nat → Nat) (y : List Nat) (ys : List (List Nat)) (b : Option (Nat × List Nat)) : bestM al iw (y :: ys) b = match distB al iw (wid (tokz y)) pats 0 with
    | none => bestM al iw ys b
    | some d => if d = 0 then pickM b d y else bestM al iw ys (pickM b d y) := rfl
theorem bestM_min {al : Bool} {iw : Nat → Nat} {D : List Nat → Option Nat} : ∀ {rest pre : List (List Nat)} {b : Option (Nat × List Nat)}, (∀ y ∈ rest, distB al iw (wid (tokz y)) pats 0 = D y) → IsMin D pre b →
    (pre ++ rest).Pairwise (fun a b => ¬ b < a) → IsMin D (pre ++ rest) (bestM al iw rest b)
  | [], pre, b, _, h, _ => by rw [List.append_nil]; exact h
  | y :: ys, pre, b, hD, h, hs => by
    have hs' : (pre ++ [y] ++ ys).Pairwise (fun a b => ¬ b < a) := by rw [List.append_assoc]; exact hs
    have ea : pre ++ y :: ys = pre ++ [y] ++ ys := by rw [List.append_assoc]; rfl
    rw [bestM_cons2, hD y List.mem_cons_self]
    cases hd : D y with
    | none =>
      have := h.step (y := y)
      unfold stepN at this; rw [hd] at this
      rw [ea]
      exact bestM_min (fun z hz => hD z (.tail _ hz)) this hs'
    | some d =>
      dsimp only
      have hb : pickM b d y = stepN D b y := by
        unfold stepN pickM
        rw [hd]
        cases b with
        | none => rfl
        | some q =>
          dsimp only
          have hny : ¬ y < q.2 := (List.pairwise_append.mp hs).2.2 q.2 h.1 y List.mem_cons_self
          by_cases hlt : d < q.1
          · rw [if_pos hlt, if_pos (.inl hlt)]
          · rw [if_neg hlt, if_neg (fun e => e.elim hlt fun e => hny e.2)]
      rw [hb]
      have hm := h.step (y := y)
      by_cases h0 : d = 0
      · rw [if_pos h0, ea]
        generalize hq : stepN D b y = r at hm
        cases r with
        | none =>
          have := hm y (List.mem_append_right _ List.mem_cons_self)
          rw [hd] at this; cases this
        | some q =>
          refine ⟨List.mem_append_left _ hm.1, hm.2.1, fun z hz d' e => ?_⟩
          rcases List.mem_append.mp hz with hz | hz
          · exact hm.2.2 z hz d' e
          · have hq0 : q.1 = 0 := by
              have := hm.2.2 y (List.mem_append_right _ List.mem_cons_self) d hd
              exact Nat.eq_zero_of_not_pos fun hp => this (.inl (by show d < q.1; omega))
            have := (List.pairwise_append.mp hs').2.2 q.2 hm.1 z hz
            rintro (h9 | h9)
            · have h9 : d' < q.1 := h9
              omega
            · exact this h9.2
      · rw [if_neg h0, ea]
        exact bestM_min (fun z hz => hD z (.tail _ hz)) hm hs'
theorem rising_pair : ∀ {l : List (List Nat)} {p : List Nat}, risingS (S p) (l.map S) = true → (p :: l).Pairwise (fun a b => ¬ b < a)
  | [], p, _ => List.pairwise_singleton ..
  | x :: r, p, h => by
    rw [List.map_cons, risingS, Bool.and_eq_true] at h
    have ih := rising_pair h.2
    have h1 : ¬ x < p := by
      have := h.1
      rw [ltCps_eq] at this
      simpa using this
    refine List.pairwise_cons.mpr ⟨fun z hz => ?_, ih⟩
    rcases List.mem_cons.mp hz with rfl | hz
    · exact h1
    · exact geL_trans h1 ((List.pairwise_cons.mp ih).1 z hz)
theorem sorted_pair {l : List (List Nat)} (h : sortedS (l.map S) = true) : l.Pairwise (fun a b => ¬ b < a) := by
  cases l with
  | nil => exact .nil
  | cons x r => exact rising_pair h
theorem SkelL.zero {x : List Nat} (h : SkelL x) {d : Nat} (hd : d ∉ letters) : x.count d = 0 := by
  obtain ⟨rs, rfl, hr⟩ := h.runs
  exact List.count_eq_zero.mpr fun hc => hd (runsT_mem hr.let_ d hc)
/-- the law's nearest, by counts -/
theorem nearest_fold {g : Str → Int} {al : Bool} {iw : Nat → Nat} (hg : ∀ d, g (S [d]) = (iw d : Nat)) (zi : ∀ d, d ∉ letters → iw d = 0) : ∀ {ks : List (List Nat)} {b : Option (Nat × List Nat)}, (∀ y ∈ ks, SkelL y) →
    ks.foldl (bestStep g al) (b.map fun q => ((q.1 : Int), q.2)) = (ks.foldl (stepN fun y => distB al iw (fun d => y.count d) pats 0) b).map fun q => ((q.1 : Int), q.2)
  | [], b, _ => rfl
  | y :: ks, b, h => by
    have hy := h y List.mem_cons_self
    obtain ⟨h1, h2⟩ := dist_far (g := g) (its := cnt1 y) (al := al) (iw := iw) (ow := fun d => y.count d) hg (fun d => cnt1_S d) zi fun d hd => hy.zero hd
    have e : bestStep g al (b.map fun q => ((q.1 : Int), q.2)) y = (stepN (fun y => distB al iw (fun d => y.count d) pats 0) b y).map fun q => ((q.1 : Int), q.2) := by
      unfold bestStep stepN
      dsimp only
      rw [h1]
      cases hd : distB al iw (fun d => y.count d) pats 0 with
      | none => rfl
      | some d =>
        rw [← h2 d hd]
        cases b with
        | none => rfl
        | some q =>
          show (if (true && lexLt ((d : Int), y) ((q.1 : Int), q.2)) = true then some ((d : Int), y) else some ((q.1 : Int), q.2)) = Option.map _ (if LTp (d, y) q then some (d, y) else some q)
          rw [Bool.true_and, lexLt_LTp]
          by_cases hlt : LTp (d, y) (q.1, q.2)
          · rw [if_pos (by simpa using hlt), if_pos hlt]; rfl
          · rw [if_neg (by simpa using hlt), if_neg hlt]; rfl
    rw [List.foldl_cons, List.foldl_cons, e]
    exact nearest_fold hg zi fun z hz => h z (.tail _ hz)
theorem match_nearest {x : List Nat} {oys : List (Option (List Nat))} {ks : List (List Nat)} {al : Bool} {v : Value} (hx : SkelL x) (hks : ∀ y ∈ ks, SkelL y) (hp : (optsOf oys).Perm ks) (h : MatchRes x oys al v) :
    OptV v ((nearestB x ks al).map (·.2)) := by
  obtain ⟨zs, hzp, hzs, hv⟩ := h
  have hpz : zs.Perm ks := hzp.trans hp
  have hX : SkelL (wantedM ks x) := hx.wanted
  have key : ((bestM al (wid (tokz (wantedM zs x))) zs none).map fun q => ((q.1 : Int), q.2)) = nearestB x ks al := by
    have hiw : wid (tokz (wantedM zs x)) = fun d => (wantedM ks x).count d := by
      rw [wantedM_perm hpz]; funext d; exact hX.wid d
    rw [hiw]
    have hn := nearest_fold (g := standPairs.foldl (stand ks) (cnt1 x)) (al := al) (iw := fun d => (wantedM ks x).count d) (fun d => stands_wanted d) (fun d hd => hX.zero hd) (ks := ks) (b := none) hks
    unfold nearestB
    refine Eq.trans ?_ hn.symm
    congr 1
    refine (IsMin.uniq (D := fun y => distB al (fun d => (wantedM ks x).count d) (fun d => y.count d) pats 0) hpz ?_ ?_).symm
    · have := IsMin.fold (D := fun y => distB al (fun d => (wantedM ks x).count d) (fun d => y.count d) pats 0) (l := ks) (pre := []) (r := none) (fun y hy => by cases hy)
      exact this
    · have := bestM_min (al := al) (iw := fun d => (wantedM ks x).count d) (D := fun y => distB al (fun d => (wantedM ks x).count d) (fun d => y.count d) pats 0) (rest := zs) (pre := []) (b := none)
        (fun y hy => by
          have : wid (tokz y) = fun d => y.count d := funext fun d => (hks y (hpz.mem_iff.mp hy)).wid d
          rw [this]) (fun y hy => by cases hy) (sorted_pair hzs)
      exact this
  rw [← key]
  rw [matchM] at hv
  cases hb : bestM al (wid (tokz (wantedM zs x))) zs none with
  | none => rw [hb] at hv; exact hv
  | some q => rw [hb] at hv; exact hv
theorem nearest_mem {x : List Nat} {ks : List (List Nat)} {al : Bool} {y : List Nat} (hx : SkelL x) (hks : ∀ y ∈ ks, SkelL y) (h : (nearestB x ks al).map (·.2) = some y) : y ∈ ks := by
  have hX : SkelL (wantedM ks x) := hx.wanted
  have hn := nearest_fold (g := standPairs.foldl (stand ks) (cnt1 x)) (al := al) (iw := fun d => (wantedM ks x).count d) (fun d => stands_wanted d) (fun d hd => hX.zero hd) (ks := ks) (b := none) hks
  have hm := IsMin.fold (D := fun y => distB al (fun d => (wantedM ks x).count d) (fun d => y.count d) pats 0) (l := ks) (pre := []) (r := none) (fun y hy => by cases hy)
  unfold nearestB at h
  rw [show (none : Option (Int × List Nat)) = (none : Option (Nat × List Nat)).map fun q => ((q.1 : Int), q.2) from rfl, hn] at h
  generalize ks.foldl (stepN fun y => distB al (fun d => (wantedM ks x).count d) (fun d => y.count d) pats 0) none = r at h hm
  cases r with
  | none => simp at h
  | some q =>
    simp only [Option.map_some, Option.some.injEq] at h
    rw [← h]; exact hm.1
/-! plain: patterns of runs and gaps -/
def untokS (gs : List (List Nat)) : List Nat := (gs.map fun g => untok1 (.ch g)).flatten
structure GapOk (gt gk : List Nat) (gs : List (List Nat)) : Prop where
  tz : ∃ (cb rp : List Nat) (gi : List (List Nat)), (∀ l : List Nat, l.head? ≠ some 39 → rep2 (gt ++ l) = rp ++ rep2 l) ∧ cb ≠ [] ∧ gs = gi ++ [unq cb] ∧ ∀ res c n, rp.foldl tstep ⟨res, none, [], some c, n⟩ = ⟨res ++ .fd c n :: gi.map .ch, none, cb, none, 0⟩
  rdr : ∀ (l : List Nat) (r : List Tk) (c n : Nat), l.head? ≠ some 39 → rd (gt ++ l) false (.fd c n :: r) = rd l false (.ch gk :: .fd c n :: r)
  len : gt.length ≤ 12
  gl : gs.length ≤ 2 ∧ ∀ g ∈ gs, g.length ≤ 12
  ul : (untokS gs).length ≤ 12
structure It where
  c : Nat
  n : Nat
  gt : List Nat
  gk : List Nat
  gs : List (List Nat)
structure ItOk (i : It) : Prop where
  c : i.c ∈ letters
  n : 1 ≤ i.n
  m : i.n ≤ 5
  g : GapOk i.gt i.gk i.gs
def itT (is : List It) : List Nat := is.flatMap fun i => List.replicate i.n i.c ++ i.gt
def fK (i : It) : List Tk := [.fd i.c i.n, .ch i.gk]
def fS (i : It) : List Tk := .fd i.c i.n :: i.gs.map .ch
def itK (is : List It) : List Tk := is.flatMap fK
def itS (is : List It) : List Tk := is.flatMap fS
theorem itT_cons (i : It) (is : List It) : itT (i :: is) = List.replicate i.n i.c ++ (i.gt ++ itT is) := by simp [itT]
theorem itK_cons (i : It) (is : List It) : itK (i :: is) = .fd i.c i.n :: .ch i.gk :: itK is := by simp [itK, fK]
theorem itS_cons (i : It) (is : List It) : itS (i :: is) = fS i ++ itS is := by simp [itS]
theorem itT_append (a b : List It) : itT (a ++ b) = itT a ++ itT b := by simp [itT]
theorem itT_head {is : List It} (h : ∀ i ∈ is, ItOk i) : (itT is).head? ≠ some 39 := by
  cases is with
  | nil => simp [itT]
  | cons i is =>
    have hi := h i List.mem_cons_self
    obtain ⟨k, hk⟩ : ∃ k, i.n = k + 1 := ⟨i.n - 1, by have := hi.n; omega⟩
    rw [itT_cons, hk, List.replicate_succ]
    simp only [List.cons_append, List.head?_cons, ne_eq, Option.some.injEq]
    exact (letters_pats i.c hi.c).2
theorem fold_items : ∀ {is : List It} {s : TS}, (∀ i ∈ is, ItOk i) → s.q = none → s.fc = none → (flFC ((rep2 (itT is)).foldl tstep s)).res = (flFC s).res ++ itS is
  | [], s, _, _, _ => by simp [itT, itS, rep2]
  | i :: is, s, h, hq, hf => by
    have hi := h i List.mem_cons_self
    have his : ∀ i ∈ is, ItOk i := fun j hj => h j (.tail _ hj)
    obtain ⟨cb, rp, gi, h1, h2, h3, h4⟩ := hi.g.tz
    have e : rep2 (itT (i :: is)) = List.replicate i.n i.c ++ (rp ++ rep2 (itT is)) := by
      rw [itT_cons, rep2_plain (fun c hc => by rw [(List.mem_replicate.mp hc).2]; exact (letters_pats _ hi.c).2), h1 _ (itT_head his)]
    rw [e, List.foldl_append, tstep_run hq hi.c (.inr hf) (by rw [hf]; simp) hi.n, List.foldl_append, h4, fold_items his rfl rfl, itS_cons, fS, h3]
    have : (flFC ⟨(flFC s).res ++ (Tk.fd i.c i.n :: gi.map .ch), none, cb, none, 0⟩).res = (flFC s).res ++ (.fd i.c i.n :: gi.map .ch) ++ [.ch (unq cb)] := by
      cases cb with
      | nil => exact absurd rfl h2
      | cons a r => rfl
    rw [this]; simp
theorem tokz_items {is : List It} (h : ∀ i ∈ is, ItOk i) : tokz (itT is) = itS is := by
  have := fold_items (s := ⟨[], none, [], none, 0⟩) h rfl rfl
  rw [tokz, this]; rfl
theorem rd_items : ∀ {is : List It} {r : List Tk}, (∀ i ∈ is, ItOk i) → (∀ c m, r.head? ≠ some (.fd c m)) → rd (itT is) false r = ((itK is).reverse ++ r, false)
  | [], r, _, _ => by simp [itT, itK, rd]
  | i :: is, r, h, hr => by
    have hi := h i List.mem_cons_self
    have his : ∀ i ∈ is, ItOk i := fun j hj => h j (.tail _ hj)
    rw [itT_cons, rd_run hi.c hi.n (fun m => hr _ m), hi.g.rdr _ _ _ _ (itT_head his), rd_items his (fun c m => by simp), itK_cons]
    simp
theorem rd_items0 {is : List It} (h : ∀ i ∈ is, ItOk i) : rd (itT is) false [] = ((itK is).reverse, false) := by
  rw [rd_items h (fun c m => by simp), List.append_nil]
/-! the six gaps -/
def gT : Nat → List Nat
  | 0 => [46] | 1 => [32, 45, 32] | 2 => [32, 39, 116, 111, 39, 32] | 3 => [39, 111, 39, 39, 99, 108, 111, 99, 107, 39] | 4 => [44, 32, 39, 100, 97, 121, 39, 32] | _ => [47]
def gK : Nat → List Nat
  | 0 => [46] | 1 => [32, 45, 32] | 2 => [32, 116, 111, 32] | 3 => [111, 39, 99, 108, 111, 99, 107] | 4 => [44, 32, 100, 97, 121, 32] | _ => [47]
def gS : Nat → List (List Nat)
  | 0 => [[46]] | 1 => [[32, 45, 32]] | 2 => [[32], [116, 111, 32]] | 3 => [[111, 39, 99, 108, 111, 99, 107]] | 4 => [[44, 32], [100, 97, 121, 32]] | _ => [[47]]
def gU : Nat → List (List Nat)
  | 0 => [[46]] | 1 => [[32, 45, 32]] | 2 => [[32, 116, 111, 32]] | 3 => [[111, 39, 99, 108, 111, 99, 107]] | 4 => [[44, 32], [100, 97, 121, 32]] | _ => [[47]]
theorem rd_end {l : List Nat} {ins : Bool} {r : List Tk} (h : l.head? ≠ some 39) : rd (39 :: l) ins r = rd l (!ins) r := by
  cases l with
  | nil => rfl
  | cons d l =>
    have : ¬ d = 39 := fun e => h (by rw [e]; rfl)
    conv => lhs; rw [rd.eq_def]
    simp [this]
theorem rep2_end {l : List Nat} (h : l.head? ≠ some 39) : rep2 (39 :: l) = 39 :: rep2 l := by
  cases l with
  | nil => rfl
  | cons d l =>
    have : ¬ d = 39 := fun e => h (by rw [e]; rfl)
    conv => lhs; rw [rep2.eq_def]
    split
    · rename_i r e; simp only [List.cons.injEq] at e; exact absurd e.2.1 this
    · rename_i c' r' _ e; simp only [List.cons.injEq] at e; rw [← e.1, ← e.2]
    · rename_i e; simp at e
theorem gap_plain {gt : List Nat} (h : ∀ c ∈ gt, c ≠ 39 ∧ c ≠ 0 ∧ pats.contains c = false ∧ letters.contains c = false) (h0 : gt ≠ []) (hl : gt.length ≤ 12) : GapOk gt gt [gt] := by
  have hun : unq gt = gt := by
    unfold unq
    conv => rhs; rw [← List.map_id gt]
    exact List.map_congr_left fun c hc => if_neg (h c hc).2.1
  have t1 : ∀ (l cb : List Nat) (res : List Tk), (∀ c ∈ l, c ≠ 39 ∧ c ≠ 0 ∧ pats.contains c = false ∧ letters.contains c = false) → l.foldl tstep ⟨res, none, cb, none, 0⟩ = ⟨res, none, cb ++ l, none, 0⟩ := by
    intro l
    induction l with
    | nil => intro cb res _; simp
    | cons c l ih =>
      intro cb res hc
      obtain ⟨a, _, b, _⟩ := hc c List.mem_cons_self
      have e : tstep ⟨res, none, cb, none, 0⟩ c = ⟨res, none, cb ++ [c], none, 0⟩ := by
        have b' : ¬ c ∈ pats := by simpa using b
        simp [tstep, a, b', flF]
      rw [List.foldl_cons, e, ih _ _ fun d hd => hc d (.tail _ hd)]; simp
  have hu : untokS [gt] = gt := by
    have : gt.any pats.contains = false := List.any_eq_false.mpr fun c hc => by rw [(h c hc).2.2.1]; decide
    have e : untok1 (.ch gt) = gt := by
      show (if gt.any pats.contains = true then _ else gt) = gt
      rw [this]; rfl
    simp [untokS, e]
  refine ⟨⟨gt, gt, [], fun l _ => rep2_plain fun c hc => (h c hc).1, h0, by rw [hun]; rfl, fun res c n => ?_⟩, ?_, hl, ⟨by simp, fun g hg => by cases List.mem_singleton.mp hg; exact hl⟩, by rw [hu]; exact hl⟩
  · cases gt with
    | nil => exact absurd rfl h0
    | cons a r =>
      obtain ⟨h1, _, h2, _⟩ := h a List.mem_cons_self
      have h2' : ¬ a ∈ pats := by simpa using h2
      have e : tstep ⟨res, none, [], some c, n⟩ a = ⟨res ++ [.fd c n], none, [a], none, 0⟩ := by simp [tstep, h1, h2', flF]
      rw [List.foldl_cons, e, t1 _ _ _ fun d hd => h d (.tail _ hd)]; rfl
  · intro l r c n _
    have t2 : ∀ (g cb : List Nat), (∀ c ∈ g, c ≠ 39 ∧ c ≠ 0 ∧ pats.contains c = false ∧ letters.contains c = false) → rd (g ++ l) false (.ch cb :: .fd c n :: r) = rd l false (.ch (cb ++ g) :: .fd c n :: r) := by
      intro g
      induction g with
      | nil => intro cb _; simp
      | cons a g ih =>
        intro cb hc
        obtain ⟨h1, _, _, h2⟩ := hc a List.mem_cons_self
        rw [List.cons_append, rd_plain h1, h2]
        simp only [Bool.not_false, Bool.or_true, if_true, addC]
        rw [ih _ fun d hd => hc d (.tail _ hd)]; simp
    cases gt with
    | nil => exact absurd rfl h0
    | cons a g =>
      obtain ⟨h1, _, _, h2⟩ := h a List.mem_cons_self
      rw [List.cons_append, rd_plain h1, h2]
      simp only [Bool.not_false, Bool.or_true, if_true, addC]
      rw [t2 _ _ fun d hd => h d (.tail _ hd)]; rfl
theorem rep2_c {c : Nat} {l : List Nat} (h : c ≠ 39) : rep2 (c :: l) = c :: rep2 l := rep2_cons h
theorem gap2 : GapOk (gT 2) (gK 2) (gS 2) := by
  refine ⟨⟨[116, 111, 32], gT 2, [[32]], fun l _ => ?_, by decide, by decide, fun res c n => ?_⟩, fun l r c n _ => ?_, by decide, by decide, by decide⟩
  · show rep2 (32 :: 39 :: 116 :: 111 :: 39 :: 32 :: l) = _
    rw [rep2_cons (by decide), rep2_end (by simp), rep2_cons (by decide), rep2_cons (by decide), rep2_end (by simp), rep2_cons (by decide)]; rfl
  · show (⟨(res ++ [Tk.fd c n]) ++ [Tk.ch [32]], none, [116, 111, 32], none, 0⟩ : TS) = _
    simp
  · show rd (32 :: 39 :: 116 :: 111 :: 39 :: 32 :: l) false _ = _
    rw [rd_plain (by decide), if_pos (by decide), rd_end (by simp), rd_plain (by decide), if_pos (by decide), rd_plain (by decide), if_pos (by decide), rd_end (by simp), rd_plain (by decide), if_pos (by decide)]; rfl
theorem gap3 : GapOk (gT 3) (gK 3) (gS 3) := by
  refine ⟨⟨[111, 0, 99, 108, 111, 99, 107], [39, 111, 0, 99, 108, 111, 99, 107, 39], [], fun l hl => ?_, by decide, by decide, fun res c n => ?_⟩, fun l r c n hl => ?_, by decide, by decide, by decide⟩
  · show rep2 (39 :: 111 :: 39 :: 39 :: 99 :: 108 :: 111 :: 99 :: 107 :: 39 :: l) = _
    rw [rep2_end (by simp), rep2_cons (by decide), rep2, rep2_cons (by decide), rep2_cons (by decide), rep2_cons (by decide), rep2_cons (by decide), rep2_cons (by decide), rep2_end hl]; rfl
  · rfl
  · show rd (39 :: 111 :: 39 :: 39 :: 99 :: 108 :: 111 :: 99 :: 107 :: 39 :: l) false _ = _
    rw [rd_end (by simp), rd_plain (by decide), if_pos (by decide), rd, if_pos rfl, if_pos rfl, rd_plain (by decide), if_pos (by decide), rd_plain (by decide), if_pos (by decide), rd_plain (by decide), if_pos (by decide), rd_plain (by decide), if_pos (by decide), rd_plain (by decide), if_pos (by decide), rd_end hl]; rfl
theorem gap4 : GapOk (gT 4) (gK 4) (gS 4) := by
  refine ⟨⟨[100, 97, 121, 32], gT 4, [[44, 32]], fun l _ => ?_, by decide, by decide, fun res c n => ?_⟩, fun l r c n _ => ?_, by decide, by decide, by decide⟩
  · show rep2 (44 :: 32 :: 39 :: 100 :: 97 :: 121 :: 39 :: 32 :: l) = _
    rw [rep2_cons (by decide), rep2_cons (by decide), rep2_end (by simp), rep2_cons (by decide), rep2_cons (by decide), rep2_cons (by decide), rep2_end (by simp), rep2_cons (by decide)]; rfl
  · show (⟨(res ++ [Tk.fd c n]) ++ [Tk.ch [44, 32]], none, [100, 97, 121, 32], none, 0⟩ : TS) = _
    simp
  · show rd (44 :: 32 :: 39 :: 100 :: 97 :: 121 :: 39 :: 32 :: l) false _ = _
    rw [rd_plain (by decide), if_pos (by decide), rd_plain (by decide), if_pos (by decide), rd_end (by simp), rd_plain (by decide), if_pos (by decide), rd_plain (by decide), if_pos (by decide), rd_plain (by decide), if_pos (by decide), rd_end (by simp), rd_plain (by decide), if_pos (by decide)]; rfl
/-- each gap, and the gap as it is put down again -/
theorem gap41 : GapOk [44, 32, 39, 100, 97, 121, 32, 39] (gK 4) (gS 4) := by
  refine ⟨⟨[100, 97, 121, 32], [44, 32, 39, 100, 97, 121, 32, 39], [[44, 32]], fun l hl => ?_, by decide, by decide, fun res c n => ?_⟩, fun l r c n hl => ?_, by decide, by decide, by decide⟩
  · show rep2 (44 :: 32 :: 39 :: 100 :: 97 :: 121 :: 32 :: 39 :: l) = _
    rw [rep2_cons (by decide), rep2_cons (by decide), rep2_end (by simp), rep2_cons (by decide), rep2_cons (by decide), rep2_cons (by decide), rep2_cons (by decide), rep2_end hl]; rfl
  · show (⟨(res ++ [Tk.fd c n]) ++ [Tk.ch [44, 32]], none, [100, 97, 121, 32], none, 0⟩ : TS) = _
    simp
  · show rd (44 :: 32 :: 39 :: 100 :: 97 :: 121 :: 32 :: 39 :: l) false _ = _
    rw [rd_plain (by decide), if_pos (by decide), rd_plain (by decide), if_pos (by decide), rd_end (by simp), rd_plain (by decide), if_pos (by decide), rd_plain (by decide), if_pos (by decide), rd_plain (by decide), if_pos (by decide), rd_plain (by decide), if_pos (by decide), rd_end hl]; rfl
theorem gapT {k : Nat} (h : k < 6) : GapOk (gT k) (gK k) (gS k) := by
  match k, h with
  | 0, _ => exact gap_plain (by decide +kernel) (by decide) (by decide)
  | 1, _ => exact gap_plain (by decide +kernel) (by decide) (by decide)
  | 2, _ => exact gap2
  | 3, _ => exact gap3
  | 4, _ => exact gap4
  | 5, _ => exact gap_plain (by decide +kernel) (by decide) (by decide)
theorem gapU {k : Nat} (h : k < 6) : GapOk (untokS (gS k)) (gK k) (gU k) ∧ untokS (gU k) = untokS (gS k) := by
  refine ⟨?_, ?_⟩
  · match k, h with
    | 0, _ => exact gap_plain (gt := gK 0) (by decide +kernel) (by decide) (by decide)
    | 1, _ => exact gap_plain (gt := gK 1) (by decide +kernel) (by decide) (by decide)
    | 2, _ => exact gap_plain (gt := gK 2) (by decide +kernel) (by decide) (by decide)
    | 3, _ => exact gap3
    | 4, _ => exact gap41
    | 5, _ => exact gap_plain (gt := gK 5) (by decide +kernel) (by decide) (by decide)
  · match k, h with
    | 0, _ => decide
    | 1, _ => decide
    | 2, _ => decide
    | 3, _ => decide
    | 4, _ => decide
    | 5, _ => decide
/-! splitting -/
structure IS where
  done : List (List It)
  cur : List It
  seen : List Nat
def istep (s : IS) (i : It) : IS := if s.seen.contains i.c then ⟨s.done ++ [s.cur], [i], [i.c]⟩ else ⟨s.done, s.cur ++ [i], i.c :: s.seen⟩
def isplitF (is : List It) : IS := is.foldl istep ⟨[], [], []⟩
def isplit (is : List It) : List (List It) := (isplitF is).done ++ [(isplitF is).cur]
theorem sstep_chs (gs : List (List Nat)) : ∀ s : SP, (gs.map Tk.ch).foldl sstep s = ⟨s.done, s.cur ++ gs.map .ch, s.seen⟩ := by
  induction gs with
  | nil => intro s; simp
  | cons g gs ih => intro s; rw [List.map_cons, List.foldl_cons, ih]; simp [sstep]
theorem split_like {f : It → List Tk} {h : It → List (List Nat)} (hf : ∀ i, f i = .fd i.c i.n :: (h i).map .ch) : ∀ {is : List It} {s : SP} {s' : IS}, s.done = s'.done.map (fun p => p.flatMap f) → s.cur = s'.cur.flatMap f → s.seen = s'.seen →
    (is.flatMap f).foldl sstep s = ⟨(is.foldl istep s').done.map (fun p => p.flatMap f), (is.foldl istep s').cur.flatMap f, (is.foldl istep s').seen⟩
  | [], s, s', h1, h2, h3 => by
    obtain ⟨a, b, c⟩ := s
    cases h1; cases h2; cases h3; rfl
  | i :: is, s, s', h1, h2, h3 => by
    rw [List.flatMap_cons, List.foldl_append, List.foldl_cons]
    refine split_like hf ?_ ?_ ?_ <;> rw [hf i, List.foldl_cons, sstep_chs] <;> unfold istep <;> show _ = _ <;> simp only [sstep, h3]
    all_goals (split <;> simp [h1, h2, hf i])
theorem splitz_like {f : It → List Tk} {h : It → List (List Nat)} (hf : ∀ i, f i = .fd i.c i.n :: (h i).map .ch) (is : List It) : splitz (is.flatMap f) = (isplit is).map fun p => p.flatMap f := by
  have := split_like hf (is := is) (s := ⟨[], [], []⟩) (s' := ⟨[], [], []⟩) rfl rfl rfl
  rw [splitz, splitF, this]
  simp [isplit, isplitF]
theorem splitz_K (is : List It) : splitz (itK is) = (isplit is).map itK := splitz_like (h := fun i => [i.gk]) (fun _ => rfl) is
theorem splitz_S (is : List It) : splitz (itS is) = (isplit is).map itS := splitz_like (h := fun i => i.gs) (fun _ => rfl) is
theorem isplit_map {u : It → It} (hu : ∀ i, (u i).c = i.c) (is : List It) : isplit (is.map u) = (isplit is).map (List.map u) := by
  have : ∀ (is : List It) (s : IS), (is.map u).foldl istep ⟨s.done.map (List.map u), s.cur.map u, s.seen⟩ = ⟨(is.foldl istep s).done.map (List.map u), (is.foldl istep s).cur.map u, (is.foldl istep s).seen⟩ := by
    intro is
    induction is with
    | nil => intro s; rfl
    | cons i is ih =>
      intro s
      rw [List.map_cons, List.foldl_cons, List.foldl_cons, ← ih]
      congr 1
      unfold istep
      rw [hu]
      split <;> simp
  have := this is ⟨[], [], []⟩
  rw [isplit, isplitF, show (⟨[], [], []⟩ : IS) = ⟨List.map (List.map u) [], List.map u [], []⟩ from rfl, this]
  simp [isplit, isplitF]
theorem isplit_mem {P : It → Prop} : ∀ {is : List It} {s : IS}, (∀ i ∈ is, P i) → (∀ d ∈ s.done, ∀ i ∈ d, P i) → (∀ i ∈ s.cur, P i) → ∀ p ∈ (is.foldl istep s).done ++ [(is.foldl istep s).cur], ∀ i ∈ p, P i
  | [], s, _, h1, h2, p, hp => by
    rcases List.mem_append.mp hp with hp | hp
    · exact h1 p hp
    · cases List.mem_singleton.mp hp; exact h2
  | i :: is, s, h, h1, h2, p, hp => by
    have hi := h i List.mem_cons_self
    refine isplit_mem (is := is) (s := istep s i) (fun j hj => h j (.tail _ hj)) ?_ ?_ p hp
    · unfold istep
      split
      · intro d hd
        rcases List.mem_append.mp hd with hd | hd
        · exact h1 d hd
        · cases List.mem_singleton.mp hd; exact h2
      · exact h1
    · unfold istep
      split
      · intro j hj; cases List.mem_singleton.mp hj; exact hi
      · intro j hj
        rcases List.mem_append.mp hj with hj | hj
        · exact h2 j hj
        · cases List.mem_singleton.mp hj; exact hi
theorem isplit_len : ∀ {is : List It} {s : IS}, (is.foldl istep s).done.length + 1 ≤ s.done.length + 1 + is.length ∧ (∀ p ∈ (is.foldl istep s).done ++ [(is.foldl istep s).cur], p ∈ s.done ∨ p.length ≤ s.cur.length + is.length)
  | [], s => ⟨by simp, fun p hp => by
      rcases List.mem_append.mp hp with hp | hp
      · exact .inl hp
      · cases List.mem_singleton.mp hp; exact .inr (by simp)⟩
  | i :: is, s => by
    obtain ⟨h1, h2⟩ := isplit_len (is := is) (s := istep s i)
    rw [List.foldl_cons, List.length_cons]
    by_cases hc : s.seen.contains i.c = true
    · have e : istep s i = ⟨s.done ++ [s.cur], [i], [i.c]⟩ := if_pos hc
      rw [e] at h1 h2 ⊢
      simp only [List.length_append, List.length_cons, List.length_nil] at h1 h2
      refine ⟨by omega, fun p hp => ?_⟩
      rcases h2 p hp with h | h
      · rcases List.mem_append.mp h with h | h
        · exact .inl h
        · cases List.mem_singleton.mp h; exact .inr (by omega)
      · exact .inr (by omega)
    · have e : istep s i = ⟨s.done, s.cur ++ [i], i.c :: s.seen⟩ := if_neg hc
      rw [e] at h1 h2 ⊢
      simp only [List.length_append, List.length_cons, List.length_nil] at h1 h2
      refine ⟨by omega, fun p hp => ?_⟩
      rcases h2 p hp with h | h
      · exact .inl h
      · exact .inr (by omega)
/-- a piece is broken no more -/
theorem isplit_once {is : List It} : ∀ p ∈ isplit is, isplit p = [p] := by
  have key : ∀ (is : List It) (s : IS), isplitF s.cur = ⟨[], s.cur, s.seen⟩ → (∀ d ∈ s.done, isplit d = [d]) →
      isplitF (is.foldl istep s).cur = ⟨[], (is.foldl istep s).cur, (is.foldl istep s).seen⟩ ∧ ∀ d ∈ (is.foldl istep s).done, isplit d = [d] := by
    intro is
    induction is with
    | nil => intro s h1 h2; exact ⟨h1, h2⟩
    | cons i is ih =>
      intro s h1 h2
      rw [List.foldl_cons]
      by_cases hc : s.seen.contains i.c = true
      · have e : istep s i = ⟨s.done ++ [s.cur], [i], [i.c]⟩ := if_pos hc
        rw [e]
        refine ih _ rfl fun d hd => ?_
        rcases List.mem_append.mp hd with hd | hd
        · exact h2 d hd
        · cases List.mem_singleton.mp hd
          rw [isplit, h1]; rfl
      · have e : istep s i = ⟨s.done, s.cur ++ [i], i.c :: s.seen⟩ := if_neg hc
        rw [e]
        refine ih _ ?_ h2
        show isplitF (s.cur ++ [i]) = ⟨[], s.cur ++ [i], i.c :: s.seen⟩
        have h3 : isplitF (s.cur ++ [i]) = istep (isplitF s.cur) i := by simp [isplitF, List.foldl_append]
        rw [h3, h1]
        exact if_neg hc
  obtain ⟨k1, k2⟩ := key is ⟨[], [], []⟩ rfl (fun d hd => by cases hd)
  intro p hp
  rcases List.mem_append.mp hp with hp | hp
  · exact k2 p hp
  · cases List.mem_singleton.mp hp
    have k1 : isplitF (isplitF is).cur = ⟨[], (isplitF is).cur, (isplitF is).seen⟩ := k1
    rw [isplit, k1]; rfl
/-! the law's second half -/
def itU (k : It → Nat) (i : It) : It := { i with gt := untokS i.gs, gs := gU (k i) }
theorem untok_itS (k : It → Nat) (is : List It) : untok (itS is) = itT (is.map (itU k)) := by
  induction is with
  | nil => rfl
  | cons i is ih =>
    have e1 : ∀ a b, untok (a ++ b) = untok a ++ untok b := fun a b => by simp [untok]
    have e2 : untok (fS i) = List.replicate i.n i.c ++ untokS i.gs := by simp [untok, fS, untok1, untokS, Function.comp_def]
    rw [itS_cons, e1, e2, ih, List.map_cons, itT_cons, List.append_assoc]; rfl
theorem itK_U (k : It → Nat) (is : List It) : itK (is.map (itU k)) = itK is := by
  induction is with
  | nil => rfl
  | cons i is ih => rw [List.map_cons, itK_cons, itK_cons, ih]; rfl
/-- an item of the law's -/
def ItL (i : It) (k : Nat) : Prop := i.c ∈ letters ∧ 1 ≤ i.n ∧ i.n ≤ 5 ∧ k < 6 ∧ i.gt = gT k ∧ i.gk = gK k ∧ i.gs = gS k
theorem ItL.ok {i : It} {k : Nat} : ItL i k → ItOk i := by
  rintro ⟨h1, h2, h3, hk, e1, e2, e3⟩
  exact ⟨h1, h2, h3, by rw [e1, e2, e3]; exact gapT hk⟩
theorem ItL.okU {i : It} {k : It → Nat} : ItL i (k i) → ItOk (itU k i) ∧ untokS (itU k i).gs = (itU k i).gt := by
  rintro ⟨h1, h2, h3, hk, e1, e2, e3⟩
  refine ⟨⟨h1, h2, h3, ?_⟩, ?_⟩
  · show GapOk (untokS i.gs) i.gk (gU (k i))
    rw [e2, e3]; exact (gapU hk).1
  · show untokS (gU (k i)) = untokS i.gs
    rw [e3]; exact (gapU hk).2
theorem itT_len : ∀ {is : List It}, (∀ i ∈ is, ItOk i) → (itT is).length ≤ 17 * is.length
  | [], _ => Nat.le_refl _
  | i :: is, h => by
    have hi := h i List.mem_cons_self
    have := itT_len fun j hj => h j (.tail _ hj)
    have h1 := hi.m
    have h2 := hi.g.len
    rw [itT_cons, List.length_append, List.length_append, List.length_replicate, List.length_cons]; omega
theorem itS_len : ∀ {is : List It}, (∀ i ∈ is, ItOk i) → (itS is).length ≤ 3 * is.length
  | [], _ => Nat.le_refl _
  | i :: is, h => by
    have hi := h i List.mem_cons_self
    have := itS_len fun j hj => h j (.tail _ hj)
    have h1 := hi.g.gl.1
    rw [itS_cons, List.length_append, fS, List.length_cons, List.length_map, List.length_cons]; omega
theorem itS_sz {is : List It} (h : ∀ i ∈ is, ItOk i) : ∀ t ∈ itS is, t.sz ≤ 12 := by
  intro t ht
  obtain ⟨i, hi, ht⟩ := List.mem_flatMap.mp ht
  have hi := h i hi
  rcases List.mem_cons.mp ht with rfl | ht
  · have := hi.m; show i.n ≤ 12; omega
  · obtain ⟨g, hg, rfl⟩ := List.mem_map.mp ht
    exact hi.g.gl.2 g hg
theorem untok_len : ∀ {is : List It}, (∀ i ∈ is, ItOk i) → (untok (itS is)).length ≤ 17 * is.length
  | [], _ => Nat.le_refl _
  | i :: is, h => by
    have hi := h i List.mem_cons_self
    have := untok_len fun j hj => h j (.tail _ hj)
    have h1 := hi.m
    have h2 := hi.g.ul
    have e1 : ∀ a b, untok (a ++ b) = untok a ++ untok b := fun a b => by simp [untok]
    have e2 : untok (fS i) = List.replicate i.n i.c ++ untokS i.gs := by simp [untok, fS, untok1, untokS, Function.comp_def]
    rw [itS_cons, e1, e2, List.length_append, List.length_append, List.length_replicate, List.length_cons]; omega
/-- a piece put down and read again; broken again -/
theorem law_part {is : List It} {k : It → Nat} (h : ∀ i ∈ is, ItL i (k i)) : ∀ p ∈ isplit is, ∃ p', (∀ i ∈ p', ItOk i) ∧ p'.length = p.length ∧ untok (itS p) = itT p' ∧ rd (untok (itS p)) false [] = ((itK p).reverse, false) ∧ (splitz (tokz (untok (itS p)))).map untok = [untok (itS p)] := by
  intro p hp
  have hpm := isplit_mem (P := fun i => ItL i (k i)) (is := is) (s := ⟨[], [], []⟩) h (fun d hd => by cases hd) (fun i hi => by cases hi) p hp
  have hok : ∀ i ∈ p.map (itU k), ItOk i := fun i hi => by
    obtain ⟨j, hj, rfl⟩ := List.mem_map.mp hi
    exact (hpm j hj).okU.1
  refine ⟨p.map (itU k), hok, by simp, untok_itS k p, ?_, ?_⟩
  · rw [untok_itS k, rd_items0 hok, itK_U]
  · rw [untok_itS k, tokz_items hok, splitz_S, isplit_map (u := itU k) (fun _ => rfl), isplit_once p hp]
    simp only [List.map_cons, List.map_nil]
    rw [untok_itS k]
    congr 1
    have : ∀ {q : List It}, (∀ i ∈ q, ItL i (k i)) → itT ((q.map (itU k)).map (itU k)) = itT (q.map (itU k)) := by
      intro q
      induction q with
      | nil => intro _; rfl
      | cons j q ih =>
        intro hq
        rw [List.map_cons, List.map_cons, itT_cons, itT_cons, ih fun i hi => hq i (.tail _ hi)]
        have := (hq j List.mem_cons_self).okU.2
        show List.replicate j.n j.c ++ (untokS (itU k j).gs ++ _) = _
        rw [this]; rfl
    exact this hpm
/-! the law's own: its frame, lists cut, joined and turned, deep equality -/
section
variable {prog : Program} {w : World} {os : OsState} {B Z₀ Z Z' : Fz} {L a b c f d : Addr} {m : Str → Option Value} {l : Led} {s : Shared} {A : Around} {E : Value → Shared → Prop} {env : Env} {pos : Pos} {v u : Value}
  {name qual : Str} {params : Arguments} {body : List Stmt} {scope : Scope} {dV kV doc pm cdv ct oc : Value} {an od : Option Addr} {osl : Array (Option Value)} {vs ws : List Value} {binds : List (Str × Value)} {t : Tok}
theorem enterC0 {Q : Value → Shared → Prop} (hA : A.depth < recursionLimit) (H0 : ∀ tk, 0 < tk → Base w os Z { s with toks := tk })
    (ho : (KH w.params).lookup f = some ⟨oc, od, .func (fnOf name qual params body scope dV kV doc pm an cdv ct), osl⟩) (hcd : codeIn (KH w.params) cdv qual = true)
    (hbind : bindArgs (fnOf name qual params body scope dV kV doc pm an cdv ct) ⟨vs, []⟩ = pure binds) (hloc : (binds.all fun x => decide (scope.names.lookup x.1 = some .local)) = true)
    (h : ∀ s₁ L E', (∀ tk, 0 < tk → St w os (Below0 s) Z Z L (bindL (envX qual scope L f cdv (cellsFrom (L + 1) scope.names [])).kindOf binds fun _ => none) (cellLed (cellsFrom (L + 1) scope.names [])) { s₁ with toks := tk }) →
      wpAny (model prog w) (A.deeper (envX qual scope L f cdv (cellsFrom (L + 1) scope.names []))) (execs body (envX qual scope L f cdv (cellsFrom (L + 1) scope.names []))) (fun fl s' => Q (match fl with | .ret v => v | _ => .none) s') E' s₁)
    (hnd : (scope.names.map (·.1)).Nodup := by decide)
    (hco : scope.isCoroutine = false := by rfl) (hgen : scope.isGenerator = false := by rfl) (hk : scope.kind = .function := by rfl) :
    wpAny (model prog w) A (call (.ref f) vs []) Q E s := by
  have H := H0 1 (by decide)
  have frz : ∀ b o, Z b o → s.heap.get? b = some o := H.frz
  refine wpAny_call ?_
  have hl := locs hloc
  refine codeAny_call_function (fd := fnOf name qual params body scope dV kV doc pm an cdv ct) (body := body) hA (frz _ _ (H.wd.k _ _ ho)) rfl hco hgen rfl (codeRec_of (H.wd.in frz) hcd) ?_
  rw [hbind]
  refine wpAny_pure (wpAny_with_toks (Nat.le_refl _) (wpAny_newFunctionEnv_cells hk (fun x hx => .inl (hl x hx)) fun env he s' x htk => ?_))
  subst he
  have hlim : s.heap.NoLimit := by have q := St.lim H; exact q
  refine ⟨hlim.keeps x.toInCall.keep, codeAny_func ?_⟩
  obtain ⟨h₁, tk, rfl⟩ := x.toInCall.same
  have hnone := bindC_local (kindOf := Env.kindOf (envX qual scope s.heap.objs.size f cdv (cellsFrom (s.heap.objs.size + 1) scope.names []))) (m := fun _ => none) (fun y hy => hl y hy)
  refine h _ s.heap.objs.size _ fun tk' htk' => ?_
  have E0 := H.enter (h₁ := h₁) tk' htk' x.toInCall.fresh x.toInCall.ns x.toInCall.keep
  refine St.addCells H E0 (Nat.le_refl _) _ (fun q hq => ⟨x.above q.1 q.2 hq, ?_⟩) x.apart
  have hx : (cellsFrom (s.heap.objs.size + 1) scope.names []).lookup q.1 = some q.2 := by
    refine lookup_of_mem ?_ hq
    rw [cellsFrom_names]
    simp only [List.map_nil, List.append_nil]
    exact (List.reverse_perm _).nodup_iff.mpr ((List.filter_sublist.map _).nodup hnd)
  exact (congrFun hnone q.1) ▸ x.cell q.1 q.2 hx
theorem slicePick_upto (items : Array Value) (k : Nat) : slicePick items none (some (k : Int)) none = (items.toList.take k).toArray := by
  have e : sliceBounds none (some (k : Int)) none items.size = (((0 : Nat) : Int), ((min k items.size : Nat) : Int), 1) := by
    simp only [sliceBounds, Option.getD_none]
    have h1 : ¬ ((k : Int) < 0) := by omega
    simp only [h1, if_false, show (1 : Int) > 0 by decide, if_true]
    congr 1
    congr 1
    omega
  rw [kmk_pick_nat _ e, List.drop_zero, Nat.sub_zero]
  congr 1
  rcases Nat.le_total k items.size with h | h
  · rw [Nat.min_eq_left h]
  · rw [Nat.min_eq_right h, List.take_of_length_le (by simp), List.take_of_length_le (by simpa using h)]
/-- list[:k] -/
def HeadThen (w : World) (os : OsState) (B Z₀ : Fz) (L : Addr) (o vu : Value) (Q : Value → Shared → Prop) (s : Shared) : Prop :=
  ∃ b vs k t Z₁ m₁ l₁, o = .ref b ∧ vu = .int (k : Nat) t ∧ St w os B Z₀ Z₁ L m₁ l₁ s ∧ Has Z₁ l₁ b (pL vs) ∧ vs.length ≤ sizeLine ∧ ∀ s' a, St w os B Z₀ Z₁ L m₁ ((a, pL (vs.take k)) :: l₁) s' → Q (.ref a) s'
theorem headL {value upper : Expr} {q : Pos} {Q : Value → Shared → Prop} (_H : St w os B Z₀ Z L m l s)
    (h : wpAny (model prog w) A (eval value env) (fun o s₁ => wpAny (model prog w) A (evalPart (some upper) env) (fun vu s₂ => HeadThen w os B Z₀ L o vu Q s₂) E s₁) E s)
    (ht : ∀ o r, letTemporaryGo value o r = pure () := by intro _ _; rfl) :
    wpAny (model prog w) A (eval (.Subscript value (.Slice none (some upper) none q) pos) env) Q E s := by
  refine wpAny_Subscript_list_slice (wpAny_mono h (fun o s₁ h₁ => evalPart_none_step (wpAny_mono h₁ (fun vu s₂ h₂ => ?_) fun _ _ e => e)) fun _ _ e => e) ht
  obtain ⟨b, vs, k, t, Z₁, m₁, l₁, rfl, rfl, H₁, hh, hsz, hq⟩ := h₂
  refine ⟨b, vs.toArray, none, some (k : Int), rfl, pL.list (H₁.has hh), by simpa using hsz, .none, .int _ _, ?_⟩
  rw [slicePick_upto]
  have H₂ := H₁.alloc (p := fun _ => True) { cls := .type "slice", data := .fields #[.none, .int (k : Nat) t, .none] } rfl trivial
  have H₃ := H₂.alloc (p := pL (vs.take k)) { cls := .type "list", data := .seq (vs.take k).toArray } rfl ⟨0, rfl⟩
  rw [Heap.size_push] at H₃
  exact hq _ _ (H₃.drop (.there .here))
/-- list[::-1] -/
def RevThen (w : World) (os : OsState) (B Z₀ : Fz) (L : Addr) (o vu : Value) (Q : Value → Shared → Prop) (s : Shared) : Prop :=
  ∃ b vs t Z₁ m₁ l₁, o = .ref b ∧ vu = .int (-1) t ∧ St w os B Z₀ Z₁ L m₁ l₁ s ∧ Has Z₁ l₁ b (pL vs) ∧ vs.length ≤ sizeLine ∧ ∀ s' a, St w os B Z₀ Z₁ L m₁ ((a, pL vs.reverse) :: l₁) s' → Q (.ref a) s'
theorem revTail {value step : Expr} {q : Pos} {Q : Value → Shared → Prop} {o : Value} (_H : St w os B Z₀ Z L m l s) (h : wpAny (model prog w) A (evalPart (some step) env) (fun vu s₂ => RevThen w os B Z₀ L o vu Q s₂) E s) :
    wpAny (model prog w) A (eval (.Slice none none (some step) q) env) (fun i s₂ => wpAny (model prog w) A (subscriptTail value (.Slice none none (some step) q) o i) Q E s₂) E s := by
  refine wpAny_Slice (evalPart_none_step (evalPart_none_step (wpAny_mono h (fun vu s₂ h₂ => ?_) fun _ _ e => e)))
  obtain ⟨b, vs, t, Z₁, m₁, l₁, rfl, rfl, H₁, hh, hsz, hq⟩ := h₂
  have H₂ := H₁.alloc (p := fun _ => True) { cls := .type "slice", data := .fields #[.none, .none, .int (-1) t] } rfl trivial
  have hl := H₂.list (a := b) (vs := vs) (hh.imp (fun x => .tail _ x) id)
  refine tail_any hl.typeIs slot_list_getitem.lookup (wpAny_getItem_list_slice hl ⟨_, Heap.get?_push_size _ rfl, rfl, rfl⟩ .none .none (.int _ _) (by simp) ?_ (by simpa using hsz)) rfl
  rw [krv_pick]
  have H₃ := H₂.alloc (p := pL vs.reverse) { cls := .type "list", data := .seq vs.reverse.toArray } rfl ⟨0, rfl⟩
  exact hq _ _ (H₃.drop (.there .here))
theorem addL {Q : Value → Shared → Prop} (H : St w os B Z₀ Z L m l s) (h1 : Has Z l a (pL vs)) (h2 : Has Z l b (pL ws)) (hsz : vs.length + ws.length ≤ sizeLine) (h : ∀ s' c, St w os B Z₀ Z L m ((c, pL (vs ++ ws)) :: l) s' → Q (.ref c) s') :
    wpAny (model prog w) A (binaryOp .Add (.ref a) (.ref b)) Q E s := by
  obtain ⟨o1, e1, n1, rfl⟩ := H.has h1
  obtain ⟨o2, e2, n2, rfl⟩ := H.has h2
  have e : vs.toArray ++ ws.toArray = (vs ++ ws).toArray := by simp
  refine concat_meets ⟨_, e1, rfl⟩ ⟨_, e2, rfl⟩ noFill_list_add seq_list_add PySem.F.slot_list_add PySem.F.entry_list_add (PySem.F.args_list_add_2 _ _) (list_addW a b vs.toArray ws.toArray n1 n2 none none #[] #[] (by simpa using hsz)) ⟨e1, e2, ?_⟩
  rw [e]
  exact h _ _ (H.alloc (p := pL (vs ++ ws)) { cls := .type "list", data := .seq (vs ++ ws).toArray } rfl ⟨0, rfl⟩)
theorem lenL {Q : Value → Shared → Prop} (H : St w os B Z₀ Z L m l s) (hh : Has Z l a (pL vs)) (hx : vs.length < 2 ^ 62) (h : ∀ s' t, St w os B Z₀ Z L m l s' → Q (.int vs.length t) s') : wpAny (model prog w) A (call (.builtin "len") [.ref a]) Q E s := by
  refine len_list (H.list hh) (by rw [List.size_toArray]; omega) ?_
  rw [List.size_toArray]
  exact h _ _ (H.toks _ (Nat.succ_pos _))
theorem itemTk {value slice : Expr} {Q : Value → Shared → Prop} {k : Int} {tk : Tok} (H : St w os B Z₀ Z L m l s) (hh : Has Z l a (pT vs)) (h0 : 0 ≤ k) (h1 : k < vs.length) (h2 : vs.length < 1000000) (hx : vs[k.toNat]? = some v) (h : Q v s)
    (hs : subscripted slice false (.ref a) (.int k tk) = operate [.ref a, .int k tk] (getItem (.ref a) (.int k tk)) := by with_unfolding_all rfl) : wpAny (model prog w) A (subscriptTail value slice (.ref a) (.int k tk)) Q E s := by
  have hlt : k.toNat < vs.length := by omega
  have : seqIndex? k vs.length = some k.toNat := by
    unfold seqIndex?
    have e : ¬ k < 0 := by omega
    simp only [if_neg e]
    first | (rw [if_neg (by omega)]) | (rw [if_pos (by omega)]) | simp [h0, h1] | (simp; omega)
  exact itemT H hh (by omega) (by omega) this hx h hs
/-! deep equality -/
/-- the two are equal, whatever happens meanwhile; k: how deep -/
def EqV (Z : Fz) (k : Nat) (v u : Value) : Prop := ∀ (A : Around) (s : Shared), (∀ b o, Z b o → s.heap.get? b = some o) → A.units + k < cLine → SeqAt.EqAt A s v u true
theorem EqV.mono {k k' : Nat} (h : EqV Z k v u) (hk : k ≤ k') : EqV Z k' v u := fun A s hz hu => h A s hz (by omega)
theorem EqV.str {x : Str} {t t' : Tok} : EqV Z 0 (.str x t) (.str x t') := fun A s _ _ => by have := SeqAt.EqAt.str_str (A := A) (s := s) x t x t'; rwa [beq_self_eq_true] at this
theorem EqV.int {i : Int} {t t' : Tok} : EqV Z 0 (.int i t) (.int i t') := fun A s _ _ => by have := SeqAt.EqAt.int_int (A := A) (s := s) i t i t'; rwa [beq_self_eq_true] at this
theorem EqV.bool {x : Bool} : EqV Z 0 (.bool x) (.bool x) := fun A s _ _ => SeqAt.EqAt.same _
theorem All2.at {α β : Type} {R : α → β → Prop} : ∀ {l : List α} {r : List β}, All2 R l r → ∀ (i : Nat) (h1 : i < l.length) (h2 : i < r.length), R l[i] r[i]
  | _, _, .cons h _, 0, _, _ => h
  | _, _, .cons _ t, i + 1, h1, h2 => t.at i (by simpa using h1) (by simpa using h2)
theorem all_true (n : Nat) : ((List.range n).all fun _ => true) = true := by simp
theorem EqV.list {k : Nat} (h1 : ∃ o, Z a o ∧ pL vs o) (h2 : ∃ o, Z b o ∧ pL ws o) (h : All2 (EqV Z k) vs ws) : EqV Z (k + 1) (.ref a) (.ref b) := fun A s hz hu => by
  by_cases hab : a = b
  · subst hab; exact SeqAt.EqAt.same _
  · obtain ⟨o1, z1, n1, rfl⟩ := h1
    obtain ⟨o2, z2, n2, rfl⟩ := h2
    refine SeqAt.EqAt.of_refs hab ?_
    have := SeqAt.RcAt.lists (A := A) (s := s) (l := a) (b := b) (items := vs.toArray) (items2 := ws.toArray) (e := fun _ => true) ⟨_, hz _ _ z1, rfl, n1, rfl⟩ ⟨_, hz _ _ z2, rfl, n2, rfl⟩ (by simpa using h.len) (by omega)
      fun j h1 h2 => h.at j (by simpa using h1) (by simpa using h2) A.in1 s hz (by show A.units + 1 + k < _; omega)
    rwa [all_true] at this
theorem EqV.tup {k : Nat} (h1 : ∃ o, Z a o ∧ pT vs o) (h2 : ∃ o, Z b o ∧ pT ws o) (h : All2 (EqV Z k) vs ws) : EqV Z (k + 1) (.ref a) (.ref b) := fun A s hz hu => by
  by_cases hab : a = b
  · subst hab; exact SeqAt.EqAt.same _
  · obtain ⟨o1, z1, n1, rfl⟩ := h1
    obtain ⟨o2, z2, n2, rfl⟩ := h2
    refine SeqAt.EqAt.of_refs hab ?_
    have := SeqAt.RcAt.tuples (A := A) (s := s) (l := a) (b := b) (items := vs.toArray) (items2 := ws.toArray) (e := fun _ => true) ⟨_, hz _ _ z1, rfl, n1, rfl⟩ ⟨_, hz _ _ z2, rfl, n2, rfl⟩ (by omega)
      fun j h1 h2 => h.at j (by simpa using h1) (by simpa using h2) A.in1 s hz (by show A.units + 1 + k < _; omega)
    rw [all_true] at this
    have hs : (vs.toArray.size == ws.toArray.size) = true := by simpa using h.len
    rw [hs] at this
    exact this
theorem EqV.tk {t : Tk} (h1 : TkZ Z v t) (h2 : TkZ Z u t) : EqV Z 1 v u := by
  obtain ⟨a, o, rfl, za, pa⟩ := h1
  obtain ⟨b, p, rfl, zb, pb⟩ := h2
  cases t with
  | ch x =>
    obtain ⟨t1, t2, pa⟩ := pa
    obtain ⟨t3, t4, pb⟩ := pb
    exact EqV.list ⟨o, za, pa⟩ ⟨p, zb, pb⟩ (.cons .str (.cons .str .nil))
  | fd c n =>
    obtain ⟨t1, t2, t3, pa⟩ := pa
    obtain ⟨t4, t5, t6, pb⟩ := pb
    exact EqV.list ⟨o, za, pa⟩ ⟨p, zb, pb⟩ (.cons .str (.cons .str (.cons .int .nil)))
theorem All2.both {α β γ : Type} {R : α → γ → Prop} {R' : β → γ → Prop} {T : α → β → Prop} (k : ∀ a b c, R a c → R' b c → T a b) : ∀ {l : List α} {r : List β} {c : List γ}, All2 R l c → All2 R' r c → All2 T l r
  | _, _, _, .nil, .nil => .nil
  | _, _, _, .cons h1 t1, .cons h2 t2 => .cons (k _ _ _ h1 h2) (All2.both k t1 t2)
theorem EqV.rd {r : List Tk × Bool} (h1 : RdZ Z v r) (h2 : RdZ Z u r) : EqV Z 3 v u := by
  obtain ⟨a, o, v1, rfl, za, pa, a1, o1, vs1, rfl, za1, pa1, ha⟩ := h1
  obtain ⟨b, p, u1, rfl, zb, pb, b1, p1, us1, rfl, zb1, pb1, hb⟩ := h2
  exact EqV.tup ⟨o, za, pa⟩ ⟨p, zb, pb⟩ (.cons (EqV.list ⟨_, za1, pa1⟩ ⟨_, zb1, pb1⟩ (All2.both (R := TkZ Z) (R' := TkZ Z) (T := EqV Z 1) (fun _ _ _ x y => EqV.tk x y) ha hb)) (.cons (EqV.bool.mono (by omega)) .nil))
theorem EqV.strs {xs : List (List Nat)} (h1 : StrsZ Z v xs) (h2 : StrsZ Z u xs) : EqV Z 1 v u := by
  obtain ⟨a, o, vs1, rfl, za, pa, ha⟩ := h1
  obtain ⟨b, p, us1, rfl, zb, pb, hb⟩ := h2
  exact EqV.list ⟨o, za, pa⟩ ⟨p, zb, pb⟩ (All2.both (R := StrV) (R' := StrV) (T := EqV Z 0) (fun _ _ _ ⟨_, x⟩ ⟨_, y⟩ => by rw [x, y]; exact EqV.str) ha hb)
theorem eqLs {k : Nat} {Q : Value → Shared → Prop} (H : St w os B Z₀ Z L m l s) (h1 : ∃ o, Z a o ∧ pL vs o) (h2 : ∃ o, Z b o ∧ pL ws o) (hu : A.units + (k + 1) < cLine) (h : All2 (EqV Z k) vs ws) (hq : Q (.bool true) s) : wpAny (model prog w) A (compareOp .Eq (.ref a) (.ref b)) Q E s := by
  obtain ⟨o1, z1, n1, rfl⟩ := h1
  obtain ⟨o2, z2, n2, rfl⟩ := h2
  refine SeqAt.eq_listAt (items := vs.toArray) (items2 := ws.toArray) (e := fun _ => true) ⟨_, H.frz _ _ z1, rfl, n1, rfl⟩ ⟨_, H.frz _ _ z2, rfl, n2, rfl⟩ (by simpa using h.len) (by omega)
    (fun j h1 h2 => h.at j (by simpa using h1) (by simpa using h2) A.in1 s H.frz (by show A.units + 1 + k < _; omega)) ?_
  rw [all_true]; exact hq
end
section
variable {prog : Program} {w : World} {os : OsState} {B Z₀ Z : Fz} {L : Addr} {m : Str → Option Value} {l : Led} {s : Shared} {A : Around} {E : Value → Shared → Prop} {Q : Value → Shared → Prop} {sa : Addr} {svs : List Value} {ns : List Int} {v u : Value}
theorem eqOpt {b : Option (List Nat)} (h1 : OptV v b) (h2 : OptV u b) (h : Q (.bool true) s) : wpAny (model prog w) A (compareOp .Eq v u) Q E s := by
  cases b with
  | none =>
    obtain rfl : v = .none := h1
    obtain rfl : u = .none := h2
    exact SeqAt.RcAt.none_none prog w E Q h
  | some y =>
    obtain ⟨t, rfl⟩ : StrV v y := h1
    obtain ⟨t', rfl⟩ : StrV u y := h2
    refine PyProof.Rows.eq_str ?_
    rw [beq_self_eq_true]; exact h
theorem ints_get : ∀ {vs : List Value} {ns : List Int}, IntsAre vs ns → ∀ {i : Nat} {v : Value}, vs[i]? = some v → ∃ n t, v = .int n t
  | _, _, .nil, _, _, h => by simp at h
  | _, _, .cons n t _, 0, _, h => by cases Option.some.inj h; exact ⟨n, t, rfl⟩
  | _, _, .cons _ _ r, i + 1, _, h => ints_get r (by simpa using h)
theorem ints_take {k i : Nat} {vs : List Value} {ns : List Int} {v : Value} (hi : IntsAre vs ns) (h : (vs.take k)[i]? = some v) : ∃ n t, v = .int n t := by
  rw [List.getElem?_take] at h
  split at h
  · exact ints_get hi h
  · cases h
theorem S_nil : Str.ofString "" = S [] := by decide +kernel
theorem ne_nil {y : List Nat} : (S y != Str.ofString "") = decide (y ≠ []) := by
  rw [S_nil]
  by_cases h : y = []
  · subst h; simp
  · have : ¬ S y = S [] := fun e => h (S_inj.mp e)
    simp [h, this]
def ksOf (ys : List (List Nat)) : List (List Nat) := ys.filter fun y => decide (y ≠ [])
theorem ksOf_mem {ys : List (List Nat)} {y : List Nat} (h : y ∈ ksOf ys) : y ∈ ys ∧ y ≠ [] := by
  obtain ⟨h1, h2⟩ := List.mem_filter.mp h
  exact ⟨h1, by simpa using h2⟩
theorem ksOf_take {ys : List (List Nat)} {i : Nat} {y : List Nat} (h : ys[i]? = some y) : ksOf (ys.take (i + 1)) = ksOf (ys.take i) ++ (if y = [] then [] else [y]) := by
  rw [List.take_add_one, h, ksOf, List.filter_append]
  congr 1
  by_cases hy : y = []
  · subst hy; rfl
  · simp [hy]
theorem optsOf_law (ys : List (List Nat)) : optsOf (ys.map some ++ [none, some []]) = ksOf ys := by
  rw [optsOf, List.filter_append, List.map_append]
  have e : ((ys.map some).filter truthyO).map (fun y => y.getD []) = ksOf ys := by
    induction ys with
    | nil => rfl
    | cons y ys ih =>
      cases y with
      | nil => simpa [truthyO, ksOf] using ih
      | cons c r => simpa [truthyO, ksOf] using ih
  rw [e]
  show ksOf ys ++ [] = _
  rw [List.append_nil]
theorem optsOf_rev (l : List (Option (List Nat))) : (optsOf l.reverse).Perm (optsOf l) := by
  unfold optsOf
  rw [List.filter_reverse, List.map_reverse]
  exact List.reverse_perm _
theorem optV_map : ∀ {vs : List Value} {ys : List (List Nat)}, All2 StrV vs ys → All2 OptV vs (ys.map some)
  | _, _, .nil => .nil
  | _, _, .cons h r => .cons h (optV_map r)
theorem runs_of {y : List Nat} (h : SkelL y) (hy : y ≠ []) : ∃ rs, y = runsT rs ∧ Runs rs ∧ rs ≠ [] := by
  obtain ⟨rs, e, hr⟩ := h.runs
  exact ⟨rs, e, hr, fun e2 => hy (by rw [e, e2]; rfl)⟩
theorem runs_dM : Runs [(100, 1), (77, 1)] := ⟨by decide, by decide, by decide, by decide⟩
theorem dM_S : Str.ofString "dM" = S (runsT [(100, 1), (77, 1)]) := by decide +kernel
theorem reads_spec2 {x : List Nat} {z : Str} {t : Tok} (hz : z = S x) (hA : Rm A 2) (H : Base w os Z s) (hx : x.length ≤ 1000) (hP : Post w os Z s (fun Z' v => RdZ Z' v (rd x false [])) Q) : wpAny (model prog w) A (call (.ref 92) [.str z t]) Q E s := by
  subst hz; exact reads_spec hA H hx hP
/-- what is read of a text of runs -/
def RunsZ (Z : Fz) (v : Value) : Prop := ∃ a o vs rs, v = .ref a ∧ Z a o ∧ pL vs o ∧ All2 (TkZ Z) vs (runsK rs) ∧ Runs rs ∧ rs ≠ [] ∧ rs.length ≤ 1000
theorem runsT_len : ∀ {rs : List (Nat × Nat)}, (∀ r ∈ rs, 1 ≤ r.2) → rs.length ≤ (runsT rs).length
  | [], _ => Nat.le_refl _
  | r :: rs, h => by
    have e : runsT (r :: rs) = List.replicate r.2 r.1 ++ runsT rs := by simp [runsT]
    have h1 := h r List.mem_cons_self
    have := runsT_len fun q hq => h q (.tail _ hq)
    rw [e, List.length_append, List.length_replicate, List.length_cons]; omega
theorem rdz_runs {rs : List (Nat × Nat)} (h : RdZ Z v (rd (runsT rs) false [])) (hr : Runs rs) (h0 : rs ≠ []) (hl : (runsT rs).length ≤ 1000) : ∃ a o v1, v = .ref a ∧ Z a o ∧ pT [v1, .bool false] o ∧ RunsZ Z v1 := by
  rw [rd_skel hr] at h
  obtain ⟨a, o, v1, rfl, hz, hp, a1, o1, vs, rfl, hz1, hp1, hv⟩ := h
  exact ⟨a, o, _, rfl, hz, hp, a1, o1, vs, rs, rfl, hz1, hp1, by rwa [List.reverse_reverse] at hv, hr, h0, Nat.le_trans (runsT_len hr.pos) hl⟩
theorem gap_at {t1 t2 t3 t4 t5 t6 : Tok} {k : Nat} (h : k < 6) : ∃ t, [Value.str (Str.ofString ".") t1, .str (Str.ofString " - ") t2, .str (Str.ofString " 'to' ") t3, .str (Str.ofString "'o''clock'") t4, .str (Str.ofString ", 'day' ") t5, .str (Str.ofString "/") t6][k]? = some (.str (S (gT k)) t) := by
  have e0 : Str.ofString "." = S (gT 0) := by decide +kernel
  have e1 : Str.ofString " - " = S (gT 1) := by decide +kernel
  have e2 : Str.ofString " 'to' " = S (gT 2) := by decide +kernel
  have e3 : Str.ofString "'o''clock'" = S (gT 3) := by decide +kernel
  have e4 : Str.ofString ", 'day' " = S (gT 4) := by decide +kernel
  have e5 : Str.ofString "/" = S (gT 5) := by decide +kernel
  rw [e0, e1, e2, e3, e4, e5]
  match k, h with
  | 0, _ => exact ⟨t1, rfl⟩
  | 1, _ => exact ⟨t2, rfl⟩
  | 2, _ => exact ⟨t3, rfl⟩
  | 3, _ => exact ⟨t4, rfl⟩
  | 4, _ => exact ⟨t5, rfl⟩
  | 5, _ => exact ⟨t6, rfl⟩
theorem gT_len {k : Nat} (h : k < 6) : (gT k).length ≤ 12 := (gapT h).len
theorem itK_len : ∀ (is : List It), (itK is).length ≤ 2 * is.length
  | [] => Nat.le_refl _
  | j :: is => by have := itK_len is; rw [itK_cons]; simp only [List.length_cons]; omega
theorem StrsZ.mono {Z Z' : Fz} {v : Value} {xs : List (List Nat)} (k : ∀ b o, Z b o → Z' b o) : StrsZ Z v xs → StrsZ Z' v xs := fun ⟨a, o, vs, e, h, p, r⟩ => ⟨a, o, vs, e, k _ _ h, p, r⟩
theorem take_map {α β : Type} {ps : List α} {i : Nat} {q : α} {f : α → β} (h : ps[i]? = some q) : (ps.take (i + 1)).map f = (ps.take i).map f ++ [f q] := by
  rw [List.take_add_one, h]; simp
theorem isplit_bounds (is : List It) : (isplit is).length ≤ is.length + 1 ∧ ∀ p ∈ isplit is, p.length ≤ is.length := by
  obtain ⟨h1, h2⟩ := isplit_len (is := is) (s := ⟨[], [], []⟩)
  refine ⟨?_, fun p hp => ?_⟩
  · show ((is.foldl istep ⟨[], [], []⟩).done ++ [_]).length ≤ _
    simp only [List.length_append, List.length_cons, List.length_nil] at h1 ⊢; omega
  · rcases h2 p hp with h | h
    · cases h
    · simpa using h
set_option maxHeartbeats 8000000 in
theorem law_spec (hA : Rm A 8) (H0 : ∀ tk, 0 < tk → Base w os Z { s with toks := tk }) (hl : ∃ o, Z sa o ∧ pL svs o) (hi : IntsAre svs ns) (hn : ns.length ≤ 63)
    (hP : Post w os Z s (fun _ v => v = .bool true) Q) : wpAny (model prog w) A (call (.ref 123) [.ref sa]) Q E s := by
  refine enterC0 (binds := [(Str.ofString "script", .ref sa)]) (by have := hA.dp; omega) H0 rfl (by rfl) rfl (by rfl) (fun s₁ L E' H₁ => ?_)
  generalize hm : bindL _ _ _ = m at H₁
  have hm1 : m (Str.ofString "script") = some (.ref sa) := by subst hm; rfl
  clear hm
  have hsl : svs.length ≤ 63 := by rw [hi.length]; exact hn
  replace H₁ : ∀ tk, 0 < tk → St w os (Below0 s) Z Z L m [(L + 1, pCell none)] { s₁ with toks := tk } := H₁
  refine wpAny_execs_cons (joinF (fun s' => ∃ m', St w os (Below0 s) Z Z L m' [(L + 1, pCell none)] s' ∧ ∃ n t, m' (Str.ofString "script") = some (.ref sa) ∧ m' (Str.ofString "m") = some (.int n t)) ?_ ?_)
  · have hsl' : svs.toArray.size < 2 ^ 62 := by rw [List.size_toArray]; omega
    refine wpAny_Assign_Name (wpAny_IfExp (wpAny_isTrue_value (wpAny_Name (wpAny_loadName_local rfl rfl (H₁ 1 (by decide)).ns hm1 (wpAny_truthy_list (items := svs.toArray) ((H₁ 1 (by decide)).list (.inr hl)) (by omega) ?_)) (by decide))))
    have H2 := H₁ (s₁.toks + 1 + 1) (Nat.succ_pos _)
    clear H₁
    cases hi with
    | nil => (repeat' (first | tb_rel | ((with_reducible refine iteB (fun h9 => ?_) (fun h9 => ?_)) <;> (try (exfalso; first | exact absurd h9 (by decide) | (exact Bool.noConfusion (h9.symm.trans (by assumption) : true = false)) | (exact Bool.noConfusion (h9.symm.trans (by assumption) : false = true)) | (simp at h9; done) | (simp [Str.length] at h9; done)))))); exact ⟨rfl, _, by assumption, _, _, by tb_start, by tb_start⟩
    | cons n t r => (repeat' (first | tb_rel | ((with_reducible refine iteB (fun h9 => ?_) (fun h9 => ?_)) <;> (try (exfalso; first | exact absurd h9 (by decide) | (exact Bool.noConfusion (h9.symm.trans (by assumption) : true = false)) | (exact Bool.noConfusion (h9.symm.trans (by assumption) : false = true)) | (simp at h9; done) | (simp [Str.length] at h9; done)))))); exact ⟨rfl, _, by assumption, _, _, by tb_start, by tb_start⟩
  clear H₁ hm1 m
  rintro s2 ⟨m, H2, n, t, hm1, hm2⟩
  (repeat tb_rel)
  rename St _ _ _ _ _ _ _ _ _ => H3
  refine base_spec (hA.deeper.le (by decide)) H3.toBase (H3.back fun s4 Z4 v4 H4 hle4 hr => ?_)
  obtain ⟨ba, bo, rfl, hzb, hR7⟩ := hr
  obtain ⟨x0, t0, x1, t1, x2, t2, x3, t3, x4, t4, x5, t5, x6, t6, hpb, c0, c1, c2, c3, c4, c5, c6⟩ := id hR7
  have hfb : ∃ o, Z4 ba o ∧ pL [.str x0 t0, .str x1 t1, .str x2 t2, .str x3 t3, .str x4 t4, .str x5 t5, .str x6 t6] o := ⟨bo, hzb, hpb⟩
  have hv7 : All2 StrV [.str x0 t0, .str x1 t1, .str x2 t2, .str x3 t3, .str x4 t4, .str x5 t5, .str x6 t6] [x0.cps.toList, x1.cps.toList, x2.cps.toList, x3.cps.toList, x4.cps.toList, x5.cps.toList, x6.cps.toList] :=
    .cons ⟨t0, by rw [S_cps]⟩ (.cons ⟨t1, by rw [S_cps]⟩ (.cons ⟨t2, by rw [S_cps]⟩ (.cons ⟨t3, by rw [S_cps]⟩ (.cons ⟨t4, by rw [S_cps]⟩ (.cons ⟨t5, by rw [S_cps]⟩ (.cons ⟨t6, by rw [S_cps]⟩ .nil))))))
  obtain ⟨x, hxe⟩ : ∃ x, x = [x0.cps.toList, x1.cps.toList, x2.cps.toList, x3.cps.toList, x4.cps.toList, x5.cps.toList, x6.cps.toList].flatten := ⟨_, rfl⟩
  have hx : SkelL x := ⟨_, _, _, _, _, _, _, by rw [hxe]; simp, c0, c1, c2, c3, c4, c5, c6⟩
  have hxl := hx.len
  have hsz : [x0.cps.toList, x1.cps.toList, x2.cps.toList, x3.cps.toList, x4.cps.toList, x5.cps.toList, x6.cps.toList].flatten.length ≤ sizeLine := by rw [← hxe, sizeLine_eq]; omega
  (repeat tb_rel)
  rename St _ _ _ _ _ _ _ _ _ => H5
  rw [← hxe] at H5
  obtain ⟨Zc, hlec, ⟨oc, hzc, hpc⟩, H6⟩ := H5.freeze .here
  have hcell : ∃ o, Zc (L + 1) o ∧ pCell (some (.ref ba)) o := ⟨oc, hzc, hpc⟩
  have hl' : ∃ o, Zc sa o ∧ pL svs o := let ⟨o, z, p⟩ := hl; ⟨o, hlec _ _ (hle4 _ _ z), p⟩
  replace hzb := hlec _ _ hzb
  clear H5 hfb hv7 hsz c0 c1 c2 c3 c4 c5 c6 hpb hl hlec hle4 hzc hpc
  refine compA H6 hA.hd (cl := [(Str.ofString "base", L + 1)]) rfl ?_
  refine headL H6 ?_
  (repeat tb_rel)
  rename St _ _ _ _ _ _ _ _ _ => H7
  refine ⟨sa, svs, 4, _, _, _, _, rfl, rfl, H7, .inr hl', by rw [sizeLine_eq]; omega, fun s8 da H8 => ?_⟩
  obtain ⟨Z9, hle9, hz9, H9⟩ := H8.freeze .here
  have hN4 : (svs.take 4).length ≤ 4 := by rw [List.length_take]; omega
  refine ⟨_, comp_then H9 (.list hz9) (by rw [sizeLine_eq]; omega) (fun i Z2 vs l' => l' = [] ∧ ∃ ys : List (List Nat), ys.length = i ∧ All2 StrV vs ys ∧ ∀ y ∈ ys, SkelL y) ⟨rfl, [], rfl, .nil, fun y hy => by cases hy⟩ ?_ ?_⟩
  · rintro i v Z2 vs l' C I' p' D mC s' E' hi9 hv' hle ⟨rfl, ys, hyl, hvs, hys⟩ H'
    obtain ⟨k, tk, rfl⟩ := ints_take hi hv'
    have hcell' : ∃ o, Z2 (L + 1) o ∧ pCell (some (.ref ba)) o := let ⟨o, z, p⟩ := hcell; ⟨o, hle _ _ (hle9 _ _ z), p⟩
    (repeat tb_rel)
    refine wpAny_tests_nil ?_
    rw [if_pos rfl]
    (repeat tb_rel)
    rename St _ _ _ _ _ _ _ _ _ => H10
    refine option_spec (hA.deeper.le (by decide)) H10.toBase (hle _ _ (hle9 _ _ hzb)) hR7 (H10.back fun s11 Z11 v11 H11 hle11 hr => ?_)
    obtain ⟨y, ty, rfl, hy⟩ := hr
    exact ⟨_, _, _, H11, hle11, rfl, ys ++ [y.cps.toList], by simp [hyl], hvs.append (.cons ⟨ty, by rw [S_cps]⟩ .nil), fun z hz => by
      rcases List.mem_append.mp hz with hz | hz
      · exact hys z hz
      · cases List.mem_singleton.mp hz; exact hy.L⟩
  rintro Z10 ovs l' D s10 hle10 ⟨rfl, ys, hyl, hvs, hys⟩ H10
  obtain ⟨Z11, hle11, hz11, H11⟩ := H10.freeze .here
  have hl' : ∃ o, Z11 sa o ∧ pL svs o := let ⟨o, z, p⟩ := hl'; ⟨o, hle11 _ _ (hle10 _ _ (hle9 _ _ z)), p⟩
  have hyl4 : ys.length ≤ 4 := by omega
  clear hz9 hN4 hcell hle9 hle10 hle11 hR7 hzb
  clear hxe x0 t0 x1 t1 x2 t2 x3 t3 x4 t4 x5 t5 x6 t6
  (repeat tb_rel)
  rename St _ _ _ _ _ _ _ _ _ => H12
  refine compE H12 hA.hd (cl := []) rfl ?_
  (repeat tb_rel)
  rename St _ _ _ _ _ _ _ _ _ => H13
  refine ⟨_, comp_then H13 (.list hz11) (by rw [sizeLine_eq]; have := hvs.len; omega) (fun i Z2 vs l' => l' = [] ∧ All2 StrV vs (ksOf (ys.take i))) ⟨rfl, .nil⟩ ?_ ?_⟩
  · rintro i v Z2 vs l' C I' p' D' mC s' E' hi9 hv' hle ⟨rfl, hvs2⟩ H'
    obtain ⟨y, hy, ty, rfl⟩ := hvs.get hv'
    have ht' := ksOf_take hy
    (repeat tb_rel)
    refine wpAny_tests_one ?_
    (repeat' (first | tb_rel | ((with_reducible refine iteB (fun h9 => ?_) (fun h9 => ?_)) <;> (try (exfalso; first | exact absurd h9 (by decide) | (exact Bool.noConfusion (h9.symm.trans (by assumption) : true = false)) | (exact Bool.noConfusion (h9.symm.trans (by assumption) : false = true)) | (simp at h9; done) | (simp [Str.length] at h9; done))))))
    · rename (S y != Str.ofString "") = true => h7
      rw [ne_nil] at h7
      have h7' : y ≠ [] := by simpa using h7
      rw [if_neg h7'] at ht'
      rename St _ _ _ _ _ _ _ _ _ => H9
      exact ⟨_, _, _, H9, fun _ _ e => e, rfl, by rw [ht']; exact hvs2.append (.cons ⟨_, rfl⟩ .nil)⟩
    · rename (S y != Str.ofString "") = false => h7
      rw [ne_nil] at h7
      have h7' : y = [] := by simpa using h7
      rw [if_pos h7', List.append_nil] at ht'
      rename St _ _ _ _ _ _ _ _ _ => H9
      exact ⟨_, _, _, H9, fun _ _ e => e, rfl, by rw [ht']; exact hvs2⟩
  rintro Z12 kvs l' D2 s12 hle12 ⟨rfl, hks⟩ H14
  rw [hvs.len, List.take_length] at hks
  obtain ⟨Z13, hle13, hz13, H15⟩ := H14.freeze .here
  have hl13 : ∃ o, Z13 sa o ∧ pL svs o := let ⟨o, z, p⟩ := hl'; ⟨o, hle13 _ _ (hle12 _ _ z), p⟩
  have hzD : ∃ o, Z13 D o ∧ pL ovs o := let ⟨o, z, p⟩ := hz11; ⟨o, hle13 _ _ (hle12 _ _ z), p⟩
  have hksl : (ksOf ys).length ≤ 4 := Nat.le_trans (List.length_filter_le _ _) hyl4
  have hkS : ∀ y ∈ ksOf ys, SkelL y := fun y hy => hys y (ksOf_mem hy).1
  clear hl' hz11 hle12 hle13 H14
  (repeat tb_rel)
  generalize hal : (Int.fdiv n 4860 == 1) = al
  rename St _ _ _ _ _ _ _ _ _ => H16
  refine nearest_spec (hA.deeper.le (by decide)) H16.toBase (by omega) hz13 hks (by omega) (fun y hy => by have := (hkS y hy).len; omega) (H16.back fun s17 Z17 vb H17 hle17 hr => ?_)
  have hbv : OptV vb ((nearestB x (ksOf ys) al).map (·.2)) := by
    cases h : nearestB x (ksOf ys) al with
    | none => rw [h] at hr; exact hr
    | some q => rw [h] at hr; exact hr
  clear hr
  have hbm : ∀ y, (nearestB x (ksOf ys) al).map (·.2) = some y → y ∈ ksOf ys := fun y h => nearest_mem hx hkS h
  have hmn : ∀ {oys : List (Option (List Nat))} {v : Value}, (optsOf oys).Perm (ksOf ys) → MatchRes x oys al v → OptV v ((nearestB x (ksOf ys) al).map (·.2)) := fun h1 h2 => match_nearest hx hkS h1 h2
  generalize (nearestB x (ksOf ys) al).map (·.2) = bq at hbv hbm hmn
  have hl17 : ∃ o, Z17 sa o ∧ pL svs o := let ⟨o, z, p⟩ := hl13; ⟨o, hle17 _ _ z, p⟩
  have hzD : ∃ o, Z17 D o ∧ pL ovs o := let ⟨o, z, p⟩ := hzD; ⟨o, hle17 _ _ z, p⟩
  clear hl13 hz13 hle17 hks H16
  (repeat tb_rel)
  rename St _ _ _ _ _ _ _ _ _ => H18
  have hol := hvs.len
  refine addL H18 (.inr hzD) (.inl List.mem_cons_self) (by rw [sizeLine_eq]; simp only [List.length_cons, List.length_nil]; omega) fun s19 D3 H19 => ?_
  obtain ⟨Z20, hle20, hz20, H20⟩ := H19.freeze .here
  obtain ⟨Z21, hle21, hz21, H21⟩ := H20.freeze .here
  have hov : ∀ t, All2 OptV (ovs ++ [.none, .str (Str.ofString "") t]) (ys.map some ++ [none, some []]) := fun t => (optV_map hvs).append (.cons rfl (.cons ⟨t, by rw [S_nil]⟩ .nil))
  have hl21 : ∃ o, Z21 sa o ∧ pL svs o := let ⟨o, z, p⟩ := hl17; ⟨o, hle21 _ _ (hle20 _ _ z), p⟩
  have hz20' : ∃ o, Z21 D3 o ∧ pL _ o := let ⟨o, z, p⟩ := hz20; ⟨o, hle21 _ _ z, p⟩
  have hoy : ∀ y ∈ ksOf ys, y.length ≤ 1000 := fun y hy => by have := (hkS y hy).len; omega
  clear hl17 hzD hz20 hz21 hle20 hle21 H18 H19 H20
  (repeat tb_rel)
  rw [hal]
  rename St _ _ _ _ _ _ _ _ _ => H22
  refine match_spec (hA.deeper.le (by decide)) H22.toBase (by omega) hz20' (hov _) (by simp; omega) (fun y hy => hoy y (by rwa [optsOf_law] at hy)) (H22.back fun s23 Z23 v23 H23 hle23 hr => ?_)
  have hv23 := hmn (by rw [optsOf_law]) hr
  clear hr H22
  (repeat tb_rel)
  refine eqOpt hv23 hbv ?_
  have hl23 : ∃ o, Z23 sa o ∧ pL svs o := let ⟨o, z, p⟩ := hl21; ⟨o, hle23 _ _ z, p⟩
  have hz23 : ∃ o, Z23 D3 o ∧ pL _ o := let ⟨o, z, p⟩ := hz20'; ⟨o, hle23 _ _ z, p⟩
  clear hl21 hz20' hle23 hv23
  (repeat' (first | tb_rel | ((with_reducible refine iteB (fun h9 => ?_) (fun h9 => ?_)) <;> (try (exfalso; first | exact absurd h9 (by decide) | (exact Bool.noConfusion (h9.symm.trans (by assumption) : true = false)) | (exact Bool.noConfusion (h9.symm.trans (by assumption) : false = true)) | (simp at h9; done) | (simp [Str.length] at h9; done))))))
  rename St _ _ _ _ _ _ _ _ _ => H24
  refine revTail H24 ?_
  (repeat tb_rel)
  rename St _ _ _ _ _ _ _ _ _ => H24
  refine ⟨D3, _, _, _, _, _, rfl, rfl, H24, .inr hz23, by rw [sizeLine_eq]; simp; omega, fun s25 D4 H25 => ?_⟩
  obtain ⟨Z26, hle26, hz26, H26⟩ := H25.freeze .here
  have hl26 : ∃ o, Z26 sa o ∧ pL svs o := let ⟨o, z, p⟩ := hl23; ⟨o, hle26 _ _ z, p⟩
  clear hl23 hle26 H25 hz23 H24
  (repeat tb_rel)
  rw [hal]
  rename St _ _ _ _ _ _ _ _ _ => H27
  refine match_spec (hA.deeper.le (by decide)) H27.toBase (by omega) hz26 (hov _).reverse (by simp; omega) (fun y hy => hoy y (by rw [← optsOf_law]; exact (optsOf_rev _).mem_iff.mp hy)) (H27.back fun s28 Z28 v28 H28 hle28 hr => ?_)
  have hv28 := hmn (by rw [← optsOf_law]; exact optsOf_rev _) hr
  clear hr H27
  (repeat tb_rel)
  refine eqOpt hv28 hbv ?_
  have hl28 : ∃ o, Z28 sa o ∧ pL svs o := let ⟨o, z, p⟩ := hl26; ⟨o, hle28 _ _ z, p⟩
  clear hl26 hz26 hle28 hv28 hov hoy hol hmn
  tb_rel
  rename St _ _ _ _ _ _ _ _ _ => H29
  refine wpAny_execs_cons (joinF (fun s' => ∃ Z' m', St w os (Below0 s) Z Z' L m' [] s' ∧ (∀ b o, Z28 b o → Z' b o) ∧ m' (Str.ofString "script") = some (.ref sa) ∧ m' (Str.ofString "ok") = some (.bool true) ∧ ∃ v, m' (Str.ofString "runs") = some v ∧ RunsZ Z' v) ?_ ?_)
  · (repeat tb_rel)
    cases bq with
    | none =>
      obtain rfl : vb = .none := hbv
      (repeat' (first | tb_rel | ((with_reducible refine iteB (fun h9 => ?_) (fun h9 => ?_)) <;> (try (exfalso; first | exact absurd h9 (by decide) | (exact Bool.noConfusion (h9.symm.trans (by assumption) : true = false)) | (exact Bool.noConfusion (h9.symm.trans (by assumption) : false = true)) | (simp at h9; done) | (simp [Str.length] at h9; done))))))
      rename St _ _ _ _ _ _ _ _ _ => H30
      refine reads_spec2 dM_S (hA.deeper.le (by decide)) H30.toBase (by decide) (H30.back fun s31 Z31 v31 H31 hle31 hr => ?_)
      obtain ⟨a, o, v1, rfl, hz, hp, hrs⟩ := rdz_runs hr runs_dM (by decide) (by decide)
      have f1 : ∃ o, Z31 a o ∧ pT _ o := ⟨o, hz, hp⟩
      (repeat tb_rel)
      exact ⟨rfl, _, _, by assumption, hle31, by tb_start, by tb_start, v1, by tb_start, hrs⟩
    | some y =>
      obtain ⟨ty, rfl⟩ : StrV vb y := hbv
      have hyk := hbm y rfl
      obtain ⟨rs, hy, hr0, hrn⟩ := runs_of (hkS y hyk) (ksOf_mem hyk).2
      have hyl := (hkS y hyk).len
      (repeat' (first | tb_rel | ((with_reducible refine iteB (fun h9 => ?_) (fun h9 => ?_)) <;> (try (exfalso; first | exact absurd h9 (by decide) | (exact Bool.noConfusion (h9.symm.trans (by assumption) : true = false)) | (exact Bool.noConfusion (h9.symm.trans (by assumption) : false = true)) | (simp at h9; done) | (simp [Str.length] at h9; done))))))
      rename St _ _ _ _ _ _ _ _ _ => H30
      refine reads_spec (hA.deeper.le (by decide)) H30.toBase (by omega) (H30.back fun s31 Z31 v31 H31 hle31 hr => ?_)
      rw [hy] at hr
      obtain ⟨a, o, v1, rfl, hz, hp, hrs⟩ := rdz_runs hr hr0 hrn (by rw [← hy]; omega)
      have f1 : ∃ o, Z31 a o ∧ pT _ o := ⟨o, hz, hp⟩
      (repeat tb_rel)
      exact ⟨rfl, _, _, by assumption, hle31, by tb_start, by tb_start, v1, by tb_start, hrs⟩
  clear hbm hbv hkS hys hvs hm1 hm2
  rintro s32 ⟨Z32, m32, H32, hle32, hm1, hm2, v32, hm3, ra, ro, rvs, rs, rfl, hzr, hpr, hrv, hrs, hr0, hrn⟩
  have hl32 : ∃ o, Z32 sa o ∧ pL svs o := let ⟨o, z, p⟩ := hl28; ⟨o, hle32 _ _ z, p⟩
  clear hl28 hle32 H29
  have hrl : 0 < rs.length := List.length_pos_iff.mpr hr0
  have hrvl : rvs.length = rs.length := by have := hrv.len; simpa [runsK] using this
  (repeat tb_rel)
  refine joinF (fun s' => ∃ Z' m', St w os (Below0 s) Z Z' L m' [] s' ∧ m' (Str.ofString "ok") = some (.bool true) ∧ ∃ its : List It, its.length ≤ 6 ∧ (∀ i ∈ its, ∃ k, ItL i k) ∧ ∃ t, m' (Str.ofString "pattern") = some (.str (S (itT its)) t)) ?_ ?_
  · refine forC (by assumption) hA.hd ?_
    refine headL (by assumption) ?_
    (repeat tb_rel)
    rename St _ _ _ _ _ _ _ _ _ => H33
    refine ⟨sa, svs, 6, _, _, _, _, rfl, rfl, H33, .inr hl32, by rw [sizeLine_eq]; omega, fun s34 dd H34 => ?_⟩
    obtain ⟨Z35, hle35, hz35, H35⟩ := H34.freeze .here
    refine loop_then H35 (.list hz35) (fun i Z' m' l' => l' = [] ∧ m' (Str.ofString "ok") = some (.bool true) ∧ m' (Str.ofString "runs") = some (.ref ra) ∧ ∃ its : List It, its.length = i ∧ (∀ i ∈ its, ∃ k, ItL i k) ∧ ∃ t, m' (Str.ofString "pattern") = some (.str (S (itT its)) t)) ?_ ?_ ?_
    · exact ⟨rfl, by tb_start, by tb_start, [], rfl, (fun i h => by cases h), _, upd_self.trans (congrArg (fun z => some (Value.str z _)) S_nil)⟩
    · clear H33 H34 H35
      rintro i v Z' m' l' I p s' E' hi9 hv' hle ⟨rfl, k1, k2, its, hlen, hits, tp, kp⟩ H'
      obtain ⟨nn, tn, rfl⟩ := ints_take hi hv'
      have hzr' : ∃ o, Z' ra o ∧ pL rvs o := ⟨ro, hle _ _ (hle35 _ _ hzr), hpr⟩
      (repeat tb_rel)
      rename St _ _ _ _ _ _ _ _ _ => H36
      refine lenL H36 (.inr hzr') (by omega) fun s37 t37 H37 => ?_
      (repeat tb_rel)
      refine mod_int' (by omega) ?_
      rename St _ _ _ _ _ _ _ _ _ => H38
      replace H38 := H38.tok1
      have hk := fmod_pos (a := (nn.fmod 252).fdiv 6) (b := (rvs.length : Int)) (by omega)
      have hkn : (((nn.fmod 252).fdiv 6).fmod (rvs.length : Int)).toNat < rvs.length := by omega
      generalize ((nn.fmod 252).fdiv 6).fmod (rvs.length : Int) = kk at hk hkn
      obtain ⟨tk, htk, hzt⟩ := hrv.get (List.getElem?_eq_getElem hkn)
      rw [runsK, List.getElem?_map] at htk
      obtain ⟨r, hr, rfl⟩ := Option.map_eq_some_iff.mp htk
      have hrm := List.mem_of_getElem? hr
      have hr1 := hrs.let_ r hrm
      have hr2 := hrs.pos r hrm
      have hr3 := hrs.top r hrm
      refine itemL H38 (.inr hzr') hk.1 (by omega) (List.getElem?_eq_getElem hkn) ?_ (by with_unfolding_all rfl)
      obtain ⟨ta, to, hte, hto, tf1, tf2, tf3, htp⟩ := hzt.mono (fun b o e => hle _ _ (hle35 _ _ e))
      rw [hte]
      have f1 : ∃ o, Z' ta o ∧ pL _ o := ⟨to, hto, htp⟩
      have hn3 : r.2 ≤ 100000 := by omega
      (repeat tb_rel)
      rename St _ _ _ _ _ _ _ _ _ => H39
      have hN6 : (svs.take 6).length ≤ 6 := by rw [List.length_take]; omega
      have hil : (itT its).length ≤ 17 * its.length := itT_len fun i hi => (hits i hi).elim fun k h => h.ok
      refine addS H39 (by rw [S_len, S_len, List.length_replicate, sizeLine_eq]; omega) fun s40 t40 H40 => ?_
      clear H39
      (repeat tb_rel)
      rename St _ _ _ _ _ _ _ _ _ => H41
      obtain ⟨o72, q1, q2, q3, q4, q5, q6, l72, p72⟩ := k72 (P := w.params)
      have hk2 := fmod_pos (a := nn.fmod 252) (b := 6) (by decide)
      generalize (nn.fmod 252).fmod 6 = k2 at hk2
      have hk6 : k2.toNat < 6 := by omega
      obtain ⟨tg, hg⟩ := gap_at (t1 := q1) (t2 := q2) (t3 := q3) (t4 := q4) (t5 := q5) (t6 := q6) hk6
      have hgl := gT_len hk6
      refine itemTk H41 (.inr ⟨o72, H41.wd.k _ _ l72, p72⟩) hk2.1 (by simp only [List.length_cons, List.length_nil]; omega) (by simp) hg ?_
      have hs2 : (S (itT its) ++ S (List.replicate r.2 r.1)).length + (S (gT k2.toNat)).length ≤ sizeLine := by rw [S_append, S_len, S_len, List.length_append, List.length_replicate, sizeLine_eq]; omega
      (repeat tb_rel)
      refine ⟨_, _, _, by assumption, fun _ _ e => e, rfl, by tb_start, by tb_start, its ++ [⟨r.1, r.2, gT k2.toNat, gK k2.toNat, gS k2.toNat⟩], by simp [hlen], ?_, _, upd_self.trans (congrArg (fun z => some (Value.str z _)) ?_)⟩
      · intro j hj
        rcases List.mem_append.mp hj with hj | hj
        · exact hits j hj
        · cases List.mem_singleton.mp hj
          exact ⟨k2.toNat, hr1, hr2, hr3, hk6, rfl, rfl, rfl⟩
      · rw [S_append, S_append, itT_append, itT_cons]; simp [itT]
    · rintro Z' m' l' s' hle ⟨rfl, k1, k2, its, hlen, hits, tp, kp⟩ H'
      exact ⟨rfl, Z', m', H', k1, its, by rw [hlen, List.length_take]; omega, hits, tp, kp⟩
  rintro s42 ⟨Z42, m42, H42, hm2, its, hil6, hits, tp, hm3⟩
  clear hl32 hrv hzr hpr
  obtain ⟨kf, hkf⟩ : ∃ kf : It → Nat, ∀ i ∈ its, ItL i (kf i) := ⟨fun i => Classical.epsilon fun k => ItL i k, fun i hi => Classical.epsilon_spec (hits i hi)⟩
  have hok : ∀ i ∈ its, ItOk i := fun i hi => (hkf i hi).ok
  have hpl : (itT its).length ≤ 17 * its.length := itT_len hok
  (repeat tb_rel)
  rename_i ca0 _ pa _ _ t0 _ H43
  refine joinF (fun s' => ∃ Z' m' dv ca cvs, St w os (Below0 s) Z Z' L m' [(pa, pL (dv ++ [.ref ca])), (ca, pL cvs)] s' ∧ m' (Str.ofString "pieces") = some (.ref pa) ∧ m' (Str.ofString "ok") = some (.bool true) ∧ m' (Str.ofString "pattern") = some (.str (S (itT its)) tp) ∧ All2 (TksZ Z') dv (splitF (itK its)).done ∧ All2 (TkZ Z') cvs (splitF (itK its)).cur) ?_ ?_
  · refine forC H43 hA.hd ?_
    (repeat tb_rel)
    rename St _ _ _ _ _ _ _ _ _ => H44
    refine reads_spec (hA.deeper.le (by decide)) H44.toBase (by omega) (H44.back fun s45 Z45 v45 H45 hle45 hr => ?_)
    rw [rd_items0 hok] at hr
    obtain ⟨a, o, v1, rfl, hz, hp, a1, o1, tvs, rfl, hz1, hp1, htv⟩ := hr
    rw [List.reverse_reverse] at htv
    have f1 : ∃ o, Z45 a o ∧ pT _ o := ⟨o, hz, hp⟩
    (repeat tb_rel)
    rename St _ _ _ _ _ _ _ _ _ => H46
    refine loop_then H46 (.list ⟨o1, hz1, hp1⟩) (fun i Z' m' l' => m' (Str.ofString "pieces") = some (.ref pa) ∧ m' (Str.ofString "ok") = some (.bool true) ∧ m' (Str.ofString "pattern") = some (.str (S (itT its)) tp) ∧
      ∃ dv ca cvs sn ts, All2 (TksZ Z') dv (splitF ((itK its).take i)).done ∧ All2 (TkZ Z') cvs (splitF ((itK its).take i)).cur ∧ m' (Str.ofString "seen") = some (.str (S sn) ts) ∧ (∀ c, sn.contains c = (splitF ((itK its).take i)).seen.contains c) ∧ sn.length ≤ i ∧ l' = [(pa, pL (dv ++ [.ref ca])), (ca, pL cvs)]) ?_ ?_ ?_
    · exact ⟨by tb_start, by tb_start, by tb_start, [], ca0, [], [], _, .nil, .nil, upd_self.trans (congrArg (fun z => some (Value.str z _)) S_nil), fun _ => rfl, Nat.le_refl _, rfl⟩
    · rintro i v Z' m' l' I p s' E' hi9 hv' hle ⟨k1, k2, k3, dv, ca, cvs, sn, ts, hdv, hcv, k4, hsn, hsl9, rfl⟩ H'
      obtain ⟨tk, htk, hz⟩ := htv.get hv'
      replace hz := hz.mono hle
      have ht' := splitF_take _ htk
      have hl9 := splitF_done ((itK its).take i) ⟨[], [], []⟩
      have hKl := itK_len its
      have hti : ((itK its).take i).length ≤ 12 := by rw [List.length_take]; omega
      change (splitF ((itK its).take i)).done.length ≤ _ ∧ (splitF ((itK its).take i)).cur.length ≤ _ ∧ _ at hl9
      simp only [List.length_nil, Nat.zero_add] at hl9
      have hil : i < 12 := by have := htv.len; omega
      have hdl : dv.length ≤ 12 := by have := hdv.len; omega
      have hcl : cvs.length ≤ 12 := by have := hcv.len; omega
      have hem : ∀ c, (Str.ofString "").length + (S [c]).length ≤ sizeLine := fun c => by rw [S_nil, S_len, S_len, sizeLine_eq]; simp
      generalize splitF ((itK its).take i) = sp at *
      obtain ⟨b, bo', rfl, hzb, hpb⟩ := id hz
      cases tk with
      | fd c n' =>
        obtain ⟨t1, t2, t3, hpb⟩ := hpb
        have f2 : ∃ o, Z' b o ∧ pL _ o := ⟨_, hzb, hpb⟩
        have hemc := hem c
        (repeat' (first | tb_rel | ((with_reducible refine iteB (fun h9 => ?_) (fun h9 => ?_)) <;> (try (exfalso; first | exact absurd h9 (by decide) | (exact Bool.noConfusion (h9.symm.trans (by assumption) : true = false)) | (exact Bool.noConfusion (h9.symm.trans (by assumption) : false = true)) | (simp at h9; done) | (simp [Str.length] at h9; done))))))
        · rename Txt.contains (S sn) (S [c]) = true => h7
          rename St _ _ _ _ _ _ _ _ _ => H9
          obtain ⟨Z2, hle2, ⟨o2, hz2, hp2⟩, H9⟩ := H9.freeze (a := ca) (.there (.there (.there .here)))
          rw [contains_S1, hsn] at h7
          have e9 : sstep sp (.fd c n') = ⟨sp.done ++ [sp.cur], [.fd c n'], [c]⟩ := by rw [sstep, if_pos h7]
          refine ⟨_, _, _, H9.perm (List.Perm.trans (List.Perm.swap _ _ _) ((List.Perm.swap _ _ _).cons _)), hle2, by tb_start, by tb_start, by tb_start, ?_⟩
          rw [ht', e9]
          exact ⟨dv ++ [.ref ca], _, _, [c], _, (hdv.mono fun _ _ h => h.mono hle2).append (.cons ⟨ca, o2, cvs, rfl, hz2, hp2, hcv.mono fun _ _ h => h.mono hle2⟩ .nil), .cons (hz.mono hle2) .nil,
            upd_self.trans (congrArg (fun z => some (Value.str z _)) (by rw [S_nil, S_append]; rfl)), fun _ => rfl, by simp, rfl⟩
        · rename Txt.contains (S sn) (S [c]) = false => h7
          rename St _ _ _ _ _ _ _ _ _ => H9
          rw [contains_S1, hsn] at h7
          have e9 : sstep sp (.fd c n') = ⟨sp.done, sp.cur ++ [.fd c n'], c :: sp.seen⟩ := by rw [sstep, if_neg (by rw [h7]; decide)]
          refine ⟨_, _, _, H9, fun _ _ e => e, by tb_start, by tb_start, by tb_start, ?_⟩
          rw [ht', e9]
          exact ⟨dv, ca, _, sn ++ [c], _, hdv, hcv.append (.cons hz .nil), upd_self.trans (congrArg (fun z => some (Value.str z _)) (by rw [S_append])), fun d => by rw [List.contains_cons, ← hsn d]; by_cases hd : d = c <;> simp [hd, Bool.or_comm], by simp; omega, rfl⟩
      | ch y =>
        obtain ⟨t1, t2, hpb⟩ := hpb
        have f2 : ∃ o, Z' b o ∧ pL _ o := ⟨_, hzb, hpb⟩
        (repeat' (first | tb_rel | ((with_reducible refine iteB (fun h9 => ?_) (fun h9 => ?_)) <;> (try (exfalso; first | exact absurd h9 (by decide) | (exact Bool.noConfusion (h9.symm.trans (by assumption) : true = false)) | (exact Bool.noConfusion (h9.symm.trans (by assumption) : false = true)) | (simp at h9; done) | (simp [Str.length] at h9; done))))))
        rename St _ _ _ _ _ _ _ _ _ => H9
        have e9 : sstep sp (.ch y) = ⟨sp.done, sp.cur ++ [.ch y], sp.seen⟩ := rfl
        refine ⟨_, _, _, H9, fun _ _ e => e, by tb_start, by tb_start, by tb_start, ?_⟩
        rw [ht', e9]
        exact ⟨dv, ca, _, sn, ts, hdv, hcv.append (.cons hz .nil), by tb_start, hsn, by omega, rfl⟩
    · rintro Z' m' l' s' hle ⟨k1, k2, k3, dv, ca, cvs, sn, ts, hdv, hcv, k4, hsn, hsl9, rfl⟩ H'
      rw [htv.len, List.take_length] at hdv hcv
      exact ⟨rfl, Z', m', dv, ca, cvs, H', k1, k2, k3, hdv, hcv⟩
  rintro s47 ⟨Z47, m47, dv, ca, cvs, H47, hm1, hm2, hm3, hdv, hcv⟩
  obtain ⟨Z48, hle48, ⟨op, hzp, hpp⟩, H48⟩ := H47.freeze .here
  obtain ⟨Z49, hle49, ⟨oc, hzc, hpc⟩, H49⟩ := H48.freeze .here
  have hpcs : All2 (TksZ Z49) (dv ++ [.ref ca]) ((isplit its).map itK) := by
    rw [← splitz_K]
    exact (hdv.mono fun _ _ h => (h.mono hle48).mono hle49).append (.cons ⟨ca, oc, cvs, rfl, hzc, hpc, hcv.mono fun _ _ h => (h.mono hle48).mono hle49⟩ .nil)
  have hpa : ∃ o, Z49 pa o ∧ pL (dv ++ [.ref ca]) o := ⟨op, hle49 _ _ hzp, hpp⟩
  clear hdv hcv H48 H47 hzp hpp hzc hpc hle48 hle49 H43
  (repeat tb_rel)
  rename St _ _ _ _ _ _ _ _ _ => H50
  refine split_spec (hA.deeper.le (by decide)) H50.toBase (by omega) (by rw [tokz_items hok]; exact fun t ht => Nat.le_trans (itS_sz hok t ht) (by decide)) (by rw [tokz_items hok]; have := itS_len hok; omega) (by rw [tokz_items hok]; have := untok_len hok; omega) (H50.back fun s51 Z51 v51 H51 hle51 hr => ?_)
  rw [tokz_items hok, splitz_S] at hr
  obtain ⟨tla, tlo, tvs, rfl, hztl, hptl, htv⟩ := hr
  have hpcs51 : All2 (TksZ Z51) (dv ++ [.ref ca]) ((isplit its).map itK) := hpcs.mono fun _ _ h => h.mono hle51
  have hpa51 : ∃ o, Z51 pa o ∧ pL (dv ++ [.ref ca]) o := let ⟨o, z, p⟩ := hpa; ⟨o, hle51 _ _ z, p⟩
  have hlp := law_part hkf
  obtain ⟨hpn, hpsl⟩ := isplit_bounds its
  clear hpcs hpa H50
  generalize isplit its = ps at htv hpcs51 hlp hpn hpsl
  have htl : tvs.length = ps.length := by have := htv.len; simpa using this
  have hdl : (dv ++ [Value.ref ca]).length = ps.length := by have := hpcs51.len; simpa using this
  have htq : ∀ {i : Nat} {v : Value}, tvs[i]? = some v → ∃ q ty, ps[i]? = some q ∧ q ∈ ps ∧ v = .str (S (untok (itS q))) ty := fun {i v} hv' => by
    obtain ⟨tx, htx, ty, rfl⟩ := htv.get hv'
    rw [List.map_map, List.getElem?_map] at htx
    obtain ⟨q, hq, rfl⟩ := Option.map_eq_some_iff.mp htx
    exact ⟨q, ty, hq, List.mem_of_getElem? hq, rfl⟩
  (repeat' (first | tb_rel | ((with_reducible refine iteB (fun h9 => ?_) (fun h9 => ?_)) <;> (try (exfalso; first | exact absurd h9 (by decide) | (exact Bool.noConfusion (h9.symm.trans (by assumption) : true = false)) | (exact Bool.noConfusion (h9.symm.trans (by assumption) : false = true)) | (simp at h9; done) | (simp [Str.length] at h9; done))))))
  rename St _ _ _ _ _ _ _ _ _ => H52
  refine compE H52 hA.hd (cl := []) rfl ?_
  (repeat tb_rel)
  rename St _ _ _ _ _ _ _ _ _ => H53
  refine ⟨_, comp_then H53 (.list ⟨tlo, hztl, hptl⟩) (by rw [sizeLine_eq]; omega) (fun i Z2 vs l' => l' = [] ∧ All2 (RdZ Z2) vs ((ps.take i).map fun p => ((itK p).reverse, false))) ⟨rfl, .nil⟩ ?_ ?_⟩
  · rintro i v Z2 vs l' C I' p' D mC s' E' hi9 hv' hle ⟨rfl, hvs⟩ H'
    obtain ⟨q, ty, hq, hqm, rfl⟩ := htq hv'
    obtain ⟨q', hq1, hq2, hq3, hq4, hq5⟩ := hlp q hqm
    have hql := hpsl q hqm
    have hqt := itT_len hq1
    (repeat tb_rel)
    refine wpAny_tests_nil ?_
    rw [if_pos rfl]
    (repeat tb_rel)
    rename St _ _ _ _ _ _ _ _ _ => H54
    refine reads_spec (hA.deeper.le (by decide)) H54.toBase (by rw [hq3]; omega) (H54.back fun s55 Z55 v55 H55 hle55 hr => ?_)
    rw [hq4] at hr
    exact ⟨_, _, _, H55, hle55, rfl, by rw [take_map hq]; exact (hvs.mono fun _ _ h => h.mono hle55).append (.cons hr .nil)⟩
  rintro Z56 vs1 l' D1 s56 hle56 ⟨rfl, hvs1⟩ H56
  rw [htl, List.take_length] at hvs1
  obtain ⟨Z57, hle57, hz57, H57⟩ := H56.freeze .here
  have hpcs57 : All2 (TksZ Z57) (dv ++ [.ref ca]) (ps.map itK) := hpcs51.mono fun _ _ h => (h.mono hle56).mono hle57
  have hpa57 : ∃ o, Z57 pa o ∧ pL (dv ++ [.ref ca]) o := let ⟨o, z, p⟩ := hpa51; ⟨o, hle57 _ _ (hle56 _ _ z), p⟩
  have htl57 : ∃ o, Z57 tla o ∧ pL tvs o := ⟨tlo, hle57 _ _ (hle56 _ _ hztl), hptl⟩
  replace hvs1 : All2 (RdZ Z57) vs1 _ := hvs1.mono fun _ _ h => h.mono hle57
  clear hpcs51 hpa51 H56 H53
  (repeat tb_rel)
  rename St _ _ _ _ _ _ _ _ _ => H58
  refine compE H58 hA.hd (cl := []) rfl ?_
  (repeat tb_rel)
  rename St _ _ _ _ _ _ _ _ _ => H59
  refine ⟨_, comp_then H59 (.list hpa57) (by rw [sizeLine_eq]; omega) (fun i Z2 vs l' => l' = [] ∧ All2 (RdZ Z2) vs ((ps.take i).map fun p => ((itK p).reverse, false))) ⟨rfl, .nil⟩ ?_ ?_⟩
  · rintro i v Z2 vs l' C I' p' D mC s' E' hi9 hv' hle ⟨rfl, hvs⟩ H'
    obtain ⟨kq, hkq, hz⟩ := hpcs57.get hv'
    rw [List.getElem?_map] at hkq
    obtain ⟨q, hq, rfl⟩ := Option.map_eq_some_iff.mp hkq
    obtain ⟨pq, poq, pvq, rfl, hz1, hp1, hv1⟩ := hz.mono hle
    (repeat tb_rel)
    refine wpAny_tests_nil ?_
    rw [if_pos rfl]
    (repeat tb_rel)
    rename St _ _ _ _ _ _ _ _ _ => H60
    obtain ⟨Z61, hle61, ⟨o61, hz61, hp61⟩, H61⟩ := H60.freeze .here
    exact ⟨_, _, _, H61, hle61, rfl, by
      rw [take_map hq]
      exact (hvs.mono fun _ _ h => h.mono hle61).append (.cons ⟨_, o61, _, rfl, hz61, hp61, by rw [List.reverse_reverse]; exact ⟨pq, poq, pvq, rfl, hle61 _ _ hz1, hp1, hv1.mono fun _ _ h => h.mono hle61⟩⟩ .nil)⟩
  rintro Z62 vs2 l' D2' s62 hle62 ⟨rfl, hvs2⟩ H62
  rw [hdl, List.take_length] at hvs2
  obtain ⟨Z63, hle63, hz63, H63⟩ := H62.freeze .here
  have hle' : ∀ b o, Z57 b o → Z63 b o := fun b o e => hle63 _ _ (hle62 _ _ e)
  refine eqLs (k := 3) H63 (let ⟨o, z, p⟩ := hz57; ⟨o, hle' _ _ z, p⟩) hz63 (by have := hA.un; show A.units + 3 + 4 < _; omega) (All2.both (R := RdZ Z63) (R' := RdZ Z63) (T := EqV Z63 3) (fun _ _ _ x y => EqV.rd x y) (hvs1.mono fun _ _ h => h.mono hle') (hvs2.mono fun _ _ h => h.mono hle63)) ?_
  have htl63 : ∃ o, Z63 tla o ∧ pL tvs o := let ⟨o, z, p⟩ := htl57; ⟨o, hle' _ _ z, p⟩
  clear hpcs57 hpa57 htl57 hvs1 hvs2 H62 H59 hz57 hz63
  (repeat' (first | tb_rel | ((with_reducible refine iteB (fun h9 => ?_) (fun h9 => ?_)) <;> (try (exfalso; first | exact absurd h9 (by decide) | (exact Bool.noConfusion (h9.symm.trans (by assumption) : true = false)) | (exact Bool.noConfusion (h9.symm.trans (by assumption) : false = true)) | (simp at h9; done) | (simp [Str.length] at h9; done))))))
  rename St _ _ _ _ _ _ _ _ _ => H64
  refine compE H64 hA.hd (cl := []) rfl ?_
  (repeat tb_rel)
  rename St _ _ _ _ _ _ _ _ _ => H65
  refine ⟨_, comp_then H65 (.list htl63) (by rw [sizeLine_eq]; omega) (fun i Z2 vs l' => l' = [] ∧ All2 (StrsZ Z2) vs ((ps.take i).map fun p => [untok (itS p)])) ⟨rfl, .nil⟩ ?_ ?_⟩
  · rintro i v Z2 vs l' C I' p' D mC s' E' hi9 hv' hle ⟨rfl, hvs⟩ H'
    obtain ⟨q, ty, hq, hqm, rfl⟩ := htq hv'
    obtain ⟨q', hq1, hq2, hq3, hq4, hq5⟩ := hlp q hqm
    have hql := hpsl q hqm
    have hqt := itT_len hq1
    have hqs := itS_len hq1
    have hqu := untok_len hq1
    have hqz : tokz (untok (itS q)) = itS q' := by rw [hq3, tokz_items hq1]
    (repeat tb_rel)
    refine wpAny_tests_nil ?_
    rw [if_pos rfl]
    (repeat tb_rel)
    rename St _ _ _ _ _ _ _ _ _ => H66
    refine split_spec (hA.deeper.le (by decide)) H66.toBase (by rw [hq3]; omega) (by rw [hqz]; exact fun t ht => Nat.le_trans (itS_sz hq1 t ht) (by decide)) (by rw [hqz]; omega) (by rw [hqz]; omega) (H66.back fun s67 Z67 v67 H67 hle67 hr => ?_)
    rw [hq5] at hr
    exact ⟨_, _, _, H67, hle67, rfl, by rw [take_map hq]; exact (hvs.mono fun _ _ h => h.mono hle67).append (.cons hr .nil)⟩
  rintro Z68 vs3 l' D3' s68 hle68 ⟨rfl, hvs3⟩ H68
  rw [htl, List.take_length] at hvs3
  obtain ⟨Z69, hle69, hz69, H69⟩ := H68.freeze .here
  have htl69 : ∃ o, Z69 tla o ∧ pL tvs o := let ⟨o, z, p⟩ := htl63; ⟨o, hle69 _ _ (hle68 _ _ z), p⟩
  replace hvs3 : All2 (StrsZ Z69) vs3 _ := hvs3.mono fun _ _ h => h.mono hle69
  clear htl63 H68 H65
  (repeat tb_rel)
  rename St _ _ _ _ _ _ _ _ _ => H70
  refine compE H70 hA.hd (cl := []) rfl ?_
  (repeat tb_rel)
  rename St _ _ _ _ _ _ _ _ _ => H71
  refine ⟨_, comp_then H71 (.list htl69) (by rw [sizeLine_eq]; omega) (fun i Z2 vs l' => l' = [] ∧ All2 (StrsZ Z2) vs ((ps.take i).map fun p => [untok (itS p)])) ⟨rfl, .nil⟩ ?_ ?_⟩
  · rintro i v Z2 vs l' C I' p' D mC s' E' hi9 hv' hle ⟨rfl, hvs⟩ H'
    obtain ⟨q, ty, hq, hqm, rfl⟩ := htq hv'
    (repeat tb_rel)
    refine wpAny_tests_nil ?_
    rw [if_pos rfl]
    (repeat tb_rel)
    rename St _ _ _ _ _ _ _ _ _ => H72
    obtain ⟨Z73, hle73, ⟨o73, hz73, hp73⟩, H73⟩ := H72.freeze .here
    exact ⟨_, _, _, H73, hle73, rfl, by
      rw [take_map hq]
      exact (hvs.mono fun _ _ h => h.mono hle73).append (.cons ⟨_, o73, _, rfl, hz73, hp73, .cons ⟨_, rfl⟩ .nil⟩ .nil)⟩
  rintro Z74 vs4 l' D4' s74 hle74 ⟨rfl, hvs4⟩ H74
  rw [htl, List.take_length] at hvs4
  obtain ⟨Z75, hle75, hz75, H75⟩ := H74.freeze .here
  have hle' : ∀ b o, Z69 b o → Z75 b o := fun b o e => hle75 _ _ (hle74 _ _ e)
  refine eqLs (k := 1) H75 (let ⟨o, z, p⟩ := hz69; ⟨o, hle' _ _ z, p⟩) hz75 (by have := hA.un; show A.units + 3 + 2 < _; omega) (All2.both (R := StrsZ Z75) (R' := StrsZ Z75) (T := EqV Z75 1) (fun _ _ _ x y => EqV.strs x y) (hvs3.mono fun _ _ h => h.mono hle') (hvs4.mono fun _ _ h => h.mono hle75)) ?_
  (repeat' (first | tb_rel | ((with_reducible refine iteB (fun h9 => ?_) (fun h9 => ?_)) <;> (try (exfalso; first | exact absurd h9 (by decide) | (exact Bool.noConfusion (h9.symm.trans (by assumption) : true = false)) | (exact Bool.noConfusion (h9.symm.trans (by assumption) : false = true)) | (simp at h9; done) | (simp [Str.length] at h9; done))))))
  exact St.leave (by assumption) hP rfl
end
/-! from the given claim to the walk -/
theorem K_tabs {P : Params} : ∀ t ∈ Tabs, (KH P).lookup t = none := by
  intro t ht
  simp only [Tabs, List.mem_cons, List.not_mem_nil, or_false] at ht
  rcases ht with rfl | rfl | rfl <;> rfl
theorem rm_caller : Rm callerA 8 := ⟨rfl, by decide, by decide⟩
section
variable {w : World} {s₁ : Shared}
theorem K_cut {h : Heap} (KX : (KH w.params).In h) : ∀ a o, (KH w.params).lookup a = some o → h.get? a = some o ∧ a ∉ Tabs := fun a o e =>
  ⟨KX a o e, fun ht => by rw [K_tabs a ht] at e; cases e⟩
theorem isTab {h : Heap} (KX : (KH w.params).In h) (hT8 : ∀ P ∈ Tabs, h.get? P = some (tabObj #[])) : ∀ P ∈ Tabs, isCodeTable h P := by
  intro P hP
  have h8 := hT8 P hP
  simp only [Tabs, List.mem_cons, List.not_mem_nil, or_false] at hP
  rcases hP with rfl | rfl | rfl
  · exact ((codeHd_of_K (c := 52) (P := 48) KX (by kernel_rfl)).tab h8).isCodeTable
  · exact ((codeHd_of_K (c := 59) (P := 55) KX (by kernel_rfl)).tab h8).isCodeTable
  · exact ((codeHd_of_K (c := 70) (P := 68) KX (by kernel_rfl)).tab h8).isCodeTable
theorem nsz {Z : Fz} {h : Heap} {a : Addr} {m : Str → Option Value} (hZ : ∀ b o, h.get? b = some o → b ∉ Tabs → Z b o) (ha : a ∉ Tabs) : h.Ns a m → NsZ Z a m := fun ⟨o, es, ep, ho, r⟩ => ⟨o, es, ep, hZ _ _ ho ha, r⟩
theorem base_of {p : Program} {loose : List Str} {mean : ExcName → Option Value} {mg mb : Str → Option Value} (KX : (KH w.params).In s₁.heap) (hT8 : ∀ P ∈ Tabs, s₁.heap.get? P = some (tabObj #[])) (T : Top p loose mean mg mb s₁.heap) (hg : s₁.gens = #[]) :
    ∀ tk, 0 < tk → Base w s₁.os (fun b o => s₁.heap.get? b = some o ∧ b ∉ Tabs) { s₁ with toks := tk } := fun tk htk =>
  { wd := { k := K_cut KX
            ns := by
              obtain ⟨bm, ob, b1, b2, b3, b4, b5⟩ := T.bmain
              refine ⟨mg, mb, nsz (fun _ _ h1 h2 => ⟨h1, h2⟩) (by decide) T.g, nsz (fun _ _ h1 h2 => ⟨h1, h2⟩) (by decide) T.b, T.builtins, bm, ob, b1, b2, ⟨b3, fun ht => ?_⟩, b4, b5⟩
              rw [hT8 bm ht] at b3
              cases b3; cases b4
            lim := let ⟨mc, a, b⟩ := T.nolimit; ⟨mc, nsz (fun _ _ h1 h2 => ⟨h1, h2⟩) (by decide) a, b⟩ }
    frz := fun _ _ e => e.1
    zt := fun _ _ e => e.2
    t := fun q hq => ⟨#[], hT8 q.1 (mem_tabs hq), trivial, fun x _ => .inl rfl⟩
    os := rfl
    bare := .of_eq hg
    tk := htk }
theorem well_list {P : Params} {h : Heap} {v : Value} {d : WData} (x : Well P h v d) : ∀ xs, d = .list xs → ∃ a vs, v = .ref a ∧ h.get? a = some { cls := .type "list", data := .seq (vs : List Value).toArray } := by
  intro xs e
  cases x with
  | list ho _ => exact ⟨_, _, rfl, ho⟩
  | _ => cases e
theorem script_at {a : Addr} {vs : List Value} {d : WData} {xs : List WData} (hT8 : ∀ P ∈ Tabs, s₁.heap.get? P = some (tabObj #[])) (hL : s₁.heap.IsList a vs.toArray) (x : Well w.params s₁.heap (.ref a) d) (hd : d = .list xs) : ∃ o, (s₁.heap.get? a = some o ∧ a ∉ Tabs) ∧ pL vs o := by
  obtain ⟨a', ws, e, ho⟩ := well_list x xs hd
  cases e
  obtain ⟨o, ho', hc, n, hd'⟩ := hL
  rw [ho] at ho'
  cases ho'
  refine ⟨_, ⟨ho, fun ht => ?_⟩, 0, ?_⟩
  · rw [hT8 a ht] at ho; cases ho
  · simp only [Data.seq.injEq] at hd'
    rw [hd'.1]
theorem old_of {Z' : Fz} {s' : Shared} {os : OsState} (KX : (KH w.params).In s₁.heap) (hT8 : ∀ P ∈ Tabs, s₁.heap.get? P = some (tabObj #[])) (hb : Base w os Z' s') (hk : ∀ b o, b ∉ Tabs → s₁.heap.get? b = some o → s'.heap.get? b = some o) : OldK s₁.heap s'.heap := by
  have tab : ∀ b ∈ Tabs, ∃ ps, s'.heap.get? b = some (tabObj ps) := by
    intro b hb'
    simp only [Tabs, List.mem_cons, List.not_mem_nil, or_false] at hb'
    rcases hb' with rfl | rfl | rfl
    · obtain ⟨ps, e, _⟩ := hb.t _ (List.mem_cons_self); exact ⟨ps, e⟩
    · obtain ⟨ps, e, _⟩ := hb.t _ (.tail _ List.mem_cons_self); exact ⟨ps, e⟩
    · obtain ⟨ps, e, _⟩ := hb.t _ (.tail _ (.tail _ List.mem_cons_self)); exact ⟨ps, e⟩
  refine ⟨fun b o e => ?_, fun b o e => ?_⟩
  · by_cases ht : b ∈ Tabs
    · obtain ⟨ps, e'⟩ := tab b ht
      have e0 := hT8 b ht
      rw [e] at e0
      cases e0
      exact .inr (.inl ⟨isTab KX hT8 b ht, rfl, #[], ps, rfl, by rw [e']; simp⟩)
    · exact .inl (hk b o ht e)
  · by_cases ht : b ∈ Tabs
    · obtain ⟨ps, e'⟩ := tab b ht; exact ⟨_, e'⟩
    · exact ⟨o, hk b o ht e⟩
end
theorem law_post (args : List WData) : PySem.Challenge.rw_wx0002_01.row.toRowW.claim.post args (.bool true) args = true := by
  show (WShape.has [] (WData.bool true) .bool && WTm.holds [] (.eq .res (.lit (.bool true))) { args := args, res := some (.bool true), after := args }) = true
  have h1 : WShape.has [] (WData.bool true) .bool = true := by decide +kernel
  have h2 : (WTm.eq .res (.lit (.bool true))).value [] { args := args, res := some (.bool true), after := args } = some (.bool true) := by
    have e1 : WTm.value [] .res { args := args, res := some (.bool true), after := args } = some (.bool true) := by simp [WTm.value]
    have e2 : WTm.value [] (.lit (.bool true)) { args := args, res := some (.bool true), after := args } = some (.bool true) := by simp [WTm.value]
    rw [w_eq e1 e2]
    have e3 : PySem.W.same (.bool true) (.bool true) = true := by decide +kernel
    rw [e3]
  rw [h1, WTm.holds, h2]; rfl
set_option maxHeartbeats 8000000 in
theorem all_holds : PySem.Challenge.rw_wx0002_01.Holds := by
  refine Mine.he ?_
  intro w s₀ s₁ mg mb G Y fa o pm cd doc dV kV ho hd hcd hD hmg hg args vals as hpre hlay hrd hwl hlo
  have KX : (KH w.params).In s₁.heap := km_in_of Y
  have hT8 : ∀ P ∈ Tabs, s₁.heap.get? P = some (tabObj #[]) := km_tabs_of Y
  clear Y
  refine Ground.open G ?_
  intro T B D TE TW
  clear D B TE TW G
  have hfa : mg (Str.ofString "law") = some (.ref 123) := mg_of KX T.g rfl
  have hmg' : mg (Str.ofString "law") = some (.ref fa) := hmg
  rw [hfa] at hmg'
  obtain rfl : (123 : Addr) = fa := by injection hmg' with e; injection e
  clear hmg hmg' ho hd hcd hD
  wrow_args hpre hlay hrd hwl hlo
  rename Heap.IsList _ _ _ => hL
  rename IntsAre _ _ => hI
  have hP63 : ∀ (ns : List Int), ¬ ((63 : Nat) : Int) < (ns.length : Int) → ns.length ≤ 63 := fun ns h => by omega
  rename Well _ _ _ _ => hW
  refine law_spec (prog := PySem.Challenge.rw_wx0002_01.row.prog) (os := s₁.os) (Z := fun b o => s₁.heap.get? b = some o ∧ b ∉ Tabs) rm_caller (base_of KX hT8 T hg) (script_at hT8 hL hW rfl) hI (by first | assumption | (apply hP63; assumption)) ?_
  rintro s' Z' v hb hle hk hn rfl
  refine ⟨.inl ⟨.bool true, _, [], rfl, fun _ => rfl,   .bool _, law_post _, fun _ => ⟨List.nodup_nil, fun a ha => by cases ha⟩⟩, old_of KX hT8 hb hk, hb.os, hb.bare⟩
end Mine
theorem PySem.Challenge.cw_wx0002_01_holds : PySem.Challenge.rw_wx0002_01.Holds := by
  exact Mine.all_holds
