import PyProof.Rows.All
import Wide.All
import OpenK.AllK
import Wide.FinOn
import KE.KDictIter
import PySem.Challenge.RW_tc0030_01
set_option maxRecDepth 100000
namespace Mine
section
open PySem PySem.Spec PySem.Calls PySem.W PyProof.Rows

/-- plain values: what the law's text handles -/
inductive V where
  | none
  | bool (b : Bool)
  | int (i : Int)
  | str (x : List Nat)
  | tup (vs : List V)
  | lst (vs : List V)
  | rng (a b : Int)
  | trk (i : Nat)
  | hdr (src : V)
  | obj (a : Addr)

abbrev Ads := Addr → Prop

/-- the class Headers' address in the head's heap -/
abbrev hdrCls : Addr := 256

noncomputable def PlainTup (h : Heap) (a : Addr) (items : Array Value) : Prop := ∃ n, h.get? a = some { cls := .type "tuple", data := .seq items n }
theorem PlainTup.isTup {h : Heap} {a : Addr} {items : Array Value} (x : PlainTup h a items) : IsTup h a items := let ⟨n, e⟩ := x; ⟨_, e, rfl, n, rfl⟩

noncomputable def HdrAt (h : Heap) (a d : Addr) (x : Value) : Prop :=
  h.get? a = some { cls := .ref hdrCls, dict := some d, data := .plain } ∧
  ∃ hh kt n, h.get? d = some { cls := .type "dict", data := .dict #[⟨hh, .str (Str.ofString "_headers") kt, x⟩] n }

mutual
noncomputable def VR (O : Ads) (ρ : List Addr) (h : Heap) : V → Value → Prop
  | .none, v => v = .none
  | .bool b, v => v = .bool b
  | .int i, v => ∃ t, v = .int i t
  | .str x, v => ∃ t, v = .str ⟨x.toArray⟩ t
  | .tup vs, v => ∃ a its, v = .ref a ∧ ¬ O a ∧ PlainTup h a its ∧ VRs O ρ h vs its.toList
  | .lst vs, v => ∃ a its, v = .ref a ∧ ¬ O a ∧ h.PlainList a its ∧ VRs O ρ h vs its.toList
  | .rng a b, v => ∃ r t u w, v = .ref r ∧ ¬ O r ∧ IsRange h r a b 1 t u w
  | .trk i, v => ∃ a, ρ[i]? = some a ∧ v = .ref a
  | .hdr src, v => ∃ a d x, v = .ref a ∧ ¬ O a ∧ ¬ O d ∧ HdrAt h a d x ∧ VR O ρ h src x
  | .obj a, v => v = .ref a
noncomputable def VRs (O : Ads) (ρ : List Addr) (h : Heap) : List V → List Value → Prop
  | [], l => l = []
  | v :: vs, l => ∃ x xs, l = x :: xs ∧ VR O ρ h v x ∧ VRs O ρ h vs xs
end

/-- heap h' keeps what h holds off O -/
noncomputable def KeepOff (O : Ads) (h h' : Heap) : Prop := ∀ b o, ¬ O b → h.get? b = some o → h'.get? b = some o
noncomputable def Alloc (h : Heap) : Ads := fun a => (h.get? a).isSome = true

theorem KeepOff.refl {O : Ads} {h : Heap} : KeepOff O h h := fun _ _ _ e => e
theorem KeepOff.trans {O : Ads} {h h' h'' : Heap} (a : KeepOff O h h') (b : KeepOff O h' h'') : KeepOff O h h'' :=
  fun x o n e => b x o n (a x o n e)

theorem HdrAt.mono {h h' : Heap} {a d : Addr} {x : Value} (H : HdrAt h a d x) (k1 : ∀ o, h.get? a = some o → h'.get? a = some o) (k2 : ∀ o, h.get? d = some o → h'.get? d = some o) : HdrAt h' a d x :=
  let ⟨h1, hh, kt, n, h2⟩ := H
  ⟨k1 _ h1, hh, kt, n, k2 _ h2⟩

section
variable {O : Ads} {ρ : List Addr} {h : Heap} {x : Value}
theorem vr_lst {a : Addr} {its : Array Value} {vs : List V} (h1 : ¬ O a) (h2 : h.PlainList a its) (h3 : VRs O ρ h vs its.toList) : VR O ρ h (.lst vs) (.ref a) :=
  (⟨a, its, rfl, h1, h2, h3⟩ : ∃ b its, Value.ref a = .ref b ∧ ¬ O b ∧ h.PlainList b its ∧ VRs O ρ h vs its.toList)
theorem vr_tup {a : Addr} {its : Array Value} {vs : List V} (h1 : ¬ O a) (h2 : PlainTup h a its) (h3 : VRs O ρ h vs its.toList) : VR O ρ h (.tup vs) (.ref a) :=
  (⟨a, its, rfl, h1, h2, h3⟩ : ∃ b its, Value.ref a = .ref b ∧ ¬ O b ∧ PlainTup h b its ∧ VRs O ρ h vs its.toList)
theorem vr_rng {a : Addr} {i j : Int} {t u w : Tok} (h1 : ¬ O a) (h2 : IsRange h a i j 1 t u w) : VR O ρ h (.rng i j) (.ref a) :=
  (⟨a, t, u, w, rfl, h1, h2⟩ : ∃ b t u w, Value.ref a = .ref b ∧ ¬ O b ∧ IsRange h b i j 1 t u w)
theorem vr_trk {a : Addr} {i : Nat} (h1 : ρ[i]? = some a) : VR O ρ h (.trk i) (.ref a) :=
  (⟨a, h1, rfl⟩ : ∃ b, ρ[i]? = some b ∧ Value.ref a = .ref b)
theorem vr_hdr {a d : Addr} {src : V} (h1 : ¬ O a) (h2 : ¬ O d) (h3 : HdrAt h a d x) (h4 : VR O ρ h src x) : VR O ρ h (.hdr src) (.ref a) :=
  (⟨a, d, x, rfl, h1, h2, h3, h4⟩ : ∃ b d x, Value.ref a = .ref b ∧ ¬ O b ∧ ¬ O d ∧ HdrAt h b d x ∧ VR O ρ h src x)
theorem vrs_nil : VRs O ρ h [] [] := (rfl : ([] : List Value) = [])
theorem vrs_cons {v : V} {vs : List V} {l : List Value} (h1 : VR O ρ h v x) (h2 : VRs O ρ h vs l) : VRs O ρ h (v :: vs) (x :: l) :=
  (⟨x, l, rfl, h1, h2⟩ : ∃ y ys, x :: l = y :: ys ∧ VR O ρ h v y ∧ VRs O ρ h vs ys)
variable {M : Value → Prop} {N : List Value → Prop}
@[elab_as_elim] theorem VR.lst_elim {vs : List V} (H : VR O ρ h (.lst vs) x) (k : ∀ a its, ¬ O a → h.PlainList a its → VRs O ρ h vs its.toList → M (.ref a)) : M x :=
  Exists.elim H fun a H => Exists.elim H fun its H => H.1.symm ▸ k a its H.2.1 H.2.2.1 H.2.2.2
@[elab_as_elim] theorem VR.tup_elim {vs : List V} (H : VR O ρ h (.tup vs) x) (k : ∀ a its, ¬ O a → PlainTup h a its → VRs O ρ h vs its.toList → M (.ref a)) : M x :=
  Exists.elim H fun a H => Exists.elim H fun its H => H.1.symm ▸ k a its H.2.1 H.2.2.1 H.2.2.2
@[elab_as_elim] theorem VR.rng_elim {i j : Int} (H : VR O ρ h (.rng i j) x) (k : ∀ a t u w, ¬ O a → IsRange h a i j 1 t u w → M (.ref a)) : M x :=
  Exists.elim H fun a H => Exists.elim H fun t H => Exists.elim H fun u H => Exists.elim H fun w H => H.1.symm ▸ k a t u w H.2.1 H.2.2
@[elab_as_elim] theorem VR.trk_elim {i : Nat} (H : VR O ρ h (.trk i) x) (k : ∀ a, ρ[i]? = some a → M (.ref a)) : M x :=
  Exists.elim H fun a H => H.2.symm ▸ k a H.1
@[elab_as_elim] theorem VR.hdr_elim {src : V} (H : VR O ρ h (.hdr src) x) (k : ∀ a d y, ¬ O a → ¬ O d → HdrAt h a d y → VR O ρ h src y → M (.ref a)) : M x :=
  Exists.elim H fun a H => Exists.elim H fun d H => Exists.elim H fun y H => H.1.symm ▸ k a d y H.2.1 H.2.2.1 H.2.2.2.1 H.2.2.2.2
@[elab_as_elim] theorem VR.int_elim {i : Int} (H : VR O ρ h (.int i) x) (k : ∀ t, M (.int i t)) : M x := Exists.elim H fun t H => H.symm ▸ k t
@[elab_as_elim] theorem VR.str_elim {y : List Nat} (H : VR O ρ h (.str y) x) (k : ∀ t, M (.str ⟨y.toArray⟩ t)) : M x := Exists.elim H fun t H => H.symm ▸ k t
@[elab_as_elim] theorem VRs.nil_elim {l : List Value} (H : VRs O ρ h [] l) (k : N []) : N l := Eq.symm (a := l) (b := []) H ▸ k
@[elab_as_elim] theorem VRs.cons_elim {v : V} {vs : List V} {l : List Value} (H : VRs O ρ h (v :: vs) l) (k : ∀ y ys, VR O ρ h v y → VRs O ρ h vs ys → N (y :: ys)) : N l :=
  Exists.elim H fun y H => Exists.elim H fun ys H => H.1.symm ▸ k y ys H.2.1 H.2.2
end

mutual
theorem VR.mono {O O' : Ads} {ρ ρ' : List Addr} {h h' : Heap} (hO : ∀ a, (h.get? a).isSome = true → ¬ O a → ¬ O' a) (hk : KeepOff O h h') (hρ : ∀ (i : Nat) (a : Addr), ρ[i]? = some a → ρ'[i]? = some a) :
    ∀ (v : V) (x : Value), VR O ρ h v x → VR O' ρ' h' v x
  | .none, _, H => H
  | .bool _, _, H => H
  | .int _, _, H => H
  | .str _, _, H => H
  | .tup vs, _, H => H.tup_elim fun a _ hO' ht hv => ht.elim fun n ho => vr_tup (hO a (ho ▸ rfl) hO') ⟨n, hk _ _ hO' ho⟩ (VRs.mono hO hk hρ vs _ hv)
  | .lst vs, _, H => H.lst_elim fun a _ hO' ht hv => ht.elim fun n ho => vr_lst (hO a (ho ▸ rfl) hO') ⟨n, hk _ _ hO' ho⟩ (VRs.mono hO hk hρ vs _ hv)
  | .rng _ _, _, H => H.rng_elim fun a _ _ _ hO' ht => vr_rng (hO a ((show h.get? a = some _ from ht) ▸ rfl) hO') (hk _ _ hO' ht)
  | .trk _, _, H => H.trk_elim fun _ h1 => vr_trk (hρ _ _ h1)
  | .hdr src, _, H => H.hdr_elim fun a d _ hO1 hO2 hH hv => hH.2.elim fun _ e => e.elim fun _ e => e.elim fun _ h2 =>
    vr_hdr (hO a (hH.1 ▸ rfl) hO1) (hO d (h2 ▸ rfl) hO2) (hH.mono (fun o e => hk _ _ hO1 e) (fun o e => hk _ _ hO2 e)) (VR.mono hO hk hρ src _ hv)
  | .obj _, _, H => H
theorem VRs.mono {O O' : Ads} {ρ ρ' : List Addr} {h h' : Heap} (hO : ∀ a, (h.get? a).isSome = true → ¬ O a → ¬ O' a) (hk : KeepOff O h h') (hρ : ∀ (i : Nat) (a : Addr), ρ[i]? = some a → ρ'[i]? = some a) :
    ∀ (v : List V) (x : List Value), VRs O ρ h v x → VRs O' ρ' h' v x
  | [], _, H => H
  | v :: vs, _, H => H.cons_elim fun y ys h1 h2 => vrs_cons (VR.mono hO hk hρ v y h1) (VRs.mono hO hk hρ vs ys h2)
end

theorem VRs.length {O : Ads} {ρ : List Addr} {h : Heap} : ∀ {vs : List V} {l : List Value}, VRs O ρ h vs l → l.length = vs.length
  | [], _, H => H.nil_elim (N := fun l => l.length = 0) rfl
  | _ :: _, _, H => H.cons_elim (N := fun l => l.length = _) fun _ _ _ h2 => congrArg (· + 1) (VRs.length h2)
theorem VRs.get {O : Ads} {ρ : List Addr} {h : Heap} : ∀ {vs : List V} {l : List Value}, VRs O ρ h vs l → ∀ (i : Nat) (v : V), vs[i]? = some v → ∃ x, l[i]? = some x ∧ VR O ρ h v x
  | [], _, _, _, _, e => nomatch e
  | _ :: _, _, H, 0, v, e => H.cons_elim (N := fun l => ∃ x, l[0]? = some x ∧ VR O ρ h v x) fun x _ h1 _ => ⟨x, rfl, Option.some.inj e ▸ h1⟩
  | _ :: _, _, H, i + 1, v, e => H.cons_elim (N := fun l => ∃ x, l[i + 1]? = some x ∧ VR O ρ h v x) fun _ _ _ h2 => VRs.get h2 i v e
theorem VRs.get' {O : Ads} {ρ : List Addr} {h : Heap} : ∀ {vs : List V} {l : List Value}, VRs O ρ h vs l → ∀ (i : Nat) (x : Value), l[i]? = some x → ∃ v, vs[i]? = some v ∧ VR O ρ h v x
  | [], _, H, _, _, e => nomatch (H.nil_elim (N := fun l => l[_]? = some _ → ([] : List Value)[_]? = some _) id e)
  | w :: _, _, H, 0, x, e => H.cons_elim (N := fun l => l[0]? = some x → ∃ v, (w :: _)[0]? = some v ∧ VR O ρ h v x) (fun y ys h1 _ e => ⟨w, rfl, Option.some.inj (List.getElem?_cons_zero.symm.trans e) ▸ h1⟩) e
  | _ :: _, _, H, i + 1, x, e => H.cons_elim (N := fun l => l[i + 1]? = some x → _) (fun _ _ _ h2 e => VRs.get' h2 i x e) e
theorem VRs.append {O : Ads} {ρ : List Addr} {h : Heap} : ∀ {vs ws : List V} {l m : List Value}, VRs O ρ h vs l → VRs O ρ h ws m → VRs O ρ h (vs ++ ws) (l ++ m)
  | [], _, _, m, H, H' => H.nil_elim (N := fun l => VRs O ρ h _ (l ++ m)) H'
  | _ :: _, _, _, m, H, H' => H.cons_elim (N := fun l => VRs O ρ h _ (l ++ m)) fun _ _ h1 h2 => vrs_cons h1 (VRs.append h2 H')
theorem VRs.single {O : Ads} {ρ : List Addr} {h : Heap} {v : V} {x : Value} (H : VR O ρ h v x) : VRs O ρ h [v] [x] := vrs_cons H vrs_nil

/-- scalars bear no address -/
noncomputable def V.scalar : V → Bool
  | .none | .bool _ | .int _ | .str _ => true
  | _ => false
theorem VR.scalar {O O' : Ads} {ρ ρ' : List Addr} {h h' : Heap} {v : V} {x : Value} (hv : v.scalar = true) (H : VR O ρ h v x) : VR O' ρ' h' v x := by
  cases v <;> first | exact H | cases hv

theorem keeps_refl (s : Shared) : Keeps s s := ⟨s.heap, s.toks, rfl, fun _ _ e => e⟩
theorem keeps_trans {s s' s'' : Shared} (a : Keeps s s') (b : Keeps s' s'') : Keeps s s'' := by
  obtain ⟨h, t, rfl, k⟩ := a
  obtain ⟨h', t', rfl, k'⟩ := b
  exact ⟨h', t', rfl, fun x o e => k' x o (k x o e)⟩
theorem keeps_heap {s s' : Shared} (a : Keeps s s') : ∀ b o, s.heap.get? b = some o → s'.heap.get? b = some o := by
  obtain ⟨h, t, rfl, k⟩ := a; exact k
theorem keeps_tok {s s' : Shared} {t : Nat} (a : Keeps s s') : Keeps s { s' with toks := t } := by
  obtain ⟨h, t', rfl, k⟩ := a; exact ⟨h, t, rfl, k⟩
theorem keeps_toks (s : Shared) (t : Nat) : Keeps s { s with toks := t } := ⟨s.heap, t, rfl, fun _ _ e => e⟩
theorem keeps_push (s : Shared) (o : Obj) : Keeps s { s with heap := s.heap.push o } := ⟨_, s.toks, rfl, fun _ _ e => Heap.get?_push_of_some _ e⟩
theorem keeps_push' (s : Shared) (o : Obj) (t : Nat) : Keeps s { s with heap := s.heap.push o, toks := t } := ⟨_, t, rfl, fun _ _ e => Heap.get?_push_of_some _ e⟩

theorem VR.keeps {O : Ads} {ρ : List Addr} {s s' : Shared} {v : V} {x : Value} (H : VR O ρ s.heap v x) (k : Keeps s s') : VR O ρ s'.heap v x :=
  VR.mono (fun _ _ h => h) (fun b o _ e => keeps_heap k b o e) (fun _ _ e => e) v x H
theorem VRs.keeps {O : Ads} {ρ : List Addr} {s s' : Shared} {v : List V} {x : List Value} (H : VRs O ρ s.heap v x) (k : Keeps s s') : VRs O ρ s'.heap v x :=
  VRs.mono (fun _ _ h => h) (fun b o _ e => keeps_heap k b o e) (fun _ _ e => e) v x H

theorem fresh_size (h : Heap) : h.get? h.objs.size = none := by
  cases e : h.get? h.objs.size with
  | none => rfl
  | some o => exact absurd (Heap.lt_size e) (Nat.lt_irrefl _)

/-- what holds of the text's top, in every heap that the call reaches -/
structure Gr (K : Frag) (mg mb : Str → Option Value) (h : Heap) : Prop where
  k : K.In h
  g : h.Ns mainGlobals mg
  b : h.Ns builtinsNs mb
  bi : ∀ x : Str, x ≠ "__name__" → mb x = bootBuiltins x
  lim : h.NoLimit
theorem Gr.keeps {K : Frag} {mg mb : Str → Option Value} {h h' : Heap} (G : Gr K mg mb h) (hk : ∀ b o, h.get? b = some o → h'.get? b = some o) : Gr K mg mb h' :=
  ⟨G.k.keeps hk, G.g.keeps hk, G.b.keeps hk, G.bi, G.lim.keeps hk⟩

/-- room for d calls more -/
structure Room (d : Nat) (A : Around) : Prop where
  hd : A.handled = none
  dep : A.depth + d < recursionLimit
  un : A.units + 8 * d + 80 < cLine
theorem Room.le {d d' : Nat} {A : Around} (R : Room d A) (h : d' ≤ d) : Room d' A := ⟨R.hd, by have := R.dep; omega, by have := R.un; omega⟩
theorem Room.deeper {d : Nat} {A : Around} {env : Env} (R : Room (d + 1) A) : Room d (A.deeper env) := ⟨R.hd, by have := R.dep; show A.depth + 1 + d < _; omega, by have := R.un; show A.units + 3 + 8 * d + 80 < _; omega⟩

end
section
open PySem PySem.Spec PySem.Calls PySem.W PyProof.Rows

structure St where
  locs : List (String × V)
  tr : List (List V)

noncomputable def setL (l : List (String × V)) (x : String) (v : V) : List (String × V) := match l with
  | [] => [(x, v)]
  | (y, w) :: r => if y = x then (x, v) :: r else (y, w) :: setL r x v
noncomputable def getL (l : List (String × V)) (x : String) : Option V := match l with
  | [] => none
  | (y, w) :: r => if y = x then some w else getL r x
theorem getL_setL (l : List (String × V)) (x : String) (v : V) (y : String) : getL (setL l x v) y = if y = x then some v else getL l y := by
  induction l with
  | nil =>
    simp only [setL, getL]
    by_cases h : x = y
    · subst h; simp
    · have h' : ¬ y = x := fun e => h e.symm
      simp [h, h']
  | cons p l ih =>
    obtain ⟨z, w⟩ := p
    simp only [setL]
    by_cases hz : z = x
    · subst hz
      rw [if_pos rfl]
      simp only [getL]
      by_cases h : z = y
      · subst h; simp
      · have h' : ¬ y = z := fun e => h e.symm
        simp [h, h']
    · rw [if_neg hz]
      simp only [getL]
      by_cases h : z = y
      · subst h; simp [hz]
      · rw [if_neg h, if_neg h, ih]

noncomputable def St.get (st : St) (x : String) : Option V := getL st.locs x
noncomputable def St.set (st : St) (x : String) (v : V) : St := { st with locs := setL st.locs x v }

inductive BO where
  | add | sub | mul | fdiv | fmod | pow | band | bor | bxor | shl
  deriving DecidableEq
inductive CO where
  | eq | ne | lt | gt | inn | nin
  deriving DecidableEq
inductive B1 where
  | len | sum | ord | chr | hex
  deriving DecidableEq
inductive M0 where
  | swapcase | lower | upper
  deriving DecidableEq

inductive PE where
  | var (x : String)
  | int (i : Int)
  | str (x : List Nat)
  | none
  | bool (b : Bool)
  | neg (i : Int)
  | bin (o : BO) (a b : PE)
  | cmp (o : CO) (a b : PE)
  | isn (want : Bool) (a : PE)
  | chain (a b c : PE)
  | and (ts : List PE)
  | or (ts : List PE)
  | not (t : PE)
  | ife (t a b : PE)
  | idx (a i : PE)
  | drop (a i : PE)
  | take (a i : PE)
  | lst (es : List PE)
  | tup (es : List PE)
  | comp (elt : PE) (x : String) (it : PE) (ifs : List PE)
  | rng1 (a : PE)
  | rng2 (a b : PE)
  | call (f : String) (args : List PE)
  | b1 (f : B1) (a : PE)
  | join (sep : List Nat) (a : PE)
  | m0 (m : M0) (a : PE)
  | dget (a b : PE)
  | piter (a : PE)
  | hmeth (m : String) (t : PE) (args : List PE)
  | items (t : PE)

noncomputable def big : Nat := 1000000

noncomputable def gInt : V → Option Int
  | .int i => some i
  | _ => none
noncomputable def gStr : V → Option (List Nat)
  | .str x => some x
  | _ => none
noncomputable def gLst : V → Option (List V)
  | .lst x => some x
  | _ => none
noncomputable def gTrk : V → Option Nat
  | .trk x => some x
  | _ => none
noncomputable def gHdr : V → Option V
  | .hdr x => some x
  | _ => none
noncomputable def gChr (v : V) : Option Nat := (gStr v).bind fun x => if x.length = 1 then x.head? else none
noncomputable def int2 {α : Type} (a b : V) (f : Int → Int → Option α) : Option α := (gInt a).bind fun i => (gInt b).bind fun j => f i j

section
variable {G : Prop}
theorem nosome {α : Type} {r : α} (h : (none : Option α) = some r) : G := nomatch h
theorem bnd {α β : Type} {x : Option α} {f : α → Option β} {r : β} (h : x.bind f = some r) (k : ∀ a, x = some a → f a = some r → G) : G := by
  cases x with
  | none => exact nosome h
  | some a => exact k a rfl h
theorem bnd2 {α β γ : Type} {x : Option α} {y : Option β} {f : α → β → Option γ} {r : γ} (h : (x.bind fun a => y.bind fun b => f a b) = some r) (k : ∀ a b, x = some a → y = some b → f a b = some r → G) : G :=
  bnd h fun a e h => bnd h fun b e' h => k a b e e' h
theorem mpd {α β : Type} {x : Option α} {f : α → β} {r : β} (h : x.map f = some r) (k : ∀ a, x = some a → f a = r → G) : G := by
  cases x with
  | none => exact nosome h
  | some a => exact k a rfl (Option.some.inj h)
theorem iif {α : Type} {c : Prop} [d : Decidable c] {x : Option α} {r : α} (h : (if c then x else none) = some r) (k : c → x = some r → G) : G :=
  match d, h with
  | .isTrue hc, h => k hc h
  | .isFalse _, h => nosome h
theorem cnd {α : Type} {b : Bool} {x y : Option α} {r : α} (h : cond b x y = some r) (k : b = true → x = some r → G) (k' : b = false → y = some r → G) : G := by
  cases b
  · exact k' rfl h
  · exact k rfl h
end
theorem gInt_of {v : V} {i : Int} (h : gInt v = some i) : v = .int i := by cases v <;> first | exact nosome h | exact congrArg V.int (Option.some.inj h)
theorem gStr_of {v : V} {i : List Nat} (h : gStr v = some i) : v = .str i := by cases v <;> first | exact nosome h | exact congrArg V.str (Option.some.inj h)
theorem gLst_of {v : V} {i : List V} (h : gLst v = some i) : v = .lst i := by cases v <;> first | exact nosome h | exact congrArg V.lst (Option.some.inj h)
theorem gTrk_of {v : V} {i : Nat} (h : gTrk v = some i) : v = .trk i := by cases v <;> first | exact nosome h | exact congrArg V.trk (Option.some.inj h)
theorem gHdr_of {v : V} {i : V} (h : gHdr v = some i) : v = .hdr i := by cases v <;> first | exact nosome h | exact congrArg V.hdr (Option.some.inj h)
theorem gChr_of {v : V} {c : Nat} (h : gChr v = some c) : v = .str [c] := by
  refine bnd h fun x e h => iif h fun hl h => ?_
  rw [gStr_of e]
  cases x with
  | nil => exact nosome h
  | cons d r =>
    cases Option.some.inj h
    rw [List.eq_nil_of_length_eq_zero (Nat.succ.inj hl)]

/-- the list behind a value -/
noncomputable def lview (st : St) : V → Option (List V)
  | .lst vs => some vs
  | .trk i => st.tr[i]?
  | _ => none
abbrev rngOk (a b : Int) : Prop := 0 ≤ a ∧ a ≤ big ∧ b ≤ big ∧ -(big : Int) ≤ b
/-- what an iteration over a value hands out -/
noncomputable def itemsOf (st : St) : V → Option (List V)
  | .lst vs => some vs
  | .trk i => st.tr[i]?
  | .str x => some (x.map fun c => .str [c])
  | .rng a b => if rngOk a b then some ((List.range (b - a).toNat).map fun (k : Nat) => V.int (a + (k : Int))) else none
  | _ => none

mutual
noncomputable def noTrk : V → Bool
  | .trk _ => false
  | .tup vs => noTrks vs
  | .lst vs => noTrks vs
  | .hdr src => noTrk src
  | _ => true
noncomputable def noTrks : List V → Bool
  | [] => true
  | v :: vs => noTrk v && noTrks vs
end

/-- as a called def sees it -/
noncomputable def frz1 (st : St) (v : V) : Option V := match v with
  | .trk i => (st.tr[i]?).bind fun vs => if noTrks vs = true then some (.lst vs) else none
  | _ => if noTrk v = true then some v else none
noncomputable def frz (st : St) (v : V) : Option V := match v with
  | .hdr src => (frz1 st src).map .hdr
  | _ => frz1 st v
noncomputable def frzs (st : St) : List V → Option (List V)
  | [] => some []
  | v :: vs => (frz st v).bind fun w => (frzs st vs).bind fun ws => some (w :: ws)

noncomputable def addV' (st : St) (a b : V) : Option V := match a with
  | .int _ => int2 a b fun i j => some (.int (i + j))
  | .str x => (gStr b).bind fun y => if x.length + y.length ≤ big then some (.str (x ++ y)) else none
  | _ => (lview st a).bind fun l => (lview st b).bind fun m => if l.length + m.length ≤ big then some (.lst (l ++ m)) else none
noncomputable def mulV' (a b : V) : Option V := match a with
  | .str x => (gInt b).bind fun n => if 0 ≤ n ∧ n ≤ 100 ∧ x.length ≤ 100 then some (.str (List.replicate n.toNat x).flatten) else none
  | _ => int2 a b fun a b => if a.natAbs ≤ big * big ∨ b.natAbs ≤ big * big then some (.int (a * b)) else none
noncomputable def binV (st : St) (o : BO) (a b : V) : Option V := match o with
  | .add => addV' st a b
  | .sub => int2 a b fun a b => some (.int (a - b))
  | .mul => mulV' a b
  | .fdiv => int2 a b fun a b => if 0 < b ∧ b ≤ big then some (.int (a / b)) else none
  | .fmod => int2 a b fun a b => if 0 < b ∧ b ≤ big then some (.int (a % b)) else none
  | .pow => int2 a b fun a b => if 0 ≤ a ∧ a ≤ 100 ∧ 0 ≤ b ∧ b ≤ 100 then some (.int (a ^ b.toNat)) else none
  | .band => int2 a b fun a b => some (.int (Builtin.bitAnd a b))
  | .bor => int2 a b fun a b => some (.int (Builtin.bitOr a b))
  | .bxor => int2 a b fun a b => some (.int (Builtin.bitXor a b))
  | .shl => int2 a b fun a b => if a.natAbs ≤ big * big ∧ 0 ≤ b ∧ b ≤ 100 then some (.int (a * 2 ^ b.toNat)) else none

mutual
noncomputable def toD : V → Option PyData
  | .none => some .none
  | .bool b => some (.bool b)
  | .int i => some (.int i)
  | .str x => some (.str ⟨x.toArray⟩)
  | .tup vs => (toDs vs).map .tuple
  | .lst vs => (toDs vs).map .list
  | _ => none
noncomputable def toDs : List V → Option (List PyData)
  | [] => some []
  | v :: vs => (toD v).bind fun d => (toDs vs).bind fun ds => some (d :: ds)
end

/-- == of values that bear their parts -/
noncomputable def eqV (a b : V) : Option Bool := match a with
  | .int i => (gInt b).bind fun j => some (decide (i = j))
  | .str x => (gStr b).bind fun y => some (decide (x = y))
  | _ => (toD a).bind fun x => (toD b).bind fun y => if (SeqAt.shaped x && SeqAt.shaped y) = true then some (x.eqv y) else none

noncomputable def cmpV (st : St) (o : CO) (a b : V) : Option Bool := match o with
  | .lt => int2 a b fun a b => some (decide (a < b))
  | .gt => int2 a b fun a b => some (decide (b < a))
  | .inn => (gChr a).bind fun c => (gStr b).bind fun b => some (decide (c ∈ b))
  | .nin => (gChr a).bind fun c => (gStr b).bind fun b => some (!decide (c ∈ b))
  | .eq => (frz st a).bind fun a => (frz st b).bind fun b => eqV a b
  | .ne => (frz st a).bind fun a => (frz st b).bind fun b => (eqV a b).map (!·)

noncomputable def truthyV (_st : St) : V → Option Bool
  | .bool b => some b
  | .int i => some (decide (i ≠ 0))
  | _ => none

noncomputable def idxL {α : Type} (l : List α) (i : Int) : Option α := if 0 ≤ i then l[i.toNat]? else if -(l.length : Int) ≤ i then l[(i + l.length).toNat]? else none
noncomputable def idxV (st : St) (v i : V) : Option V := (gInt i).bind fun i => match v with
  | .str x => if x.length ≤ big then (idxL x i).map fun c => .str [c] else none
  | .tup vs => if 0 ≤ i ∧ i ≤ big then vs[i.toNat]? else none
  | _ => (lview st v).bind fun vs => if 0 ≤ i ∧ i ≤ big then vs[i.toNat]? else none

noncomputable def dropV (v i : V) : Option V := (gStr v).bind fun x => (gInt i).bind fun i => if 0 ≤ i ∧ i ≤ big ∧ x.length ≤ big then some (.str (x.drop i.toNat)) else none
noncomputable def takeV (st : St) (v i : V) : Option V := (lview st v).bind fun vs => (gInt i).bind fun i => if 0 ≤ i ∧ i ≤ big ∧ vs.length ≤ big then some (.lst (vs.take i.toNat)) else none

noncomputable def intsOf : List V → Option (List Int)
  | [] => some []
  | v :: r => (gInt v).bind fun i => (intsOf r).bind fun is => some (i :: is)
noncomputable def strsOf : List V → Option (List (List Nat))
  | [] => some []
  | v :: r => (gStr v).bind fun x => (strsOf r).bind fun xs => some (x :: xs)

noncomputable def joinL (sep : List Nat) : List (List Nat) → List Nat
  | [] => []
  | [x] => x
  | x :: y :: r => x ++ sep ++ joinL sep (y :: r)
noncomputable def joinV (st : St) (sep : List Nat) (v : V) : Option V := (lview st v).bind fun vs => (strsOf vs).bind fun xs =>
  if (xs.map List.length).sum + xs.length * sep.length ≤ big then some (.str (joinL sep xs)) else none

/-- hex of a number from 0 on -/
noncomputable def hexS (n : Nat) : List Nat := 48 :: 120 :: (Nat.toDigits 16 n).map Char.toNat

noncomputable def b1V (st : St) (f : B1) (v : V) : Option V := match f with
  | .len => (lview st v).bind fun vs => if vs.length ≤ big then some (.int vs.length) else none
  | .sum => (lview st v).bind fun vs => (intsOf vs).bind fun is => some (.int is.sum)
  | .ord => (gChr v).bind fun c => some (.int c)
  | .chr => (gInt v).bind fun i => if 0 ≤ i ∧ i ≤ 1114111 then some (.str [i.toNat]) else none
  | .hex => (gInt v).bind fun i => if 0 ≤ i ∧ (hexS i.toNat).length ≤ big then some (.str (hexS i.toNat)) else none

noncomputable def lowA (c : Nat) : Nat := if 65 ≤ c ∧ c ≤ 90 then c + 32 else c
noncomputable def upA (c : Nat) : Nat := if 97 ≤ c ∧ c ≤ 122 then c - 32 else c
noncomputable def swapA (c : Nat) : Nat := if 65 ≤ c ∧ c ≤ 90 then c + 32 else if 97 ≤ c ∧ c ≤ 122 then c - 32 else c
noncomputable def M0.f : M0 → Nat → Nat
  | .swapcase => swapA
  | .lower => lowA
  | .upper => upA
noncomputable def m0V (m : M0) (v : V) : Option V := (gStr v).bind fun x => if (∀ c ∈ x, c < 128) ∧ x.length ≤ big then some (.str (x.map m.f)) else none

noncomputable def compGo (f : V → Option (Option V)) : List V → Option (List V)
  | [] => some []
  | v :: vs => (f v).bind fun r => (compGo f vs).bind fun ys => some (r.toList ++ ys)

/-- the prims that the interpreter is told: defs, methods of Headers, the top's dict, the reading of a number off a fresh iterator -/
structure Prims where
  fn : String → List V → Option V
  hm : String → List V → List V → Option V
  tab : List (Int × List Nat)
  pit : List V → Option V
  its : Bool := false

/-- a test against None -/
noncomputable def isnV (want : Bool) : V → Option Bool
  | .none => some want
  | .str _ => some (!want)
  | _ => none
noncomputable def tabV (tab : List (Int × List Nat)) (i : Int) (w : V) : V := match tab.lookup i with
  | some x => .str x
  | none => w
noncomputable def inner (x : String) (v : V) (st : St) : St := { st with locs := (x, v) :: st.locs }

mutual
noncomputable def evalE (P : Prims) : PE → St → Option V
  | .var x, st => st.get x
  | .int i, _ => some (.int i)
  | .str x, _ => some (.str x)
  | .none, _ => some .none
  | .bool b, _ => some (.bool b)
  | .neg i, _ => some (.int (-i))
  | .bin o a b, st => (evalE P a st).bind fun v => (evalE P b st).bind fun w => binV st o v w
  | .cmp o a b, st => (evalE P a st).bind fun v => (evalE P b st).bind fun w => (cmpV st o v w).map .bool
  | .ife t a b, st => (evalT P t st).bind fun c => cond c (evalE P a st) (evalE P b st)
  | .idx a i, st => (evalE P a st).bind fun v => (evalE P i st).bind fun w => idxV st v w
  | .drop a i, st => (evalE P a st).bind fun v => (evalE P i st).bind fun w => dropV v w
  | .take a i, st => (evalE P a st).bind fun v => (evalE P i st).bind fun w => takeV st v w
  | .lst es, st => (evalEs P es st).bind fun vs => if vs.length ≤ big then some (.lst vs) else none
  | .tup es, st => (evalEs P es st).bind fun vs => if vs.length ≤ big then some (.tup vs) else none
  | .comp elt x it ifs, st => (evalE P it st).bind fun v => (itemsOf st v).bind fun vs => if vs.length ≤ big then
      (compGo (fun v => (evalAnd P ifs (inner x v st)).bind fun c => cond c ((evalE P elt (inner x v st)).map some) (some none)) vs).map .lst else none
  | .rng1 a, st => (evalE P a st).bind fun v => (gInt v).bind fun n => if rngOk 0 n then some (.rng 0 n) else none
  | .rng2 a b, st => (evalE P a st).bind fun v => (evalE P b st).bind fun w => int2 v w fun i j => if rngOk i j then some (.rng i j) else none
  | .call f args, st => (evalEs P args st).bind fun vs => (frzs st vs).bind fun ws => P.fn f ws
  | .b1 f a, st => (evalE P a st).bind fun v => b1V st f v
  | .join sep a, st => (evalE P a st).bind fun v => joinV st sep v
  | .m0 m a, st => (evalE P a st).bind fun v => m0V m v
  | .dget a b, st => (evalE P a st).bind fun v => (evalE P b st).bind fun w => (gInt v).bind fun i => some (tabV P.tab i w)
  | .piter a, st => (evalE P a st).bind fun v => (gLst v).bind fun vs => if noTrks vs = true then P.pit vs else none
  | .hmeth m t args, st => (evalE P t st).bind fun v => (evalEs P args st).bind fun vs => (frz st v).bind fun h => (gHdr h).bind fun src => (gLst src).bind fun l => (frzs st vs).bind fun ws => P.hm m l ws
  | .items t, st => (evalE P t st).bind fun v => (gHdr v).bind fun src => if P.its = true then (lview st src).bind (fun vs => if vs.length ≤ big then some (.lst vs) else none) else none
  | _, _ => none
noncomputable def evalEs (P : Prims) : List PE → St → Option (List V)
  | [], _ => some []
  | e :: es, st => (evalE P e st).bind fun v => (evalEs P es st).bind fun vs => some (v :: vs)
/-- a test -/
noncomputable def evalT (P : Prims) : PE → St → Option Bool
  | .cmp o a b, st => (evalE P a st).bind fun v => (evalE P b st).bind fun w => cmpV st o v w
  | .isn want a, st => (evalE P a st).bind fun v => isnV want v
  | .chain a b c, st => (evalE P a st).bind fun v => (evalE P b st).bind fun w => int2 v w fun i j => cond (decide (i < j)) ((evalE P c st).bind fun u => (gInt u).bind fun k => some (decide (j < k))) (some false)
  | .and ts, st => evalAnd P ts st
  | .or ts, st => evalOr P ts st
  | .not t, st => (evalT P t st).map (!·)
  | .var x, st => (st.get x).bind (truthyV st)
  | .bin o a b, st => (evalE P a st).bind fun v => (evalE P b st).bind fun w => (binV st o v w).bind (truthyV st)
  | _, _ => none
noncomputable def evalAnd (P : Prims) : List PE → St → Option Bool
  | [], _ => some true
  | t :: ts, st => (evalT P t st).bind fun b => cond b (evalAnd P ts st) (some false)
noncomputable def evalOr (P : Prims) : List PE → St → Option Bool
  | [], _ => some false
  | t :: ts, st => (evalT P t st).bind fun b => cond b (some true) (evalOr P ts st)
end
end
section
open PySem PySem.Spec PySem.Calls PySem.W PyProof.Rows

theorem getL_lookup (l : List (String × V)) (x : String) : getL l x = l.lookup x := by
  induction l with
  | nil => rfl
  | cons p l ih =>
    obtain ⟨y, v⟩ := p
    simp only [getL, List.lookup_cons]
    by_cases h : y = x
    · subst h; simp
    · have h' : (x == y) = false := by simpa using fun e => h e.symm
      simp [h, h', ih]

/-- the heap bears the state: the frame's names and cells, the lists that the frame may still turn -/
structure Rep (K : Frag) (mg mb : Str → Option Value) (env : Env) (O : Ads) (ρ : List Addr) (st : St) (s : Shared) : Prop where
  gr : Gr K mg mb s.heap
  al : ∀ a, O a → Alloc s.heap a
  own : O env.locals
  ownρ : ∀ a ∈ ρ, O a
  ownc : ∀ x c, env.cells.lookup x = some c → O c
  ns : ∃ m, s.heap.Ns env.locals m ∧ ∀ (x : String) v, x ≠ ".0" → env.kindOf (Str.ofString x) = some .local → st.get x = some v → ∃ val, m (Str.ofString x) = some val ∧ VR O ρ s.heap v val
  cl : ∀ x : String, (env.kindOf (Str.ofString x) = some .cell ∨ env.kindOf (Str.ofString x) = some .free) →
    ∃ c v₀, env.cells.lookup (Str.ofString x) = some c ∧ s.heap.IsCell c v₀ ∧ ∀ v, st.get x = some v → ∃ val, v₀ = some val ∧ VR O ρ s.heap v val
  len : ρ.length = st.tr.length
  trk : ∀ (i : Nat) (a : Addr) (vs : List V), ρ[i]? = some a → st.tr[i]? = some vs → ∃ its, s.heap.PlainList a its ∧ VRs O ρ s.heap vs its.toList

section
variable {K : Frag} {mg mb : Str → Option Value} {env : Env} {O : Ads} {ρ : List Addr} {st : St} {s s' : Shared}
theorem Rep.keeps (R : Rep K mg mb env O ρ st s) (k : Keeps s s') : Rep K mg mb env O ρ st s' where
  gr := R.gr.keeps (keeps_heap k)
  al := fun a ha => by
    have := R.al a ha
    unfold Alloc at this ⊢
    obtain ⟨o, ho⟩ := Option.isSome_iff_exists.mp this
    rw [keeps_heap k a o ho]; rfl
  own := R.own
  ownρ := R.ownρ
  ownc := R.ownc
  ns := by
    obtain ⟨m, hn, hv⟩ := R.ns
    refine ⟨m, hn.keeps (keeps_heap k), fun x v hx hk hg => ?_⟩
    obtain ⟨val, h1, h2⟩ := hv x v hx hk hg
    exact ⟨val, h1, h2.keeps k⟩
  cl := fun x hx => by
    obtain ⟨c, v₀, h1, h2, h3⟩ := R.cl x hx
    refine ⟨c, v₀, h1, h2.keeps (keeps_heap k), fun v hv => ?_⟩
    obtain ⟨val, h4, h5⟩ := h3 v hv
    exact ⟨val, h4, h5.keeps k⟩
  len := R.len
  trk := fun i a vs h1 h2 => by
    obtain ⟨its, h3, h4⟩ := R.trk i a vs h1 h2
    exact ⟨its, h3.at fun o e => keeps_heap k a o e, h4.keeps k⟩

theorem Rep.lview (R : Rep K mg mb env O ρ st s) {v : V} {x : Value} {vs : List V} (hv : VR O ρ s.heap v x) (h : lview st v = some vs) :
    ∃ a its, x = .ref a ∧ s.heap.PlainList a its ∧ VRs O ρ s.heap vs its.toList := by
  cases v with
  | lst us => exact hv.lst_elim (M := fun x => ∃ a its, x = .ref a ∧ s.heap.PlainList a its ∧ VRs O ρ s.heap vs its.toList) fun a its _ h1 h2 => ⟨a, its, rfl, h1, Option.some.inj h ▸ h2⟩
  | trk i => exact hv.trk_elim (M := fun x => ∃ a its, x = .ref a ∧ s.heap.PlainList a its ∧ VRs O ρ s.heap vs its.toList) fun a h1 => (R.trk i a vs h1 h).elim fun its h => ⟨a, its, rfl, h.1, h.2⟩
  | _ => exact nosome h
end

mutual
theorem VR.noTrk {O : Ads} {ρ : List Addr} {h : Heap} : ∀ (v : V) (x : Value), noTrk v = true → VR O ρ h v x → VR (fun _ => False) [] h v x
  | .none, _, _, H => H
  | .bool _, _, _, H => H
  | .int _, _, _, H => H
  | .str _, _, _, H => H
  | .tup vs, _, hn, H => H.tup_elim fun _ _ _ ht hv => vr_tup id ht (VRs.noTrk vs _ hn hv)
  | .lst vs, _, hn, H => H.lst_elim fun _ _ _ ht hv => vr_lst id ht (VRs.noTrk vs _ hn hv)
  | .rng _ _, _, _, H => H.rng_elim fun _ _ _ _ _ ht => vr_rng id ht
  | .trk _, _, hn, _ => nomatch (show false = true from hn)
  | .hdr src, _, hn, H => H.hdr_elim fun _ _ _ _ _ hH hv => vr_hdr id id hH (VR.noTrk src _ hn hv)
  | .obj _, _, _, H => H
theorem VRs.noTrk {O : Ads} {ρ : List Addr} {h : Heap} : ∀ (v : List V) (x : List Value), noTrks v = true → VRs O ρ h v x → VRs (fun _ => False) [] h v x
  | [], _, _, H => H
  | v :: vs, _, hn, H => H.cons_elim fun y ys h1 h2 => vrs_cons (VR.noTrk v y (Bool.and_eq_true_iff.mp hn).1 h1) (VRs.noTrk vs ys (Bool.and_eq_true_iff.mp hn).2 h2)
end

section
variable {K : Frag} {mg mb : Str → Option Value} {env : Env} {O : Ads} {ρ : List Addr} {st : St} {s s' : Shared}
theorem Rep.frz1 (R : Rep K mg mb env O ρ st s) {v w : V} {x : Value} (hv : VR O ρ s.heap v x) (h : frz1 st v = some w) : VR (fun _ => False) [] s.heap w x := by
  have go : (if Mine.noTrk v = true then some v else none) = some w → VR (fun _ => False) [] s.heap w x := fun h => iif h fun hn h => Option.some.inj h ▸ VR.noTrk v x hn hv
  cases v with
  | trk i => exact bnd h fun vs hvs h => iif h fun hn h => hv.trk_elim fun a h1 => (R.trk i a vs h1 hvs).elim fun its h2 => Option.some.inj h ▸ vr_lst id h2.1 (VRs.noTrk _ _ hn h2.2)
  | _ => exact go h
theorem Rep.frz (R : Rep K mg mb env O ρ st s) {v w : V} {x : Value} (hv : VR O ρ s.heap v x) (h : frz st v = some w) : VR (fun _ => False) [] s.heap w x := by
  cases v with
  | hdr src => exact mpd h fun u hu e => e ▸ hv.hdr_elim fun _ _ _ _ _ hH hv => vr_hdr id id hH (R.frz1 hv hu)
  | _ => exact R.frz1 hv h
theorem Rep.frzs (R : Rep K mg mb env O ρ st s) : ∀ {vs ws : List V} {l : List Value}, VRs O ρ s.heap vs l → frzs st vs = some ws → VRs (fun _ => False) [] s.heap ws l
  | [], _, _, hv, h => Option.some.inj h ▸ hv
  | _ :: _, ws, _, hv, h => hv.cons_elim (N := fun l => VRs _ _ _ ws l) fun _ _ h1 h2 => bnd2 h fun _ _ e1 e2 h => Option.some.inj h ▸ vrs_cons (R.frz h1 e1) (Rep.frzs R h2 e2)
end

noncomputable def BO.op : BO → Operator
  | .add => .Add | .sub => .Sub | .mul => .Mult | .fdiv => .FloorDiv | .fmod => .Mod | .pow => .Pow | .band => .BitAnd | .bor => .BitOr | .bxor => .BitXor | .shl => .LShift

theorem str_cat (x y : List Nat) : ((⟨x.toArray⟩ : Str) ++ (⟨y.toArray⟩ : Str)) = ⟨(x ++ y).toArray⟩ := by
  show (⟨x.toArray ++ y.toArray⟩ : Str) = _
  simp
theorem str_len (x : List Nat) : (⟨x.toArray⟩ : Str).length = x.length := rfl
theorem big_eq : big = 1000000 := rfl

theorem no_pylong {a b : Int} (h : 0 < b ∧ b ≤ big) : Builtin.divisionGoesByPylong a b = false := by
  unfold Builtin.divisionGoesByPylong
  have hb : (b == 0) = false := by simp; omega
  have : b.natAbs.log2 < 20 := (Nat.log2_lt (by omega)).mpr (by have := h.2; rw [big_eq] at this; omega)
  have h2 : ¬ (b.natAbs.log2 / 30 + 1 > 300) := by omega
  simp only [hb, Bool.false_eq_true, if_false, decide_eq_false h2, Bool.false_and]
theorem small_bits {a : Int} (h : a.natAbs ≤ big * big) : Builtin.Int.intBits a ≤ 64 := intBits_le_64 (by rw [big_eq] at h; omega) (by rw [big_eq] at h; omega)

section
variable {prog : Program} {w : World} {A : Around} {E : Value → Shared → Prop} {s : Shared}
variable {K : Frag} {mg mb : Str → Option Value} {env : Env} {O : Ads} {ρ : List Addr} {st : St}

theorem VR.int' {a : Int} {x : Value} (h : VR O ρ s.heap (.int a) x) : ∃ t, x = .int a t := h
theorem VR.str' {a : List Nat} {x : Value} (h : VR O ρ s.heap (.str a) x) : ∃ t, x = .str ⟨a.toArray⟩ t := h
theorem vr_int (h : Heap) (a : Int) (t : Tok) : VR O ρ h (.int a) (.int a t) := Exists.intro t rfl
theorem vr_str (h : Heap) (a : List Nat) (t : Tok) : VR O ρ h (.str a) (.str ⟨a.toArray⟩ t) := Exists.intro t rfl
theorem vr_bool (h : Heap) (b : Bool) : VR O ρ h (.bool b) (.bool b) := (rfl : Value.bool b = .bool b)
theorem Rep.fresh {a : Addr} (R : Rep K mg mb env O ρ st s) (ha : s.heap.get? a = none) : ¬ O a := fun ho => by
  have := R.al a ho
  unfold Alloc at this
  rw [ha] at this; cases this
/-- a fresh list -/
theorem vr_fresh {a : Addr} {its : Array Value} {vs : List V} {n : Nat} (R : Rep K mg mb env O ρ st s) (ha : s.heap.get? a = none) {h' : Heap} (hp : h'.get? a = some { cls := .type "list", data := .seq its n }) (hv : VRs O ρ h' vs its.toList) : VR O ρ h' (.lst vs) (.ref a) :=
  vr_lst (R.fresh ha) ⟨n, hp⟩ hv
theorem vr_fresh_tup {a : Addr} {its : Array Value} {vs : List V} {n : Nat} (R : Rep K mg mb env O ρ st s) (ha : s.heap.get? a = none) {h' : Heap} (hp : h'.get? a = some { cls := .type "tuple", data := .seq its n }) (hv : VRs O ρ h' vs its.toList) : VR O ρ h' (.tup vs) (.ref a) :=
  vr_tup (R.fresh ha) ⟨n, hp⟩ hv

abbrev Out (O : Ads) (ρ : List Addr) (s : Shared) (v : V) (Q : Value → Shared → Prop) : Prop := ∀ s' val, Keeps s s' → VR O ρ s'.heap v val → Q val s'

theorem replicate_str (n : Nat) (x : List Nat) : (⟨(List.replicate n x.toArray).foldl (· ++ ·) #[]⟩ : Str) = ⟨(List.replicate n x).flatten.toArray⟩ := by
  have : ∀ (n : Nat) (acc : List Nat), (List.replicate n x.toArray).foldl (· ++ ·) acc.toArray = (acc ++ (List.replicate n x).flatten).toArray := by
    intro n
    induction n with
    | zero => intro acc; simp
    | succ n ih => intro acc; rw [List.replicate_succ, List.foldl_cons]; rw [show acc.toArray ++ x.toArray = (acc ++ x).toArray from by simp, ih]; simp [List.replicate_succ]
  have := this n []
  simp only [List.nil_append] at this
  rw [show (#[] : Array Nat) = ([] : List Nat).toArray from rfl, this]

@[elab_as_elim] theorem int2_vr {α : Type} {M : Value → Value → Prop} {v u : V} {a b : Value} {f : Int → Int → Option α} {r : α} (h : int2 v u f = some r) (ha : VR O ρ s.heap v a) (hb : VR O ρ s.heap u b) (k : ∀ i j t t', f i j = some r → M (.int i t) (.int j t')) : M a b := by
  refine bnd2 h fun i j e e' h => ?_
  rw [gInt_of e] at ha
  rw [gInt_of e'] at hb
  exact ha.int_elim (M := (M · b)) fun t => hb.int_elim fun t' => k i j t t' h
@[elab_as_elim] theorem get_int {M : Value → Prop} {v : V} {a : Value} {i : Int} (e : gInt v = some i) (ha : VR O ρ s.heap v a) (k : ∀ t, M (.int i t)) : M a := by
  rw [gInt_of e] at ha; exact ha.int_elim k
@[elab_as_elim] theorem get_str {M : Value → Prop} {v : V} {a : Value} {i : List Nat} (e : gStr v = some i) (ha : VR O ρ s.heap v a) (k : ∀ t, M (.str ⟨i.toArray⟩ t)) : M a := by
  rw [gStr_of e] at ha; exact ha.str_elim k
@[elab_as_elim] theorem get_chr {M : Value → Prop} {v : V} {a : Value} {c : Nat} (e : gChr v = some c) (ha : VR O ρ s.heap v a) (k : ∀ t, M (.str ⟨[c].toArray⟩ t)) : M a := by
  rw [gChr_of e] at ha; exact ha.str_elim k

section
variable {Q : Value → Shared → Prop}
theorem add_sound (R : Rep K mg mb env O ρ st s) {v u r : V} {a b : Value} (h : addV' st v u = some r) (ha : VR O ρ s.heap v a) (hb : VR O ρ s.heap u b) (hQ : Out O ρ s r Q) : wpAny (model prog w) A (binaryOp .Add a b) Q E s := by
  have go : ((lview st v).bind fun l => (lview st u).bind fun m => if l.length + m.length ≤ big then some (.lst (l ++ m)) else none) = some r → wpAny (model prog w) A (binaryOp .Add a b) Q E s := by
    intro h
    refine bnd2 h fun l m e1 e2 h => iif h fun hl h => ?_
    cases h
    obtain ⟨x, i1, rfl, ⟨n1, p1⟩, q1⟩ := R.lview ha e1
    obtain ⟨y, i2, rfl, ⟨n2, p2⟩, q2⟩ := R.lview hb e2
    refine P.add_list p1 p2 (hQ _ _ (keeps_push _ _) ?_) ?_
    · refine vr_fresh (n := 0) R (fresh_size _) (Heap.get?_push_size _ rfl) ?_
      rw [Array.toList_append]
      exact (q1.append q2).keeps (keeps_push s _)
    · exact Nat.le_trans (Nat.le_of_eq (congr (congrArg (· + ·) q1.length) q2.length)) (Nat.le_trans hl (by decide))
  cases v with
  | int i =>
    refine int2_vr h ha hb fun i j t t' h => ?_
    cases h
    exact add_int (hQ _ _ (keeps_toks _ _) (vr_int _ _ _))
  | str x =>
    refine bnd h fun y e h => iif h fun hl h => get_str e hb fun t' => ha.str_elim fun t => ?_
    cases h
    refine add_str (fun t' tk => ?_) (Nat.le_trans hl (by decide))
    rw [str_cat]
    exact hQ _ _ (keeps_toks _ _) (vr_str _ _ _)
  | _ => exact go h
theorem mul_sound {v u r : V} {a b : Value} (h : mulV' v u = some r) (ha : VR O ρ s.heap v a) (hb : VR O ρ s.heap u b) (hQ : Out O ρ s r Q) : wpAny (model prog w) A (binaryOp .Mult a b) Q E s := by
  have go : (int2 v u fun a b => if a.natAbs ≤ big * big ∨ b.natAbs ≤ big * big then some (V.int (a * b)) else none) = some r → wpAny (model prog w) A (binaryOp .Mult a b) Q E s := by
    intro h
    refine int2_vr h ha hb fun i j t t' h => iif h fun hl h => ?_
    cases h
    exact mul_int (hQ _ _ (keeps_toks _ _) (vr_int _ _ _)) (hl.elim (fun h => IntMulOk.of_left (small_bits h)) fun h => IntMulOk.of_right (small_bits h))
  cases v with
  | str x =>
    refine bnd h fun n e h => iif h fun hl h => get_int e hb fun t' => ha.str_elim fun t => ?_
    cases h
    clear go h e ha hb
    obtain ⟨k, rfl⟩ := Int.eq_ofNat_of_zero_le hl.1
    have hn : k ≤ 100 := Int.ofNat_le.mp hl.2.1
    have hx := hl.2.2
    rw [Int.toNat_natCast] at hQ
    have h3 : k * x.length ≤ 100 * 100 := Nat.mul_le_mul hn hx
    clear hl
    refine P.mul_str (by simp; omega) (fun h1 h2 h3 => ?_) (fun h1 h2 => ?_) ?_
    · rw [str_len] at h3
      have h4 : (100 : Int) ≤ (2 ^ 63 - 1) / (k : Int) := (Int.le_ediv_iff_mul_le (by omega)).mpr (by omega)
      omega
    · rw [str_len, Int.toNat_natCast, Nat.mul_comm]
      unfold Builtin.Str.tooLong
      rw [decide_eq_false_iff_not, sizeLine_eq]
      omega
    · rw [Int.toNat_natCast]
      split
      · have hn : k = 0 := by omega
        subst hn
        exact ⟨Nat.zero_le _, hQ _ _ (keeps_toks _ _) (vr_str _ [] _)⟩
      · split
        · rename_i h2
          rw [Bool.or_eq_true, beq_iff_eq, beq_iff_eq] at h2
          have e : (List.replicate k x).flatten = x := by
            rcases h2 with h2 | h2
            · cases Int.ofNat.inj h2; exact List.append_nil x
            · cases List.eq_nil_of_length_eq_zero h2; simp
          rw [e] at hQ
          exact hQ _ _ (keeps_toks _ _) (vr_str _ _ _)
        · dsimp only [Made.post]
          rw [replicate_str]
          refine ⟨?_, hQ _ _ (keeps_toks _ _) (vr_str _ _ _)⟩
          rw [str_len, List.length_flatten, List.map_replicate, List.sum_replicate_nat]
          exact Nat.le_trans h3 (by decide)
  | _ => exact go h
theorem fdiv_sound {i j : Int} {t t' : Tok} (h : 0 < j ∧ j ≤ big) (hQ : Out O ρ s (.int (i / j)) Q) : wpAny (model prog w) A (binaryOp .FloorDiv (.int i t) (.int j t')) Q E s := by
  refine floordiv_int (Int.ne_of_gt h.1) ?_ (.inl (no_pylong h))
  rw [Int.fdiv_eq_ediv_of_nonneg _ (Int.le_of_lt h.1)]
  exact hQ _ _ (keeps_toks _ _) (vr_int _ _ _)
theorem fmod_sound {i j : Int} {t t' : Tok} (h : 0 < j ∧ j ≤ big) (hQ : Out O ρ s (.int (i % j)) Q) : wpAny (model prog w) A (binaryOp .Mod (.int i t) (.int j t')) Q E s := by
  refine mod_int' (Int.ne_of_gt h.1) ?_
  rw [Int.fmod_eq_emod_of_nonneg _ (Int.le_of_lt h.1)]
  exact hQ _ _ (keeps_toks _ _) (vr_int _ _ _)
theorem pow_sound {i j : Int} {t t' : Tok} (h : 0 ≤ i ∧ i ≤ 100 ∧ 0 ≤ j ∧ j ≤ 100) (hQ : Out O ρ s (.int (i ^ j.toNat)) Q) : wpAny (model prog w) A (binaryOp .Pow (.int i t) (.int j t')) Q E s := by
  refine pow_int (by omega) ?_ (hQ _ _ (keeps_toks _ _) (vr_int _ _ _))
  have := small_bits (a := i) (by rw [big_eq]; omega)
  have h3 : ((Builtin.Int.intBits i : Nat) : Int) * j ≤ 64 * 100 := Int.mul_le_mul (Int.ofNat_le.mpr this) h.2.2.2 h.2.2.1 (by decide)
  omega
theorem shl_sound {i j : Int} {t t' : Tok} (h : i.natAbs ≤ big * big ∧ 0 ≤ j ∧ j ≤ 100) (hQ : Out O ρ s (.int (i * 2 ^ j.toNat)) Q) : wpAny (model prog w) A (binaryOp .LShift (.int i t) (.int j t')) Q E s := by
  refine lshift_int h.2.1 ?_ (hQ _ _ (keeps_toks _ _) (vr_int _ _ _))
  have := small_bits h.1
  omega
theorem binV_sound (R : Rep K mg mb env O ρ st s) {o : BO} {v u r : V} {a b : Value} (h : binV st o v u = some r) (ha : VR O ρ s.heap v a) (hb : VR O ρ s.heap u b) (hQ : Out O ρ s r Q) :
    wpAny (model prog w) A (binaryOp o.op a b) Q E s := by
  cases o with
  | add => exact add_sound R h ha hb hQ
  | mul => exact mul_sound h ha hb hQ
  | sub => refine int2_vr h ha hb fun i j t t' h => ?_; cases h; exact sub_int' (hQ _ _ (keeps_toks _ _) (vr_int _ _ _))
  | fdiv => refine int2_vr h ha hb fun i j t t' h => iif h fun hl h => ?_; cases h; exact fdiv_sound hl hQ
  | fmod => refine int2_vr h ha hb fun i j t t' h => iif h fun hl h => ?_; cases h; exact fmod_sound hl hQ
  | pow => refine int2_vr h ha hb fun i j t t' h => iif h fun hl h => ?_; cases h; exact pow_sound hl hQ
  | band => refine int2_vr h ha hb fun i j t t' h => ?_; cases h; exact PyProof.Rows.and_int (hQ _ _ (keeps_toks _ _) (vr_int _ _ _))
  | bor => refine int2_vr h ha hb fun i j t t' h => ?_; cases h; exact PyProof.Rows.or_int (hQ _ _ (keeps_toks _ _) (vr_int _ _ _))
  | bxor => refine int2_vr h ha hb fun i j t t' h => ?_; cases h; exact PyProof.Rows.xor_int (hQ _ _ (keeps_toks _ _) (vr_int _ _ _))
  | shl => refine int2_vr h ha hb fun i j t t' h => iif h fun hl h => ?_; cases h; exact shl_sound hl hQ
end
end
end
section
open PySem PySem.Spec PySem.Calls PySem.W PyProof.Rows

mutual
theorem reads_of {h : Heap} : ∀ (v : V) (x : Value) (d : PyData), toD v = some d → VR (fun _ => False) [] h v x → ∃ as, Reads h x d as
  | .none, _, _, e, H => Option.some.inj e ▸ (show _ = Value.none from H) ▸ ⟨_, .none⟩
  | .bool b, _, _, e, H => Option.some.inj e ▸ (show _ = Value.bool b from H) ▸ ⟨_, .bool b⟩
  | .int i, _, _, e, H => Option.some.inj e ▸ H.int_elim fun t => ⟨_, .int i t⟩
  | .str s, _, _, e, H => Option.some.inj e ▸ H.str_elim fun t => ⟨_, .str _ t⟩
  | .tup vs, x, _, e, H => mpd e fun ds e e' => e' ▸ H.tup_elim fun a its _ ht hv => ht.elim fun n ho => (readsAll_of vs _ ds e hv).elim fun as hr => ⟨_, .tuple ho rfl rfl hr⟩
  | .lst vs, x, _, e, H => mpd e fun ds e e' => e' ▸ H.lst_elim fun a its _ ht hv => ht.elim fun n ho => (readsAll_of vs _ ds e hv).elim fun as hr => ⟨_, .list ho rfl rfl hr⟩
  | .rng _ _, _, _, e, _ => nosome e
  | .trk _, _, _, e, _ => nosome e
  | .hdr _, _, _, e, _ => nosome e
  | .obj _, _, _, e, _ => nosome e
theorem readsAll_of {h : Heap} : ∀ (v : List V) (x : List Value) (d : List PyData), toDs v = some d → VRs (fun _ => False) [] h v x → ∃ as, ReadsAll h x d as
  | [], _, _, e, H => Option.some.inj e ▸ (show _ = ([] : List Value) from H) ▸ ⟨_, .nil⟩
  | v :: vs, x, _, e, H => bnd2 e fun d ds e1 e2 e => Option.some.inj e ▸ H.cons_elim fun y ys h1 h2 => (reads_of v y d e1 h1).elim fun as r1 => (readsAll_of vs ys ds e2 h2).elim fun bs r2 => ⟨_, .cons r1 r2⟩
end

noncomputable def CO.op : CO → CmpOp
  | .eq => .Eq | .ne => .NotEq | .lt => .Lt | .gt => .Gt | .inn => .In | .nin => .NotIn

theorem str_beq (x y : List Nat) : ((⟨x.toArray⟩ : Str) == ⟨y.toArray⟩) = decide (x = y) := by
  rw [Bool.eq_iff_iff, beq_iff_eq, decide_eq_true_iff]
  constructor
  · intro h; have := congrArg Str.cps h; simpa using this
  · intro h; rw [h]
theorem str_inj {x y : List Nat} : ((⟨x.toArray⟩ : Str) = ⟨y.toArray⟩) ↔ x = y := by
  constructor
  · intro h; have := congrArg Str.cps h; simpa using this
  · intro h; rw [h]

theorem int_bne (a b : Int) : (a != b) = !decide (a = b) := by rw [Bool.eq_iff_iff]; simp
theorem int_beq (a b : Int) : (a == b) = decide (a = b) := by rw [Bool.eq_iff_iff]; simp
section
variable {prog : Program} {w : World} {A : Around} {E : Value → Shared → Prop} {s : Shared}
variable {K : Frag} {mg mb : Str → Option Value} {env : Env} {O : Ads} {ρ : List Addr} {st : St}

theorem eqV_sound {v u : V} {r : Bool} {a b : Value} {Q : Value → Shared → Prop} (h : eqV v u = some r) (ha : VR (fun _ => False) [] s.heap v a) (hb : VR (fun _ => False) [] s.heap u b) (hu : A.units + 64 < cLine) :
    (Q (.bool r) s → wpAny (model prog w) A (compareOp .Eq a b) Q E s) ∧ (Q (.bool (!r)) s → wpAny (model prog w) A (compareOp .NotEq a b) Q E s) := by
  have go : ((toD v).bind fun x => (toD u).bind fun y => if (SeqAt.shaped x && SeqAt.shaped y) = true then some (x.eqv y) else none) = some r → (Q (.bool r) s → wpAny (model prog w) A (compareOp .Eq a b) Q E s) ∧ (Q (.bool (!r)) s → wpAny (model prog w) A (compareOp .NotEq a b) Q E s) := by
    intro h
    refine bnd2 h fun x y e1 e2 h => iif h fun hs h => ?_
    cases h
    have hs := Bool.and_eq_true_iff.mp hs
    refine (reads_of _ _ _ e1 ha).elim fun as r1 => (reads_of _ _ _ e2 hb).elim fun bs r2 => ⟨eq_dataH r1 r2 hs.1 hs.2 hu, ne_dataH r1 r2 hs.1 hs.2 hu⟩
  cases v with
  | int i =>
    refine bnd h fun j e h => get_int e hb fun t' => ha.int_elim fun t => ?_
    cases h
    exact ⟨eq_int, fun hQ => ne_int (by rw [int_bne]; exact hQ)⟩
  | str x =>
    refine bnd h fun y e h => get_str e hb fun t' => ha.str_elim fun t => ?_
    cases h
    exact ⟨fun hQ => eq_str (by rw [str_beq]; exact hQ), fun hQ => ne_str (by rw [bne, str_beq]; exact hQ)⟩
  | _ => exact go h

theorem cmpV_sound (R : Rep K mg mb env O ρ st s) {o : CO} {v u : V} {r : Bool} {a b : Value} {Q : Value → Shared → Prop} (h : cmpV st o v u = some r) (ha : VR O ρ s.heap v a) (hb : VR O ρ s.heap u b) (hu : A.units + 64 < cLine) (hQ : Q (.bool r) s) :
    wpAny (model prog w) A (compareOp o.op a b) Q E s := by
  cases o with
  | lt => refine int2_vr h ha hb fun i j t t' h => ?_; cases h; exact lt_int hQ
  | gt => refine int2_vr h ha hb fun i j t t' h => ?_; cases h; exact gt_int hQ
  | inn =>
    refine bnd2 h fun c x e e' h => get_chr e ha fun t => get_str e' hb fun t' => ?_
    cases h
    exact P.in_str (by rw [StrLaws.found_one]; exact hQ)
  | nin =>
    refine bnd2 h fun c x e e' h => get_chr e ha fun t => get_str e' hb fun t' => ?_
    cases h
    exact P.notIn_str (by rw [StrLaws.found_one]; exact hQ)
  | eq => exact bnd2 h fun x y e e' h => (eqV_sound h (R.frz ha e) (R.frz hb e') hu).1 hQ
  | ne => exact bnd2 h fun x y e e' h => mpd h fun c h h' => (eqV_sound h (R.frz ha e) (R.frz hb e') hu).2 (h' ▸ hQ)

theorem truthyV_sound {v : V} {r : Bool} {a : Value} {Q : Bool → Shared → Prop} (h : truthyV st v = some r) (ha : VR O ρ s.heap v a) (hQ : Q r s) : wpAny (model prog w) A (truthy a) Q E s := by
  cases v with
  | bool b =>
    cases h
    cases (show a = .bool r from ha)
    exact wpAny_truthy_bool hQ
  | int i =>
    refine ha.int_elim fun t => ?_
    cases h
    refine truthy_int ?_
    rw [int_bne, ← decide_not]; exact hQ
  | _ => exact nosome h
end
end
section
open PySem PySem.Spec PySem.Calls PySem.W PyProof.Rows

theorem filt_range {α : Type} (l : List α) : ∀ (n a : Nat), a + n ≤ l.length → ((List.range n).map fun k => a + k).filterMap (l[·]?) = (l.drop a).take n
  | 0, a, _ => by simp
  | n + 1, a, h => by
    have hlt : a < l.length := Nat.lt_of_lt_of_le (Nat.lt_add_of_pos_right (Nat.succ_pos n)) h
    rw [List.range_succ_eq_map, List.map_cons, List.map_map, List.filterMap_cons]
    have e1 : l[a + 0]? = some l[a] := List.getElem?_eq_getElem hlt
    rw [e1]
    dsimp only
    have e2 : ((fun k => a + k) ∘ Nat.succ) = fun k => (a + 1) + k := funext fun k => (Nat.succ_add_eq_add_succ a k).symm
    rw [e2, filt_range l n (a + 1) (Nat.le_trans (Nat.le_of_eq (Nat.succ_add_eq_add_succ a n)) h), List.drop_eq_getElem_cons hlt, List.take_succ_cons]

theorem sliceRange_one (a b : Nat) (h : a ≤ b) : sliceRange (a : Int) (b : Int) 1 = (List.range (b - a)).map fun k => a + k := by
  unfold sliceRange
  have h1 : (if (1 : Int) > 0 then (if (a : Int) < b then ((b : Int) - a + 1 - 1) / 1 else 0) else (if (a : Int) > b then ((a : Int) - b - 1 - 1) / (-1) else 0)).toNat = b - a := by
    rw [if_pos (by decide)]
    split
    · rw [Int.add_sub_cancel, Int.ediv_one]; exact Int.toNat_sub b a
    · rename_i hc
      exact (Nat.sub_eq_zero_of_le (Int.ofNat_le.mp (Int.not_lt.mp hc))).symm
  dsimp only
  rw [h1]
  refine List.map_congr_left fun k _ => ?_
  rw [Int.one_mul]
  exact Int.toNat_natCast (a + k)
theorem max_min (k n : Nat) : max (0 : Int) (min (k : Int) (n : Int)) = ((min k n : Nat) : Int) := by
  omega

theorem str_idx (n k : Nat) : Builtin.Str.strSliceIndices (some (k : Int)) none 1 n = (List.range (n - min k n)).map fun j => min k n + j := by
  unfold Builtin.Str.strSliceIndices
  have e : (if (k : Int) < 0 then (k : Int) + (n : Int) else k) = k := if_neg (Int.not_lt.mpr (Int.natCast_nonneg k))
  simp only [show (1 : Int) > 0 from by decide, if_true, e]
  rw [max_min, sliceRange_one _ _ (Nat.min_le_right _ _)]
theorem str_drop (x : List Nat) (k : Nat) : (Builtin.Str.strSliceIndices (some (k : Int)) none 1 x.length).filterMap (fun (k : Nat) => (⟨x.toArray⟩ : Str).cps[k]?) = x.drop k := by
  rw [str_idx]
  have e3 : (fun (k : Nat) => (⟨x.toArray⟩ : Str).cps[k]?) = (fun (k : Nat) => x[k]?) := by funext k; simp
  rw [e3, filt_range _ _ _ (Nat.le_of_eq (Nat.add_sub_cancel' (Nat.min_le_right _ _)))]
  by_cases h : k ≤ x.length
  · rw [Nat.min_eq_left h, List.take_of_length_le (Nat.le_of_eq List.length_drop)]
  · have h := Nat.le_of_not_le h
    rw [Nat.min_eq_right h, Nat.sub_self, List.take_zero, List.drop_of_length_le h]

theorem list_take (its : Array Value) (k : Nat) : slicePick its none (some (k : Int)) none = (its.toList.take k).toArray := by
  unfold slicePick sliceBounds
  have e : (if (k : Int) < 0 then (k : Int) + (its.size : Int) else k) = k := if_neg (Int.not_lt.mpr (Int.natCast_nonneg k))
  simp only [Option.getD_none, show (1 : Int) > 0 from by decide, if_true, e]
  rw [max_min, show (0 : Int) = ((0 : Nat) : Int) from rfl, sliceRange_one _ _ (Nat.zero_le _)]
  have e3 : (fun (k : Nat) => its[k]?) = (fun (k : Nat) => its.toList[k]?) := by funext k; simp
  rw [e3, filt_range _ _ _ (by rw [Nat.zero_add]; exact Nat.min_le_right _ _), List.drop_zero, Nat.sub_zero, ← Array.length_toList, ← List.take_eq_take_min]

theorem list_whole (its : Array Value) : slicePick its none none none = its := by
  unfold slicePick sliceBounds
  simp only [Option.getD_none, show (1 : Int) > 0 from by decide, if_true]
  rw [show (0 : Int) = ((0 : Nat) : Int) from rfl, sliceRange_one _ _ (Nat.zero_le _)]
  have e3 : (fun (k : Nat) => its[k]?) = (fun (k : Nat) => its.toList[k]?) := by funext k; simp
  rw [e3, Nat.sub_zero, filt_range its.toList its.size 0 (Nat.le_of_eq (Nat.zero_add _)), List.drop_zero, ← Array.length_toList, List.take_length]

theorem VRs.takeN {O : Ads} {ρ : List Addr} {h : Heap} : ∀ {vs : List V} {l : List Value}, VRs O ρ h vs l → ∀ n, VRs O ρ h (vs.take n) (l.take n)
  | [], l, H, n => H.nil_elim (N := fun l => VRs O ρ h ([].take n) (l.take n)) (by rw [List.take_nil, List.take_nil]; exact vrs_nil)
  | _ :: _, _, _, 0 => vrs_nil
  | v :: vs, l, H, n + 1 => H.cons_elim (N := fun l => VRs O ρ h ((v :: vs).take (n + 1)) (l.take (n + 1))) fun _ _ h1 h2 => vrs_cons h1 (VRs.takeN h2 n)

noncomputable def notSlice : Expr → Bool
  | .Slice .. => false
  | _ => true
theorem subs_plain {e : Expr} (h : notSlice e = true) (o i : Value) : subscripted e false o i = operate [o, i] (getItem o i) := by
  cases e <;> first | rfl | cases h
theorem let_str (value : Expr) (x : Str) (t : Tok) : ∀ r, letTemporaryGo value (.str x t) r = pure () := by
  intro r; cases value <;> rfl

section
variable {prog : Program} {w : World} {A : Around} {E : Value → Shared → Prop} {s : Shared}
variable {K : Frag} {mg mb : Str → Option Value} {env : Env} {O : Ads} {ρ : List Addr} {st : St}

theorem seq_neg {i : Int} {n : Nat} (h0 : ¬ 0 ≤ i) (h1 : -(n : Int) ≤ i) : seqIndex? i n = some (i + n).toNat := by
  unfold seqIndex?
  have h2 := Int.not_le.mp h0
  rw [if_pos h2]
  exact if_pos (Bool.and_eq_true_iff.mpr ⟨decide_eq_true (by omega), decide_eq_true (by omega)⟩)
theorem seq_nat {i n : Nat} (h : i < n) : seqIndex? (i : Int) n = some i := by
  unfold seqIndex?
  rw [if_neg (Int.not_lt.mpr (Int.natCast_nonneg i))]
  exact if_pos (Bool.and_eq_true_iff.mpr ⟨decide_eq_true (Int.natCast_nonneg i), decide_eq_true (Int.ofNat_lt.mpr h)⟩)
theorem lt_of_get {α : Type} {l : List α} {i : Nat} {c : α} (h : l[i]? = some c) : i < l.length := (List.getElem?_eq_some_iff.mp h).1
theorem idxL_seq {α : Type} {l : List α} {i : Int} {c : α} (h : idxL l i = some c) : ((seqIndex? i l.length).bind fun k => l[k]?) = some c ∧ i < l.length ∧ -(l.length : Int) ≤ i := by
  unfold idxL at h
  split at h
  · rename_i h0
    obtain ⟨k, rfl⟩ := Int.eq_ofNat_of_zero_le h0
    have h : l[k]? = some c := h
    have hl := lt_of_get h
    exact ⟨by rw [seq_nat hl]; exact h, Int.ofNat_lt.mpr hl, Int.le_trans (Int.neg_nonpos_of_nonneg (Int.natCast_nonneg _)) (Int.natCast_nonneg _)⟩
  · rename_i h0
    refine iif h fun h1 h => ⟨?_, Int.lt_of_lt_of_le (Int.not_le.mp h0) (Int.natCast_nonneg _), h1⟩
    rw [seq_neg h0 h1]; exact h

section
variable {Q : Value → Shared → Prop}
theorem idxV_sound (R : Rep K mg mb env O ρ st s) {value slice : Expr} {v u r : V} {a b : Value} (hsl : notSlice slice = true) (h : idxV st v u = some r)
    (ha : VR O ρ s.heap v a) (hb : VR O ρ s.heap u b) (hQ : Out O ρ s r Q) :
    wpAny (model prog w) A (subscriptTail value slice a b) Q E s := by
  refine bnd h fun i e h => get_int e hb fun t' => ?_
  clear hb e
  have go : ((lview st v).bind fun vs => if 0 ≤ i ∧ i ≤ big then vs[i.toNat]? else none) = some r → wpAny (model prog w) A (subscriptTail value slice a (.int i t')) Q E s := by
    intro h
    refine bnd h fun vs hvs h => iif h fun hi h => ?_
    obtain ⟨a, its, rfl, hp, hv⟩ := R.lview ha hvs
    obtain ⟨y, hy, hr⟩ := hv.get _ r h
    exact tail_any hp.isList.typeIs slot_list_getitem.lookup (wpAny_getItem_list hp.isList hi.1 (Int.lt_of_le_of_lt hi.2 (by decide)) (by simpa using hy) (hQ _ _ (keeps_refl _) hr)) (subs_plain hsl _ _)
  cases v with
  | str x =>
    refine iif h fun hl h => mpd h fun c hx hr => ha.str_elim fun t => ?_
    cases hr
    obtain ⟨h1, h2, h3⟩ := idxL_seq hx
    refine subscriptTail_builtin (typeIs_str _ _ _) F.slot_str_getitem.lookup (getItem_str (c := c) ?_ (by simpa [str_len] using h1) (hQ _ _ (keeps_toks _ _) (vr_str _ [c] _))) (subs_plain hsl _ _) (let_str _ _ _)
    have hl : (x.length : Int) ≤ 1000000 := Int.ofNat_le.mpr hl
    simp; omega
  | tup vs =>
    refine iif h fun hi h => ?_
    clear go
    obtain ⟨k, rfl⟩ := Int.eq_ofNat_of_zero_le hi.1
    refine ha.tup_elim (M := fun a => wpAny (model prog w) A (subscriptTail value slice a (.int k t')) Q E s) fun a its hO hp hv => ?_
    obtain ⟨y, hy, hr⟩ := hv.get _ r h
    have hlt := lt_of_get hy
    exact item_tupleT (l := its.toList) (j := k) hp.isTup (Int.le_trans (by decide) hi.1) (Int.lt_of_le_of_lt hi.2 (by decide)) (seq_nat hlt) hy (hQ _ _ (keeps_refl _) hr) (subs_plain hsl _ _)
  | _ => exact go h

theorem dropV_sound {value : Expr} {p : Pos} {le : Expr} {v u r : V} {a b : Value} (h : dropV v u = some r)
    (ha : VR O ρ s.heap v a) (hb : VR O ρ s.heap u b) (hQ : Out O ρ s r Q) :
    wpAny (model prog w) A (subscriptTail value (.Slice (some le) none none p) a (.ref s.heap.objs.size)) Q E { s with heap := s.heap.push { cls := .type "slice", data := .fields #[b, .none, .none] } } := by
  refine bnd2 h fun x i e e' h => iif h fun hi h => get_int e' hb fun t' => get_str e ha fun t => ?_
  clear ha hb e e'
  cases h
  obtain ⟨k, rfl⟩ := Int.eq_ofNat_of_zero_le hi.1
  have h3 := hi.2.2
  clear hi
  rw [Int.toNat_natCast] at hQ
  refine subscriptTail_builtin (typeIs_str _ _ _) F.slot_str_getitem.lookup (wpAny_getItem_str_slice (l := some ((k : Int), t')) (u := none) (st := none) ⟨_, Heap.get?_push_size _ rfl, rfl, rfl⟩ (by rfl) ?_) (by rfl) (let_str _ _ _)
  unfold sliceMade slicePicked
  simp only [Option.map_some, Option.map_none, Option.getD_none]
  rw [show (⟨x.toArray⟩ : Str).length = x.length from rfl, str_drop x k]
  split
  · rename_i hc
    have e : x.drop k = x := by
      have hc := beq_iff_eq.mp (Bool.and_eq_true_iff.mp hc).2
      rw [str_idx, List.length_map, List.length_range] at hc
      have : k = 0 ∨ x.length = 0 := by omega
      rcases this with h5 | h5
      · rw [h5]; rfl
      · rw [List.eq_nil_of_length_eq_zero h5]; exact List.drop_nil
    rw [e] at hQ
    exact hQ _ _ (keeps_push s _) (vr_str _ _ _)
  · refine ⟨?_, hQ _ _ (keeps_push' s _ _) (vr_str _ _ _)⟩
    rw [str_len, List.length_drop]
    exact Nat.le_trans (Nat.sub_le _ _) (Nat.le_trans h3 (by decide))

theorem takeV_sound (R : Rep K mg mb env O ρ st s) {value : Expr} {p : Pos} {le : Expr} {v u r : V} {a b : Value} (h : takeV st v u = some r)
    (ha : VR O ρ s.heap v a) (hb : VR O ρ s.heap u b) (hQ : Out O ρ s r Q) :
    wpAny (model prog w) A (subscriptTail value (.Slice none (some le) none p) a (.ref s.heap.objs.size)) Q E { s with heap := s.heap.push { cls := .type "slice", data := .fields #[.none, b, .none] } } := by
  refine bnd2 h fun vs i hvs e h => iif h fun hi h => get_int e hb fun t' => ?_
  clear hb e
  cases h
  obtain ⟨k, rfl⟩ := Int.eq_ofNat_of_zero_le hi.1
  obtain ⟨a, its, rfl, hp, hv⟩ := R.lview ha hvs
  have h3 := hi.2.2
  clear hi ha hvs
  rw [Int.toNat_natCast] at hQ
  have hp' : Heap.IsList (s.heap.push { cls := .type "slice", data := .fields #[.none, .int k t', .none] }) a its := hp.isList.push _
  refine tail_any (s := { s with heap := s.heap.push _ }) hp'.typeIs slot_list_getitem.lookup (ops := [.ref s.heap.objs.size, .ref a]) (wpAny_getItem_list_slice (vl := .none) (vu := .int k t') (vs := .none) (lo := none) (hi := some (k : Int)) (st := none) hp' ⟨_, Heap.get?_push_size _ rfl, rfl, rfl⟩ .none (.int _ _) .none (by simp) ?_ ?_) (by rfl)
  · refine hQ _ _ (keeps_trans (keeps_push s _) (keeps_push _ _)) (vr_fresh (n := 0) (its := slicePick its none (some (k : Int)) none) (R.keeps (keeps_push s _)) (fresh_size _) (Heap.get?_push_size _ rfl) ?_)
    rw [list_take its k]
    exact (hv.takeN k).keeps (keeps_trans (keeps_push s _) (keeps_push _ _))
  · rw [show its.size = vs.length from hv.length]
    exact Nat.le_trans h3 (by decide)
end
end
end
section
open PySem PySem.Spec PySem.Calls PySem.W PyProof.Rows

noncomputable def B1.id : B1 → String
  | .len => "len" | .sum => "sum" | .ord => "ord" | .chr => "chr" | .hex => "hex"
noncomputable def M0.id : M0 → String
  | .swapcase => "str.swapcase" | .lower => "str.lower" | .upper => "str.upper"
noncomputable def M0.nm : M0 → Str
  | .swapcase => Str.ofString "swapcase" | .lower => Str.ofString "lower" | .upper => Str.ofString "upper"

section
variable {O : Ads} {ρ : List Addr} {h : Heap}
theorem ints_are : ∀ {vs : List V} {l : List Value} {is : List Int}, VRs O ρ h vs l → intsOf vs = some is → IntsAre l is
  | [], _, _, H, e => H.nil_elim (N := fun l => IntsAre l _) (Option.some.inj e ▸ .nil)
  | v :: vs, _, is, H, e => H.cons_elim (N := fun l => IntsAre l is) fun x xs h1 h2 => bnd2 e fun i js e1 e2 e => by
    cases e
    rw [gInt_of e1] at h1
    exact h1.int_elim (M := fun x => IntsAre (x :: xs) _) fun t => .cons _ _ (ints_are h2 e2)
theorem strs_are : ∀ {vs : List V} {l : List Value} {xs : List (List Nat)}, VRs O ρ h vs l → strsOf vs = some xs → StrsAre l (xs.map fun x => ⟨x.toArray⟩)
  | [], _, _, H, e => H.nil_elim (N := fun l => StrsAre l _) (Option.some.inj e ▸ .nil)
  | v :: vs, _, is, H, e => H.cons_elim (N := fun l => StrsAre l _) fun x xs h1 h2 => bnd2 e fun i js e1 e2 e => by
    cases e
    rw [gStr_of e1] at h1
    exact h1.str_elim (M := fun x => StrsAre (x :: xs) _) fun t => .cons _ _ (strs_are h2 e2)
end

theorem join_str (sep : List Nat) : ∀ xs : List (List Nat), Str.join ⟨sep.toArray⟩ (xs.map fun x => ⟨x.toArray⟩) = ⟨(joinL sep xs).toArray⟩
  | [] => rfl
  | [x] => rfl
  | x :: y :: r => by
    have ih := join_str sep (y :: r)
    simp only [List.map_cons] at ih ⊢
    show (⟨x.toArray⟩ : Str) ++ ⟨sep.toArray⟩ ++ Str.join ⟨sep.toArray⟩ _ = _
    rw [ih, str_cat, str_cat]
    rfl

theorem hex_base {i : Int} (h : 0 ≤ i) : baseText "0x" 16 i = ⟨(hexS i.toNat).toArray⟩ := by
  unfold baseText
  rw [if_neg (by omega), Str.ofString_eq_toList, Str.ofString_eq_toList, Str.ofString_eq_toList, str_cat, str_cat, String.toList_ofList]
  have : i.natAbs = i.toNat := by omega
  rw [this]
  congr 1
  simp [hexS]

theorem placed_one (x : List Nat) (f : Nat → Nat → List Nat) (g : Nat → Nat) (h : ∀ i c, x[i]? = some c → f i c = [g c]) : placed ⟨x.toArray⟩ f = (x.map g).toArray := by
  unfold placed
  have : (x.toArray.mapIdx fun i c => (f i c).toArray) = (x.map fun c => #[g c]).toArray := by
    apply Array.ext'
    simp only [Array.toList_mapIdx]
    apply List.ext_getElem?
    intro i
    simp only [List.getElem?_mapIdx, List.getElem?_map]
    cases e : x[i]? with
    | none => rfl
    | some c => simp [h i c e]
  rw [show (⟨x.toArray⟩ : Str).cps = x.toArray from rfl, this]
  apply Array.ext'
  rw [Array.toList_flatten]
  simp only [List.map_map]
  clear this h
  induction x with
  | nil => rfl
  | cons c x ih =>
    rw [List.map_cons, List.flatten_cons, ih]
    rfl
theorem up_ascii : ∀ c < 128, Unicode.upperOf c = [upA c] := by decide +kernel
theorem low_ascii : ∀ c < 128, Unicode.lowerOf c = [lowA c] := by decide +kernel
theorem isUp_ascii : ∀ c < 128, Unicode.isUpper c = decide (65 ≤ c ∧ c ≤ 90) := by decide +kernel
theorem isLow_ascii : ∀ c < 128, Unicode.isLower c = decide (97 ≤ c ∧ c ≤ 122) := by decide +kernel
theorem lowAt_ascii {x : List Nat} {i c : Nat} (h : x[i]? = some c) (hc : c < 128) : Unicode.lowerAt x.toArray i = [lowA c] := by
  unfold Unicode.lowerAt
  have : x.toArray[i]? = some c := by simpa using h
  rw [this]
  have h2 : (c == 931) = false := by simp; omega
  simp only [h2, Bool.false_and, Bool.false_eq_true, if_false]
  exact low_ascii c hc

section
variable {prog : Program} {w : World} {A : Around} {E : Value → Shared → Prop} {s : Shared}
variable {K : Frag} {mg mb : Str → Option Value} {env : Env} {O : Ads} {ρ : List Addr} {st : St}

theorem b1V_sound (R : Rep K mg mb env O ρ st s) {f : B1} {v r : V} {a : Value} {Q : Value → Shared → Prop} (hh : A.handled = none) (h : b1V st f v = some r) (ha : VR O ρ s.heap v a) (hQ : Out O ρ s r Q) :
    wpAny (model prog w) A (call (.builtin f.id) [a]) Q E s := by
  cases f with
  | len =>
    refine bnd h fun vs hvs h => iif h fun hl h => ?_
    cases h
    obtain ⟨x, its, rfl, hp, hv⟩ := R.lview ha hvs
    have hlen : its.size = vs.length := hv.length
    refine PyProof.Rows.len_list hp.isList (by rw [hlen]; have : vs.length ≤ 1000000 := hl; omega) ?_
    rw [hlen]
    exact hQ _ _ (keeps_toks _ _) (vr_int _ _ _)
  | sum =>
    refine bnd h fun vs hvs h => bnd h fun is his h => ?_
    cases h
    obtain ⟨x, its, rfl, hp, hv⟩ := R.lview ha hvs
    have hi := ints_are hv his
    obtain ⟨xs, hxs⟩ := hi.allInts.items
    replace hxs : its = intItems xs := hxs
    subst hxs
    refine sum_intListG hh hp.isList fun h' tk t' hk => ?_
    have e : preSum (numAt xs) xs.size = is.sum := by
      have h1 := hi.numsOf
      rw [nums_intItems] at h1
      rw [preSum_eq, List.take_of_length_le (by simp), h1]
    rw [e]
    exact hQ _ _ ⟨h', tk, rfl, hk⟩ (vr_int _ _ _)
  | ord =>
    refine bnd h fun c e h => get_chr e ha fun t => ?_
    cases h
    exact P.ord_of_char (hQ _ _ (keeps_toks _ _) (vr_int _ _ _))
  | chr =>
    refine bnd h fun c e h => iif h fun hl h => get_int e ha fun t => ?_
    cases h
    exact chr_of_range hl.1 hl.2 (hQ _ _ (keeps_toks _ _) (vr_str _ [_] _))
  | hex =>
    refine bnd h fun c e h => iif h fun hl h => get_int e ha fun t => ?_
    cases h
    refine P.hex_of_int ?_ ?_
    · rw [hex_base hl.1]
      exact hQ _ _ (keeps_toks _ _) (vr_str _ _ _)
    · rw [hex_base hl.1]
      exact Nat.le_trans hl.2 (by decide)

theorem joinV_sound (R : Rep K mg mb env O ρ st s) {sep : List Nat} {v r : V} {a : Value} {t : Tok} {Q : Value → Shared → Prop} (h : joinV st sep v = some r) (ha : VR O ρ s.heap v a) (hQ : Out O ρ s r Q) :
    wpAny (model prog w) A (call (.builtin "str.join") [.str ⟨sep.toArray⟩ t, a]) Q E s := by
  refine bnd h fun vs hvs h => bnd h fun xs hxs h => iif h fun hl h => ?_
  cases h
  obtain ⟨x, its, rfl, hp, hv⟩ := R.lview ha hvs
  refine join_list hp.isList (strs_are hv hxs) ?_ fun t' k => ?_
  · rw [List.map_map, List.length_map, str_len, show List.map (Str.length ∘ fun (x : List Nat) => (⟨x.toArray⟩ : Str)) xs = xs.map List.length from List.map_congr_left fun _ _ => rfl]
    exact Nat.le_trans hl (by decide)
  · unfold Txt.join
    rw [StrLaws.glued_eq_join, join_str]
    exact hQ _ _ (keeps_toks _ _) (vr_str _ _ _)

theorem m0V_sound {m : M0} {v r : V} {a : Value} {Q : Value → Shared → Prop} (h : m0V m v = some r) (ha : VR O ρ s.heap v a) (hQ : Out O ρ s r Q) :
    wpAny (model prog w) A (call (.builtin m.id) [a]) Q E s := by
  refine bnd h fun x e h => iif h fun hl h => get_str e ha fun t => ?_
  cases h
  have hc : ∀ (i c : Nat), x[i]? = some c → c < 128 := fun i c e => hl.1 c (List.mem_of_getElem? e)
  have hlen : (⟨x.toArray⟩ : Str).length ≤ 1000000 := hl.2
  clear hl e ha
  cases m with
  | swapcase =>
    refine SCL.swapcase (by omega) fun _ => ?_
    have e : Txt.swapcase ⟨x.toArray⟩ = ⟨(x.map swapA).toArray⟩ := by
      unfold Txt.swapcase
      rw [placed_one x _ swapA fun i c e => ?_]
      have h3 := hc i c e
      simp only [isUp_ascii c h3, isLow_ascii c h3, decide_eq_true_eq]
      unfold swapA
      rw [lowAt_ascii e h3, up_ascii c h3]
      unfold lowA upA
      split
      · rfl
      · split <;> rfl
    rw [e]
    exact hQ _ _ (keeps_toks _ _) (vr_str _ _ _)
  | lower =>
    refine SCL.lower (by omega) fun _ => ?_
    have e : Txt.lower ⟨x.toArray⟩ = ⟨(x.map lowA).toArray⟩ := congrArg Str.mk (placed_one x _ lowA fun i c e => lowAt_ascii e (hc i c e))
    rw [e]
    exact hQ _ _ (keeps_toks _ _) (vr_str _ _ _)
  | upper =>
    refine SCL.upper (by omega) fun _ => ?_
    have e : Txt.upper ⟨x.toArray⟩ = ⟨(x.map upA).toArray⟩ := congrArg Str.mk (placed_one x _ upA fun i c e => up_ascii c (hc i c e))
    rw [e]
    exact hQ _ _ (keeps_toks _ _) (vr_str _ _ _)
end
end
section
open PySem PySem.Spec PySem.Calls PySem.W PyProof.Rows

section
variable {prog : Program} {w : World} {A : Around} {E : Value → Shared → Prop} {s : Shared}
variable {K : Frag} {mg mb : Str → Option Value} {env : Env} {O : Ads} {ρ : List Addr} {st : St}

/-- an iterator I over what bears vs -/
structure Src (prog : Program) (w : World) (O : Ads) (ρ : List Addr) (v : V) (vs : List V) (s s₂ : Shared) (I : Addr) (fp : List Addr) (Pd : Nat → Value → Prop) (Sd : Nat → Heap → Prop) : Prop where
  keep : Keeps s s₂
  fresh : s.heap.get? I = none
  alive : ∀ i h, Sd i h → (h.get? I).isSome = true
  walk : ∀ A' : Around, A'.handled = none → Walks prog w A' I fp [I] vs.length Pd Sd
  start : Sd 0 s₂.heap
  fp : ∀ b ∈ fp, b = I ∨ ((s.heap.get? b).isSome = true ∧ (O b → ∃ i, v = .trk i))
  item : ∀ i y, i < vs.length → Pd i y → ∃ u, vs[i]? = some u ∧ VR O ρ s.heap u y

theorem range_small {a b : Int} (ha : 0 ≤ a) (ha2 : a ≤ big) (hb : b ≤ big) (hb2 : -(big : Int) ≤ b) : Builtin.Range.small a b 1 = true := by
  rw [big_eq] at ha2 hb hb2
  unfold Builtin.Range.small Builtin.Range.rangeFitsLong
  have h1 : Builtin.Range.rangeSize a b 1 = if a < b then (b - a - 1) / 1 + 1 else 0 := by
    unfold Builtin.Range.rangeSize; simp only [show (1 : Int) > 0 from by decide, if_true]
  have h2 : 0 ≤ Builtin.Range.rangeSize a b 1 ∧ Builtin.Range.rangeSize a b 1 ≤ 1000000 := by rw [h1]; split <;> omega
  simp only [show (1 : Int) > 0 from by decide, if_true, Bool.and_eq_true, Bool.or_eq_true, decide_eq_true_eq]
  refine ⟨⟨⟨⟨⟨?_, ?_⟩, ?_, ?_⟩, by decide, by decide⟩, ?_, ?_⟩, .inr ⟨?_, ?_⟩⟩ <;> omega
theorem range_size {a b : Int} : Builtin.Range.rangeSize a b 1 = ((b - a).toNat : Nat) := by
  unfold Builtin.Range.rangeSize
  simp only [show (1 : Int) > 0 from by decide, if_true]
  split <;> omega

theorem iter_sound (R : Rep K mg mb env O ρ st s) {v : V} {vs : List V} {x : Value} {Q : Value → Shared → Prop} (hv : VR O ρ s.heap v x) (h : itemsOf st v = some vs)
    (hQ : ∀ I fp Pd Sd s₂, Src prog w O ρ v vs s s₂ I fp Pd Sd → Q (.ref I) s₂) : wpAny (model prog w) A (pyIter x) Q E s := by
  have lists : ∀ {a : Addr} {its : Array Value}, s.heap.PlainList a its → VRs O ρ s.heap vs its.toList → (O a → ∃ i, v = .trk i) → wpAny (model prog w) A (pyIter (.ref a)) Q E s := by
    intro a its hp hvs hO
    have hne : a ≠ s.heap.objs.size := by
      obtain ⟨n, ho⟩ := hp
      exact Nat.ne_of_lt (Heap.lt_size ho)
    refine wpAny_pyIter_list hp.isList (hQ _ [s.heap.objs.size, a] (fun i v => its[i]? = some v) (fun i h => h.IsListIter s.heap.objs.size a i ∧ h.IsList a its) _ ?_)
    have hlen := hvs.length
    simp only [Array.length_toList] at hlen
    refine ⟨keeps_push _ _, fresh_size _, ?_, fun A' hA => ?_, ?_, ?_, ?_⟩
    · rintro i h ⟨⟨o, ho, _⟩, _⟩; rw [ho]; rfl
    · rw [← hlen]; exact Walks.list hA _ a hne its
    · exact ⟨⟨_, Heap.get?_push_size _ rfl, rfl, rfl⟩, hp.isList.push _⟩
    · intro b hb
      simp only [List.mem_cons, List.not_mem_nil, or_false] at hb
      rcases hb with rfl | rfl
      · exact .inl rfl
      · obtain ⟨n, ho⟩ := hp
        exact .inr ⟨by rw [ho]; rfl, hO⟩
    · intro i y _ hy
      exact hvs.get' i y (by simpa using hy)
  cases v with
  | lst us =>
    cases h
    exact hv.lst_elim fun a its hO hp hvs => lists hp hvs fun h => absurd h hO
  | trk i => exact hv.trk_elim fun a h1 => (R.trk i a vs h1 h).elim fun its h2 => lists h2.1 h2.2 fun _ => ⟨i, rfl⟩
  | str xs =>
    cases h
    obtain ⟨t, rfl⟩ := hv.str'
    have str : ∀ (ty : String) (o : Obj), o.cls = .type ty → o.data = .fields #[.str ⟨xs.toArray⟩ t, .int 0 0] → o.isFreed = false → (∀ A' : Around, A'.handled = none → Walks prog w A' s.heap.objs.size [s.heap.objs.size] [s.heap.objs.size] xs.length (SignAt ⟨xs.toArray⟩) (fun i h => h.IsStrIter s.heap.objs.size ty ⟨xs.toArray⟩ t i)) →
        Q (.ref s.heap.objs.size) { s with heap := s.heap.push o } := by
      intro ty o ho1 ho2 hf hw
      refine hQ _ [s.heap.objs.size] (SignAt ⟨xs.toArray⟩) (fun i h => h.IsStrIter s.heap.objs.size ty ⟨xs.toArray⟩ t i) _ ⟨keeps_push _ _, fresh_size _, ?_, fun A' hA => ?_, ⟨o, Heap.get?_push_size _ hf, ho1, ho2⟩, ?_, ?_⟩
      · rintro i h ⟨o, ho, _⟩; rw [ho]; rfl
      · rw [List.length_map]; exact hw A' hA
      · intro b hb
        simp only [List.mem_cons, List.not_mem_nil, or_false] at hb
        exact .inl hb
      · rintro i y _ ⟨c, u, h1, rfl⟩
        refine ⟨.str [c], ?_, vr_str _ [c] _⟩
        rw [List.getElem?_map]
        have : xs[i]? = some c := by simpa using h1
        rw [this]; rfl
    have e : (⟨xs.toArray⟩ : Str).cps.size = xs.length := by simp
    cases ha : (⟨xs.toArray⟩ : Str).cps.all (· < 128)
    · exact wpAny_pyIter_wide ha (str "str_iterator" _ rfl rfl rfl fun A' hA => e ▸ Walks.strWide hA _ _ t)
    · exact wpAny_pyIter_ascii ha (str "str_ascii_iterator" _ rfl rfl rfl fun A' hA => e ▸ Walks.strAscii hA _ _ t)
  | rng a b =>
    refine iif h fun hr h => hv.rng_elim fun r t u w' hO hv => ?_
    cases h
    refine wpAny_pyIter_range hv (range_small hr.1 hr.2.1 hr.2.2.1 hr.2.2.2) (hQ _ [s.heap.objs.size] (fun i v => ∃ t, v = .int (a + i * 1) t) (fun i h => IsRangeIter h s.heap.objs.size (a + i * 1) (((b - a).toNat : Nat) - i) 1) _ ⟨keeps_push _ _, fresh_size _, ?_, fun A' hA => ?_, ?_, ?_, ?_⟩)
    · intro i h hd; rw [hd]; rfl
    · rw [List.length_map, List.length_range]; exact Walks.range hA _ a 1 _
    · show (s.heap.push _).get? _ = _
      rw [Heap.get?_push_size _ rfl, range_size]
      simp
    · intro b hb
      simp only [List.mem_cons, List.not_mem_nil, or_false] at hb
      exact .inl hb
    · rintro i y hi ⟨t, rfl⟩
      rw [List.length_map, List.length_range] at hi
      refine ⟨.int (a + (i : Int)), ?_, ?_⟩
      · rw [List.getElem?_map, List.getElem?_range hi]; rfl
      · rw [Int.mul_one]; exact vr_int _ _ _
  | _ => exact nosome h
end
end
section
open PySem PySem.Spec PySem.Calls PySem.W PyProof.Rows

abbrev Kd := List (Str × NameKind)
structure EnvOk (env : Env) (kd : Kd) : Prop where
  kind : env.scope.kind = .function
  names : env.scope.names = kd
  glob : env.globals = mainGlobals
  bi : env.builtins = builtinsNs
  cx : ∀ n : Str, (kd.lookup n = some .cell ∨ kd.lookup n = some .free) → ∃ c, env.cells.lookup n = some c

theorem closure_acc {env : Env} (f : Str × NameKind → List (Str × Addr) → Sem (ForInStep (List (Str × Addr))))
    (hf : ∀ name kind cs, f (name, kind) cs = if kind == .free then (do let c ← cellOf env name; pure (.yield ((name, c) :: cs))) else pure (.yield cs)) :
    ∀ (names : Kd) (acc : List (Str × Addr)), (∀ x ∈ names, x.2 = .free → ∃ c, env.cells.lookup x.1 = some c) → (∀ n c, acc.lookup n = some c → env.cells.lookup n = some c) →
      ∃ cl, (forIn names acc f : Sem (List (Str × Addr))) = pure cl ∧ (∀ n c, cl.lookup n = some c → env.cells.lookup n = some c) ∧ (∀ n, ((n, .free) ∈ names ∨ (acc.lookup n).isSome = true) → cl.lookup n = env.cells.lookup n)
  | [], acc, _, ha => ⟨acc, by rw [List.forIn_nil], ha, fun n hn => by
      rcases hn with hn | hn
      · cases hn
      · obtain ⟨c, hc⟩ := Option.isSome_iff_exists.mp hn
        rw [hc, ha n c hc]⟩
  | (n, k) :: r, acc, hfree, ha => by
    have hr : ∀ x ∈ r, x.2 = .free → ∃ c, env.cells.lookup x.1 = some c := fun x hx => hfree x (List.mem_cons_of_mem _ hx)
    rw [List.forIn_cons, hf]
    by_cases hk : k = .free
    · subst hk
      obtain ⟨c, hc⟩ := hfree (n, .free) List.mem_cons_self rfl
      have hc' : env.cells.lookup n = some c := hc
      have e1 : cellOf env n = pure c := by unfold cellOf; rw [hc']
      simp only [beq_self_eq_true, if_true, e1]
      obtain ⟨cl, h1, h2, h3⟩ := closure_acc f hf r ((n, c) :: acc) hr (fun m d hm => by
        rw [List.lookup_cons] at hm
        cases hb : m == n with
        | true => rw [hb] at hm; cases hm; rw [beq_iff_eq.mp hb]; exact hc'
        | false => rw [hb] at hm; exact ha m d hm)
      refine ⟨cl, h1, h2, fun m hm => ?_⟩
      by_cases hmn : m = n
      · subst hmn
        exact h3 m (.inr (by rw [List.lookup_cons]; simp))
      · refine h3 m ?_
        rcases hm with hm | hm
        · rcases List.mem_cons.mp hm with e | hm
          · exact absurd (Prod.mk.inj e).1 hmn
          · exact .inl hm
        · right
          rw [List.lookup_cons]
          have : (m == n) = false := by simpa using hmn
          rw [this]; exact hm
    · have hb : (k == NameKind.free) = false := by simpa using hk
      simp only [hb, Bool.false_eq_true, if_false]
      obtain ⟨cl, h1, h2, h3⟩ := closure_acc f hf r acc hr ha
      refine ⟨cl, h1, h2, fun m hm => h3 m ?_⟩
      rcases hm with hm | hm
      · rcases List.mem_cons.mp hm with e | hm
        · exact absurd (Prod.mk.inj e).2.symm hk
        · exact .inl hm
      · exact .inr hm

theorem closure_of {env : Env} (scope : Scope) (hfree : ∀ x ∈ scope.names, x.2 = .free → ∃ c, env.cells.lookup x.1 = some c) :
    ∃ cl, closureFor scope env = pure cl ∧ (∀ n c, cl.lookup n = some c → env.cells.lookup n = some c) ∧ (∀ n, (n, .free) ∈ scope.names → cl.lookup n = env.cells.lookup n) := by
  obtain ⟨cl, h1, h2, h3⟩ := closure_acc (env := env) (fun x r => match x with
    | (name, kind) => if kind == .free then (do let c ← cellOf env name; pure (.yield ((name, c) :: r))) else pure (.yield r)) (fun _ _ _ => rfl) scope.names [] hfree (fun n c h => by cases h)
  refine ⟨cl, ?_, h2, fun n hn => h3 n (.inl hn)⟩
  unfold closureFor
  have : (forIn scope.names [] (fun (x : Str × NameKind) (r : List (Str × Addr)) => (match x with
    | (name, kind) => if (kind == NameKind.free) = true then (do let c ← cellOf env name; pure (ForInStep.yield ((name, c) :: r))) else pure (ForInStep.yield r) : Sem (ForInStep (List (Str × Addr))))) : Sem (List (Str × Addr))) = pure cl := h1
  first
    | (rw [this]; rfl)
    | (show (forIn scope.names [] _ >>= _ : Sem _) = _
       rw [this]; rfl)

theorem cells_lookup : ∀ (names : Kd) (n : Nat) (acc : List (Str × Addr)) (x : Str), (∀ y ∈ names, y.2 = .cell → y.1 ≠ x) → (cellsFrom n names acc).lookup x = acc.lookup x
  | [], _, _, _, _ => rfl
  | (y, k) :: r, n, acc, x, h => by
    unfold cellsFrom
    have hr : ∀ z ∈ r, z.2 = .cell → z.1 ≠ x := fun z hz => h z (List.mem_cons_of_mem _ hz)
    split
    · rename_i hk
      rw [cells_lookup r _ _ x hr, List.lookup_cons]
      have : (x == y) = false := by
        have := h (y, k) List.mem_cons_self (by simpa using hk)
        simpa using fun e => this e.symm
      rw [this]
    · exact cells_lookup r n acc x hr

section
variable {prog : Program} {w : World} {A : Around} {E : Value → Shared → Prop} {s : Shared}

/-- a comprehension's own names -/
theorem newEnv_around {scope : Scope} {globals : Addr} {closure : List (Str × Addr)} {qual : Str} {outer : Env} {Q : Env → Shared → Prop}
    (hQ : ∀ h' cells, (∀ b o, s.heap.get? b = some o → h'.get? b = some o) → h'.Ns s.heap.objs.size (fun _ => none) →
      (∀ n, ((n, .cell) ∈ scope.names → ∃ c, cells.lookup n = some c ∧ h'.IsCell c none ∧ s.heap.get? c = none ∧ c ≠ s.heap.objs.size)) →
      (∀ n c, cells.lookup n = some c → (h'.IsCell c none ∧ s.heap.get? c = none ∧ c ≠ s.heap.objs.size) ∨ closure.lookup n = some c) →
      (∀ n, (n, .cell) ∉ scope.names → cells.lookup n = closure.lookup n) →
      Q { scope := scope, locals := s.heap.objs.size, globals := globals, cells := cells, qual := qual, func := none, code := outer.code, frame := outer.frame, builtins := outer.builtins } { s with heap := h' }) :
    wpAny (model prog w) A (newFunctionEnv scope globals closure [] qual none .none (some outer)) Q E s := by
  simp only [newFunctionEnv, Option.isSome_some, if_true]
  refine wpAny_bind (wpAny_alloc ?_)
  refine wpAny_bind (wpAny_layCells _ (fun name kind cells => by cases hkc : kind == NameKind.cell <;> simp) _ _ _ _ ?_)
  have hsz : (s.heap.push { cls := .type "dict", data := .dict #[] }).objs.size = s.heap.objs.size + 1 := Heap.size_push ..
  have keep : ∀ b o, s.heap.get? b = some o → (pushCells (s.heap.push { cls := .type "dict", data := .dict #[] }) scope.names).get? b = some o := fun b o e => pushCells_keeps _ _ b o (Heap.get?_push_of_some _ e)
  have fresh : ∀ c, s.heap.objs.size + 1 ≤ c → s.heap.get? c = none ∧ c ≠ s.heap.objs.size := fun c hc => by
    refine ⟨?_, by omega⟩
    cases e : s.heap.get? c with
    | none => rfl
    | some o => have := Heap.lt_size e; exact absurd this (by show ¬ c < s.heap.objs.size; omega)
  refine wpAny_bind ?_
  rw [List.forIn_nil]
  refine wpAny_pure (wpAny_pure ?_)
  dsimp only
  rw [hsz]
  -- what the new cells are
  have own : ∀ (names : Kd) (h : Heap) (acc : List (Str × Addr)), s.heap.objs.size + 1 ≤ h.objs.size →
      (∀ n c, acc.lookup n = some c → (h.IsCell c none ∧ s.heap.objs.size + 1 ≤ c) ∨ closure.lookup n = some c) →
      (∀ n, (n, .cell) ∈ names ∨ (∃ c, acc.lookup n = some c ∧ h.IsCell c none ∧ s.heap.objs.size + 1 ≤ c) → ∃ c, (cellsFrom h.objs.size names acc).lookup n = some c ∧ (pushCells h names).IsCell c none ∧ s.heap.objs.size + 1 ≤ c) ∧
      (∀ n c, (cellsFrom h.objs.size names acc).lookup n = some c → ((pushCells h names).IsCell c none ∧ s.heap.objs.size + 1 ≤ c) ∨ closure.lookup n = some c) := by
    intro names
    induction names with
    | nil =>
      intro h acc _ ha
      refine ⟨fun n hn => ?_, ha⟩
      rcases hn with hn | hn
      · cases hn
      · exact hn
    | cons y r ih =>
      obtain ⟨y, k⟩ := y
      intro h acc hl ha
      unfold cellsFrom pushCells
      split
      · have := ih (h.push { cls := .type "cell", data := .cell none }) ((y, h.objs.size) :: acc) (by rw [Heap.size_push]; omega) (fun n c hn => by
          rw [List.lookup_cons] at hn
          cases hb : n == y with
          | true => rw [hb] at hn; cases hn; exact .inl ⟨⟨_, Heap.get?_push_size _ rfl, rfl⟩, hl⟩
          | false =>
            rw [hb] at hn
            rcases ha n c hn with h1 | h1
            · exact .inl ⟨h1.1.keeps fun b o e => Heap.get?_push_of_some _ e, h1.2⟩
            · exact .inr h1)
        rw [Heap.size_push] at this
        refine ⟨fun n hn => this.1 n ?_, this.2⟩
        by_cases hny : n = y
        · right
          refine ⟨h.objs.size, by rw [List.lookup_cons]; simp [hny], ⟨_, Heap.get?_push_size _ rfl, rfl⟩, hl⟩
        · rcases hn with hn | ⟨c, h1, h2, h3⟩
          · rcases List.mem_cons.mp hn with e | hn
            · exact absurd (Prod.mk.inj e).1 hny
            · exact .inl hn
          · right
            refine ⟨c, ?_, h2.keeps fun b o e => Heap.get?_push_of_some _ e, h3⟩
            rw [List.lookup_cons]
            have : (n == y) = false := by simpa using hny
            rw [this]; exact h1
      · rename_i hk
        have := ih h acc hl ha
        refine ⟨fun n hn => this.1 n ?_, this.2⟩
        rcases hn with hn | hn
        · rcases List.mem_cons.mp hn with e | hn
          · have := (Prod.mk.inj e).2
            subst this
            simp at hk
          · exact .inl hn
        · exact .inr hn
  have key := own scope.names (s.heap.push { cls := .type "dict", data := .dict #[] }) closure (by rw [hsz]; exact Nat.le_refl _) (fun n c h => .inr h)
  rw [hsz] at key
  refine hQ _ _ keep ((Heap.Ns.new s.heap (.type "dict")).keeps (pushCells_keeps _ _)) (fun n hn => ?_) (fun n c hn => ?_) fun n hn => ?_
  · obtain ⟨c, h1, h2, h3⟩ := key.1 n (.inl hn)
    exact ⟨c, h1, h2, fresh c h3⟩
  · rcases key.2 n c hn with h1 | h1
    · exact .inl ⟨h1.1, fresh c h1.2⟩
    · exact .inr h1
  · exact cells_lookup _ _ _ _ fun y hy hk e => hn (by subst e; rw [← hk]; exact hy)
end
end
section
open PySem PySem.Spec PySem.Calls PySem.W PyProof.Rows

/-- the names of a comprehension's own block, seen from a block with the names kd -/
noncomputable def innerKd (kd : Kd) (names : Kd) : Kd := names.map fun (n, k) => if k == .free && kd.lookup n == some .cell then (n, .cell) else (n, k)

/-- a comprehension's block with one target -/
structure CompOk (kd : Kd) (scope : Scope) (xn : String) : Prop where
  kind : scope.kind = .function
  nd : (scope.names.map (·.1)).Nodup
  loc : ∀ y ∈ scope.names, y.2 = .local → y.1 = Str.ofString xn ∨ y.1 = Str.ofString ".0"
  cel : ∀ y ∈ scope.names, y.2 = .cell → y.1 = Str.ofString xn
  free : ∀ y ∈ scope.names, y.2 = .free → y.1 ≠ Str.ofString xn ∧ (kd.lookup y.1 = some .cell ∨ kd.lookup y.1 = some .free)
  x : scope.names.lookup (Str.ofString xn) = some .local ∨ scope.names.lookup (Str.ofString xn) = some .cell
  xne : xn ≠ ".0"

theorem ofString_inj {a b : String} (h : Str.ofString a = Str.ofString b) : a = b := by
  rw [Str.ofString_eq_toList, Str.ofString_eq_toList] at h
  have h1 := congrArg Str.cps h
  have h2 : a.toList.map Char.toNat = b.toList.map Char.toNat := by simpa using h1
  have h3 : a.toList = b.toList := List.map_inj_right (fun x y e => Char.toNat_inj.mp e) |>.mp h2
  exact String.toList_inj.mp h3

theorem lookup_mem {α : Type} {l : List (Str × α)} {n : Str} {c : α} (h : l.lookup n = some c) : (n, c) ∈ l := mem_of_lookup h
theorem lookup_of_nodup {α : Type} : ∀ {l : List (Str × α)} {n : Str} {c : α}, (l.map (·.1)).Nodup → (n, c) ∈ l → l.lookup n = some c
  | (m, d) :: r, n, c, hn, hm => by
    rw [List.map_cons, List.nodup_cons] at hn
    rw [List.lookup_cons]
    rcases List.mem_cons.mp hm with e | hm'
    · cases e; simp
    · have : (n == m) = false := by
        have : n ≠ m := fun e => hn.1 (e ▸ List.mem_map.mpr ⟨(n, c), hm', rfl⟩)
        simpa using this
      rw [this]; exact lookup_of_nodup hn.2 hm'

theorem inner_mem {kd names : Kd} {n : Str} {k : NameKind} (h : (innerKd kd names).lookup n = some k) :
    ((n, k) ∈ names ∧ (k = .free → kd.lookup n ≠ some .cell)) ∨ (k = .cell ∧ (n, .free) ∈ names) := by
  have hm := lookup_mem h
  unfold innerKd at hm
  obtain ⟨⟨m, j⟩, hy, e⟩ := List.mem_map.mp hm
  dsimp only at e
  split at e
  · rename_i hc
    simp only [Bool.and_eq_true, beq_iff_eq] at hc
    cases e
    exact .inr ⟨rfl, by rw [← hc.1]; exact hy⟩
  · rename_i hc
    cases e
    refine .inl ⟨hy, fun hk hc' => hc ?_⟩
    subst hk
    simp [hc']
theorem inner_lookup {kd names : Kd} (hnd : (names.map (·.1)).Nodup) {n : Str} {k : NameKind} (h : (n, k) ∈ names) :
    (innerKd kd names).lookup n = some (if k = .free ∧ kd.lookup n = some .cell then .cell else k) := by
  refine lookup_of_nodup ?_ ?_
  · have : (innerKd kd names).map (·.1) = names.map (·.1) := by
      unfold innerKd
      rw [List.map_map]
      refine List.map_congr_left fun x _ => ?_
      dsimp only [Function.comp]
      split <;> rfl
    rw [this]; exact hnd
  · unfold innerKd
    refine List.mem_map.mpr ⟨(n, k), h, ?_⟩
    dsimp only
    by_cases hk : k = .free
    · subst hk
      by_cases hc : kd.lookup n = some .cell
      · simp [hc]
      · simp [hc]
    · have : (k == NameKind.free) = false := by simpa using hk
      simp [this, hk]

theorem compGo_take {f : V → Option (Option V)} : ∀ {vs ys : List V}, compGo f vs = some ys → ∀ i, ∃ zs, compGo f (vs.take i) = some zs
  | [], _, _, _ => ⟨[], by rw [List.take_nil]; rfl⟩
  | _ :: _, _, _, 0 => ⟨[], rfl⟩
  | v :: vs, _, h, i + 1 => bnd2 h fun r ys e1 e2 _ => (compGo_take e2 i).elim fun zs hz => ⟨r.toList ++ zs, by rw [List.take_succ_cons, compGo, e1, hz]; rfl⟩
theorem compGo_snoc {f : V → Option (Option V)} {u : V} {r : Option V} (e : f u = some r) : ∀ {vs zs : List V}, compGo f vs = some zs → compGo f (vs ++ [u]) = some (zs ++ r.toList)
  | [], _, h => by cases h; rw [List.nil_append, compGo, e]; exact congrArg some (List.append_nil _)
  | v :: vs, _, h => bnd2 h fun q ys e1 e2 h => by cases h; rw [List.cons_append, compGo, e1, compGo_snoc e e2, List.append_assoc]; rfl
theorem compGo_at {f : V → Option (Option V)} : ∀ {vs ys : List V}, compGo f vs = some ys → ∀ u ∈ vs, ∃ r, f u = some r
  | _ :: _, _, h, u, hu => bnd2 h fun r ys e1 e2 _ => (List.mem_cons.mp hu).elim (fun e => ⟨r, e ▸ e1⟩) (compGo_at e2 u)
theorem opt_len {r : Option V} : r.toList.length ≤ 1 := by cases r <;> first | exact Nat.le_refl _ | exact Nat.zero_le _
theorem compGo_len {f : V → Option (Option V)} : ∀ {vs ys : List V}, compGo f vs = some ys → ys.length ≤ vs.length
  | [], _, h => by cases h; exact Nat.le_refl _
  | v :: vs, _, h => bnd2 h fun r ys e1 e2 h => by
    cases h
    rw [List.length_append, List.length_cons, Nat.add_comm]
    exact Nat.add_le_add (compGo_len e2) opt_len

section
variable {prog : Program} {w : World} {A : Around} {E : Value → Shared → Prop} {s : Shared}
variable {K : Frag} {mg mb : Str → Option Value} {env : Env} {O : Ads} {ρ : List Addr} {st : St} {kd : Kd}

@[elab_as_elim]
theorem keeps_elim {s s' : Shared} {P : Shared → Prop} (k : Keeps s s') (h : ∀ h' t, (∀ b o, s.heap.get? b = some o → h'.get? b = some o) → P { s with heap := h', toks := t }) : P s' := by
  obtain ⟨h', t, rfl, hk⟩ := k
  exact h h' t hk
theorem not_none {h : Heap} {a : Addr} {o : Obj} {P : Prop} (e : h.get? a = none) (e' : h.get? a = some o) : P := by rw [e] at e'; cases e'
theorem get_none {h h' : Heap} {a : Addr} (hk : ∀ b o, h.get? b = some o → h'.get? b = some o) (e : h'.get? a = none) : h.get? a = none :=
  Option.eq_none_iff_forall_ne_some.mpr fun _ e' => not_none e (hk _ _ e')
theorem push_none {h : Heap} {o : Obj} {c : Addr} (hf : o.isFreed = false) (e : (h.push o).get? c = none) : h.get? c = none ∧ c ≠ h.objs.size :=
  ⟨get_none (fun _ _ e => Heap.get?_push_of_some _ e) e, fun h' => not_none (h' ▸ e) (Heap.get?_push_size _ hf)⟩

/-- the block of a comprehension that stands in env -/
noncomputable def compEnv (scope : Scope) (env : Env) (C : Addr) (cells : List (Str × Addr)) : Env :=
  { scope := relabel scope env, locals := C, globals := env.globals, cells := cells, qual := env.qual, func := none, code := env.code, frame := env.frame, builtins := env.builtins }
/-- what a comprehension owns -/
noncomputable def compAds (O : Ads) (C D I : Addr) (cells : List (Str × Addr)) : Ads := fun a => O a ∨ a = C ∨ a = D ∨ a = I ∨ ∃ n, cells.lookup n = some a

structure CW (s : Shared) (env : Env) (O : Ads) (kd : Kd) (scope : Scope) (xn : String) (cells : List (Str × Addr)) (I D C : Addr) : Prop where
  EO : EnvOk env kd
  CO : CompOk kd scope xn
  nI : s.heap.get? I = none
  nD : s.heap.get? D = none
  nC : s.heap.get? C = none
  DC : D ≠ C
  ID : I ≠ D
  IC : I ≠ C
  cx : ∀ n, (n, .cell) ∈ scope.names → ∃ c, cells.lookup n = some c
  cn : ∀ n c, cells.lookup n = some c → ((Str.ofString xn, .cell) ∈ scope.names ∧ n = Str.ofString xn ∧ s.heap.get? c = none) ∨ O c
  cc : ∀ c, (Str.ofString xn, .cell) ∈ scope.names → cells.lookup (Str.ofString xn) = some c → s.heap.get? c = none ∧ c ≠ C ∧ c ≠ D ∧ c ≠ I
  cf : ∀ n, (n, .free) ∈ scope.names → cells.lookup n = env.cells.lookup n

section
variable {scope : Scope} {xn : String} {cells : List (Str × Addr)} {I D C : Addr}

theorem CW.old (W : CW s env O kd scope xn cells I D C) (a : Addr) (ha : (s.heap.get? a).isSome = true) (hO : ¬ O a) : ¬ compAds O C D I cells a := by
  have no : s.heap.get? a ≠ none := fun e => by rw [e] at ha; cases ha
  rintro (h | h | h | h | ⟨n, h⟩)
  · exact hO h
  · exact no (h ▸ W.nC)
  · exact no (h ▸ W.nD)
  · exact no (h ▸ W.nI)
  · exact (W.cn n a h).elim (fun h => no h.2.2) hO

theorem CW.names (W : CW s env O kd scope xn cells I D C) : (compEnv scope env C cells).scope.names = innerKd kd scope.names :=
  List.map_congr_left fun y _ => by
    obtain ⟨n, k⟩ := y
    dsimp only
    rw [W.EO.kind]
    unfold Env.kindOf
    rw [W.EO.names]
    simp

theorem CW.kindOf (W : CW s env O kd scope xn cells I D C) {n : Str} {k : NameKind} (h : (n, k) ∈ scope.names) (hk : k ≠ .free) : (compEnv scope env C cells).kindOf n = some k := by
  unfold Env.kindOf
  rw [W.names, inner_lookup W.CO.nd h]
  exact congrArg some (if_neg fun h => hk h.1)

theorem inner_own {kd names : Kd} {n : Str} (hn : (innerKd kd names).lookup n = some .cell ∨ (innerKd kd names).lookup n = some .free) : (n, .cell) ∈ names ∨ (n, .free) ∈ names :=
  hn.elim (fun h => (inner_mem h).elim (fun h => .inl h.1) fun h => .inr h.2) fun h => (inner_mem h).elim (fun h => .inr h.1) fun h => nomatch h.1

theorem CW.envOk (W : CW s env O kd scope xn cells I D C) : EnvOk (compEnv scope env C cells) (innerKd kd scope.names) :=
  ⟨W.CO.kind, W.names, W.EO.glob, W.EO.bi, fun n hn => (inner_own hn).elim (fun h => W.cx n h) fun h => (W.EO.cx n (W.CO.free _ h rfl).2).elim fun c h1 => ⟨c, (W.cf n h).trans h1⟩⟩

theorem get_first {st : St} {x : String} {u vz : V} {tr : List (List V)} (h : St.get { locs := (x, u) :: st.locs, tr := tr } x = some vz) : u = vz :=
  Option.some.inj ((if_pos rfl).symm.trans h)
theorem get_other {st : St} {x z : String} {u vz : V} {tr : List (List V)} (hne : x ≠ z) (h : St.get { locs := (x, u) :: st.locs, tr := tr } z = some vz) : st.get z = some vz :=
  (if_neg hne).symm.trans h

theorem CW.rep (W : CW s env O kd scope xn cells I D C) (R : Rep K mg mb env O ρ st s) {u : V} {y : Value} (hyr : VR O ρ s.heap u y) {h' : Heap} {tk : Nat}
    (up : ∀ b o, s.heap.get? b = some o → h'.get? b = some o) (ns : ∃ m, h'.Ns C m ∧ ((Str.ofString xn, .local) ∈ scope.names → m (Str.ofString xn) = some y))
    (cel : ∀ c, (Str.ofString xn, .cell) ∈ scope.names → cells.lookup (Str.ofString xn) = some c → h'.IsCell c (some y)) (aD : Alloc h' D) (aI : Alloc h' I) :
    Rep K mg mb (compEnv scope env C cells) (compAds O C D I cells) ρ { locs := (xn, u) :: st.locs, tr := st.tr } { s with heap := h', toks := tk } := by
  have R' := R.keeps (s' := { s with heap := h', toks := tk }) ⟨h', tk, rfl, up⟩
  have mv : ∀ {v x}, VR O ρ s.heap v x → VR (compAds O C D I cells) ρ h' v x := fun {v x} => VR.mono W.old (fun b o _ e => up b o e) (fun _ _ e => e) v x
  refine ⟨R'.gr, ?_, .inr (.inl rfl), fun a ha => .inl (R.ownρ a ha), fun n c h => .inr (.inr (.inr (.inr ⟨n, h⟩))), ?_, ?_, R.len, ?_⟩
  · rintro a (h | h | h | h | ⟨n, h⟩)
    · exact R'.al a h
    · obtain ⟨m2, ⟨o, _, _, ho, _⟩, _⟩ := ns
      exact h ▸ Option.isSome_iff_exists.mpr ⟨o, ho⟩
    · exact h ▸ aD
    · exact h ▸ aI
    · rcases W.cn n a h with ⟨h2, h3, _⟩ | h2
      · obtain ⟨o, ho, _⟩ := cel a h2 (h3 ▸ h)
        exact Option.isSome_iff_exists.mpr ⟨o, ho⟩
      · exact R'.al a h2
  · obtain ⟨m2, hn2, hm2⟩ := ns
    refine ⟨m2, hn2, fun z vz hz hk hgz => ?_⟩
    rcases inner_mem ((congrArg (·.lookup (Str.ofString z)) W.names).symm.trans hk) with ⟨h3, _⟩ | ⟨h3, _⟩
    · cases ofString_inj ((W.CO.loc _ h3 rfl).resolve_right fun h4 => hz (ofString_inj h4))
      cases get_first hgz
      exact ⟨y, hm2 h3, mv hyr⟩
    · cases h3
  · intro z hz
    have hz2 : (innerKd kd scope.names).lookup (Str.ofString z) = some .cell ∨ (innerKd kd scope.names).lookup (Str.ofString z) = some .free := W.names ▸ hz
    rcases inner_own hz2 with h | h
    · cases ofString_inj (W.CO.cel _ h rfl)
      obtain ⟨c, h1⟩ := W.cx _ h
      exact ⟨c, some y, h1, cel c h h1, fun vz hgz => ⟨y, rfl, get_first hgz ▸ mv hyr⟩⟩
    · obtain ⟨hne, hkd⟩ := W.CO.free _ h rfl
      obtain ⟨c, v₀, h1, h2, h3⟩ := R.cl z (by
        unfold Env.kindOf
        rw [W.EO.names]; exact hkd)
      refine ⟨c, v₀, (W.cf _ h).trans h1, h2.keeps up, fun vz hgz => ?_⟩
      obtain ⟨val, h4, h5⟩ := h3 vz (get_other (fun e => hne (by rw [e])) hgz)
      exact ⟨val, h4, mv h5⟩
  · intro j a ws h1 h2
    obtain ⟨its', h3, h4⟩ := R.trk j a ws h1 h2
    exact ⟨its', h3.at fun o e => up a o e, VRs.mono W.old (fun b o _ e => up b o e) (fun _ _ e => e) _ _ h4⟩

/-- before turn i -/
structure CI (s : Shared) (O : Ads) (ρ : List Addr) (f : V → Option (Option V)) (vs : List V) (Sd : Nat → Heap → Prop) (scope : Scope) (xn : String) (cells : List (Str × Addr)) (I D C : Addr) (i : Nat) (zs : List V) (its : Array Value) (H : Heap) : Prop where
  le : i ≤ vs.length
  go : compGo f (vs.take i) = some zs
  up : ∀ b o, s.heap.get? b = some o → H.get? b = some o
  sd : Sd i H
  pl : H.PlainList D its
  vr : VRs (compAds O C D I cells) ρ H zs its.toList
  ns : ∃ m, H.Ns C m
  cl : ∀ c, (Str.ofString xn, .cell) ∈ scope.names → cells.lookup (Str.ofString xn) = some c → ∃ v₀, H.IsCell c v₀
noncomputable def CInv (s : Shared) (O : Ads) (ρ : List Addr) (f : V → Option (Option V)) (vs : List V) (Sd : Nat → Heap → Prop) (scope : Scope) (xn : String) (cells : List (Str × Addr)) (I D C : Addr) (k : Nat) (s' : Shared) : Prop :=
  ∃ H tk its i zs, s' = { s with heap := H, toks := tk } ∧ k = vs.length + 1 - i ∧ CI s O ρ f vs Sd scope xn cells I D C i zs its H

variable {elt : Expr} {ifs : List Expr} {v : V} {vs : List V} {f : V → Option (Option V)} {s₂ : Shared} {fp : List Addr} {Pd : Nat → Value → Prop} {Sd : Nat → Heap → Prop}

theorem comp_turn (hA : A.handled = none) (S : Src prog w O ρ v vs s s₂ I fp Pd Sd) (W : CW s env O kd scope xn cells I D C) (R : Rep K mg mb env O ρ st s) (hlen : vs.length ≤ big)
    {i : Nat} {zs : List V} {its : Array Value} {H h₁ h' : Heap} {tk : Nat} {u : V} {y : Value} {r : Option V} (J : CI s O ρ f vs Sd scope xn cells I D C i zs its H) (hlt : i < vs.length) (hu : vs[i]? = some u) (hyr : VR O ρ s.heap u y) (hf : f u = some r)
    (hk₁ : ∀ b o, b ≠ I → H.get? b = some o → h₁.get? b = some o) (hSd₁ : Sd (i + 1) h₁)
    (hk : ∀ b o, b ≠ C → (∀ c, (Str.ofString xn, .cell) ∈ scope.names → cells.lookup (Str.ofString xn) = some c → b ≠ c) → h₁.get? b = some o → h'.get? b = some o)
    (hns : ∃ m, h'.Ns C m ∧ ((Str.ofString xn, .local) ∈ scope.names → m (Str.ofString xn) = some y)) (hcell : ∀ c, (Str.ofString xn, .cell) ∈ scope.names → cells.lookup (Str.ofString xn) = some c → h'.IsCell c (some y))
    (htest : ∀ s', Rep K mg mb (compEnv scope env C cells) (compAds O C D I cells) ρ { locs := (xn, u) :: st.locs, tr := st.tr } s' → ∀ (Q : Bool → Shared → Prop) E,
      (∀ s'', Keeps s' s'' → Q r.isSome s'') → wpAny (model prog w) A (forIn ifs true fun c r => if r = true then do let ok ← isTrue c (compEnv scope env C cells) (eval c (compEnv scope env C cells)); pure (ForInStep.yield ok) else pure (ForInStep.yield r)) Q E s')
    (helt : ∀ q, r = some q → ∀ s', Rep K mg mb (compEnv scope env C cells) (compAds O C D I cells) ρ { locs := (xn, u) :: st.locs, tr := st.tr } s' → ∀ (Q : Value → Shared → Prop) E,
      Out (compAds O C D I cells) ρ s' q Q → wpAny (model prog w) A (eval elt (compEnv scope env C cells)) Q E s')
    {N : Shared → Prop} (hN : ∀ H tk its zs, CI s O ρ f vs Sd scope xn cells I D C (i + 1) zs its H → N { s with heap := H, toks := tk }) :
    wpAny (model prog w) A (forIn ifs true fun c r => if r = true then do let ok ← isTrue c (compEnv scope env C cells) (eval c (compEnv scope env C cells)); pure (ForInStep.yield ok) else pure (ForInStep.yield r)) (fun ok s₃ =>
              if ok = true then wpAny (model prog w) A (eval elt (compEnv scope env C cells)) (fun x s₄ =>
                wpAny (model prog w) A (call (.builtin "list.append") [.ref D, x]) (fun _ s₅ => N s₅) E s₄) E s₃ else N s₃) E { s with heap := h', toks := tk } := by
  have upS : ∀ b o, s.heap.get? b = some o → h'.get? b = some o := fun b o e => hk b o (fun h => not_none W.nC (h ▸ e)) (fun c hn hc h => not_none (W.cc c hn hc).1 (h ▸ e)) (hk₁ b o (fun h => not_none W.nI (h ▸ e)) (J.up b o e))
  have hD2 : h'.PlainList D its := J.pl.at fun o e => hk D o W.DC (fun c hn hc h => (W.cc c hn hc).2.2.1 h.symm) (hk₁ D o W.ID.symm e)
  have hz2 : VRs (compAds O C D I cells) ρ h' zs its.toList := VRs.mono (fun _ _ h => h) (fun b o hb e => hk b o (fun h => hb (.inr (.inl h))) (fun c _ hc h => hb (.inr (.inr (.inr (.inr ⟨_, h ▸ hc⟩))))) (hk₁ b o (fun h => hb (.inr (.inr (.inr (.inl h))))) e)) (fun _ _ e => e) _ _ J.vr
  have hS2 : Sd (i + 1) h' := (S.walk A hA).frame _ _ _ hSd₁ fun b hb o e => (S.fp b hb).elim (fun hI => hI ▸ hk I o W.IC (fun c hn hc h => (W.cc c hn hc).2.2.2 h.symm) (hI ▸ e)) fun hb => (Option.isSome_iff_exists.mp hb.1).elim fun o' e' =>
    hk b o (fun h => not_none W.nC (h ▸ e')) (fun c hn hc h => not_none (W.cc c hn hc).1 (h ▸ e')) e
  have RI := W.rep (tk := tk) R hyr upS hns hcell (hD2.elim fun n ho => Option.isSome_iff_exists.mpr ⟨_, ho⟩) (S.alive _ _ hS2)
  have hzs : compGo f (vs.take (i + 1)) = some (zs ++ r.toList) := by
    rw [List.take_add_one, hu]
    exact compGo_snoc hf J.go
  have step : ∀ h₃, (∀ b o, b ≠ D → h'.get? b = some o → h₃.get? b = some o) → ∀ zs' its', compGo f (vs.take (i + 1)) = some zs' → h₃.PlainList D its' → VRs (compAds O C D I cells) ρ h₃ zs' its'.toList → CI s O ρ f vs Sd scope xn cells I D C (i + 1) zs' its' h₃ := fun h₃ up zs' its' hz hp hv =>
    ⟨hlt, hz, fun b o e => up b o (fun h => not_none W.nD (h ▸ e)) (upS b o e), (S.walk A hA).frame _ _ _ hS2 fun b hb o e => up b o (fun h => (S.fp b hb).elim (fun h1 => W.ID (h1 ▸ h)) fun h1 => (Option.isSome_iff_exists.mp h1.1).elim fun _ e' => not_none W.nD (h ▸ e')) e, hp, hv,
      hns.elim fun m hn => ⟨m, hn.1.at' fun o e => up C o W.DC.symm e⟩, fun c hn hc => (hcell c hn hc).elim fun o ho => ⟨_, o, up c o (W.cc c hn hc).2.2.1 ho.1, ho.2⟩⟩
  refine htest _ RI _ _ fun s₃ k₃ => keeps_elim k₃ fun h₃ t₃ hk₃ => ?_
  cases r with
  | none => exact (if_neg Bool.false_ne_true).mpr (hN _ _ _ _ (step h₃ (fun b o _ e => hk₃ b o e) zs its (List.append_nil zs ▸ hzs) (hD2.at fun o e => hk₃ _ _ e) (VRs.mono (fun _ _ h => h) (fun b o _ e => hk₃ b o e) (fun _ _ e => e) _ _ hz2)))
  | some q =>
    refine helt q rfl _ (RI.keeps ⟨h₃, t₃, rfl, hk₃⟩) _ _ fun s₄ val k₄ => keeps_elim k₄ fun h₄ t₄ hk₄ hval => ?_
    have hl : its.size ≤ big := by
      have h1 := J.vr.length
      have h2 := compGo_len J.go
      rw [Array.length_toList] at h1
      exact h1 ▸ Nat.le_trans h2 (Nat.le_trans (List.length_take_le' ..) hlen)
    refine wpAny_list_append_plain (hsz := by rw [sizeLine_eq]; rw [big_eq] at hl; omega) (hD2.at fun o e => hk₄ _ _ (hk₃ _ _ e)) fun h₅ hl₅ hs₅ => ?_
    have up5 : ∀ b o, b ≠ D → h'.get? b = some o → h₅.get? b = some o := fun b o hb e => hs₅.extBut b o hb (hk₄ _ _ (hk₃ _ _ e))
    refine hN _ _ _ _ (step h₅ up5 _ _ hzs hl₅ ?_)
    rw [Array.toList_push]
    exact VRs.append (VRs.mono (fun _ _ h => h) (fun b o hb e => up5 b o (fun h => hb (.inr (.inr (.inl h)))) e) (fun _ _ e => e) _ _ hz2)
      (VRs.single (VR.mono (fun _ _ h => h) (fun b o hb e => hs₅.extBut b o (fun h => hb (.inr (.inr (.inl h)))) e) (fun _ _ e => e) _ _ hval))
end

theorem comp_core {elt iter : Expr} {xn : String} {px pos : Pos} {ifs : List Expr} {scope : Scope} {cl : List (Str × Addr)} {x : Value} {v : V} {vs ys : List V} {f : V → Option (Option V)}
    {RR : Value → Addr → Result → Shared → Prop}
    (hA : A.handled = none) (EO : EnvOk env kd) (R : Rep K mg mb env O ρ st s) (CO : CompOk kd scope xn)
    (hcl1 : ∀ n c, cl.lookup n = some c → env.cells.lookup n = some c) (hcl2 : ∀ n, (n, .free) ∈ scope.names → cl.lookup n = env.cells.lookup n)
    (hv : VR O ρ s.heap v x) (hi : itemsOf st v = some vs) (hlen : vs.length ≤ big) (hg : compGo f vs = some ys)
    (htest : ∀ u b, u ∈ vs → f u = some b → ∀ env' O' s', EnvOk env' (innerKd kd scope.names) → Rep K mg mb env' O' ρ { locs := (xn, u) :: st.locs, tr := st.tr } s' → ∀ (Q : Bool → Shared → Prop) E,
      (∀ s'', Keeps s' s'' → Q b.isSome s'') → wpAny (model prog w) A (forIn ifs true fun c r => if r = true then do let ok ← isTrue c env' (eval c env'); pure (ForInStep.yield ok) else pure (ForInStep.yield r)) Q E s')
    (helt : ∀ u y, u ∈ vs → f u = some (some y) → ∀ env' O' s', EnvOk env' (innerKd kd scope.names) → Rep K mg mb env' O' ρ { locs := (xn, u) :: st.locs, tr := st.tr } s' → ∀ (Q : Value → Shared → Prop) E,
      Out O' ρ s' y Q → wpAny (model prog w) A (eval elt env') Q E s')
    (hRR : ∀ D C s' m' its, s.heap.get? D = none → s.heap.get? C = none → D ≠ C → Keeps s s' → s'.heap.Ns C m' → s'.heap.PlainList D its → VRs (fun a => O a ∨ a = C) ρ s'.heap ys its.toList → RR (.ref D) C (.ok .next) s') :
    wpAny (model prog w) A (pyIter x) (fun it s₂ => wpAny (model prog w) A (newList []) (fun acc s₃ => wpAny (model prog w) A (newFunctionEnv scope env.globals cl [] env.qual none .none (some env)) (fun cenv s₄ =>
      codeAny (model prog w) A (.compStart (.ListComp elt [⟨.Name (Str.ofString xn) px, iter, ifs, 0⟩] scope pos) 0 it acc { cenv with scope := relabel scope env }) (RR acc cenv.locals) s₄) E s₃) E s₂) E s := by
  refine iter_sound R hv hi fun I fp Pd Sd s₂ S => ?_
  revert S
  refine fun S => keeps_elim (P := fun s₂ => Src prog w O ρ v vs s s₂ I fp Pd Sd → wpAny (model prog w) A (newList []) _ E s₂) S.keep (fun h₂ t₂ hk₂ S => ?_) S
  refine wpAny_newObj_type (newEnv_around fun h₄ cells hk₄ hns₄ hc1 hc2 hc3 => ?_)
  show codeAny (model prog w) A (.compStart _ 0 (.ref I) (.ref h₂.objs.size) (compEnv scope env (Heap.push h₂ _).objs.size cells)) (RR (.ref h₂.objs.size) (Heap.push h₂ _).objs.size) { s with heap := h₄, toks := _ }
  have up4 : ∀ b o, h₂.get? b = some o → h₄.get? b = some o := fun b o e => hk₄ _ _ (Heap.get?_push_of_some _ e)
  have hI2 : (h₂.get? I).isSome = true := S.alive 0 _ S.start
  have hDn : h₂.get? h₂.objs.size = none := fresh_size _
  have hCn := push_none (h := h₂) (o := { cls := .type "list", dict := none, data := .seq ([] : List Value).toArray }) rfl (fresh_size _)
  have hal : ∀ {a}, h₂.get? a = none → I ≠ a := fun e h => by rw [h, e] at hI2; cases hI2
  have hc4 : ∀ n c, (n, .cell) ∈ scope.names → cells.lookup n = some c → s.heap.get? c = none ∧ c ≠ (Heap.push h₂ _).objs.size ∧ c ≠ h₂.objs.size ∧ c ≠ I := fun n c hn h => by
    obtain ⟨c', h1, _, h3, h4⟩ := hc1 _ hn
    cases h1.symm.trans h
    have h5 := push_none (o := { cls := .type "list", dict := none, data := .seq ([] : List Value).toArray }) rfl h3
    exact ⟨get_none hk₂ h5.1, h4, h5.2, fun e => hal h5.1 e.symm⟩
  have W : CW s env O kd scope xn cells I h₂.objs.size (Heap.push h₂ _).objs.size := {
    EO := EO, CO := CO, nI := S.fresh, nD := get_none hk₂ hDn, nC := get_none hk₂ hCn.1, DC := hCn.2.symm, ID := hal hDn, IC := hal hCn.1
    cx := fun n hn => (hc1 n hn).elim fun c h => ⟨c, h.1⟩
    cn := fun n c h => by
      by_cases hn : (n, .cell) ∈ scope.names
      · have hx : n = Str.ofString xn := CO.cel _ hn rfl
        exact .inl ⟨hx ▸ hn, hx, (hc4 n c hn h).1⟩
      · exact .inr (R.ownc n c (hcl1 n c ((hc3 n hn).symm.trans h)))
    cc := fun c hn h => hc4 _ c hn h
    cf := fun n h => (hc3 n fun h' => (CO.free _ h rfl).1 (CO.cel (n, .cell) h' rfl)).trans (hcl2 n h) }
  have hD4 : h₄.PlainList h₂.objs.size #[] := ⟨_, hk₄ _ _ (Heap.get?_push_size _ rfl)⟩
  have J0 : CI s O ρ f vs Sd scope xn cells I h₂.objs.size (Heap.push h₂ _).objs.size 0 [] #[] h₄ :=
    ⟨Nat.zero_le _, rfl, fun b o e => up4 _ _ (hk₂ _ _ e), (S.walk A hA).frame _ _ _ S.start fun b _ o e => up4 b o e, hD4, vrs_nil, ⟨_, hns₄⟩, fun c hn h => (hc1 _ hn).elim fun c' h1 => ⟨_, (Option.some.inj (h1.1.symm.trans h)) ▸ h1.2.1⟩⟩
  clear hD4 hc4 hal hCn hDn hI2 up4 hc1 hc2 hc3 hk₄ hns₄
  revert W J0
  generalize h₂.objs.size = D
  generalize (Heap.push h₂ _).objs.size = C
  intro W J0
  have loop : ∀ (tk : Nat), codeAny (model prog w) A (.compLoop (.ListComp elt [⟨.Name (Str.ofString xn) px, iter, ifs, 0⟩] scope pos) 0 (.ref I) (.ref D) (compEnv scope env C cells)) (RR (.ref D) C) { s with heap := h₄, toks := tk } := by
    intro tk
    refine codeAny_compLoop_tests (CInv s O ρ f vs Sd scope xn cells I D C) ?_ (vs.length + 1) ⟨h₄, tk, #[], 0, [], rfl, rfl, J0⟩
    rintro k s' ⟨H, tk, its, i, zs, rfl, rfl, J⟩
    have hN : ∀ (hlt : i < vs.length) H tk its zs, CI s O ρ f vs Sd scope xn cells I D C (i + 1) zs its H → ∃ m, m < vs.length + 1 - i ∧ CInv s O ρ f vs Sd scope xn cells I D C m { s with heap := H, toks := tk } := fun hlt H tk its zs J =>
      ⟨vs.length + 1 - (i + 1), by omega, H, tk, its, i + 1, zs, rfl, rfl, J⟩
    rcases Nat.lt_or_eq_of_le J.le with hlt | hin
    · refine (S.walk A hA).item i _ _ _ hlt J.sd fun y h₁ tk₁ hPy hSd₁ hk₁ => ?_
      have hk₁ : ∀ b o, b ≠ I → H.get? b = some o → h₁.get? b = some o := fun b o hb e => hk₁ b o (fun h => hb (List.mem_singleton.mp h)) e
      obtain ⟨u, hu, hyr⟩ := S.item i y hlt hPy
      have humem : u ∈ vs := List.mem_of_getElem? hu
      obtain ⟨r, hfr⟩ := compGo_at hg u humem
      have cont := fun h' tk => comp_turn (elt := elt) (ifs := ifs) (E := notedBy (model prog w) A (compEnv scope env C cells) fun e s' => RR (.ref D) C (.error e) s') (h' := h') (tk := tk) hA S W R hlen J hlt hu hyr hfr hk₁ hSd₁
      refine wpAny_assign_Name ?_
      rcases W.CO.x.imp lookup_mem lookup_mem with hxl | hxc
      · have hnc : (Str.ofString xn, .cell) ∉ scope.names := fun h => nomatch (lookup_of_nodup CO.nd hxl).symm.trans (lookup_of_nodup CO.nd h)
        refine J.ns.elim fun m hm => wpAny_storeName_local (m := m) (W.kindOf hxl NameKind.noConfusion) (hm.at' fun o e => hk₁ C o W.IC.symm e) (fun h' hn hs => ?_) (by rw [W.envOk.kind]; rfl)
        exact cont h' _ (fun b o hb _ e => hs.extBut b o hb e) ⟨_, hn, fun _ => if_pos rfl⟩ (fun c hn _ => absurd hn hnc)
          (fun s' R' Q E h => htest u r humem hfr _ _ s' W.envOk R' Q E h) (fun q hq s' R' Q E h => helt u q humem (hq ▸ hfr) _ _ s' W.envOk R' Q E h) (hN hlt)
      · have hnl : (Str.ofString xn, .local) ∉ scope.names := fun h => nomatch (lookup_of_nodup CO.nd hxc).symm.trans (lookup_of_nodup CO.nd h)
        refine J.ns.elim fun m hm => (W.cx _ hxc).elim fun c hc => (J.cl c hxc hc).elim fun v₀ hc0 => wpAny_storeName_cell (c := c) (v₀ := v₀) W.envOk.kind (W.kindOf hxc NameKind.noConfusion) hc (hc0.elim fun o ho => ⟨o, hk₁ c o (W.cc c hxc hc).2.2.2 ho.1, ho.2⟩) fun h' hc' hs => ?_
        exact cont h' _ (fun b o _ hb e => hs.extBut b o (hb c hxc hc) e) ⟨m, (hm.at' fun o e => hk₁ C o W.IC.symm e).sameBut hs (W.cc c hxc hc).2.1.symm, fun h => absurd h hnl⟩ (fun c' _ h => Option.some.inj (hc.symm.trans h) ▸ hc')
          (fun s' R' Q E h => htest u r humem hfr _ _ s' W.envOk R' Q E h) (fun q hq s' R' Q E h => helt u q humem (hq ▸ hfr) _ _ s' W.envOk R' Q E h) (hN hlt)
    · subst hin
      have hz : some zs = some ys := J.go.symm.trans (by rw [List.take_length]; exact hg)
      cases hz
      refine (S.walk A hA).done _ _ _ J.sd fun h₁ tk₁ hk₁ => J.ns.elim fun m hm => ?_
      have hk₁ : ∀ b o, b ≠ I → H.get? b = some o → h₁.get? b = some o := fun b o hb e => hk₁ b o (fun h => hb (List.mem_singleton.mp h)) e
      exact hRR D C _ m its W.nD W.nC W.DC ⟨h₁, tk₁, rfl, fun b o e => hk₁ b o (fun h => not_none W.nI (h ▸ e)) (J.up b o e)⟩ (hm.at' fun o e => hk₁ _ o W.IC.symm e) (J.pl.at fun o e => hk₁ D o W.ID.symm e)
        (VRs.mono (fun a _ h hO => hO.elim (fun hO => h (.inl hO)) fun hO => h (.inr (.inl hO))) (fun b o hb e => hk₁ b o (fun h => hb (.inr (.inr (.inr (.inl h))))) e) (fun _ _ e => e) _ _ J.vr)
  exact codeAny_compStart_list (loop _) ((S.walk A hA).self 0 _ _ _ J0.sd (loop _))
end
end
section
open PySem PySem.Spec PySem.Calls PySem.W PyProof.Rows

section
variable {G : Prop}
theorem nob (h : false = true) : G := nomatch h
theorem ann {a b : Bool} (h : (a && b) = true) (k : a = true → b = true → G) : G := k (Bool.and_eq_true_iff.mp h).1 (Bool.and_eq_true_iff.mp h).2
end
noncomputable def opIs (o : BO) (p : Operator) : Bool := decide (p = o.op)
theorem opIs_eq {o : BO} {p : Operator} (h : opIs o p = true) : p = o.op := of_decide_eq_true h
noncomputable def cmpIs (o : CO) (p : CmpOp) : Bool := decide (p = o.op)
theorem cmpIs_eq {o : CO} {p : CmpOp} (h : cmpIs o p = true) : p = o.op := of_decide_eq_true h
noncomputable def notSet (e : Expr) : Bool := e.ctorIdx != 7
noncomputable def baseOk (e : Expr) : Bool := match e with
  | .Call f as ks _ => f.ctorIdx != 23 || !as.isEmpty || !ks.isEmpty
  | _ => true
noncomputable def notStar (e : Expr) : Bool := e.ctorIdx != 22
theorem marks_of {op : CmpOp} {e : Expr} (h : notSet e = true) : behindInMarks op e = false := by
  cases e with
  | Set a b c => exact nob h
  | _ => rfl
theorem folded_of {e : Expr} {env : Env} (h : notSet e = true) (x : Value) : foldedSetIterable e env x = pure x := by
  cases e with
  | Set a b c => exact nob h
  | _ => rfl
theorem base_of {e : Expr} {env : Env} {name : Str} (h : baseOk e = true) : attributeBase e name env (eval e env) = eval e env := by
  cases e with
  | Call f as ks pos =>
    cases f with
    | Name n p =>
      cases as with
      | nil =>
        cases ks with
        | nil => exact nob h
        | cons => rfl
      | cons => rfl
    | _ => rfl
  | _ => rfl
noncomputable def isVar (kd : Kd) (n : Str) : Bool := match kd.lookup n with
  | some .local | some .cell | some .free => true
  | _ => false
noncomputable def isGlob (kd : Kd) (n : Str) : Bool := kd.lookup n == some .globalImplicit

noncomputable def compOkB (kd : Kd) (scope : Scope) (xn : String) : Bool :=
  scope.kind == .function && decide ((scope.names.map (·.1)).Nodup) &&
  scope.names.all (fun y => match y.2 with
    | .local => y.1 == Str.ofString xn || y.1 == Str.ofString ".0"
    | .cell => y.1 == Str.ofString xn
    | .free => y.1 != Str.ofString xn && (kd.lookup y.1 == some .cell || kd.lookup y.1 == some .free)
    | _ => true) &&
  (scope.names.lookup (Str.ofString xn) == some .local || scope.names.lookup (Str.ofString xn) == some .cell) && xn != ".0"
theorem compOk_of {kd : Kd} {scope : Scope} {xn : String} (h : compOkB kd scope xn = true) : CompOk kd scope xn := by
  unfold compOkB at h
  simp only [Bool.and_eq_true, List.all_eq_true, beq_iff_eq, decide_eq_true_eq, Bool.or_eq_true, bne_iff_ne] at h
  obtain ⟨⟨⟨⟨h1, h2⟩, h3⟩, h4⟩, h5⟩ := h
  refine ⟨h1, h2, fun y hy hk => ?_, fun y hy hk => ?_, fun y hy hk => ?_, h4, h5⟩
  · have := h3 y hy; rw [hk] at this; simpa using this
  · have := h3 y hy; rw [hk] at this; simpa using this
  · have := h3 y hy; rw [hk] at this; simpa using this

noncomputable def B1.nm : B1 → Str
  | .len => Str.ofString "len" | .sum => Str.ofString "sum" | .ord => Str.ofString "ord" | .chr => Str.ofString "chr" | .hex => Str.ofString "hex"
noncomputable def okName (x : String) : Bool := x != ".0" && (x != "__debug__" && x != "__classdict__")
theorem okName_ne {x : String} (h : okName x = true) : x ≠ ".0" ∧ x ≠ "__debug__" ∧ x ≠ "__classdict__" := ann h fun h1 h => ann h fun h2 h3 => ⟨bne_iff_ne.mp h1, bne_iff_ne.mp h2, bne_iff_ne.mp h3⟩
section
variable {α : Type} {M : List α → Prop} {l : List α}
noncomputable def one (l : List α) (f : α → Bool) : Bool := match l with
  | x :: r => r.isEmpty && f x
  | [] => false
noncomputable def nonE (l : List α) (f : α → List α → Bool) : Bool := match l with
  | x :: r => f x r
  | [] => false
@[elab_as_elim] theorem emp_elim (h : l.isEmpty = true) (k : M []) : M l := by
  cases l with
  | nil => exact k
  | cons x r => exact nob h
@[elab_as_elim] theorem nonE_elim {f : α → List α → Bool} (h : nonE l f = true) (k : ∀ x r, f x r = true → M (x :: r)) : M l := by
  cases l with
  | nil => exact nob h
  | cons x r => exact k x r h
@[elab_as_elim] theorem one_elim {f : α → Bool} (h : one l f = true) (k : ∀ x, f x = true → M [x]) : M l := by
  cases l with
  | nil => exact nob h
  | cons x r => exact ann h fun h1 h => emp_elim (M := fun r => M (x :: r)) h1 (k x h)
noncomputable def two (l : List α) (f : α → α → Bool) : Bool := nonE l fun x r => one r fun y => f x y
@[elab_as_elim] theorem two_elim {f : α → α → Bool} (h : two l f = true) (k : ∀ x y, f x y = true → M [x, y]) : M l :=
  nonE_elim h fun x _ h => one_elim (M := fun r => M (x :: r)) h (k x)
end
noncomputable def onSome (o : Option Expr) (f : Expr → Bool) : Bool := match o with
  | some x => f x
  | none => false
theorem dit {G c : Prop} [d : Decidable c] {f : c → Bool} (h : (if hc : c then f hc else false) = true) (k : ∀ hc, f hc = true → G) : G :=
  match d, h with
  | .isTrue hc, h => k hc h
  | .isFalse _, h => nob h
section
variable {M : Expr → Prop} {e : Expr}
noncomputable def onBoolOp (e : Expr) (f : BoolOp → List Expr → Bool) : Bool := if h : e.ctorIdx = 0 then Expr.BoolOp.elim (motive_1 := fun _ => Bool) e h fun op values _ => f op values else false
@[elab_as_elim] theorem onBoolOp_elim {f : BoolOp → List Expr → Bool} (h : onBoolOp e f = true) (k : ∀ op values p, f op values = true → M (.BoolOp op values p)) : M e :=
  dit h fun hc h => Expr.BoolOp.elim (motive_1 := fun e => ∀ hc : e.ctorIdx = 0, Expr.BoolOp.elim (motive_1 := fun _ => Bool) e hc (fun op values _ => f op values) = true → M e) e hc (fun op values p _ h => k op values p h) hc h
noncomputable def onBinOp (e : Expr) (f : Expr → Operator → Expr → Bool) : Bool := if h : e.ctorIdx = 2 then Expr.BinOp.elim (motive_1 := fun _ => Bool) e h fun l op r _ => f l op r else false
@[elab_as_elim] theorem onBinOp_elim {f : Expr → Operator → Expr → Bool} (h : onBinOp e f = true) (k : ∀ l op r p, f l op r = true → M (.BinOp l op r p)) : M e :=
  dit h fun hc h => Expr.BinOp.elim (motive_1 := fun e => ∀ hc : e.ctorIdx = 2, Expr.BinOp.elim (motive_1 := fun _ => Bool) e hc (fun l op r _ => f l op r) = true → M e) e hc (fun l op r p _ h => k l op r p h) hc h
noncomputable def onUnaryOp (e : Expr) (f : UnaryOp → Expr → Bool) : Bool := if h : e.ctorIdx = 3 then Expr.UnaryOp.elim (motive_1 := fun _ => Bool) e h fun op x _ => f op x else false
@[elab_as_elim] theorem onUnaryOp_elim {f : UnaryOp → Expr → Bool} (h : onUnaryOp e f = true) (k : ∀ op x p, f op x = true → M (.UnaryOp op x p)) : M e :=
  dit h fun hc h => Expr.UnaryOp.elim (motive_1 := fun e => ∀ hc : e.ctorIdx = 3, Expr.UnaryOp.elim (motive_1 := fun _ => Bool) e hc (fun op x _ => f op x) = true → M e) e hc (fun op x p _ h => k op x p h) hc h
noncomputable def onIfExp (e : Expr) (f : Expr → Expr → Expr → Bool) : Bool := if h : e.ctorIdx = 5 then Expr.IfExp.elim (motive_1 := fun _ => Bool) e h fun x y z _ => f x y z else false
@[elab_as_elim] theorem onIfExp_elim {f : Expr → Expr → Expr → Bool} (h : onIfExp e f = true) (k : ∀ x y z p, f x y z = true → M (.IfExp x y z p)) : M e :=
  dit h fun hc h => Expr.IfExp.elim (motive_1 := fun e => ∀ hc : e.ctorIdx = 5, Expr.IfExp.elim (motive_1 := fun _ => Bool) e hc (fun x y z _ => f x y z) = true → M e) e hc (fun x y z p _ h => k x y z p h) hc h
noncomputable def onListComp (e : Expr) (f : Expr → List Comprehension → Scope → Bool) : Bool := if h : e.ctorIdx = 8 then Expr.ListComp.elim (motive_1 := fun _ => Bool) e h fun el gs sc _ => f el gs sc else false
@[elab_as_elim] theorem onListComp_elim {f : Expr → List Comprehension → Scope → Bool} (h : onListComp e f = true) (k : ∀ el gs sc p, f el gs sc = true → M (.ListComp el gs sc p)) : M e :=
  dit h fun hc h => Expr.ListComp.elim (motive_1 := fun e => ∀ hc : e.ctorIdx = 8, Expr.ListComp.elim (motive_1 := fun _ => Bool) e hc (fun el gs sc _ => f el gs sc) = true → M e) e hc (fun el gs sc p _ h => k el gs sc p h) hc h
noncomputable def onCompare (e : Expr) (f : Expr → List CmpOp → List Expr → Bool) : Bool := if h : e.ctorIdx = 15 then Expr.Compare.elim (motive_1 := fun _ => Bool) e h fun l ops rs _ => f l ops rs else false
@[elab_as_elim] theorem onCompare_elim {f : Expr → List CmpOp → List Expr → Bool} (h : onCompare e f = true) (k : ∀ l ops rs p, f l ops rs = true → M (.Compare l ops rs p)) : M e :=
  dit h fun hc h => Expr.Compare.elim (motive_1 := fun e => ∀ hc : e.ctorIdx = 15, Expr.Compare.elim (motive_1 := fun _ => Bool) e hc (fun l ops rs _ => f l ops rs) = true → M e) e hc (fun l ops rs p _ h => k l ops rs p h) hc h
noncomputable def onSubscript (e : Expr) (f : Expr → Expr → Bool) : Bool := if h : e.ctorIdx = 21 then Expr.Subscript.elim (motive_1 := fun _ => Bool) e h fun x y _ => f x y else false
@[elab_as_elim] theorem onSubscript_elim {f : Expr → Expr → Bool} (h : onSubscript e f = true) (k : ∀ x y p, f x y = true → M (.Subscript x y p)) : M e :=
  dit h fun hc h => Expr.Subscript.elim (motive_1 := fun e => ∀ hc : e.ctorIdx = 21, Expr.Subscript.elim (motive_1 := fun _ => Bool) e hc (fun x y _ => f x y) = true → M e) e hc (fun x y p _ h => k x y p h) hc h
noncomputable def onName (e : Expr) (f : Str → Bool) : Bool := if h : e.ctorIdx = 23 then Expr.Name.elim (motive_1 := fun _ => Bool) e h fun n _ => f n else false
@[elab_as_elim] theorem onName_elim {f : Str → Bool} (h : onName e f = true) (k : ∀ n p, f n = true → M (.Name n p)) : M e :=
  dit h fun hc h => Expr.Name.elim (motive_1 := fun e => ∀ hc : e.ctorIdx = 23, Expr.Name.elim (motive_1 := fun _ => Bool) e hc (fun n _ => f n) = true → M e) e hc (fun n p _ h => k n p h) hc h
noncomputable def onList (e : Expr) (f : List Expr → Bool) : Bool := if h : e.ctorIdx = 24 then Expr.List.elim (motive_1 := fun _ => Bool) e h fun es _ => f es else false
@[elab_as_elim] theorem onList_elim {f : List Expr → Bool} (h : onList e f = true) (k : ∀ es p, f es = true → M (.List es p)) : M e :=
  dit h fun hc h => Expr.List.elim (motive_1 := fun e => ∀ hc : e.ctorIdx = 24, Expr.List.elim (motive_1 := fun _ => Bool) e hc (fun es _ => f es) = true → M e) e hc (fun es p _ h => k es p h) hc h
noncomputable def onSlice (e : Expr) (f : Option Expr → Option Expr → Option Expr → Bool) : Bool := if h : e.ctorIdx = 26 then Expr.Slice.elim (motive_1 := fun _ => Bool) e h fun lo hi st _ => f lo hi st else false
@[elab_as_elim] theorem onSlice_elim {f : Option Expr → Option Expr → Option Expr → Bool} (h : onSlice e f = true) (k : ∀ lo hi st p, f lo hi st = true → M (.Slice lo hi st p)) : M e :=
  dit h fun hc h => Expr.Slice.elim (motive_1 := fun e => ∀ hc : e.ctorIdx = 26, Expr.Slice.elim (motive_1 := fun _ => Bool) e hc (fun lo hi st _ => f lo hi st) = true → M e) e hc (fun lo hi st p _ h => k lo hi st p h) hc h
noncomputable def onTuple (e : Expr) (f : List Expr → Bool) : Bool := if h : e.ctorIdx = 25 then Expr.Tuple.elim (motive_1 := fun _ => Bool) e h fun es _ _ => f es else false
@[elab_as_elim] theorem onTuple_elim {f : List Expr → Bool} (h : onTuple e f = true) (k : ∀ es j p, f es = true → M (.Tuple es j p)) : M e :=
  dit h fun hc h => Expr.Tuple.elim (motive_1 := fun e => ∀ hc : e.ctorIdx = 25, Expr.Tuple.elim (motive_1 := fun _ => Bool) e hc (fun es _ _ => f es) = true → M e) e hc (fun es j p _ h => k es j p h) hc h
noncomputable def onCall (e : Expr) (f : Expr → List Expr → List Keyword → Pos → Bool) : Bool := if h : e.ctorIdx = 16 then Expr.Call.elim (motive_1 := fun _ => Bool) e h fun g as ks p => f g as ks p else false
@[elab_as_elim] theorem onCall_elim {f : Expr → List Expr → List Keyword → Pos → Bool} (h : onCall e f = true) (k : ∀ g as ks p, f g as ks p = true → M (.Call g as ks p)) : M e :=
  dit h fun hc h => Expr.Call.elim (motive_1 := fun e => ∀ hc : e.ctorIdx = 16, Expr.Call.elim (motive_1 := fun _ => Bool) e hc (fun g as ks p => f g as ks p) = true → M e) e hc (fun g as ks p _ h => k g as ks p h) hc h
noncomputable def onAttribute (e : Expr) (f : Expr → Str → Pos → Bool) : Bool := if h : e.ctorIdx = 20 then Expr.Attribute.elim (motive_1 := fun _ => Bool) e h fun o nm p => f o nm p else false
@[elab_as_elim] theorem onAttribute_elim {f : Expr → Str → Pos → Bool} (h : onAttribute e f = true) (k : ∀ o nm p, f o nm p = true → M (.Attribute o nm p)) : M e :=
  dit h fun hc h => Expr.Attribute.elim (motive_1 := fun e => ∀ hc : e.ctorIdx = 20, Expr.Attribute.elim (motive_1 := fun _ => Bool) e hc (fun o nm p => f o nm p) = true → M e) e hc (fun o nm p _ h => k o nm p h) hc h
noncomputable def onConstant (e : Expr) (c : Const) : Bool := if h : e.ctorIdx = 19 then Expr.Constant.elim (motive_1 := fun _ => Bool) e h fun d _ _ => decide (d = c) else false
@[elab_as_elim] theorem onConstant_elim {c : Const} (h : onConstant e c = true) (k : ∀ j p, M (.Constant c j p)) : M e :=
  dit h fun hc h => Expr.Constant.elim (motive_1 := fun e => ∀ hc : e.ctorIdx = 19, Expr.Constant.elim (motive_1 := fun _ => Bool) e hc (fun d _ _ => decide (d = c)) = true → M e) e hc (fun d j p _ h => of_decide_eq_true h ▸ k j p) hc h
@[elab_as_elim] theorem onSome_elim {N : Option Expr → Prop} {o : Option Expr} {f : Expr → Bool} (h : onSome o f = true) (k : ∀ x, f x = true → N (some x)) : N o := by
  cases o with
  | some x => exact k x h
  | none => exact nob h
@[elab_as_elim] theorem none_elim {N : Option Expr → Prop} {o : Option Expr} (h : o.isNone = true) (k : N none) : N o := by
  cases o with
  | some x => exact nob h
  | none => exact k
/-- a name that is called -/
noncomputable def onCallN (e : Expr) (f : Str → List Expr → Bool) : Bool := onCall e fun g as ks _ => ks.isEmpty && onName g fun n => f n as
@[elab_as_elim] theorem onCallN_elim {f : Str → List Expr → Bool} (h : onCallN e f = true) (k : ∀ n q as p, f n as = true → M (.Call (.Name n q) as [] p)) : M e := by
  refine onCall_elim h fun g as ks p h => ann h fun h1 h => ?_
  exact emp_elim (M := fun ks => M (.Call g as ks p)) h1 (onName_elim (M := fun g => M (.Call g as [] p)) h fun n q h => k n q as p h)
/-- a method that is called -/
noncomputable def onCallA (e : Expr) (f : Expr → Str → List Expr → Bool) : Bool := onCall e fun g as ks p => ks.isEmpty && onAttribute g fun o nm q => q.endLine == p.line && f o nm as
@[elab_as_elim] theorem onCallA_elim {f : Expr → Str → List Expr → Bool} (h : onCallA e f = true) (k : ∀ o nm q as p, q.endLine = p.line → f o nm as = true → M (.Call (.Attribute o nm q) as [] p)) : M e := by
  refine onCall_elim h fun g as ks p h => ann h fun h1 h => ?_
  exact emp_elim (M := fun ks => M (.Call g as ks p)) h1 (onAttribute_elim (M := fun g => M (.Call g as [] p)) h fun o nm q h => ann h fun h1 h => k o nm q as p (eq_of_beq h1) h)
end
noncomputable def isOp (want : Bool) : CmpOp := cond want .Is .IsNot

mutual
noncomputable def matchE : PE → Kd → Expr → Bool
  | .var x, kd, e => onName e fun n => n == Str.ofString x && (isVar kd n && okName x)
  | .int i, _, e => onConstant e (.int i)
  | .str x, _, e => onConstant e (.str ⟨x.toArray⟩)
  | .none, _, e => onConstant e .none
  | .bool b, _, e => onConstant e (.bool b)
  | .neg i, _, e => onUnaryOp e fun o x => decide (o = .USub) && onConstant x (.int i)
  | .bin o a b, kd, e => onBinOp e fun l p r => opIs o p && (matchE a kd l && matchE b kd r)
  | .cmp o a b, kd, e => onCompare e fun l ps rs => one ps fun p => one rs fun r => cmpIs o p && (matchE a kd l && (matchE b kd r && notSet r))
  | .isn want a, kd, e => onCompare e fun l ps rs => one ps fun p => one rs fun r => onConstant r .none && (decide (p = isOp want) && matchE a kd l)
  | .chain a b c, kd, e => onCompare e fun l ps rs => decide (ps = [.Lt, .Lt]) && two rs fun m r => matchE a kd l && (matchE b kd m && (matchE c kd r && notSet r))
  | .and ts, kd, e => onBoolOp e fun p vs => decide (p = .And) && matchEs ts kd vs
  | .or ts, kd, e => onBoolOp e fun p vs => decide (p = .Or) && matchEs ts kd vs
  | .not t, kd, e => onUnaryOp e fun o x => decide (o = .Not) && matchE t kd x
  | .ife t a b, kd, e => onIfExp e fun x y z => matchE t kd x && (matchE a kd y && matchE b kd z)
  | .idx a i, kd, e => onSubscript e fun x y => matchE a kd x && (matchE i kd y && notSlice y)
  | .drop a i, kd, e => onSubscript e fun x y => onSlice y fun lo hi st => hi.isNone && (st.isNone && onSome lo fun z => matchE a kd x && matchE i kd z)
  | .take a i, kd, e => onSubscript e fun x y => onSlice y fun lo hi st => lo.isNone && (st.isNone && onSome hi fun z => matchE a kd x && matchE i kd z)
  | .lst es, kd, e => onList e fun vs => matchEs es kd vs
  | .tup es, kd, e => onTuple e fun vs => matchEs es kd vs
  | .comp elt x it ifs, kd, e => onListComp e fun el gs sc => one gs fun g => onName g.target fun n => decide (g.is_async = 0) && (n == Str.ofString x && (compOkB kd sc x && (notSet g.iter && (matchE it kd g.iter && (matchE elt (innerKd kd sc.names) el && matchEs ifs (innerKd kd sc.names) g.ifs)))))
  | .rng1 a, kd, e => onCallN e fun n as => one as fun x => n == Str.ofString "range" && (isGlob kd n && matchE a kd x)
  | .rng2 a b, kd, e => onCallN e fun n as => two as fun x y => n == Str.ofString "range" && (isGlob kd n && (matchE a kd x && matchE b kd y))
  | .call f args, kd, e => onCallN e fun n as => !as.isEmpty && (n == Str.ofString f && (f != "__debug__" && (isGlob kd n && matchEs args kd as)))
  | .b1 f a, kd, e => onCallN e fun n as => one as fun x => n == f.nm && (isGlob kd n && matchE a kd x)
  | .join sep a, kd, e => onCallA e fun o nm as => one as fun x => onConstant o (.str ⟨sep.toArray⟩) && (nm == Str.ofString "join" && matchE a kd x)
  | .m0 m a, kd, e => onCallA e fun o nm as => as.isEmpty && (nm == m.nm && (matchE a kd o && baseOk o))
  | .dget a b, kd, e => onCallA e fun o nm as => two as fun x y => onName o fun n => n == Str.ofString "COMPILER_FLAG_NAMES" && (nm == Str.ofString "get" && (isGlob kd n && (matchE a kd x && matchE b kd y)))
  | .piter a, kd, e => onCallN e fun n as => one as fun x => onCallN x fun m bs => one bs fun y => n == Str.ofString "_parse_varint" && (m == Str.ofString "iter" && (isGlob kd n && (isGlob kd m && matchE a kd y)))
  | .hmeth m t args, kd, e => onCallA e fun o nm as => nm == Str.ofString m && (matchE t kd o && (baseOk o && (matchEs args kd as && decide (as.length < 20))))
  | .items t, kd, e => onCallA e fun o nm as => as.isEmpty && (nm == Str.ofString "items" && (matchE t kd o && baseOk o))
noncomputable def matchEs : List PE → Kd → List Expr → Bool
  | [], _, l => l.isEmpty
  | p :: ps, kd, l => nonE l fun e es => matchE p kd e && matchEs ps kd es
end
section
variable {M : Expr → Prop} {e : Expr} {kd : Kd}
@[elab_as_elim] theorem matchE_var {x : String} (h : matchE (.var x) kd e = true) (k : ∀ p, isVar kd (Str.ofString x) = true → okName x = true → M (.Name (Str.ofString x) p)) : M e := by
  refine onName_elim h fun n p h => ann h fun h1 h => ann h fun h2 h3 => ?_
  cases eq_of_beq h1
  exact k p h2 h3
@[elab_as_elim] theorem matchE_neg {i : Int} (h : matchE (.neg i) kd e = true) (k : ∀ j p q, M (.UnaryOp .USub (.Constant (.int i) j p) q)) : M e := by
  refine onUnaryOp_elim h fun o x q h => ann h fun h1 h => ?_
  cases of_decide_eq_true h1
  exact onConstant_elim (M := fun x => M (.UnaryOp .USub x q)) h fun j p => k j p q
@[elab_as_elim] theorem matchE_bin {o : BO} {a b : PE} (h : matchE (.bin o a b) kd e = true) (k : ∀ l r p, matchE a kd l = true → matchE b kd r = true → M (.BinOp l o.op r p)) : M e := by
  refine onBinOp_elim h fun l q r p h => ann h fun h1 h => ann h fun h2 h3 => ?_
  cases opIs_eq h1
  exact k l r p h2 h3
@[elab_as_elim] theorem matchE_cmp {o : CO} {a b : PE} (h : matchE (.cmp o a b) kd e = true) (k : ∀ l r p, matchE a kd l = true → matchE b kd r = true → notSet r = true → M (.Compare l [o.op] [r] p)) : M e := by
  refine onCompare_elim h fun l ps rs p h => one_elim h fun q h => one_elim h fun r h => ann h fun h1 h => ann h fun h2 h => ann h fun h3 h4 => ?_
  cases cmpIs_eq h1
  exact k l r p h2 h3 h4
@[elab_as_elim] theorem matchE_isn {want : Bool} {a : PE} (h : matchE (.isn want a) kd e = true) (k : ∀ l i q p, matchE a kd l = true → M (.Compare l [isOp want] [.Constant .none i q] p)) : M e := by
  refine onCompare_elim h fun l ps rs p h => one_elim h fun o h => one_elim h fun r h => ann h fun h1 h => ann h fun h2 h3 => ?_
  cases of_decide_eq_true h2
  exact onConstant_elim (M := fun r => M (.Compare l [isOp want] [r] p)) h1 fun i q => k l i q p h3
@[elab_as_elim] theorem matchE_chain {a b c : PE} (h : matchE (.chain a b c) kd e = true) (k : ∀ l m r p, matchE a kd l = true → matchE b kd m = true → matchE c kd r = true → notSet r = true → M (.Compare l [.Lt, .Lt] [m, r] p)) : M e := by
  refine onCompare_elim h fun l ps rs p h => ann h fun h1 h => two_elim h fun m r h => ann h fun h2 h => ann h fun h3 h => ann h fun h4 h5 => ?_
  cases of_decide_eq_true h1
  exact k l m r p h2 h3 h4 h5
@[elab_as_elim] theorem matchE_and {ts : List PE} (h : matchE (.and ts) kd e = true) (k : ∀ vs p, matchEs ts kd vs = true → M (.BoolOp .And vs p)) : M e := by
  refine onBoolOp_elim h fun o vs p h => ann h fun h1 h2 => ?_
  cases of_decide_eq_true h1
  exact k vs p h2
@[elab_as_elim] theorem matchE_or {ts : List PE} (h : matchE (.or ts) kd e = true) (k : ∀ vs p, matchEs ts kd vs = true → M (.BoolOp .Or vs p)) : M e := by
  refine onBoolOp_elim h fun o vs p h => ann h fun h1 h2 => ?_
  cases of_decide_eq_true h1
  exact k vs p h2
@[elab_as_elim] theorem matchE_not {t : PE} (h : matchE (.not t) kd e = true) (k : ∀ x p, matchE t kd x = true → M (.UnaryOp .Not x p)) : M e := by
  refine onUnaryOp_elim h fun o x p h => ann h fun h1 h2 => ?_
  cases of_decide_eq_true h1
  exact k x p h2
@[elab_as_elim] theorem matchE_ife {t a b : PE} (h : matchE (.ife t a b) kd e = true) (k : ∀ x y z p, matchE t kd x = true → matchE a kd y = true → matchE b kd z = true → M (.IfExp x y z p)) : M e :=
  onIfExp_elim h fun x y z p h => ann h fun h1 h => ann h fun h2 h3 => k x y z p h1 h2 h3
@[elab_as_elim] theorem matchE_idx {a i : PE} (h : matchE (.idx a i) kd e = true) (k : ∀ x y p, matchE a kd x = true → matchE i kd y = true → notSlice y = true → M (.Subscript x y p)) : M e :=
  onSubscript_elim h fun x y p h => ann h fun h1 h => ann h fun h2 h3 => k x y p h1 h2 h3
@[elab_as_elim] theorem matchE_drop {a i : PE} (h : matchE (.drop a i) kd e = true) (k : ∀ x y q p, matchE a kd x = true → matchE i kd y = true → M (.Subscript x (.Slice (some y) none none q) p)) : M e := by
  refine onSubscript_elim h fun x y p h => onSlice_elim h fun lo hi st q h => ann h fun h1 h => ann h fun h2 h => none_elim h1 (none_elim h2 (onSome_elim h fun z h => ann h fun h1 h2 => k x z q p h1 h2))
@[elab_as_elim] theorem matchE_take {a i : PE} (h : matchE (.take a i) kd e = true) (k : ∀ x y q p, matchE a kd x = true → matchE i kd y = true → M (.Subscript x (.Slice none (some y) none q) p)) : M e := by
  refine onSubscript_elim h fun x y p h => onSlice_elim h fun lo hi st q h => ann h fun h1 h => ann h fun h2 h => none_elim h1 (none_elim h2 (onSome_elim h fun z h => ann h fun h1 h2 => k x z q p h1 h2))
@[elab_as_elim] theorem matchE_comp {elt it : PE} {x : String} {ifs : List PE} (h : matchE (.comp elt x it ifs) kd e = true)
    (k : ∀ el q iter fs sc p, CompOk kd sc x → notSet iter = true → matchE it kd iter = true → matchE elt (innerKd kd sc.names) el = true → matchEs ifs (innerKd kd sc.names) fs = true → M (.ListComp el [⟨.Name (Str.ofString x) q, iter, fs, 0⟩] sc p)) : M e := by
  refine onListComp_elim h fun el gs sc p h => one_elim h fun g h => ?_
  obtain ⟨t, iter, fs, as⟩ := g
  refine onName_elim (M := fun t => M (.ListComp el [⟨t, iter, fs, as⟩] sc p)) h fun n q h => ann h fun h1 h => ann h fun h2 h => ann h fun h3 h => ann h fun h4 h => ann h fun h5 h => ann h fun h6 h7 => ?_
  cases eq_of_beq h2
  cases of_decide_eq_true h1
  exact k el q iter fs sc p (compOk_of h3) h4 h5 h6 h7
@[elab_as_elim] theorem matchE_rng1 {a : PE} (h : matchE (.rng1 a) kd e = true) (k : ∀ q x p, isGlob kd (Str.ofString "range") = true → matchE a kd x = true → M (.Call (.Name (Str.ofString "range") q) [x] [] p)) : M e := by
  refine onCallN_elim h fun n q as p h => one_elim h fun x h => ann h fun h1 h => ann h fun h2 h3 => ?_
  cases eq_of_beq h1
  exact k q x p h2 h3
@[elab_as_elim] theorem matchE_rng2 {a b : PE} (h : matchE (.rng2 a b) kd e = true) (k : ∀ q x y p, isGlob kd (Str.ofString "range") = true → matchE a kd x = true → matchE b kd y = true → M (.Call (.Name (Str.ofString "range") q) [x, y] [] p)) : M e := by
  refine onCallN_elim h fun n q as p h => two_elim h fun x y h => ann h fun h1 h => ann h fun h2 h => ann h fun h3 h4 => ?_
  cases eq_of_beq h1
  exact k q x y p h2 h3 h4
@[elab_as_elim] theorem matchE_call {f : String} {args : List PE} (h : matchE (.call f args) kd e = true) (k : ∀ q x xs p, f ≠ "__debug__" → isGlob kd (Str.ofString f) = true → matchEs args kd (x :: xs) = true → M (.Call (.Name (Str.ofString f) q) (x :: xs) [] p)) : M e := by
  refine onCallN_elim h fun n q as p h => ann h fun h0 h => ann h fun h1 h => ann h fun h2 h => ann h fun h3 h4 => ?_
  cases eq_of_beq h1
  cases as with
  | nil => exact nob h0
  | cons x xs => exact k q x xs p (bne_iff_ne.mp h2) h3 h4
@[elab_as_elim] theorem matchE_b1 {f : B1} {a : PE} (h : matchE (.b1 f a) kd e = true) (k : ∀ q x p, isGlob kd f.nm = true → matchE a kd x = true → M (.Call (.Name f.nm q) [x] [] p)) : M e := by
  refine onCallN_elim h fun n q as p h => one_elim h fun x h => ann h fun h1 h => ann h fun h2 h3 => ?_
  cases eq_of_beq h1
  exact k q x p h2 h3
@[elab_as_elim] theorem matchE_join {sep : List Nat} {a : PE} (h : matchE (.join sep a) kd e = true) (k : ∀ i r q x p, q.endLine = p.line → matchE a kd x = true → M (.Call (.Attribute (.Constant (.str ⟨sep.toArray⟩) i r) (Str.ofString "join") q) [x] [] p)) : M e := by
  refine onCallA_elim h fun o nm q as p hl h => one_elim h fun x h => ann h fun h1 h => ann h fun h2 h3 => ?_
  cases eq_of_beq h2
  exact onConstant_elim (M := fun o => M (.Call (.Attribute o _ q) [x] [] p)) h1 fun i r => k i r q x p hl h3
@[elab_as_elim] theorem matchE_m0 {m : M0} {a : PE} (h : matchE (.m0 m a) kd e = true) (k : ∀ o q p, q.endLine = p.line → matchE a kd o = true → baseOk o = true → M (.Call (.Attribute o m.nm q) [] [] p)) : M e := by
  refine onCallA_elim h fun o nm q as p hl h => ann h fun h1 h => emp_elim h1 (ann h fun h2 h => ann h fun h3 h4 => ?_)
  cases eq_of_beq h2
  exact k o q p hl h3 h4
@[elab_as_elim] theorem matchE_dget {a b : PE} (h : matchE (.dget a b) kd e = true) (k : ∀ r q x y p, q.endLine = p.line → isGlob kd (Str.ofString "COMPILER_FLAG_NAMES") = true → matchE a kd x = true → matchE b kd y = true → M (.Call (.Attribute (.Name (Str.ofString "COMPILER_FLAG_NAMES") r) (Str.ofString "get") q) [x, y] [] p)) : M e := by
  refine onCallA_elim h fun o nm q as p hl h => two_elim h fun x y h => onName_elim h fun n r h => ann h fun h1 h => ann h fun h2 h => ann h fun h3 h => ann h fun h4 h5 => ?_
  cases eq_of_beq h1
  cases eq_of_beq h2
  exact k r q x y p hl h3 h4 h5
@[elab_as_elim] theorem matchE_piter {a : PE} (h : matchE (.piter a) kd e = true) (k : ∀ r q x p p', isGlob kd (Str.ofString "_parse_varint") = true → isGlob kd (Str.ofString "iter") = true → matchE a kd x = true → M (.Call (.Name (Str.ofString "_parse_varint") r) [.Call (.Name (Str.ofString "iter") q) [x] [] p'] [] p)) : M e := by
  refine onCallN_elim h fun n r as p h => one_elim h fun x h => onCallN_elim h fun m q bs p' h => one_elim h fun y h => ann h fun h1 h => ann h fun h2 h => ann h fun h3 h => ann h fun h4 h5 => ?_
  cases eq_of_beq h1
  cases eq_of_beq h2
  exact k r q y p p' h3 h4 h5
@[elab_as_elim] theorem matchE_hmeth {m : String} {t : PE} {args : List PE} (h : matchE (.hmeth m t args) kd e = true) (k : ∀ o q as p, q.endLine = p.line → matchE t kd o = true → baseOk o = true → matchEs args kd as = true → as.length < 20 → M (.Call (.Attribute o (Str.ofString m) q) as [] p)) : M e := by
  refine onCallA_elim h fun o nm q as p hl h => ann h fun h1 h => ann h fun h2 h => ann h fun h3 h => ann h fun h4 h5 => ?_
  cases eq_of_beq h1
  exact k o q as p hl h2 h3 h4 (of_decide_eq_true h5)
@[elab_as_elim] theorem matchE_items {t : PE} (h : matchE (.items t) kd e = true) (k : ∀ o q p, q.endLine = p.line → matchE t kd o = true → baseOk o = true → M (.Call (.Attribute o (Str.ofString "items") q) [] [] p)) : M e := by
  refine onCallA_elim h fun o nm q as p hl h => ann h fun h1 h => emp_elim h1 (ann h fun h2 h => ann h fun h3 h4 => ?_)
  cases eq_of_beq h2
  exact k o q p hl h3 h4
end
theorem match_notStar {p : PE} {kd : Kd} {e : Expr} (h : matchE p kd e = true) : notStar e = true := by
  cases e with
  | Starred v q => cases p <;> exact nob h
  | _ => rfl
end
section
open PySem PySem.Spec PySem.Calls PySem.W PyProof.Rows

noncomputable def CallOk (prog : Program) (w : World) (K : Frag) (mg mb : Str → Option Value) (d : Nat) (a : Addr) (vs : List V) (r : V) : Prop :=
  ∀ (A : Around) (s : Shared) (vals : List Value) (Q : Value → Shared → Prop) (E : Value → Shared → Prop), Room d A → Gr K mg mb s.heap → VRs (fun _ => False) [] s.heap vs vals →
    (∀ s' val, Keeps s s' → VR (Alloc s.heap) [] s'.heap r val → Q val s') → wpAny (model prog w) A (call (.ref a) vals) Q E s

noncomputable def FnAt (K : Frag) (a : Addr) : Prop := ∃ o fd, K.lookup a = some o ∧ o.data = .func fd

/-- how a method of Headers is found -/
noncomputable def MethAt' (prog : Program) (w : World) (K : Frag) (mg mb : Str → Option Value) (m : String) (f : Addr) : Prop :=
  ∀ (A : Around) (s : Shared) (a d : Addr) (x : Value) (pl : Sem Bool) (Q : Value × List Value → Shared → Prop) (E : Value → Shared → Prop), Gr K mg mb s.heap → HdrAt s.heap a d x →
    Q (.ref f, [.ref a]) s → wpAny (model prog w) A (getMethod (.ref a) (Str.ofString m) pl) Q E s

noncomputable def globNames : List (String × Value) := [("range", .type "range"), ("len", .builtin "len"), ("sum", .builtin "sum"), ("ord", .builtin "ord"), ("chr", .builtin "chr"), ("hex", .builtin "hex"), ("iter", .builtin "iter")]

structure PrimsOk (prog : Program) (w : World) (K : Frag) (mg mb : Str → Option Value) (d : Nat) (P : Prims) : Prop where
  fn : ∀ f vs r, P.fn f vs = some r → ∃ a, nsIn K mainGlobals (Str.ofString f) = some (some (.ref a)) ∧ FnAt K a ∧ CallOk prog w K mg mb d a vs r
  hm : ∀ m l vs r, P.hm m l vs = some r → ∃ a, FnAt K a ∧ MethAt' prog w K mg mb m a ∧ CallOk prog w K mg mb d a (.hdr (.lst l) :: vs) r
  tab : ∃ a, nsIn K mainGlobals (Str.ofString "COMPILER_FLAG_NAMES") = some (some (.ref a)) ∧ (∃ o, K.lookup a = some o ∧ o.cls = .type "dict" ∧ o.dict = none) ∧
    ∀ (A : Around) (s : Shared) (i : Int) (t : Tok) (dv : Value) (Q : Value → Shared → Prop) (E : Value → Shared → Prop), K.In s.heap →
      (∀ t', Q (match P.tab.lookup i with | some x => .str ⟨x.toArray⟩ t' | none => dv) { s with toks := s.toks + 1 }) → wpAny (model prog w) A (call (.builtin "dict.get") [.ref a, .int i t, dv]) Q E s
  pit : ∀ vs r, P.pit vs = some r → ∃ f, nsIn K mainGlobals (Str.ofString "_parse_varint") = some (some (.ref f)) ∧ FnAt K f ∧
    ∀ (A : Around) (s : Shared) (a : Addr) (its : Array Value) (Q : Value → Shared → Prop) (E : Value → Shared → Prop), Room d A → Gr K mg mb s.heap → s.heap.PlainList a its → VRs (fun _ => False) [] s.heap vs its.toList →
      (∀ s' val, Keeps s s' → VR (Alloc s.heap) [] s'.heap r val → Q val s') →
      wpAny (model prog w) A (call (.builtin "iter") [.ref a]) (fun it s₁ => (∀ b o, s.heap.get? b = some o → s₁.heap.get? b = some o) ∧ wpAny (model prog w) A (call (.ref f) [it]) Q E s₁) E s
  it : P.its = true → ∃ f, FnAt K f ∧ MethAt' prog w K mg mb "items" f ∧
    ∀ (A : Around) (s : Shared) (a d' b : Addr) (its : Array Value) (Q : Value → Shared → Prop) (E : Value → Shared → Prop), Room d A → Gr K mg mb s.heap → HdrAt s.heap a d' (.ref b) → s.heap.PlainList b its → its.size ≤ big →
      (∀ s' D, Keeps s s' → s.heap.get? D = none → s'.heap.PlainList D its → Q (.ref D) s') → wpAny (model prog w) A (call (.ref f) [.ref a]) Q E s
  gl : ∀ x ∈ globNames, nsIn K mainGlobals (Str.ofString x.1) = some none ∧ bootBuiltins (Str.ofString x.1) = some x.2

theorem isVar_cases {kd : Kd} {n : Str} (h : isVar kd n = true) : kd.lookup n = some .local ∨ kd.lookup n = some .cell ∨ kd.lookup n = some .free := by
  unfold isVar at h
  generalize kd.lookup n = o at h ⊢
  cases o with
  | none => exact nob h
  | some k => cases k <;> first | exact nob h | exact .inl rfl | exact .inr (.inl rfl) | exact .inr (.inr rfl)

theorem ofString_beq {a b : String} (h : a ≠ b) : (Str.ofString a == Str.ofString b) = false := by
  simpa using fun e => h (ofString_inj e)

section
variable {prog : Program} {w : World} {A : Around} {E : Value → Shared → Prop} {s : Shared}
variable {K : Frag} {mg mb : Str → Option Value} {env : Env} {O : Ads} {ρ : List Addr} {st : St} {kd : Kd} {P : Prims} {d : Nat}

theorem var_sound (EO : EnvOk env kd) (R : Rep K mg mb env O ρ st s) {x : String} {v : V} {p : Pos} {Q : Value → Shared → Prop} (hv : isVar kd (Str.ofString x) = true) (hx : okName x = true)
    (h : st.get x = some v) (hQ : Out O ρ s v Q) : wpAny (model prog w) A (eval (.Name (Str.ofString x) p) env) Q E s := by
  obtain ⟨h0, h1, h2⟩ := okName_ne hx
  have hk : env.kindOf (Str.ofString x) = kd.lookup (Str.ofString x) := congrArg (·.lookup (Str.ofString x)) EO.names
  refine wpAny_Name ?_ (ofString_beq h1)
  rcases isVar_cases hv with e | e | e
  · obtain ⟨m, hn, hm⟩ := R.ns
    obtain ⟨val, h3, h4⟩ := hm x v h0 (hk.trans e) h
    exact wpAny_loadName_local EO.kind (hk.trans e) hn h3 (hQ _ _ (keeps_refl _) h4)
  · obtain ⟨c, v₀, h3, h4, h5⟩ := R.cl x (.inl (hk.trans e))
    obtain ⟨val, rfl, h6⟩ := h5 v h
    exact wpAny_loadName_cell EO.kind (hk.trans e) h3 h4 (hQ _ _ (keeps_refl _) h6)
  · obtain ⟨c, v₀, h3, h4, h5⟩ := R.cl x (.inr (hk.trans e))
    obtain ⟨val, rfl, h6⟩ := h5 v h
    exact wpAny_loadName_free EO.kind (hk.trans e) h3 h4 (hQ _ _ (keeps_refl _) h6) (ofString_beq h2)

theorem glob_sound (EO : EnvOk env kd) (G : Gr K mg mb s.heap) {x : String} {v : Value} {p : Pos} {Q : Value → Shared → Prop} (hv : isGlob kd (Str.ofString x) = true) (h1 : x ≠ "__debug__")
    (h : nsIn K mainGlobals (Str.ofString x) = some (some v)) (hQ : Q v s) : wpAny (model prog w) A (eval (.Name (Str.ofString x) p) env) Q E s := by
  have hk : env.kindOf (Str.ofString x) = some .globalImplicit := (congrArg (·.lookup (Str.ofString x)) EO.names).trans (eq_of_beq hv)
  exact Name_function_global EO.kind hk (loadGlobal_global (by rw [EO.glob]; exact G.g) (mg_of G.k G.g h) hQ) (ofString_beq h1)
theorem boot_sound (EO : EnvOk env kd) (G : Gr K mg mb s.heap) {x : String} {v : Value} {p : Pos} {Q : Value → Shared → Prop} (hv : isGlob kd (Str.ofString x) = true) (h1 : x ≠ "__debug__") (h2 : x ≠ "__name__")
    (h : nsIn K mainGlobals (Str.ofString x) = some none) (hb : bootBuiltins (Str.ofString x) = some v) (hQ : Q v s) : wpAny (model prog w) A (eval (.Name (Str.ofString x) p) env) Q E s := by
  have hk : env.kindOf (Str.ofString x) = some .globalImplicit := (congrArg (·.lookup (Str.ofString x)) EO.names).trans (eq_of_beq hv)
  exact Name_function_global EO.kind hk (loadGlobal_builtin (by rw [EO.glob]; exact G.g) (mg_none_of G.k G.g h) (by rw [EO.bi]; exact G.b) ((G.bi _ fun e => h2 (ofString_inj e)).trans hb) hQ) (ofString_beq h1)

theorem star_of {e : Expr} {rest : List Expr} (h : notStar e = true) : starEach (e :: rest) env = (false, eval e env) :: starEach rest env := by
  cases e with
  | Starred a b => exact nob h
  | _ => rfl
end
end
section
open PySem PySem.Spec PySem.Calls PySem.W PyProof.Rows

section
variable {prog : Program} {w : World} {K : Frag} {mg mb : Str → Option Value} {P : Prims} {d : Nat}

theorem alloc_sub {env : Env} {O : Ads} {ρ : List Addr} {st : St} {s : Shared} (R : Rep K mg mb env O ρ st s) {h' : Heap} {v : V} {x : Value} (h : VR (Alloc s.heap) [] h' v x) : VR O ρ h' v x :=
  VR.mono (fun a _ h hO => h (R.al a hO)) (fun _ _ _ e => e) (fun i a e => by simp at e) v x h

theorem keeps_none {s s' : Shared} (k : Keeps s s') {a : Addr} (h : s'.heap.get? a = none) : s.heap.get? a = none := by
  cases e : s.heap.get? a with
  | none => rfl
  | some o => rw [keeps_heap k a o e] at h; cases h

/-- the value of a comprehension: a fresh list -/
theorem comp_eval {env : Env} {kd : Kd} {O : Ads} {ρ : List Addr} {st : St} {s : Shared} {A : Around} {E : Value → Shared → Prop} {elt iter : Expr} {xn : String} {px pos : Pos} {ifs : List Expr} {scope : Scope} {v : V} {vs ys : List V} {f : V → Option (Option V)} {Q : Value → Shared → Prop}
    (hA : A.handled = none) (EO : EnvOk env kd) (R : Rep K mg mb env O ρ st s) (CO : CompOk kd scope xn) (hset : notSet iter = true)
    (hiter : ∀ (Q : Value → Shared → Prop), Out O ρ s v Q → wpAny (model prog w) A (eval iter env) Q E s) (hi : itemsOf st v = some vs) (hlen : vs.length ≤ big) (hg : compGo f vs = some ys)
    (htest : ∀ u b, u ∈ vs → f u = some b → ∀ env' O' s', EnvOk env' (innerKd kd scope.names) → Rep K mg mb env' O' ρ { locs := (xn, u) :: st.locs, tr := st.tr } s' → ∀ (Q : Bool → Shared → Prop) E,
      (∀ s'', Keeps s' s'' → Q b.isSome s'') → wpAny (model prog w) A (forIn ifs true fun c r => if r = true then do let ok ← isTrue c env' (eval c env'); pure (ForInStep.yield ok) else pure (ForInStep.yield r)) Q E s')
    (helt : ∀ u y, u ∈ vs → f u = some (some y) → ∀ env' O' s', EnvOk env' (innerKd kd scope.names) → Rep K mg mb env' O' ρ { locs := (xn, u) :: st.locs, tr := st.tr } s' → ∀ (Q : Value → Shared → Prop) E,
      Out O' ρ s' y Q → wpAny (model prog w) A (eval elt env') Q E s')
    (hQ : ∀ D s' its, s.heap.get? D = none → Keeps s s' → s'.heap.PlainList D its → VRs O ρ s'.heap ys its.toList → Q (.ref D) s') :
    wpAny (model prog w) A (eval (.ListComp elt [⟨.Name (Str.ofString xn) px, iter, ifs, 0⟩] scope pos) env) Q E s := by
  obtain ⟨cl, h1, h2, h3⟩ := closure_of (env := env) scope fun x hx hk => EO.cx _ (CO.free x hx hk).2
  rw [eval_ListComp]
  refine wpAny_comprehension_free (use := none) rfl (folded_of hset) h1 CO.kind (fun y hy hk => lookup_of_nodup CO.nd (by rw [← hk]; exact hy)) ?_
  refine hiter _ fun s₁ x k₁ hx => ?_
  refine comp_core (RR := fun acc C => compPost (model prog w) A E none Q acc C) hA EO (R.keeps k₁) CO h2 h3 hx hi hlen hg htest helt ?_
  intro D C s' m' its hD hC hDC k' hn hp hv
  obtain ⟨h', tk, rfl, hk'⟩ := k'
  refine ⟨m', hn, fun h'' hs'' => hQ D _ its (keeps_none k₁ hD) (keeps_trans k₁ ⟨h'', tk, rfl, fun b o e => hs''.extBut b o (fun h => by rw [h, hC] at e; cases e) (hk' b o e)⟩) ?_ ?_⟩
  · exact hp.at fun o e => hs''.extBut D o hDC e
  · exact VRs.mono (fun a _ h hO => h (.inl hO)) (fun b o hb e => hs''.extBut b o (fun h => hb (.inr h)) e) (fun _ _ e => e) _ _ hv

abbrev OutS (O : Ads) (ρ : List Addr) (s : Shared) (v : List V) (Q : List Value → Shared → Prop) : Prop := ∀ s' val, Keeps s s' → VRs O ρ s'.heap v val → Q val s'
abbrev OutB (s : Shared) (b : Bool) (Q : Bool → Shared → Prop) : Prop := ∀ s', Keeps s s' → Q b s'

theorem out_trans {O : Ads} {ρ : List Addr} {s s₁ : Shared} {v : V} {Q : Value → Shared → Prop} (h : Out O ρ s v Q) (k : Keeps s s₁) : Out O ρ s₁ v Q := fun s' val k' hv => h s' val (keeps_trans k k') hv

theorem ifs_false {A : Around} {env : Env} {E : Value → Shared → Prop} {s : Shared} {Q : Bool → Shared → Prop} : ∀ (es : List Expr), Q false s →
    wpAny (model prog w) A (forIn es false fun c r => if r = true then do let ok ← PySem.isTrue c env (eval c env); pure (ForInStep.yield ok) else pure (ForInStep.yield r)) Q E s
  | [], h => by rw [List.forIn_nil]; exact wpAny_pure h
  | e :: es, h => by
    rw [List.forIn_cons]
    simp only [Bool.false_eq_true, if_false]
    exact wpAny_bind (wpAny_pure (ifs_false es h))

theorem matchEs_stars : ∀ {ps : List PE} {kd : Kd} {es : List Expr} {env : Env} {pos : Pos}, matchEs ps kd es = true → ((backTo pos (starEach es env)).all fun x => !x.1) = true
  | [], _, es, env, pos, h => emp_elim (M := fun es => ((backTo pos (starEach es env)).all fun x => !x.1) = true) h rfl
  | p :: ps, _, es, env, pos, h => nonE_elim (M := fun es => ((backTo pos (starEach es env)).all fun x => !x.1) = true) h fun e es h => ann h fun h1 h2 => by
    rw [star_of (match_notStar h1)]
    exact matchEs_stars (env := env) (pos := pos) h2
theorem matchEs_first {ps : List PE} {kd : Kd} {es : List Expr} (h : matchEs ps kd es = true) : ∀ x xs, es = x :: xs → notStar x = true := by
  rintro x xs rfl
  cases ps with
  | nil => exact nob h
  | cons p ps => exact ann h fun h1 _ => match_notStar h1

theorem callWith_any {A : Around} {E : Value → Shared → Prop} {s : Shared} {env : Env} {pos : Pos} {f : Addr} {o : Obj} {fd : FuncData} {first : List Value} {es : List Expr} {Q : Value → Shared → Prop}
    (hd : o.data = .func fd) (ho : s.heap.get? f = some o) (hst : ∀ x xs, es = x :: xs → notStar x = true)
    (h : wpAny (model prog w) A (spliced (backTo pos (starEach es env))) (fun vals s₂ => (∀ b o, s.heap.get? b = some o → s₂.heap.get? b = some o) ∧ wpAny (model prog w) A (call (.ref f) (first ++ vals)) Q E s₂) E s) :
    wpAny (model prog w) A (callWith pos (.ref f) first (backTo pos (starEach es env)) []) Q E s := by
  cases es with
  | nil =>
    refine PyProof.Rows.callWith_meth0 hd ho ?_
    have h' : wpAny (model prog w) A (spliced []) (fun vals s₂ => (∀ b o, s.heap.get? b = some o → s₂.heap.get? b = some o) ∧ wpAny (model prog w) A (call (.ref f) (first ++ vals)) Q E s₂) E s := h
    have h2 : wpAny (model prog w) A (pure [] : Sem (List Value)) (fun vals s₂ => (∀ b o, s.heap.get? b = some o → s₂.heap.get? b = some o) ∧ wpAny (model prog w) A (call (.ref f) (first ++ vals)) Q E s₂) E s := h'
    intro Γ p hΓ
    have h3 := h2 Γ p hΓ
    have h4 := h3.2 Γ p hΓ
    rw [List.append_nil] at h4
    exact h4
  | cons x xs => exact PyProof.Rows.callWith_meth hd ho h (star_of (hst x xs rfl))

theorem call_meth {A : Around} {E : Value → Shared → Prop} {s : Shared} {env : Env} {o : Expr} {name : Str} {apos pos : Pos} {args : List Expr} {Q : Value → Shared → Prop}
    (hbase : baseOk o = true) (hline : (apos.endLine == pos.line) = true) (hform : methodCallForm (args.length + ([] : List Keyword).length) (backTo pos (starEach args env)) (backToKw pos (keywordEach [] env)) = true)
    (h : wpAny (model prog w) A (eval o env) (fun ov s₁ => ∃ f first, (∀ (Q' : Value × List Value → Shared → Prop), Q' (f, first) s₁ → wpAny (model prog w) A (getMethod ov name (do return (← importBound o env).getD true)) Q' E s₁) ∧
      wpAny (model prog w) A (callWith pos f first (backTo pos (starEach args env)) []) Q E s₁) E s) :
    wpAny (model prog w) A (eval (.Call (.Attribute o name apos) args [] pos) env) Q E s := by
  rw [arm_eval_Call, base_of hbase]
  refine wpAny_bind (wpAny_mono h (fun ov s₁ h₁ => ?_) fun _ _ e => e)
  obtain ⟨f, first, hg, hc⟩ := h₁
  refine wpAny_bind (wpAny_standAt ?_)
  have hpos : methodCallPos true o env apos pos = pure pos := by unfold methodCallPos; simp [hline]
  unfold methodCall
  rw [hform]
  refine wpAny_bind (wpAny_holding (hg _ ?_))
  exact wpAny_bind (wpAny_of_eq hpos hc)

section
variable (prog w K mg mb d P)
noncomputable def ESnd (p : PE) (kd : Kd) (e : Expr) : Prop := ∀ {env : Env} {O : Ads} {ρ : List Addr} {st : St} {s : Shared} {v : V} {A : Around} {Q : Value → Shared → Prop} {E : Value → Shared → Prop},
  Room d A → EnvOk env kd → evalE P p st = some v → Rep K mg mb env O ρ st s → Out O ρ s v Q → wpAny (model prog w) A (eval e env) Q E s
noncomputable def TSnd (p : PE) (kd : Kd) (e : Expr) : Prop := ∀ {env : Env} {O : Ads} {ρ : List Addr} {st : St} {s : Shared} {b : Bool} {A : Around} {Q : Bool → Shared → Prop} {E : Value → Shared → Prop},
  Room d A → EnvOk env kd → evalT P p st = some b → Rep K mg mb env O ρ st s → OutB s b Q → wpAny (model prog w) A (PySem.isTrue e env (eval e env)) Q E s
noncomputable def LSnd (ps : List PE) (kd : Kd) (es : List Expr) : Prop := ∀ {env : Env} {O : Ads} {ρ : List Addr} {st : St} {s : Shared} {vs : List V} {A : Around} {Q : List Value → Shared → Prop} {E : Value → Shared → Prop} {pos : Pos},
  Room d A → EnvOk env kd → evalEs P ps st = some vs → Rep K mg mb env O ρ st s → OutS O ρ s vs Q → wpAny (model prog w) A (spliced (backTo pos (starEach es env))) Q E s
noncomputable def ASnd (o : BoolOp) (f : St → Option Bool) (kd : Kd) (es : List Expr) : Prop := ∀ {env : Env} {O : Ads} {ρ : List Addr} {st : St} {s : Shared} {b : Bool} {A : Around} {Q : Bool → Shared → Prop} {E : Value → Shared → Prop},
  Room d A → EnvOk env kd → f st = some b → Rep K mg mb env O ρ st s → OutB s b Q → wpAny (model prog w) A (allTrue o es env) Q E s
noncomputable def ISnd (ps : List PE) (kd : Kd) (es : List Expr) : Prop := ∀ {env : Env} {O : Ads} {ρ : List Addr} {st : St} {s : Shared} {b : Bool} {A : Around} {Q : Bool → Shared → Prop} {E : Value → Shared → Prop},
  Room d A → EnvOk env kd → evalAnd P ps st = some b → Rep K mg mb env O ρ st s → OutB s b Q →
      wpAny (model prog w) A (forIn es true fun c r => if r = true then do let ok ← PySem.isTrue c env (eval c env); pure (ForInStep.yield ok) else pure (ForInStep.yield r)) Q E s
end
section
variable {kd : Kd}
section
variable {a b t : PE} {x y z : Expr} {p q : Pos}
theorem snd_neg {i : Int} {j : Nat} : ESnd prog w K mg mb P d (.neg i) kd (.UnaryOp .USub (.Constant (.int i) j p) q) := by
  intro env O ρ st s v A Q E RM EO hv R hQ
  cases hv
  exact wpAny_UnaryOp (wpAny_Constant_int (neg_int (hQ _ _ (keeps_trans (keeps_toks _ _) (keeps_toks _ _)) (vr_int _ _ _))))
theorem snd_bin (ha : ESnd prog w K mg mb P d a kd x) (hb : ESnd prog w K mg mb P d b kd y) {o : BO} : ESnd prog w K mg mb P d (.bin o a b) kd (.BinOp x o.op y p) := by
  intro env O ρ st s v A Q E RM EO hv R hQ
  exact bnd2 hv fun _ _ e1 e2 hv => wpAny_BinOp (ha RM EO e1 R fun s₁ va k₁ ha => hb RM EO e2 (R.keeps k₁) fun s₂ vb k₂ hb =>
    binV_sound ((R.keeps k₁).keeps k₂) hv (ha.keeps k₂) hb (out_trans hQ (keeps_trans k₁ k₂)))
theorem Room.hu {A : Around} (RM : Room d A) : A.units + 64 < cLine := Nat.lt_of_le_of_lt (Nat.add_le_add (Nat.le_add_right _ _) (by decide)) RM.un
theorem snd_cmp (ha : ESnd prog w K mg mb P d a kd x) (hb : ESnd prog w K mg mb P d b kd y) (hy : notSet y = true) {o : CO} : ESnd prog w K mg mb P d (.cmp o a b) kd (.Compare x [o.op] [y] p) := by
  intro env O ρ st s v A Q E RM EO hv R hQ
  refine bnd2 hv fun _ _ e1 e2 hv => mpd hv fun r hc e => wpAny_Compare1 (ha RM EO e1 R fun s₁ va k₁ ha => hb RM EO e2 (R.keeps k₁) fun s₂ vb k₂ hb => ?_) (marks_of hy)
  cases e
  exact cmpV_sound ((R.keeps k₁).keeps k₂) hc (ha.keeps k₂) hb RM.hu (hQ _ _ (keeps_trans k₁ k₂) (vr_bool _ _))
theorem snd_ife (ht : TSnd prog w K mg mb P d t kd x) (ha : ESnd prog w K mg mb P d a kd y) (hb : ESnd prog w K mg mb P d b kd z) : ESnd prog w K mg mb P d (.ife t a b) kd (.IfExp x y z p) := by
  intro env O ρ st s v A Q E RM EO hv R hQ
  refine bnd hv fun c e hv => wpAny_IfExp (ht RM EO e R fun s₁ k₁ => ?_)
  cases c
  · exact hb RM EO hv (R.keeps k₁) (out_trans hQ k₁)
  · exact ha RM EO hv (R.keeps k₁) (out_trans hQ k₁)
theorem snd_idx (ha : ESnd prog w K mg mb P d a kd x) (hb : ESnd prog w K mg mb P d b kd y) (hy : notSlice y = true) : ESnd prog w K mg mb P d (.idx a b) kd (.Subscript x y p) := by
  intro env O ρ st s v A Q E RM EO hv R hQ
  exact bnd2 hv fun _ _ e1 e2 hv => Subscript_ (ha RM EO e1 R fun s₁ va k₁ ha => hb RM EO e2 (R.keeps k₁) fun s₂ vb k₂ hb =>
    idxV_sound ((R.keeps k₁).keeps k₂) hy hv (ha.keeps k₂) hb (out_trans hQ (keeps_trans k₁ k₂)))
theorem snd_drop (ha : ESnd prog w K mg mb P d a kd x) (hb : ESnd prog w K mg mb P d b kd y) : ESnd prog w K mg mb P d (.drop a b) kd (.Subscript x (.Slice (some y) none none q) p) := by
  intro env O ρ st s v A Q E RM EO hv R hQ
  exact bnd2 hv fun _ _ e1 e2 hv => Subscript_ (ha RM EO e1 R fun s₁ va k₁ ha => wpAny_Slice (wpAny_evalPart_some (hb RM EO e2 (R.keeps k₁) fun s₂ vb k₂ hb => wpAny_evalPart_none (wpAny_evalPart_none
    (dropV_sound hv (ha.keeps k₂) hb (out_trans hQ (keeps_trans k₁ k₂)))))))
theorem snd_take (ha : ESnd prog w K mg mb P d a kd x) (hb : ESnd prog w K mg mb P d b kd y) : ESnd prog w K mg mb P d (.take a b) kd (.Subscript x (.Slice none (some y) none q) p) := by
  intro env O ρ st s v A Q E RM EO hv R hQ
  exact bnd2 hv fun _ _ e1 e2 hv => Subscript_ (ha RM EO e1 R fun s₁ va k₁ ha => wpAny_Slice (wpAny_evalPart_none (wpAny_evalPart_some (hb RM EO e2 (R.keeps k₁) fun s₂ vb k₂ hb => wpAny_evalPart_none
    (takeV_sound ((R.keeps k₁).keeps k₂) hv (ha.keeps k₂) hb (out_trans hQ (keeps_trans k₁ k₂)))))))
theorem size_vals {O : Ads} {ρ : List Addr} {h : Heap} {vs : List V} {vals : List Value} (H : VRs O ρ h vs vals) (hl : vs.length ≤ big) : vals.length ≤ sizeLine := by
  rw [H.length, sizeLine_eq]; exact Nat.le_trans hl (by decide)
theorem snd_lst {ps : List PE} {es : List Expr} (hs : LSnd prog w K mg mb P d ps kd es) : ESnd prog w K mg mb P d (.lst ps) kd (.List es p) := by
  intro env O ρ st s v A Q E RM EO hv R hQ
  refine bnd hv fun vs e hv => iif hv fun hl hv => List_ (hs RM EO e R fun s₁ vals k₁ hvals => ?_)
  cases hv
  exact wpAny_newObj_type (hQ _ _ (keeps_trans k₁ (keeps_push _ _)) (vr_fresh (n := 0) (R.keeps k₁) (fresh_size _) (Heap.get?_push_size _ rfl) (hvals.keeps (keeps_push s₁ _)))) (size_vals hvals hl)
theorem snd_tup {ps : List PE} {es : List Expr} {j : Nat} (hs : LSnd prog w K mg mb P d ps kd es) : ESnd prog w K mg mb P d (.tup ps) kd (.Tuple es j p) := by
  intro env O ρ st s v A Q E RM EO hv R hQ
  refine bnd hv fun vs e hv => iif hv fun hl hv => Tuple_ (hs RM EO e R fun s₁ vals k₁ hvals => ?_)
  cases hv
  exact wpAny_newTuple (hQ _ _ (keeps_trans k₁ (keeps_push _ _)) (vr_fresh_tup (n := 0) (R.keeps k₁) (fresh_size _) (Heap.get?_push_size _ rfl) (hvals.keeps (keeps_push s₁ _)))) (size_vals hvals hl)
end
theorem comp_facts {elt : PE} {xn : String} {ifs : List PE} {kd' : Kd} {el : Expr} {fs : List Expr} (hif : ISnd prog w K mg mb P d ifs kd' fs) (hel : ESnd prog w K mg mb P d elt kd' el) {st : St} {u : V} {r : Option V}
    (hf : ((evalAnd P ifs (inner xn u st)).bind fun c => cond c ((evalE P elt (inner xn u st)).map some) (some none)) = some r) {A : Around} (RM : Room d A) {env' : Env} {O' : Ads} {ρ : List Addr} {s' : Shared} (EO' : EnvOk env' kd') (R' : Rep K mg mb env' O' ρ (inner xn u st) s') :
    (∀ (Q : Bool → Shared → Prop) (E : Value → Shared → Prop), (∀ s'', Keeps s' s'' → Q r.isSome s'') → wpAny (model prog w) A (forIn fs true fun c r => if r = true then do let ok ← PySem.isTrue c env' (eval c env'); pure (ForInStep.yield ok) else pure (ForInStep.yield r)) Q E s') ∧
    ∀ y, r = some y → ∀ (Q : Value → Shared → Prop) (E : Value → Shared → Prop), Out O' ρ s' y Q → wpAny (model prog w) A (eval el env') Q E s' := by
  refine bnd hf fun c e hf => ?_
  cases c
  · cases hf
    exact ⟨fun Q E hQ => hif RM EO' e R' hQ, fun y h => nomatch h⟩
  · refine mpd hf fun z ez hz => ?_
    cases hz
    exact ⟨fun Q E hQ => hif RM EO' e R' hQ, fun y h Q E hQ => hel RM EO' (ez.trans h) R' hQ⟩
theorem snd_comp {elt it : PE} {xn : String} {ifs : List PE} {el iter : Expr} {fs : List Expr} {sc : Scope} {q p : Pos} (CO : CompOk kd sc xn) (h3 : notSet iter = true) (hit : ESnd prog w K mg mb P d it kd iter)
    (hel : ESnd prog w K mg mb P d elt (innerKd kd sc.names) el) (hif : ISnd prog w K mg mb P d ifs (innerKd kd sc.names) fs) : ESnd prog w K mg mb P d (.comp elt xn it ifs) kd (.ListComp el [⟨.Name (Str.ofString xn) q, iter, fs, 0⟩] sc p) := by
  intro env O ρ st s v A Q E RM EO hv R hQ
  refine bnd hv fun iv e1 hv => bnd hv fun vs e2 hv => iif hv fun hl hv => mpd hv fun ys hg hv => ?_
  cases hv
  refine comp_eval RM.hd EO R CO h3 (fun Q' hQ' => hit RM EO e1 R hQ') e2 hl hg (fun u b _ hf env' O' s' EO' R' => (comp_facts hif hel hf RM EO' R').1) (fun u y _ hf env' O' s' EO' R' => (comp_facts hif hel hf RM EO' R').2 y rfl) ?_
  intro D s' its hD k' hp hvs
  exact hp.elim fun n hp => hQ _ _ k' (vr_fresh R hD hp hvs)
theorem snd_rng1 {a : PE} {x : Expr} {q p : Pos} (PK : PrimsOk prog w K mg mb d P) (h1 : isGlob kd (Str.ofString "range") = true) (hx : notStar x = true) (ha : ESnd prog w K mg mb P d a kd x) : ESnd prog w K mg mb P d (.rng1 a) kd (.Call (.Name (Str.ofString "range") q) [x] [] p) := by
  intro env O ρ st s v A Q E RM EO hv R hQ
  refine bnd hv fun n e1 hv => bnd hv fun i e2 hv => iif hv fun hl hv => ?_
  cases hv
  have hg := PK.gl ("range", .type "range") (by decide)
  refine wpAny_Call_NameR (boot_sound EO R.gr h1 (by decide) (by decide) hg.1 hg.2 ?_)
  exact PyProof.Rows.callWith_type1 (spliced_more (ha RM EO e1 R fun s₁ va k₁ ha => spliced_none (get_int e2 ha fun t =>
    call_range_1 (hQ _ _ (keeps_trans k₁ (keeps_push' _ _ _)) (vr_rng ((R.keeps k₁).fresh (fresh_size _)) (Heap.get?_push_size _ rfl))))) (star_of hx)) (star_of hx) rfl
theorem snd_rng2 {a b : PE} {x y : Expr} {q p : Pos} (PK : PrimsOk prog w K mg mb d P) (h1 : isGlob kd (Str.ofString "range") = true) (hx : notStar x = true) (hy : notStar y = true) (ha : ESnd prog w K mg mb P d a kd x) (hb : ESnd prog w K mg mb P d b kd y) : ESnd prog w K mg mb P d (.rng2 a b) kd (.Call (.Name (Str.ofString "range") q) [x, y] [] p) := by
  intro env O ρ st s v A Q E RM EO hv R hQ
  refine bnd2 hv fun m n e1 e2 hv => ?_
  have hg := PK.gl ("range", .type "range") (by decide)
  refine wpAny_Call_NameR (boot_sound EO R.gr h1 (by decide) (by decide) hg.1 hg.2 ?_)
  refine PyProof.Rows.callWith_type1 (spliced_more (ha RM EO e1 R fun s₁ va k₁ ha => spliced_more (hb RM EO e2 (R.keeps k₁) fun s₂ vb k₂ hb => spliced_none (int2_vr hv (ha.keeps k₂) hb fun i j t t' hv => iif hv fun hl hv => ?_)) (star_of hy)) (star_of hx)) (star_of hx) (by rw [star_of hy]; rfl)
  cases hv
  exact call_range_2 (hQ _ _ (keeps_trans (keeps_trans k₁ k₂) (keeps_push' _ _ _)) (vr_rng (((R.keeps k₁).keeps k₂).fresh (fresh_size _)) (Heap.get?_push_size _ rfl)))
theorem snd_call {f : String} {args : List PE} {x : Expr} {xs : List Expr} {q p : Pos} (PK : PrimsOk prog w K mg mb d P) (h0 : f ≠ "__debug__") (h1 : isGlob kd (Str.ofString f) = true) (hx : notStar x = true) (hs : LSnd prog w K mg mb P d args kd (x :: xs)) : ESnd prog w K mg mb P d (.call f args) kd (.Call (.Name (Str.ofString f) q) (x :: xs) [] p) := by
  intro env O ρ st s v A Q E RM EO hv R hQ
  refine bnd hv fun vs e1 hv => bnd hv fun ws e2 hv => ?_
  obtain ⟨fa, g1, ⟨fo, fd, g2, g3⟩, g4⟩ := PK.fn _ _ _ hv
  refine wpAny_Call_NameR (glob_sound EO R.gr h1 h0 g1 ?_)
  exact callWith_def (o := fo) g3 (hs RM EO e1 R fun s₁ vals k₁ hvals => ⟨(R.keeps k₁).gr.k _ _ g2, g4 A s₁ vals _ _ RM (R.keeps k₁).gr ((R.keeps k₁).frzs hvals e2) fun s' val k' hr => hQ _ _ (keeps_trans k₁ k') (alloc_sub (R.keeps k₁) hr)⟩) (star_of hx)
theorem B1.glob (f : B1) : ∃ q : String, B1.nm f = Str.ofString q ∧ q ≠ "__debug__" ∧ q ≠ "__name__" ∧ (q, Value.builtin f.id) ∈ globNames := by
  cases f
  · exact ⟨"len", rfl, by decide, by decide, by decide⟩
  · exact ⟨"sum", rfl, by decide, by decide, by decide⟩
  · exact ⟨"ord", rfl, by decide, by decide, by decide⟩
  · exact ⟨"chr", rfl, by decide, by decide, by decide⟩
  · exact ⟨"hex", rfl, by decide, by decide, by decide⟩
theorem snd_b1 {f : B1} {a : PE} {x : Expr} {q p : Pos} (PK : PrimsOk prog w K mg mb d P) (h1 : isGlob kd f.nm = true) (hx : notStar x = true) (ha : ESnd prog w K mg mb P d a kd x) : ESnd prog w K mg mb P d (.b1 f a) kd (.Call (.Name f.nm q) [x] [] p) := by
  intro env O ρ st s v A Q E RM EO hv R hQ
  refine bnd hv fun u e1 hv => ?_
  obtain ⟨q, hq, q1, q2, q3⟩ := f.glob
  rw [hq] at h1 ⊢
  have hg := PK.gl _ q3
  refine wpAny_Call_NameR (boot_sound EO R.gr h1 q1 q2 hg.1 hg.2 ?_)
  exact PyProof.Rows.callWith_builtin1 (spliced_more (ha RM EO e1 R fun s₁ va k₁ ha => spliced_none (b1V_sound (R.keeps k₁) RM.hd hv ha (out_trans hQ k₁))) (star_of hx)) (star_of hx) rfl
theorem snd_join {sep : List Nat} {a : PE} {x : Expr} {i : Nat} {r q p : Pos} (hl : q.endLine = p.line) (hx : notStar x = true) (ha : ESnd prog w K mg mb P d a kd x) : ESnd prog w K mg mb P d (.join sep a) kd (.Call (.Attribute (.Constant (.str ⟨sep.toArray⟩) i r) (Str.ofString "join") q) [x] [] p) := by
  intro env O ρ st s v A Q E RM EO hv R hQ
  refine bnd hv fun u e1 hv => ?_
  refine wpAny_Call_method_lateS rfl (by rw [star_of hx]; rfl) (by simpa using hl) (wpAny_Constant_str ⟨"str", "str.join", F.plainAttrs_str, F.slot_str_join, F.type_str_join, typeIs_str _ _ _, (fun _ e => (nomatch e)), ?_⟩)
  exact PyProof.Rows.callWith_method1 (spliced_more (ha RM EO e1 (R.keeps (keeps_toks s _)) fun s₁ va k₁ ha => spliced_none (joinV_sound ((R.keeps (keeps_toks s _)).keeps k₁) hv ha (out_trans hQ (keeps_trans (keeps_toks s _) k₁)))) (star_of hx)) (star_of hx) rfl
theorem M0.slot (m : M0) : Slot "str" m.nm m.id ∧ typeOf (.builtin m.id) = pure (.type "method_descriptor") := by
  cases m
  · exact ⟨F.slot_str_swapcase, F.type_str_swapcase⟩
  · exact ⟨F.slot_str_lower, F.type_str_lower⟩
  · exact ⟨F.slot_str_upper, F.type_str_upper⟩
theorem snd_m0 {m : M0} {a : PE} {o : Expr} {q p : Pos} (hl : q.endLine = p.line) (ho : baseOk o = true) (ha : ESnd prog w K mg mb P d a kd o) : ESnd prog w K mg mb P d (.m0 m a) kd (.Call (.Attribute o m.nm q) [] [] p) := by
  intro env O ρ st s v A Q E RM EO hv R hQ
  refine bnd hv fun u e1 hv => wpAny_Call_method_lateS (base_of ho) rfl (by simpa using hl) (ha RM EO e1 R fun s₁ va k₁ ha => ?_)
  obtain ⟨y, t, rfl⟩ : ∃ y t, va = .str y t := bnd hv fun y e _ => get_str (M := fun va => ∃ y t, va = .str y t) e ha fun t => ⟨_, t, rfl⟩
  exact ⟨"str", m.id, F.plainAttrs_str, m.slot.1, m.slot.2, typeIs_str _ _ _, fun _ e => (nomatch e), PyProof.Rows.callWith_method0 (m0V_sound hv ha (out_trans hQ k₁))⟩
theorem snd_dget {a b : PE} {x y : Expr} {r q p : Pos} (PK : PrimsOk prog w K mg mb d P) (hl : q.endLine = p.line) (h1 : isGlob kd (Str.ofString "COMPILER_FLAG_NAMES") = true) (hx : notStar x = true) (hy : notStar y = true) (ha : ESnd prog w K mg mb P d a kd x) (hb : ESnd prog w K mg mb P d b kd y) :
    ESnd prog w K mg mb P d (.dget a b) kd (.Call (.Attribute (.Name (Str.ofString "COMPILER_FLAG_NAMES") r) (Str.ofString "get") q) [x, y] [] p) := by
  intro env O ρ st s v A Q E RM EO hv R hQ
  refine bnd2 hv fun m u e1 e2 hv => bnd hv fun i e3 hv => ?_
  obtain ⟨ta, g1, ⟨to, g2, g3, g4⟩, g5⟩ := PK.tab
  have hst : starEach [x, y] env = [(false, eval _ env), (false, eval _ env)] := (star_of hx).trans (by rw [star_of hy]; rfl)
  refine wpAny_Call_method_lateS rfl (by rw [hst]; rfl) (by simpa using hl) (glob_sound EO R.gr h1 (by decide) g1 ⟨"dict", "dict.get", F.plainAttrs_dict, F.slot_dict_get, F.type_dict_get, ⟨to, R.gr.k _ _ g2, g3⟩, (fun a' e' => by cases e'; exact ⟨to, R.gr.k _ _ g2, g4⟩), ?_⟩)
  refine PyProof.Rows.callWith_method1 (spliced_more (ha RM EO e1 R fun s₁ va k₁ ha => spliced_more (hb RM EO e2 (R.keeps k₁) fun s₂ vb k₂ hb => spliced_none (get_int e3 ha fun t => ?_)) (star_of hy)) (star_of hx)) (star_of hx) (by rw [star_of hy]; rfl)
  refine g5 _ _ _ _ _ _ _ ((R.keeps k₁).keeps k₂).gr.k fun t' => ?_
  cases hv
  unfold tabV at hQ
  cases hy : P.tab.lookup i with
  | some x => rw [hy] at hQ; exact hQ _ _ (keeps_trans (keeps_trans k₁ k₂) (keeps_toks _ _)) (vr_str _ _ _)
  | none => rw [hy] at hQ; exact hQ _ _ (keeps_trans (keeps_trans k₁ k₂) (keeps_toks _ _)) (hb.keeps (keeps_toks _ _))
theorem snd_piter {a : PE} {x : Expr} {r q p p' : Pos} (PK : PrimsOk prog w K mg mb d P) (h1 : isGlob kd (Str.ofString "_parse_varint") = true) (h2 : isGlob kd (Str.ofString "iter") = true) (hx : notStar x = true) (ha : ESnd prog w K mg mb P d a kd x) :
    ESnd prog w K mg mb P d (.piter a) kd (.Call (.Name (Str.ofString "_parse_varint") r) [.Call (.Name (Str.ofString "iter") q) [x] [] p'] [] p) := by
  intro env O ρ st s v A Q E RM EO hv R hQ
  refine bnd hv fun m e1 hv => bnd hv fun vs e2 hv => iif hv fun hnt hp => ?_
  cases gLst_of e2
  obtain ⟨f, g1, ⟨fo, fd, g2, g3⟩, g4⟩ := PK.pit _ _ hp
  have hg := PK.gl ("iter", .builtin "iter") (by decide)
  refine wpAny_Call_NameR (glob_sound EO R.gr h1 (by decide) g1 ?_)
  refine callWith_def (o := fo) g3 (spliced_more (wpAny_Call_NameR (boot_sound EO R.gr h2 (by decide) (by decide) hg.1 hg.2 ?_)) rfl) rfl
  refine PyProof.Rows.callWith_builtin1 (spliced_more (ha RM EO e1 R fun s₁ va k₁ ha => spliced_none (ha.lst_elim fun la its _ hp hvs => ?_)) (star_of hx)) (star_of hx) rfl
  exact wpAny_mono (g4 A s₁ la its _ _ RM (R.keeps k₁).gr hp (VRs.noTrk _ _ hnt hvs) fun s' val k' hr => hQ _ _ (keeps_trans k₁ k') (alloc_sub (R.keeps k₁) hr)) (fun it s₂ hc => spliced_none ⟨hc.1 _ _ ((R.keeps k₁).gr.k _ _ g2), hc.2⟩) fun _ _ e => e
theorem snd_hmeth {m : String} {t : PE} {args : List PE} {o : Expr} {as : List Expr} {q p : Pos} (PK : PrimsOk prog w K mg mb d P) (hl : q.endLine = p.line) (ho : baseOk o = true) (hm : matchEs args kd as = true) (hlen : as.length < 20) (ht : ESnd prog w K mg mb P d t kd o) (hs : LSnd prog w K mg mb P d args kd as) :
    ESnd prog w K mg mb P d (.hmeth m t args) kd (.Call (.Attribute o (Str.ofString m) q) as [] p) := by
  intro env O ρ st s v A Q E RM EO hv R hQ
  refine bnd2 hv fun u vs e1 e2 hv => bnd hv fun h e3 hv => bnd hv fun src e5 hv => bnd hv fun l e6 hv => bnd hv fun ws e4 hm' => ?_
  cases gHdr_of e5
  cases gLst_of e6
  obtain ⟨f, ⟨fo, fd, g2, g3⟩, g4, g5⟩ := PK.hm _ _ _ _ hm'
  refine call_meth ho (by simpa using hl) (by unfold methodCallForm; rw [matchEs_stars hm]; exact decide_eq_true (Nat.lt_trans hlen (by decide : 20 < 30))) (ht RM EO e1 R fun s₁ va k₁ ha => ?_)
  have hf := (R.keeps k₁).frz ha e3
  have hf' := hf
  obtain ⟨ha1, hd1, hx1, rfl, _, _, hH, _⟩ := hf'
  refine ⟨.ref f, [.ref ha1], fun Q' hQ' => g4 _ _ _ _ _ _ _ _ (R.keeps k₁).gr hH hQ', ?_⟩
  refine callWith_any g3 ((R.keeps k₁).gr.k _ _ g2) (matchEs_first hm) (hs RM EO e2 (R.keeps k₁) fun s₂ vals k₂ hvals => ⟨keeps_heap k₂, ?_⟩)
  have R2 := (R.keeps k₁).keeps k₂
  exact g5 A s₂ _ _ _ RM R2.gr (vrs_cons (hf.keeps k₂) (R2.frzs hvals e4)) fun s' val k' hr => hQ _ _ (keeps_trans (keeps_trans k₁ k₂) k') (alloc_sub R2 hr)
theorem snd_items {t : PE} {o : Expr} {q p : Pos} (PK : PrimsOk prog w K mg mb d P) (hl : q.endLine = p.line) (ho : baseOk o = true) (ht : ESnd prog w K mg mb P d t kd o) :
    ESnd prog w K mg mb P d (.items t) kd (.Call (.Attribute o (Str.ofString "items") q) [] [] p) := by
  intro env O ρ st s v A Q E RM EO hv R hQ
  refine bnd hv fun u e1 hv => bnd hv fun src e5 hv => iif hv fun hits hv => bnd hv fun vs hvs hv => iif hv fun hlb he => ?_
  cases gHdr_of e5
  cases he
  obtain ⟨f, ⟨fo, fd, g2, g3⟩, g4, g5⟩ := PK.it hits
  refine call_meth ho (by simpa using hl) rfl (ht RM EO e1 R fun s₁ va k₁ ha => ha.hdr_elim fun ha1 hd1 hx1 _ _ hH hsrc => ?_)
  have R1 := R.keeps k₁
  obtain ⟨b, its, rfl, hpl, hel⟩ := R1.lview hsrc hvs
  refine ⟨.ref f, [.ref ha1], fun Q' hQ' => g4 _ _ _ _ _ _ _ _ R1.gr hH hQ', ?_⟩
  refine callWith_any g3 (R1.gr.k _ _ g2) (fun x xs e => nomatch e) ?_
  exact spliced_none ⟨fun _ _ e => e, g5 A s₁ ha1 hd1 b its _ _ RM R1.gr hH hpl (Nat.le_trans (Nat.le_of_eq hel.length) hlb) fun s' D k' hD hp' => hp'.elim fun n hp' => hQ _ _ (keeps_trans k₁ k') (vr_fresh R1 hD hp' (hel.keeps k'))⟩
-- tests
section
variable {a b c : PE} {x y z : Expr} {p q : Pos}
theorem tst_cmp (ha : ESnd prog w K mg mb P d a kd x) (hb : ESnd prog w K mg mb P d b kd y) (hy : notSet y = true) {o : CO} : TSnd prog w K mg mb P d (.cmp o a b) kd (.Compare x [o.op] [y] p) := by
  intro env O ρ st s v A Q E RM EO hv R hQ
  exact bnd2 hv fun _ _ e1 e2 hv => wpAny_isTrue_Compare1 (ha RM EO e1 R fun s₁ va k₁ ha => hb RM EO e2 (R.keeps k₁) fun s₂ vb k₂ hb =>
    cmpV_sound ((R.keeps k₁).keeps k₂) hv (ha.keeps k₂) hb RM.hu (wpAny_truthy_bool (hQ _ (keeps_trans k₁ k₂)))) (marks_of hy)
theorem tst_isn {want : Bool} {i : Nat} (ha : ESnd prog w K mg mb P d a kd x) : TSnd prog w K mg mb P d (.isn want a) kd (.Compare x [isOp want] [.Constant .none i q] p) := by
  intro env O ρ st s v A Q E RM EO hv R hQ
  refine bnd hv fun u e1 hv => wpAny_isTrue_Compare1 (ha RM EO e1 R fun s₁ va k₁ ha => wpAny_Constant_none ?_) (by cases want <;> rfl)
  cases u with
  | none =>
    cases (show va = .none from ha)
    cases want <;> cases hv
    · exact wpAny_isNot_self rfl (wpAny_truthy_bool (hQ _ k₁))
    · exact wpAny_is_self rfl (wpAny_truthy_bool (hQ _ k₁))
  | str y =>
    refine ha.str_elim fun t => ?_
    cases want <;> cases hv
    · exact wpAny_isNot_other rfl (fun e => nomatch e) (wpAny_truthy_bool (hQ _ k₁))
    · exact wpAny_is_other rfl (fun e => nomatch e) (wpAny_truthy_bool (hQ _ k₁))
  | _ => exact nosome hv
theorem tst_chain (ha : ESnd prog w K mg mb P d a kd x) (hb : ESnd prog w K mg mb P d b kd y) (hc : ESnd prog w K mg mb P d c kd z) (hz : notSet z = true) : TSnd prog w K mg mb P d (.chain a b c) kd (.Compare x [.Lt, .Lt] [y, z] p) := by
  intro env O ρ st s v A Q E RM EO hv R hQ
  refine bnd2 hv fun u u' e1 e2 hv => bnd2 hv fun i j e3 e4 hv => ?_
  refine isTrue_chain (ha RM EO e1 R fun s₁ va k₁ ha => get_int e3 ha fun t => ?_) (show behindInMarks .Lt z = false from marks_of hz)
  refine wpAny_bind (wpAny_holding (hb RM EO e2 (R.keeps k₁) fun s₂ vb k₂ hb => get_int e4 hb fun t' => ?_))
  refine wpAny_bind (wpAny_standAt (wpAny_bind (wpAny_holding (PyProof.Rows.lt_int (wpAny_bind (PyProof.Rows.wpAny_release' (wpAny_bind (wpAny_holding (wpAny_truthy_bool ?_)))))))))
  revert hv
  cases decide (i < j)
  · intro hv
    cases hv
    exact wpAny_pure (hQ _ (keeps_trans k₁ k₂))
  · intro hv
    refine bnd (x := evalE P c st) hv fun u3 e5 hv => bnd hv fun k e6 hv => ?_
    cases hv
    exact wpAny_bind (wpAny_holding (hc RM EO e5 ((R.keeps k₁).keeps k₂) fun s₃ vc k₃ hc => get_int e6 hc fun t'' =>
      wpAny_bind (wpAny_standAt (wpAny_bind (PyProof.Rows.wpAny_operate' (PyProof.Rows.lt_int (wpAny_holding (wpAny_truthy_bool (hQ _ (keeps_trans (keeps_trans k₁ k₂) k₃))))))))))
theorem tst_not (ha : TSnd prog w K mg mb P d a kd x) : TSnd prog w K mg mb P d (.not a) kd (.UnaryOp .Not x p) := by
  intro env O ρ st s v A Q E RM EO hv R hQ
  exact mpd hv fun r hv e => wpAny_isTrue_Not (ha RM EO hv R fun s₁ k₁ => e ▸ hQ _ k₁)
theorem tst_var {x : String} (h1 : isVar kd (Str.ofString x) = true) (h2 : okName x = true) : TSnd prog w K mg mb P d (.var x) kd (.Name (Str.ofString x) p) := by
  intro env O ρ st s v A Q E RM EO hv R hQ
  exact bnd hv fun u e hv => wpAny_isTrue_value (var_sound EO R h1 h2 e fun s₁ va k₁ ha => truthyV_sound (st := st) hv ha (hQ _ k₁)) rfl
theorem tst_bin (ha : ESnd prog w K mg mb P d a kd x) (hb : ESnd prog w K mg mb P d b kd y) {o : BO} : TSnd prog w K mg mb P d (.bin o a b) kd (.BinOp x o.op y p) := by
  intro env O ρ st s v A Q E RM EO hv R hQ
  exact bnd2 hv fun _ _ e1 e2 hv => bnd hv fun u e3 hv => wpAny_isTrue_value (wpAny_BinOp (ha RM EO e1 R fun s₁ va k₁ ha => hb RM EO e2 (R.keeps k₁) fun s₂ vb k₂ hb =>
    binV_sound ((R.keeps k₁).keeps k₂) e3 (ha.keeps k₂) hb fun s₃ vc k₃ hc => truthyV_sound (st := st) hv hc (hQ _ (keeps_trans (keeps_trans k₁ k₂) k₃)))) rfl
end
section
variable {t : PE} {ts : List PE} {x : Expr} {xs : List Expr}
theorem and_cons (ht : TSnd prog w K mg mb P d t kd x) (hs : ASnd prog w K mg mb d .And (evalAnd P ts) kd xs) : ASnd prog w K mg mb d .And (evalAnd P (t :: ts)) kd (x :: xs) := by
  intro env O ρ st s v A Q E RM EO hv R hQ
  refine bnd hv fun c e hv => wpAny_allTrue_And_cons (ht RM EO e R fun s₁ k₁ => ?_)
  cases c
  · cases hv; exact hQ _ k₁
  · exact hs RM EO hv (R.keeps k₁) fun s₂ k₂ => hQ _ (keeps_trans k₁ k₂)
theorem or_cons (ht : TSnd prog w K mg mb P d t kd x) (hs : ASnd prog w K mg mb d .Or (evalOr P ts) kd xs) : ASnd prog w K mg mb d .Or (evalOr P (t :: ts)) kd (x :: xs) := by
  intro env O ρ st s v A Q E RM EO hv R hQ
  refine bnd hv fun c e hv => wpAny_allTrue_Or_cons (ht RM EO e R fun s₁ k₁ => ?_)
  cases c
  · exact hs RM EO hv (R.keeps k₁) fun s₂ k₂ => hQ _ (keeps_trans k₁ k₂)
  · cases hv; exact hQ _ k₁
theorem ifs_cons (ht : TSnd prog w K mg mb P d t kd x) (hs : ISnd prog w K mg mb P d ts kd xs) : ISnd prog w K mg mb P d (t :: ts) kd (x :: xs) := by
  intro env O ρ st s v A Q E RM EO hv R hQ
  rw [List.forIn_cons]
  refine bnd hv fun c e hv => wpAny_bind (wpAny_bind (ht RM EO e R fun s₁ k₁ => wpAny_pure ?_))
  cases c
  · cases hv; exact ifs_false _ (hQ _ k₁)
  · exact hs RM EO hv (R.keeps k₁) fun s₂ k₂ => hQ _ (keeps_trans k₁ k₂)
theorem snd_cons (ht : ESnd prog w K mg mb P d t kd x) (hx : notStar x = true) (hs : LSnd prog w K mg mb P d ts kd xs) : LSnd prog w K mg mb P d (t :: ts) kd (x :: xs) := by
  intro env O ρ st s v A Q E pos RM EO hv R hQ
  refine bnd2 hv fun u vs e1 e2 hv => spliced_more (ht RM EO e1 R fun s₁ va k₁ ha => hs RM EO e2 (R.keeps k₁) fun s₂ vals k₂ hvals => ?_) (star_of hx)
  cases hv
  exact hQ _ _ (keeps_trans k₁ k₂) (vrs_cons (ha.keeps k₂) hvals)
end
end

variable (PK : PrimsOk prog w K mg mb d P)
include PK
mutual
theorem evalE_snd : ∀ (p : PE) {kd : Kd} {e : Expr}, matchE p kd e = true → ESnd prog w K mg mb P d p kd e
  | .var _, _, _, h => matchE_var h fun _ h1 h2 _ EO hv R hQ => var_sound EO R h1 h2 hv hQ
  | .int _, _, _, h => onConstant_elim h fun _ _ _ _ hv _ hQ => wpAny_Constant_int (hQ _ _ (keeps_toks _ _) (Option.some.inj hv ▸ vr_int _ _ _))
  | .str _, _, _, h => onConstant_elim h fun _ _ _ _ hv _ hQ => wpAny_Constant_str (hQ _ _ (keeps_toks _ _) (Option.some.inj hv ▸ vr_str _ _ _))
  | .none, _, _, h => onConstant_elim h fun _ _ _ _ hv _ hQ => wpAny_Constant_none (hQ _ _ (keeps_refl _) (Option.some.inj hv ▸ (rfl : Value.none = .none)))
  | .bool _, _, _, h => onConstant_elim h fun _ _ _ _ hv _ hQ => wpAny_Constant_bool (hQ _ _ (keeps_refl _) (Option.some.inj hv ▸ vr_bool _ _))
  | .neg _, _, _, h => matchE_neg h fun _ _ _ => snd_neg
  | .bin _ a b, _, _, h => matchE_bin h fun _ _ _ h1 h2 => snd_bin (evalE_snd a h1) (evalE_snd b h2)
  | .cmp _ a b, _, _, h => matchE_cmp h fun _ _ _ h1 h2 h3 => snd_cmp (evalE_snd a h1) (evalE_snd b h2) h3
  | .isn _ _, _, _, _ => fun _ _ h => nosome h
  | .chain _ _ _, _, _, _ => fun _ _ h => nosome h
  | .and _, _, _, _ => fun _ _ h => nosome h
  | .or _, _, _, _ => fun _ _ h => nosome h
  | .not _, _, _, _ => fun _ _ h => nosome h
  | .ife t a b, _, _, h => matchE_ife h fun _ _ _ _ h1 h2 h3 => snd_ife (evalT_snd t h1) (evalE_snd a h2) (evalE_snd b h3)
  | .idx a b, _, _, h => matchE_idx h fun _ _ _ h1 h2 h3 => snd_idx (evalE_snd a h1) (evalE_snd b h2) h3
  | .drop a b, _, _, h => matchE_drop h fun _ _ _ _ h1 h2 => snd_drop (evalE_snd a h1) (evalE_snd b h2)
  | .take a b, _, _, h => matchE_take h fun _ _ _ _ h1 h2 => snd_take (evalE_snd a h1) (evalE_snd b h2)
  | .lst ps, _, _, h => onList_elim h fun _ _ h => snd_lst (evalEs_snd ps h)
  | .tup ps, _, _, h => onTuple_elim h fun _ _ _ h => snd_tup (evalEs_snd ps h)
  | .comp elt _ it ifs, _, _, h => matchE_comp h fun _ _ _ _ _ _ CO h1 h2 h3 h4 => snd_comp CO h1 (evalE_snd it h2) (evalE_snd elt h3) (evalIfs_snd ifs h4)
  | .rng1 a, _, _, h => matchE_rng1 h fun _ _ _ h1 h2 => snd_rng1 PK h1 (match_notStar h2) (evalE_snd a h2)
  | .rng2 a b, _, _, h => matchE_rng2 h fun _ _ _ _ h1 h2 h3 => snd_rng2 PK h1 (match_notStar h2) (match_notStar h3) (evalE_snd a h2) (evalE_snd b h3)
  | .call _ args, _, _, h => matchE_call h fun _ _ _ _ h0 h1 h2 => snd_call PK h0 h1 (matchEs_first h2 _ _ rfl) (evalEs_snd args h2)
  | .b1 _ a, _, _, h => matchE_b1 h fun _ _ _ h1 h2 => snd_b1 PK h1 (match_notStar h2) (evalE_snd a h2)
  | .join _ a, _, _, h => matchE_join h fun _ _ _ _ _ hl h2 => snd_join hl (match_notStar h2) (evalE_snd a h2)
  | .m0 _ a, _, _, h => matchE_m0 h fun _ _ _ hl h1 h2 => snd_m0 hl h2 (evalE_snd a h1)
  | .dget a b, _, _, h => matchE_dget h fun _ _ _ _ _ hl h1 h2 h3 => snd_dget PK hl h1 (match_notStar h2) (match_notStar h3) (evalE_snd a h2) (evalE_snd b h3)
  | .piter a, _, _, h => matchE_piter h fun _ _ _ _ _ h1 h2 h3 => snd_piter PK h1 h2 (match_notStar h3) (evalE_snd a h3)
  | .hmeth _ t args, _, _, h => matchE_hmeth h fun _ _ _ _ hl h1 h2 h3 h4 => snd_hmeth PK hl h2 h3 h4 (evalE_snd t h1) (evalEs_snd args h3)
  | .items t, _, _, h => matchE_items h fun _ _ _ hl h1 h2 => snd_items PK hl h2 (evalE_snd t h1)
theorem evalEs_snd : ∀ (ps : List PE) {kd : Kd} {es : List Expr}, matchEs ps kd es = true → LSnd prog w K mg mb P d ps kd es
  | [], _, _, h => emp_elim h fun _ _ hv _ hQ => spliced_none (hQ _ _ (keeps_refl _) (Option.some.inj hv ▸ vrs_nil))
  | p :: ps, _, _, h => nonE_elim h fun _ _ h => ann h fun h1 h2 => snd_cons (evalE_snd p h1) (match_notStar h1) (evalEs_snd ps h2)
theorem evalT_snd : ∀ (p : PE) {kd : Kd} {e : Expr}, matchE p kd e = true → TSnd prog w K mg mb P d p kd e
  | .cmp _ a b, _, _, h => matchE_cmp h fun _ _ _ h1 h2 h3 => tst_cmp (evalE_snd a h1) (evalE_snd b h2) h3
  | .isn _ a, _, _, h => matchE_isn h fun _ _ _ _ h1 => tst_isn (evalE_snd a h1)
  | .chain a b c, _, _, h => matchE_chain h fun _ _ _ _ h1 h2 h3 h4 => tst_chain (evalE_snd a h1) (evalE_snd b h2) (evalE_snd c h3) h4
  | .and ts, _, _, h => matchE_and h fun _ _ h RM EO hv R hQ => wpAny_isTrue_BoolOp (evalAnd_snd ts h RM EO hv R hQ)
  | .or ts, _, _, h => matchE_or h fun _ _ h RM EO hv R hQ => wpAny_isTrue_BoolOp (evalOr_snd ts h RM EO hv R hQ)
  | .not t, _, _, h => matchE_not h fun _ _ h => tst_not (evalT_snd t h)
  | .var _, _, _, h => matchE_var h fun _ h1 h2 => tst_var h1 h2
  | .bin _ a b, _, _, h => matchE_bin h fun _ _ _ h1 h2 => tst_bin (evalE_snd a h1) (evalE_snd b h2)
  | .int _, _, _, _ => fun _ _ h => nosome h
  | .str _, _, _, _ => fun _ _ h => nosome h
  | .none, _, _, _ => fun _ _ h => nosome h
  | .bool _, _, _, _ => fun _ _ h => nosome h
  | .neg _, _, _, _ => fun _ _ h => nosome h
  | .ife _ _ _, _, _, _ => fun _ _ h => nosome h
  | .idx _ _, _, _, _ => fun _ _ h => nosome h
  | .drop _ _, _, _, _ => fun _ _ h => nosome h
  | .take _ _, _, _, _ => fun _ _ h => nosome h
  | .lst _, _, _, _ => fun _ _ h => nosome h
  | .tup _, _, _, _ => fun _ _ h => nosome h
  | .comp _ _ _ _, _, _, _ => fun _ _ h => nosome h
  | .rng1 _, _, _, _ => fun _ _ h => nosome h
  | .rng2 _ _, _, _, _ => fun _ _ h => nosome h
  | .call _ _, _, _, _ => fun _ _ h => nosome h
  | .b1 _ _, _, _, _ => fun _ _ h => nosome h
  | .join _ _, _, _, _ => fun _ _ h => nosome h
  | .m0 _ _, _, _, _ => fun _ _ h => nosome h
  | .dget _ _, _, _, _ => fun _ _ h => nosome h
  | .piter _, _, _, _ => fun _ _ h => nosome h
  | .hmeth _ _ _, _, _, _ => fun _ _ h => nosome h
  | .items _, _, _, _ => fun _ _ h => nosome h
theorem evalAnd_snd : ∀ (ps : List PE) {kd : Kd} {es : List Expr}, matchEs ps kd es = true → ASnd prog w K mg mb d .And (evalAnd P ps) kd es
  | [], _, _, h => emp_elim h fun _ _ hv _ hQ => wpAny_allTrue_And_nil (Option.some.inj hv ▸ hQ _ (keeps_refl _))
  | p :: ps, _, _, h => nonE_elim h fun _ _ h => ann h fun h1 h2 => and_cons (evalT_snd p h1) (evalAnd_snd ps h2)
theorem evalOr_snd : ∀ (ps : List PE) {kd : Kd} {es : List Expr}, matchEs ps kd es = true → ASnd prog w K mg mb d .Or (evalOr P ps) kd es
  | [], _, _, h => emp_elim h fun _ _ hv _ hQ => wpAny_allTrue_Or_nil (Option.some.inj hv ▸ hQ _ (keeps_refl _))
  | p :: ps, _, _, h => nonE_elim h fun _ _ h => ann h fun h1 h2 => or_cons (evalT_snd p h1) (evalOr_snd ps h2)
theorem evalIfs_snd : ∀ (ps : List PE) {kd : Kd} {es : List Expr}, matchEs ps kd es = true → ISnd prog w K mg mb P d ps kd es
  | [], _, _, h => emp_elim h fun _ _ hv _ hQ => by rw [List.forIn_nil]; exact wpAny_pure (Option.some.inj hv ▸ hQ _ (keeps_refl _))
  | p :: ps, _, _, h => nonE_elim h fun _ _ h => ann h fun h1 h2 => ifs_cons (evalT_snd p h1) (evalIfs_snd ps h2)
end
theorem evalE_sound (p : PE) {kd : Kd} {e : Expr} {env : Env} {O : Ads} {ρ : List Addr} {st : St} {s : Shared} {v : V} {A : Around} {Q : Value → Shared → Prop} {E : Value → Shared → Prop}
    (RM : Room d A) (EO : EnvOk env kd) (hm : matchE p kd e = true) (hv : evalE P p st = some v) (R : Rep K mg mb env O ρ st s) (hQ : Out O ρ s v Q) : wpAny (model prog w) A (eval e env) Q E s := evalE_snd PK p hm RM EO hv R hQ
theorem evalEs_sound (ps : List PE) {kd : Kd} {es : List Expr} {env : Env} {O : Ads} {ρ : List Addr} {st : St} {s : Shared} {vs : List V} {A : Around} {Q : List Value → Shared → Prop} {E : Value → Shared → Prop} {pos : Pos}
    (RM : Room d A) (EO : EnvOk env kd) (hm : matchEs ps kd es = true) (hv : evalEs P ps st = some vs) (R : Rep K mg mb env O ρ st s) (hQ : OutS O ρ s vs Q) : wpAny (model prog w) A (spliced (backTo pos (starEach es env))) Q E s := evalEs_snd PK ps hm RM EO hv R hQ
theorem evalT_sound (p : PE) {kd : Kd} {e : Expr} {env : Env} {O : Ads} {ρ : List Addr} {st : St} {s : Shared} {b : Bool} {A : Around} {Q : Bool → Shared → Prop} {E : Value → Shared → Prop}
    (RM : Room d A) (EO : EnvOk env kd) (hm : matchE p kd e = true) (hv : evalT P p st = some b) (R : Rep K mg mb env O ρ st s) (hQ : OutB s b Q) : wpAny (model prog w) A (PySem.isTrue e env (eval e env)) Q E s := evalT_snd PK p hm RM EO hv R hQ
end
end
section
open PySem PySem.Spec PySem.Calls PySem.W PyProof.Rows

/-- statements -/
inductive PS where
  | asg (x : String) (e : PE)
  | asgL (x : String) (es : List PE)
  | aug (o : BO) (x : String) (e : PE)
  | app (x : String) (e : PE)
  | setI (x : String) (i e : PE)
  | ite (t : PE) (a b : List PS)
  | for' (x : String) (it : PE) (body els : List PS)
  | while' (t : PE) (body : List PS)
  | ret (e : PE)
  | brk
  | newH (x l : String)
  | addH (t : String) (a b : PE)
  | addIf (c : PE) (t : String) (a b : PE)

inductive Fl where
  | next
  | brk
  | ret (v : V)

noncomputable def onFl {α : Type} (r : Fl × St) (k : St → α) (b : St → α) (e : V → St → α) : α := match r with
  | (.next, st) => k st
  | (.brk, st) => b st
  | (.ret v, st) => e v st
noncomputable def forGo (f : V → St → Option (Fl × St)) (e : St → Option (Fl × St)) : List V → St → Option (Fl × St)
  | [], st => e st
  | v :: vs, st => (f v st).bind fun r => onFl r (forGo f e vs) (fun st => some (.next, st)) fun v st => some (.ret v, st)
noncomputable def whileGo (t : St → Option Bool) (f : St → Option (Fl × St)) : Nat → St → Option (Fl × St)
  | 0, _ => none
  | n + 1, st => (t st).bind fun c => cond c ((f st).bind fun r => onFl r (whileGo t f n) (fun st => some (.next, st)) fun v st => some (.ret v, st)) (some (.next, st))

noncomputable def retOf (st : St) (v : V) : Option V := match v with
  | .trk i => (st.tr[i]?).bind fun vs => if vs.all V.scalar = true then some (.lst vs) else none
  | _ => if v.scalar = true then some v else none
/-- what a caller gets -/
noncomputable def retV (P : Prims) (e : PE) (st : St) : Option V := match e with
  | .lst es => (evalEs P es st).bind fun vs => if vs.all V.scalar = true ∧ vs.length ≤ big then some (.lst vs) else none
  | .comp .. => (evalE P e st).bind fun v => (gLst v).bind fun vs => if vs.all V.scalar = true then some (.lst vs) else none
  | _ => (evalE P e st).bind (retOf st)

/-- add_header's strings -/
noncomputable def strOk (x : List Nat) : Bool := x.all (fun c => 32 ≤ c && c != 127) && decide (x.length ≤ 30000)
noncomputable def addV (v a b : V) (st : St) : Option St := (gHdr v).bind fun src => (gTrk src).bind fun i => (gStr a).bind fun x => (gStr b).bind fun y => (st.tr[i]?).bind fun vs =>
  if strOk x = true ∧ strOk y = true ∧ vs.length ≤ big then some { st with tr := st.tr.set i (vs ++ [.tup [.str x, .str y]]) } else none

noncomputable def fuel : Nat := 64
noncomputable def augOk : BO → Bool
  | .bor | .bxor | .shl => true
  | _ => false

mutual
noncomputable def execS (P : Prims) : PS → St → Option (Fl × St)
  | .asg x e, st => (evalE P e st).bind fun v => some (.next, st.set x v)
  | .asgL x es, st => (evalEs P es st).bind fun vs => if vs.length ≤ big then some (.next, { locs := setL st.locs x (.trk st.tr.length), tr := st.tr ++ [vs] }) else none
  | .aug o x e, st => (st.get x).bind fun v => (evalE P e st).bind fun w => int2 v w fun i j => if augOk o = true then (binV st o (.int i) (.int j)).bind fun v => some (.next, st.set x v) else none
  | .app x e, st => (st.get x).bind fun u => (gTrk u).bind fun i => (evalE P e st).bind fun v => (st.tr[i]?).bind fun vs => if vs.length ≤ big then some (.next, { st with tr := st.tr.set i (vs ++ [v]) }) else none
  | .setI x i e, st => (evalE P e st).bind fun v => (st.get x).bind fun u => (gTrk u).bind fun n => (evalE P i st).bind fun z => (gInt z).bind fun k => (st.tr[n]?).bind fun vs =>
      if 0 ≤ k ∧ k < vs.length ∧ vs.length ≤ big then some (.next, { st with tr := st.tr.set n (vs.set k.toNat v) }) else none
  | .ite t a b, st => (evalT P t st).bind fun c => cond c (execL P a st) (execL P b st)
  | .for' x it body els, st => (evalE P it st).bind fun v => if gTrk v = none then (itemsOf st v).bind fun vs => forGo (fun v st => execL P body (st.set x v)) (fun st => execL P els st) vs st else none
  | .while' t body, st => whileGo (fun st => evalT P t st) (fun st => execL P body st) fuel st
  | .ret e, st => (retV P e st).bind fun v => some (.ret v, st)
  | .brk, st => some (.brk, st)
  | .newH x l, st => (st.get l).bind fun u => (gTrk u).bind fun i => (st.tr[i]?).bind fun vs => if vs.isEmpty = true then some (.next, st.set x (.hdr (.trk i))) else none
  | .addH t a b, st => (st.get t).bind fun v => (evalE P a st).bind fun x => (evalE P b st).bind fun y => (addV v x y st).bind fun st' => some (.next, st')
  | .addIf c t a b, st => (evalT P c st).bind fun q => cond q none ((st.get t).bind fun v => (evalE P a st).bind fun x => (evalE P b st).bind fun y => (addV v x y st).bind fun st' => some (.next, st'))
noncomputable def execL (P : Prims) : List PS → St → Option (Fl × St)
  | [], st => some (.next, st)
  | p :: ps, st => (execS P p st).bind fun r => onFl r (fun st' => execL P ps st') (fun st' => some (.brk, st')) fun v st' => some (.ret v, st')
end

noncomputable def isOwn (kd : Kd) (n : Str) : Bool := match kd.lookup n with
  | some .local | some .cell => true
  | _ => false
noncomputable def notComp (e : Expr) : Bool := e.ctorIdx != 8 && (e.ctorIdx != 9 && e.ctorIdx != 10)

section
variable {M : Stmt → Prop} {s : Stmt}
noncomputable def onReturn (s : Stmt) (f : Option Expr → Bool) : Bool := if h : s.ctorIdx = 3 then Stmt.Return.elim (motive_2 := fun _ => Bool) s h fun v _ => f v else false
@[elab_as_elim] theorem onReturn_elim {f : Option Expr → Bool} (h : onReturn s f = true) (k : ∀ v p, f v = true → M (.Return v p)) : M s :=
  dit h fun hc h => Stmt.Return.elim (motive_2 := fun s => ∀ hc : s.ctorIdx = 3, Stmt.Return.elim (motive_2 := fun _ => Bool) s hc (fun v _ => f v) = true → M s) s hc (fun v p _ h => k v p h) hc h
noncomputable def onAssign (s : Stmt) (f : List Expr → Expr → Bool) : Bool := if h : s.ctorIdx = 5 then Stmt.Assign.elim (motive_2 := fun _ => Bool) s h fun ts v _ => f ts v else false
@[elab_as_elim] theorem onAssign_elim {f : List Expr → Expr → Bool} (h : onAssign s f = true) (k : ∀ ts v p, f ts v = true → M (.Assign ts v p)) : M s :=
  dit h fun hc h => Stmt.Assign.elim (motive_2 := fun s => ∀ hc : s.ctorIdx = 5, Stmt.Assign.elim (motive_2 := fun _ => Bool) s hc (fun ts v _ => f ts v) = true → M s) s hc (fun ts v p _ h => k ts v p h) hc h
noncomputable def onAugAssign (s : Stmt) (f : Expr → Operator → Expr → Bool) : Bool := if h : s.ctorIdx = 7 then Stmt.AugAssign.elim (motive_2 := fun _ => Bool) s h fun t o v _ => f t o v else false
@[elab_as_elim] theorem onAugAssign_elim {f : Expr → Operator → Expr → Bool} (h : onAugAssign s f = true) (k : ∀ t o v p, f t o v = true → M (.AugAssign t o v p)) : M s :=
  dit h fun hc h => Stmt.AugAssign.elim (motive_2 := fun s => ∀ hc : s.ctorIdx = 7, Stmt.AugAssign.elim (motive_2 := fun _ => Bool) s hc (fun t o v _ => f t o v) = true → M s) s hc (fun t o v p _ h => k t o v p h) hc h
noncomputable def onFor (s : Stmt) (f : Expr → Expr → List Stmt → List Stmt → Bool) : Bool := if h : s.ctorIdx = 9 then Stmt.For.elim (motive_2 := fun _ => Bool) s h fun t i b e _ => f t i b e else false
@[elab_as_elim] theorem onFor_elim {f : Expr → Expr → List Stmt → List Stmt → Bool} (h : onFor s f = true) (k : ∀ t i b e p, f t i b e = true → M (.For t i b e p)) : M s :=
  dit h fun hc h => Stmt.For.elim (motive_2 := fun s => ∀ hc : s.ctorIdx = 9, Stmt.For.elim (motive_2 := fun _ => Bool) s hc (fun t i b e _ => f t i b e) = true → M s) s hc (fun t i b e p _ h => k t i b e p h) hc h
noncomputable def onWhile (s : Stmt) (f : Expr → List Stmt → List Stmt → Bool) : Bool := if h : s.ctorIdx = 11 then Stmt.While.elim (motive_2 := fun _ => Bool) s h fun t b e _ => f t b e else false
@[elab_as_elim] theorem onWhile_elim {f : Expr → List Stmt → List Stmt → Bool} (h : onWhile s f = true) (k : ∀ t b e p, f t b e = true → M (.While t b e p)) : M s :=
  dit h fun hc h => Stmt.While.elim (motive_2 := fun s => ∀ hc : s.ctorIdx = 11, Stmt.While.elim (motive_2 := fun _ => Bool) s hc (fun t b e _ => f t b e) = true → M s) s hc (fun t b e p _ h => k t b e p h) hc h
noncomputable def onIf (s : Stmt) (f : Expr → List Stmt → List Stmt → Bool) : Bool := if h : s.ctorIdx = 12 then Stmt.If.elim (motive_2 := fun _ => Bool) s h fun t b e _ => f t b e else false
@[elab_as_elim] theorem onIf_elim {f : Expr → List Stmt → List Stmt → Bool} (h : onIf s f = true) (k : ∀ t b e p, f t b e = true → M (.If t b e p)) : M s :=
  dit h fun hc h => Stmt.If.elim (motive_2 := fun s => ∀ hc : s.ctorIdx = 12, Stmt.If.elim (motive_2 := fun _ => Bool) s hc (fun t b e _ => f t b e) = true → M s) s hc (fun t b e p _ h => k t b e p h) hc h
noncomputable def onExprS (s : Stmt) (f : PySem.Expr → Bool) : Bool := if h : s.ctorIdx = 24 then Stmt.Expr.elim (motive_2 := fun _ => Bool) s h fun v _ => f v else false
@[elab_as_elim] theorem onExprS_elim {f : PySem.Expr → Bool} (h : onExprS s f = true) (k : ∀ v p, f v = true → M (.Expr v p)) : M s :=
  dit h fun hc h => Stmt.Expr.elim (motive_2 := fun s => ∀ hc : s.ctorIdx = 24, Stmt.Expr.elim (motive_2 := fun _ => Bool) s hc (fun v _ => f v) = true → M s) s hc (fun v p _ h => k v p h) hc h
noncomputable def onBreak (s : Stmt) (f : Pos → Bool) : Bool := if h : s.ctorIdx = 26 then Stmt.Break.elim (motive_2 := fun _ => Bool) s h fun p => f p else false
@[elab_as_elim] theorem onBreak_elim {f : Pos → Bool} (h : onBreak s f = true) (k : ∀ p, f p = true → M (.Break p)) : M s :=
  dit h fun hc h => Stmt.Break.elim (motive_2 := fun s => ∀ hc : s.ctorIdx = 26, Stmt.Break.elim (motive_2 := fun _ => Bool) s hc (fun p => f p) = true → M s) s hc (fun p _ h => k p h) hc h
/-- one name is laid -/
noncomputable def onAsgN (s : Stmt) (f : Str → Expr → Bool) : Bool := onAssign s fun ts v => one ts fun t => onName t fun n => f n v
@[elab_as_elim] theorem onAsgN_elim {f : Str → Expr → Bool} (h : onAsgN s f = true) (k : ∀ n q v p, f n v = true → M (.Assign [.Name n q] v p)) : M s :=
  onAssign_elim h fun ts v p h => one_elim (M := fun ts => M (.Assign ts v p)) h fun t h => onName_elim (M := fun t => M (.Assign [t] v p)) h fun n q h => k n q v p h
/-- a method of a name -/
noncomputable def onMeth (e : Expr) (x : String) (m : Str) (kd : Kd) (f : Expr → Expr → Bool) : Bool := onCallA e fun o nm as => two as fun a b => onName o fun n => n == Str.ofString x && (nm == m && (isOwn kd n && (okName x && f a b)))
@[elab_as_elim] theorem onMeth_elim {N : Expr → Prop} {e : Expr} {x : String} {m : Str} {kd : Kd} {f : Expr → Expr → Bool} (h : onMeth e x m kd f = true)
    (k : ∀ r q a b p, q.endLine = p.line → isOwn kd (Str.ofString x) = true → okName x = true → f a b = true → N (.Call (.Attribute (.Name (Str.ofString x) r) m q) [a, b] [] p)) : N e := by
  refine onCallA_elim h fun o nm q as p hl h => two_elim h fun a b h => onName_elim h fun n r h => ann h fun h1 h => ann h fun h2 h => ann h fun h3 h => ann h fun h4 h5 => ?_
  cases eq_of_beq h1
  cases eq_of_beq h2
  exact k r q a b p hl h3 h4 h5
end

noncomputable def isCompE (e : PE) : Bool := decide (e.ctorIdx = 19)
mutual
noncomputable def matchS : PS → Kd → Stmt → Bool
  | .asg x e, kd, s => onAsgN s fun n v => n == Str.ofString x && (isOwn kd n && (matchE e kd v && (isCompE e || notComp v)))
  | .asgL x es, kd, s => onAsgN s fun n v => n == Str.ofString x && (isOwn kd n && onList v fun vs => matchEs es kd vs)
  | .aug o x e, kd, s => onAugAssign s fun t p v => onName t fun n => n == Str.ofString x && (isOwn kd n && (okName x && (opIs o p && matchE e kd v)))
  | .app x e, kd, s => onExprS s fun c => onCallA c fun o nm as => one as fun v => onName o fun n => n == Str.ofString x && (nm == Str.ofString "append" && (isOwn kd n && (okName x && matchE e kd v)))
  | .setI x i e, kd, s => onAssign s fun ts v => one ts fun t => onSubscript t fun o z => onName o fun n => n == Str.ofString x && (isOwn kd n && (okName x && (matchE i kd z && (matchE e kd v && notComp v))))
  | .ite t a b, kd, s => onIf s fun tv av bv => matchE t kd tv && (matchL a kd av && matchL b kd bv)
  | .for' x it body els, kd, s => onFor s fun t i b e => onName t fun n => n == Str.ofString x && (isOwn kd n && (notSet i && (matchE it kd i && (matchL body kd b && matchL els kd e))))
  | .while' t body, kd, s => onWhile s fun tv b e => e.isEmpty && (matchE t kd tv && matchL body kd b)
  | .ret e, kd, s => onReturn s fun o => onSome o fun v => matchE e kd v
  | .brk, _, s => onBreak s fun _ => true
  | .newH x l, kd, s => onAsgN s fun n v => onCallN v fun c as => one as fun a => onName a fun m => n == Str.ofString x && (c == Str.ofString "Headers" && (m == Str.ofString l && (isOwn kd n && (isGlob kd c && (isOwn kd m && okName l)))))
  | .addH t a b, kd, s => onExprS s fun c => onMeth c t (Str.ofString "add_header") kd fun x y => matchE a kd x && matchE b kd y
  | .addIf c t a b, kd, s => onIf s fun tv _ e => e.isEmpty && onBoolOp tv fun o vs => decide (o = .Or) && two vs fun cv cm => matchE c kd cv && onCompare cm fun l ps rs => decide (ps = [.IsNot]) && one rs fun r => onConstant r .none &&
      onMeth l t (Str.ofString "add_header") kd fun x y => matchE a kd x && matchE b kd y
noncomputable def matchL : List PS → Kd → List Stmt → Bool
  | [], _, l => l.isEmpty
  | p :: ps, kd, l => nonE l fun s ss => matchS p kd s && matchL ps kd ss
end
section
variable {M : Stmt → Prop} {s : Stmt} {kd : Kd}
@[elab_as_elim] theorem matchS_asg {x : String} {e : PE} (h : matchS (.asg x e) kd s = true) (k : ∀ q v p, isOwn kd (Str.ofString x) = true → matchE e kd v = true → (isCompE e || notComp v) = true → M (.Assign [.Name (Str.ofString x) q] v p)) : M s := by
  refine onAsgN_elim h fun n q v p h => ann h fun h1 h => ann h fun h2 h => ann h fun h3 h4 => ?_
  cases eq_of_beq h1
  exact k q v p h2 h3 h4
@[elab_as_elim] theorem matchS_asgL {x : String} {es : List PE} (h : matchS (.asgL x es) kd s = true) (k : ∀ q vs r p, isOwn kd (Str.ofString x) = true → matchEs es kd vs = true → M (.Assign [.Name (Str.ofString x) q] (.List vs r) p)) : M s := by
  refine onAsgN_elim h fun n q v p h => ann h fun h1 h => ann h fun h2 h3 => ?_
  cases eq_of_beq h1
  exact onList_elim (M := fun v => M (.Assign [_] v p)) h3 fun vs r h => k q vs r p h2 h
@[elab_as_elim] theorem matchS_aug {o : BO} {x : String} {e : PE} (h : matchS (.aug o x e) kd s = true) (k : ∀ q v p, isOwn kd (Str.ofString x) = true → okName x = true → matchE e kd v = true → M (.AugAssign (.Name (Str.ofString x) q) o.op v p)) : M s := by
  refine onAugAssign_elim h fun t r v p h => onName_elim h fun n q h => ann h fun h1 h => ann h fun h2 h => ann h fun h3 h => ann h fun h4 h5 => ?_
  cases eq_of_beq h1
  cases opIs_eq h4
  exact k q v p h2 h3 h5
@[elab_as_elim] theorem matchS_app {x : String} {e : PE} (h : matchS (.app x e) kd s = true) (k : ∀ r q v p' p, q.endLine = p'.line → isOwn kd (Str.ofString x) = true → okName x = true → matchE e kd v = true → M (.Expr (.Call (.Attribute (.Name (Str.ofString x) r) (Str.ofString "append") q) [v] [] p') p)) : M s := by
  refine onExprS_elim h fun c p h => onCallA_elim h fun o nm q as p' hl h => one_elim h fun v h => onName_elim h fun n r h => ann h fun h1 h => ann h fun h2 h => ann h fun h3 h => ann h fun h4 h5 => ?_
  cases eq_of_beq h1
  cases eq_of_beq h2
  exact k r q v p' p hl h3 h4 h5
@[elab_as_elim] theorem matchS_setI {x : String} {i e : PE} (h : matchS (.setI x i e) kd s = true) (k : ∀ r z q v p, isOwn kd (Str.ofString x) = true → okName x = true → matchE i kd z = true → matchE e kd v = true → notComp v = true → M (.Assign [.Subscript (.Name (Str.ofString x) r) z q] v p)) : M s := by
  refine onAssign_elim h fun ts v p h => one_elim h fun t h => onSubscript_elim h fun o z q h => onName_elim h fun n r h => ann h fun h1 h => ann h fun h2 h => ann h fun h3 h => ann h fun h4 h => ann h fun h5 h6 => ?_
  cases eq_of_beq h1
  exact k r z q v p h2 h3 h4 h5 h6
@[elab_as_elim] theorem matchS_ite {t : PE} {a b : List PS} (h : matchS (.ite t a b) kd s = true) (k : ∀ x y z p, matchE t kd x = true → matchL a kd y = true → matchL b kd z = true → M (.If x y z p)) : M s :=
  onIf_elim h fun x y z p h => ann h fun h1 h => ann h fun h2 h3 => k x y z p h1 h2 h3
@[elab_as_elim] theorem matchS_for {x : String} {it : PE} {body els : List PS} (h : matchS (.for' x it body els) kd s = true) (k : ∀ q i b e p, isOwn kd (Str.ofString x) = true → notSet i = true → matchE it kd i = true → matchL body kd b = true → matchL els kd e = true → M (.For (.Name (Str.ofString x) q) i b e p)) : M s := by
  refine onFor_elim h fun t i b e p h => onName_elim h fun n q h => ann h fun h1 h => ann h fun h2 h => ann h fun h3 h => ann h fun h4 h => ann h fun h5 h6 => ?_
  cases eq_of_beq h1
  exact k q i b e p h2 h3 h4 h5 h6
@[elab_as_elim] theorem matchS_while {t : PE} {body : List PS} (h : matchS (.while' t body) kd s = true) (k : ∀ x b p, matchE t kd x = true → matchL body kd b = true → M (.While x b [] p)) : M s :=
  onWhile_elim h fun x b e p h => ann h fun h1 h => emp_elim (M := fun e => M (.While x b e p)) h1 (ann h fun h2 h3 => k x b p h2 h3)
@[elab_as_elim] theorem matchS_ret {e : PE} (h : matchS (.ret e) kd s = true) (k : ∀ v p, matchE e kd v = true → M (.Return (some v) p)) : M s :=
  onReturn_elim h fun o p h => onSome_elim (N := fun o => M (.Return o p)) h fun v h => k v p h
@[elab_as_elim] theorem matchS_newH {x l : String} (h : matchS (.newH x l) kd s = true) (k : ∀ q r q' p' p, isOwn kd (Str.ofString x) = true → isGlob kd (Str.ofString "Headers") = true → isOwn kd (Str.ofString l) = true → okName l = true → M (.Assign [.Name (Str.ofString x) q] (.Call (.Name (Str.ofString "Headers") r) [.Name (Str.ofString l) q'] [] p') p)) : M s := by
  refine onAsgN_elim h fun n q v p h => onCallN_elim h fun c r as p' h => one_elim h fun a h => onName_elim h fun m q' h => ann h fun h1 h => ann h fun h2 h => ann h fun h3 h => ann h fun h4 h => ann h fun h5 h => ann h fun h6 h7 => ?_
  cases eq_of_beq h1
  cases eq_of_beq h2
  cases eq_of_beq h3
  exact k q r q' p' p h4 h5 h6 h7
@[elab_as_elim] theorem matchS_addH {t : String} {a b : PE} (h : matchS (.addH t a b) kd s = true) (k : ∀ r q x y p' p, q.endLine = p'.line → isOwn kd (Str.ofString t) = true → okName t = true → matchE a kd x = true → matchE b kd y = true → M (.Expr (.Call (.Attribute (.Name (Str.ofString t) r) (Str.ofString "add_header") q) [x, y] [] p') p)) : M s :=
  onExprS_elim h fun c p h => onMeth_elim (N := fun c => M (.Expr c p)) h fun r q x y p' hl h1 h2 h => ann h fun h3 h4 => k r q x y p' p hl h1 h2 h3 h4
@[elab_as_elim] theorem matchS_addIf {c : PE} {t : String} {a b : PE} (h : matchS (.addIf c t a b) kd s = true)
    (k : ∀ cv r q x y p' i u p₁ p₂ body p, matchE c kd cv = true → q.endLine = p'.line → isOwn kd (Str.ofString t) = true → okName t = true → matchE a kd x = true → matchE b kd y = true →
      M (.If (.BoolOp .Or [cv, .Compare (.Call (.Attribute (.Name (Str.ofString t) r) (Str.ofString "add_header") q) [x, y] [] p') [.IsNot] [.Constant .none i u] p₁] p₂) body [] p)) : M s := by
  refine onIf_elim h fun tv body e p h => ann h fun h0 h => emp_elim (M := fun e => M (.If tv body e p)) h0 ?_
  refine onBoolOp_elim (M := fun tv => M (.If tv body [] p)) h fun o vs p₂ h => ann h fun h1 h => two_elim h fun cv cm h => ann h fun h2' hx => ?_
  cases of_decide_eq_true h1
  refine onCompare_elim (M := fun cm => M (.If (.BoolOp .Or [cv, cm] p₂) body [] p)) hx fun l ps rs p₁ h => ann h fun h3 h => one_elim h fun r h => ann h fun h4 hy => ?_
  cases of_decide_eq_true h3
  refine onConstant_elim (M := fun r => M (.If (.BoolOp .Or [cv, .Compare l [.IsNot] [r] p₁] p₂) body [] p)) h4 fun i u => ?_
  exact onMeth_elim (N := fun l => M (.If (.BoolOp .Or [cv, .Compare l [.IsNot] [.Constant .none i u] p₁] p₂) body [] p)) hy fun r q x y p' hl h1 h2 h => ann h fun h3 h4' => k cv r q x y p' i u p₁ p₂ body p h2' hl h1 h2 h3 h4'
end
/-! forward: what a run comes to -/
theorem bs {α β : Type} {x : Option α} {f : α → Option β} {a : α} {r : Option β} (h : x = some a) (k : f a = r) : x.bind f = r := h ▸ k
section
variable {P : Prims} {st st' st1 : St} {x : String} {e a b t : PE} {o : BO} {c : CO} {v w r : V} {vs ws : List V} {ps qs : List PS} {i : Int} {q : Bool} {z : Option (Fl × St)}
theorem eval_var (h : st.get x = some v) : evalE P (.var x) st = some v := h
theorem eval_int : evalE P (.int i) st = some (.int i) := rfl
theorem eval_neg : evalE P (.neg i) st = some (.int (-i)) := rfl
theorem eval_str {y : List Nat} : evalE P (.str y) st = some (.str y) := rfl
theorem eval_bin (h1 : evalE P a st = some v) (h2 : evalE P b st = some w) (h3 : binV st o v w = some r) : evalE P (.bin o a b) st = some r := bs h1 (bs h2 h3)
theorem eval_idx (h1 : evalE P a st = some v) (h2 : evalE P b st = some w) (h3 : idxV st v w = some r) : evalE P (.idx a b) st = some r := bs h1 (bs h2 h3)
theorem eval_cmp (h1 : evalE P a st = some v) (h2 : evalE P b st = some w) (h3 : cmpV st c v w = some q) : evalE P (.cmp c a b) st = some (.bool q) := bs h1 (bs h2 (h3 ▸ rfl))
theorem eval_b1 {f : B1} (h1 : evalE P a st = some v) (h2 : b1V st f v = some r) : evalE P (.b1 f a) st = some r := bs h1 h2
theorem eval_join {sep : List Nat} (h1 : evalE P a st = some v) (h2 : joinV st sep v = some r) : evalE P (.join sep a) st = some r := bs h1 h2
theorem eval_ife (h1 : evalT P t st = some q) (h2 : cond q (evalE P a st) (evalE P b st) = some r) : evalE P (.ife t a b) st = some r := bs h1 h2
theorem eval_call {f : String} {args : List PE} (h1 : evalEs P args st = some vs) (h2 : frzs st vs = some ws) (h3 : P.fn f ws = some r) : evalE P (.call f args) st = some r := bs h1 (bs h2 h3)
theorem evs_nil : evalEs P [] st = some [] := rfl
theorem evs_cons {es : List PE} (h1 : evalE P e st = some v) (h2 : evalEs P es st = some vs) : evalEs P (e :: es) st = some (v :: vs) := bs h1 (bs h2 rfl)
theorem frzs_cons (h1 : frz st v = some w) (h2 : frzs st vs = some ws) : frzs st (v :: vs) = some (w :: ws) := bs h1 (bs h2 rfl)
theorem eval_call1 {f : String} {v' : V} (h1 : evalE P a st = some v) (h2 : frz st v = some v') (h3 : P.fn f [v'] = some r) : evalE P (.call f [a]) st = some r := eval_call (evs_cons h1 evs_nil) (frzs_cons h2 rfl) h3
theorem eval_call2 {f : String} {v' w' : V} (h1 : evalE P a st = some v) (h1' : evalE P b st = some w) (h2 : frz st v = some v') (h2' : frz st w = some w') (h3 : P.fn f [v', w'] = some r) : evalE P (.call f [a, b]) st = some r :=
  eval_call (evs_cons h1 (evs_cons h1' evs_nil)) (frzs_cons h2 (frzs_cons h2' rfl)) h3
theorem evalT_cmp (h1 : evalE P a st = some v) (h2 : evalE P b st = some w) (h3 : cmpV st c v w = some q) : evalT P (.cmp c a b) st = some q := bs h1 (bs h2 h3)
theorem evalT_bin (h1 : evalE P a st = some v) (h2 : evalE P b st = some w) (h3 : binV st o v w = some r) (h4 : truthyV st r = some q) : evalT P (.bin o a b) st = some q := bs h1 (bs h2 (bs h3 h4))
theorem evalT_and2 {q' : Bool} (h1 : evalT P a st = some q) (h2 : evalT P b st = some q') : evalT P (.and [a, b]) st = some (q && q') := bs h1 (by
  cases q
  · rfl
  · exact bs h2 (by cases q' <;> rfl))
theorem evalT_or2 {q' : Bool} (h1 : evalT P a st = some q) (h2 : evalT P b st = some q') : evalT P (.or [a, b]) st = some (q || q') := bs h1 (by
  cases q
  · exact bs h2 (by cases q' <;> rfl)
  · rfl)
theorem evalT_chain {d : PE} {j k : Int} (h1 : evalE P a st = some (.int i)) (h2 : evalE P b st = some (.int j)) (h3 : evalE P d st = some (.int k)) : evalT P (.chain a b d) st = some (decide (i < j) && decide (j < k)) := bs h1 (bs h2 (by
  show cond (decide (i < j)) _ _ = _
  cases decide (i < j)
  · rfl
  · exact bs h3 rfl))
theorem exec_asg (h : evalE P e st = some v) : execS P (.asg x e) st = some (.next, st.set x v) := bs h rfl
theorem exec_aug {j : Int} (h1 : st.get x = some (.int i)) (h2 : evalE P e st = some (.int j)) (h3 : augOk o = true) (h4 : binV st o (.int i) (.int j) = some v) : execS P (.aug o x e) st = some (.next, st.set x v) := bs h1 (bs h2 ((if_pos h3).trans (bs h4 rfl)))
theorem exec_ret (h : retV P e st = some v) : execS P (.ret e) st = some (.ret v, st) := bs h rfl
theorem exec_app {n : Nat} (h1 : st.get x = some (.trk n)) (h2 : evalE P e st = some v) (h3 : st.tr[n]? = some vs) (h4 : vs.length ≤ big) : execS P (.app x e) st = some (.next, { st with tr := st.tr.set n (vs ++ [v]) }) := bs h1 (bs rfl (bs h2 (bs h3 (if_pos h4))))
theorem execL_nil : execL P [] st = some (.next, st) := rfl
theorem execL_cons {p : PS} (h : execS P p st = some (.next, st1)) (k : execL P ps st1 = z) : execL P (p :: ps) st = z := bs h k
theorem execL_ret (h : retV P e st = some v) : execL P (.ret e :: ps) st = some (.ret v, st) := bs (exec_ret h) rfl
theorem execL_asg (h : evalE P e st = some v) : execL P (.asg x e :: ps) st = execL P ps (st.set x v) := bs (exec_asg h) rfl
theorem execL_ite {cs : List PS} (h : evalT P t st = some q) : execL P (.ite t ps qs :: cs) st = (cond q (execL P ps st) (execL P qs st)).bind fun r => onFl r (fun st' => execL P cs st') (fun st' => some (.brk, st')) fun v st' => some (.ret v, st') := by
  show ((evalT P t st).bind _).bind _ = _
  rw [h]; rfl
theorem execL_skip (h : evalT P t st = some false) : execL P (.ite t ps [] :: qs) st = execL P qs st := (execL_ite h).trans rfl
theorem execL_then (h : evalT P t st = some true) (k : execL P ps st = some (.next, st1)) : execL P (.ite t ps [] :: qs) st = execL P qs st1 := (execL_ite h).trans (bs k rfl)
theorem execL_thenR (h : evalT P t st = some true) (k : execL P ps st = some (.ret v, st1)) : execL P (.ite t ps [] :: qs) st = some (.ret v, st1) := (execL_ite h).trans (bs k rfl)
theorem execL_app {n : Nat} (h1 : st.get x = some (.trk n)) (h2 : evalE P e st = some v) (h3 : st.tr[n]? = some vs) (h4 : vs.length ≤ big) : execL P (.app x e :: ps) st = execL P ps { st with tr := st.tr.set n (vs ++ [v]) } := bs (exec_app h1 h2 h3 h4) rfl
theorem execL_asgL {es : List PE} (h1 : evalEs P es st = some vs) (h2 : vs.length ≤ big) : execL P (.asgL x es :: ps) st = execL P ps { locs := setL st.locs x (.trk st.tr.length), tr := st.tr ++ [vs] } := bs (show execS P (.asgL x es) st = _ from bs h1 (if_pos h2)) rfl
theorem execL_for {it : PE} {body els : List PS} (h : evalE P it st = some v) (hnt : gTrk v = none) (hi : itemsOf st v = some vs) (hf : forGo (fun v st => execL P body (st.set x v)) (fun st => execL P els st) vs st = some (.next, st')) : execL P (.for' x it body els :: ps) st = execL P ps st' :=
  bs (show execS P (.for' x it body els) st = _ from bs h ((if_pos hnt).trans (bs hi hf))) rfl
theorem ret_var (h : st.get x = some v) (hv : v.scalar = true) : retV P (.var x) st = some v := bs h (by cases v <;> first | rfl | cases hv)
end
end
section
open PySem PySem.Spec PySem.Calls PySem.W PyProof.Rows

/-- what the frame itself may turn -/
noncomputable def Own (env : Env) (ρ : List Addr) : Ads := fun a => a = env.locals ∨ a ∈ ρ ∨ ∃ x, env.cells.lookup x = some a

structure SRep (h0 : Heap) (K : Frag) (mg mb : Str → Option Value) (env : Env) (O : Ads) (ρ : List Addr) (st : St) (s : Shared) : Prop where
  rep : Rep K mg mb env O ρ st s
  g0 : Gr K mg mb h0
  k0 : ∀ b o, h0.get? b = some o → s.heap.get? b = some o
  o0 : ∀ a, O a → h0.get? a = none
  nd : ρ.Nodup

structure Mv (env : Env) (O : Ads) (ρ : List Addr) (s : Shared) (O' : Ads) (ρ' : List Addr) (s' : Shared) : Prop where
  sh : ∃ h' t', s' = { s with heap := h', toks := t' }
  keep : ∀ b o, ¬ Own env ρ b → s.heap.get? b = some o → s'.heap.get? b = some o
  alive : ∀ b, Alloc s.heap b → Alloc s'.heap b
  up : ∀ a, O a → O' a
  down : ∀ a, O' a → O a ∨ s.heap.get? a = none
  ext : ∃ e, ρ' = ρ ++ e ∧ ∀ a ∈ e, s.heap.get? a = none

structure FEnv (env : Env) (kd : Kd) : Prop extends EnvOk env kd where
  inj : ∀ x y c, env.cells.lookup x = some c → env.cells.lookup y = some c → x = y
  fr : env.frame = some env.locals

section
variable {h0 : Heap} {K : Frag} {mg mb : Str → Option Value} {env : Env} {kd : Kd} {O O' O'' : Ads} {ρ ρ' ρ'' : List Addr} {st : St} {s s' s'' : Shared}

theorem Rep.ownR (R : Rep K mg mb env O ρ st s) {a : Addr} (h : Own env ρ a) : O a := by
  rcases h with rfl | h | ⟨x, h⟩
  · exact R.own
  · exact R.ownρ a h
  · exact R.ownc x a h

theorem Alloc.none {h : Heap} {a : Addr} (x : Alloc h a) (e : h.get? a = none) : False := by unfold Alloc at x; rw [e] at x; cases x
theorem Mv.refl : Mv env O ρ s O ρ s := ⟨⟨s.heap, s.toks, rfl⟩, fun _ _ _ e => e, fun _ e => e, fun _ e => e, fun _ e => .inl e, [], by simp, by simp⟩
theorem Mv.of_keeps (k : Keeps s s') : Mv env O ρ s O ρ s' := by
  obtain ⟨h, t, rfl, k⟩ := k
  refine ⟨⟨h, t, rfl⟩, fun b o _ e => k b o e, fun b e => ?_, fun _ e => e, fun _ e => .inl e, [], by simp, by simp⟩
  obtain ⟨o, ho⟩ := Option.isSome_iff_exists.mp e
  unfold Alloc; rw [k b o ho]; rfl
theorem Mv.trans (a : Mv env O ρ s O' ρ' s') (b : Mv env O' ρ' s' O'' ρ'' s'') : Mv env O ρ s O'' ρ'' s'' := by
  obtain ⟨h, t, e⟩ := a.sh
  obtain ⟨h', t', e'⟩ := b.sh
  have back : ∀ x, s'.heap.get? x = none → s.heap.get? x = none := fun x hx => by
    cases e : s.heap.get? x with
    | none => rfl
    | some o =>
      have := a.alive x (by unfold Alloc; rw [e]; rfl)
      exact (this.none hx).elim
  obtain ⟨e1, rfl, h1⟩ := a.ext
  obtain ⟨e2, rfl, h2⟩ := b.ext
  refine ⟨⟨h', t', by rw [e', e]⟩, fun x o hn hx => ?_, fun x hx => b.alive x (a.alive x hx), fun x hx => b.up x (a.up x hx), fun x hx => ?_, e1 ++ e2, by simp, fun x hx => ?_⟩
  · refine b.keep x o (fun hO => hn ?_) (a.keep x o hn hx)
    rcases hO with hO | hO | hO
    · exact .inl hO
    · rcases List.mem_append.mp hO with hO | hO
      · exact .inr (.inl hO)
      · rw [h1 x hO] at hx; cases hx
    · exact .inr (.inr hO)
  · rcases b.down x hx with h | h
    · exact a.down x h
    · exact .inr (back x h)
  · rcases List.mem_append.mp hx with h | h
    · exact h1 x h
    · exact back x (h2 x h)

theorem SRep.keeps (R : SRep h0 K mg mb env O ρ st s) (k : Keeps s s') : SRep h0 K mg mb env O ρ st s' :=
  ⟨R.rep.keeps k, R.g0, fun b o e => keeps_heap k b o (R.k0 b o e), R.o0, R.nd⟩

/-- a value outlives a turn of what the frame owns -/
theorem VR.mv {v : V} {x : Value} (R : Rep K mg mb env O ρ st s) (M : Mv env O ρ s O' ρ' s') (H : VR O ρ s.heap v x) : VR O' ρ' s'.heap v x := by
  refine VR.mono (fun a ha hO hO' => ?_) (fun b o hO e => M.keep b o (fun h => hO (R.ownR h)) e) (fun i a e => ?_) v x H
  · rcases M.down a hO' with h | h
    · exact hO h
    · rw [h] at ha; cases ha
  · obtain ⟨e', rfl, _⟩ := M.ext
    exact (List.getElem?_append_left (List.getElem?_eq_some_iff.mp e).1).trans e
theorem VRs.mv {v : List V} {x : List Value} (R : Rep K mg mb env O ρ st s) (M : Mv env O ρ s O' ρ' s') (H : VRs O ρ s.heap v x) : VRs O' ρ' s'.heap v x := by
  refine VRs.mono (fun a ha hO hO' => ?_) (fun b o hO e => M.keep b o (fun h => hO (R.ownR h)) e) (fun i a e => ?_) v x H
  · rcases M.down a hO' with h | h
    · exact hO h
    · rw [h] at ha; cases ha
  · obtain ⟨e', rfl, _⟩ := M.ext
    exact (List.getElem?_append_left (List.getElem?_eq_some_iff.mp e).1).trans e

/-- the top outlives it too -/
theorem SRep.gr' (R : SRep h0 K mg mb env O ρ st s) (M : Mv env O ρ s O' ρ' s') : Gr K mg mb s'.heap ∧ ∀ b o, h0.get? b = some o → s'.heap.get? b = some o := by
  have : ∀ b o, h0.get? b = some o → s'.heap.get? b = some o := fun b o e => M.keep b o (fun h => by have := R.o0 b (R.rep.ownR h); rw [this] at e; cases e) (R.k0 b o e)
  exact ⟨R.g0.keeps this, this⟩

/-- a change at one owned address -/
theorem Mv.at {a : Addr} {h' : Heap} {t : Nat} (ha : Own env ρ a) (hal : Alloc h' a) (hs : Heap.SameBut a s.heap h') : Mv env O ρ s O ρ { s with heap := h', toks := t } := by
  refine ⟨⟨h', t, rfl⟩, fun b o hn e => ?_, fun b hb => ?_, fun _ e => e, fun _ e => .inl e, [], by simp, by simp⟩
  · exact (hs.2 b fun h => hn (h ▸ ha)).trans e
  · by_cases h : b = a
    · rw [h]; exact hal
    · unfold Alloc; rw [show h'.get? b = s.heap.get? b from hs.2 b h]; exact hb

theorem ns_cell {h : Heap} {a : Addr} {m} {v} (x : h.Ns a m) (y : h.IsCell a v) : False := by
  obtain ⟨o, es, ep, h1, h2, _⟩ := x
  obtain ⟨o', h3, h4⟩ := y
  rw [h1] at h3; cases h3; rw [h2] at h4; cases h4
theorem ns_list {h : Heap} {a : Addr} {m} {its} (x : h.Ns a m) (y : h.PlainList a its) : False := by
  obtain ⟨o, es, ep, h1, h2, _⟩ := x
  obtain ⟨n, h3⟩ := y
  rw [h1] at h3; cases h3; cases h2
theorem cell_list {h : Heap} {a : Addr} {v} {its} (x : h.IsCell a v) (y : h.PlainList a its) : False := by
  obtain ⟨o, h1, h2⟩ := x
  obtain ⟨n, h3⟩ := y
  rw [h1] at h3; cases h3; cases h2
theorem PlainList.sameBut {h h' : Heap} {a b : Addr} {its} (x : h.PlainList a its) (hs : Heap.SameBut b h h') (hab : a ≠ b) : h'.PlainList a its :=
  x.at fun _ e => (hs.2 a hab).trans e

theorem isOwn_cases {n : Str} (h : isOwn kd n = true) : kd.lookup n = some .local ∨ kd.lookup n = some .cell := by
  unfold isOwn at h
  generalize kd.lookup n = o at h ⊢
  cases o with
  | none => exact nob h
  | some k => cases k <;> first | exact nob h | exact .inl rfl | exact .inr rfl
theorem isOwn_isVar {n : Str} (h : isOwn kd n = true) : isVar kd n = true := by
  unfold isVar
  rcases isOwn_cases h with e | e <;> rw [e]
theorem FEnv.kk (EO : FEnv env kd) (n : Str) : env.kindOf n = kd.lookup n := congrArg (·.lookup n) EO.names

theorem getL_set (st : St) (x : String) (v : V) (y : String) : (st.set x v).get y = if y = x then some v else st.get y := getL_setL _ _ _ _

section
variable {prog : Program} {w : World} {A : Around} {E : Value → Shared → Prop}

theorem store_sound (EO : FEnv env kd) (R : SRep h0 K mg mb env O ρ st s) {x : String} {v : V} {val : Value} {Q : Shared → Prop} (hown : isOwn kd (Str.ofString x) = true)
    (hv : VR O ρ s.heap v val) (hQ : ∀ s', Mv env O ρ s O ρ s' → SRep h0 K mg mb env O ρ (st.set x v) s' → Q s') :
    wpAny (model prog w) A (storeName env (Str.ofString x) val) (fun _ => Q) E s := by
  have hp : (env.scope.kind == .class || (env.scope.kind == .module && env.locals != env.globals)) = false := by rw [EO.kind]; rfl
  have main : ∀ (a : Addr) (h' : Heap) (t : Nat), Own env ρ a → Alloc h' a → Heap.SameBut a s.heap h' →
      (∃ m, h'.Ns env.locals m ∧ ∀ (y : String) u, y ≠ ".0" → env.kindOf (Str.ofString y) = some .local → (st.set x v).get y = some u → ∃ val, m (Str.ofString y) = some val ∧ VR O ρ h' u val) →
      (∀ y : String, (env.kindOf (Str.ofString y) = some .cell ∨ env.kindOf (Str.ofString y) = some .free) →
        ∃ c v₀, env.cells.lookup (Str.ofString y) = some c ∧ h'.IsCell c v₀ ∧ ∀ u, (st.set x v).get y = some u → ∃ val, v₀ = some val ∧ VR O ρ h' u val) →
      (∀ b ∈ ρ, b ≠ a) → Q { s with heap := h', toks := t } := by
    intro a h' t ha hal hs h1 h2 h3
    have M : Mv env O ρ s O ρ { s with heap := h', toks := t } := Mv.at ha hal hs
    have G := R.gr' M
    refine hQ _ M ⟨⟨G.1, fun b hb => M.alive b (R.rep.al b hb), R.rep.own, R.rep.ownρ, R.rep.ownc, h1, h2, R.rep.len, fun i b vs e1 e2 => ?_⟩, R.g0, G.2, R.o0, R.nd⟩
    obtain ⟨its, e3, e4⟩ := R.rep.trk i b vs e1 e2
    exact ⟨its, PlainList.sameBut e3 hs (h3 b (List.mem_of_getElem? e1)), VRs.mv R.rep M e4⟩
  rcases isOwn_cases hown with hl | hl
  · obtain ⟨m, hn, hm⟩ := R.rep.ns
    refine wpAny_storeName_local ((EO.kk _).trans hl) hn (fun h' hn' hs' => ?_) hp
    have hal : Alloc h' env.locals := by obtain ⟨o, _, _, e, _⟩ := hn'; unfold Alloc; rw [e]; rfl
    have M : Mv env O ρ s O ρ { s with heap := h', toks := s.toks + 1 } := Mv.at (.inl rfl) hal hs'
    refine main env.locals h' _ (.inl rfl) hal hs' ⟨_, hn', fun y u hy hk hu => ?_⟩ (fun y hy => ?_) fun b hb e => ?_
    · rw [getL_set] at hu
      by_cases hxy : y = x
      · subst hxy
        rw [if_pos rfl] at hu; cases hu
        exact ⟨val, by simp, VR.mv R.rep M hv⟩
      · rw [if_neg hxy] at hu
        obtain ⟨val', e1, e2⟩ := hm y u hy hk hu
        refine ⟨val', ?_, VR.mv R.rep M e2⟩
        rw [if_neg fun e => hxy (ofString_inj e)]; exact e1
    · obtain ⟨c, v₀, e1, e2, e3⟩ := R.rep.cl y hy
      refine ⟨c, v₀, e1, e2.sameBut hs' (fun e => ns_cell hn (e ▸ e2)), fun u hu => ?_⟩
      rw [getL_set] at hu
      by_cases hxy : y = x
      · subst hxy
        rw [EO.kk, hl] at hy
        rcases hy with hy | hy <;> cases hy
      · rw [if_neg hxy] at hu
        obtain ⟨val', e4, e5⟩ := e3 u hu
        exact ⟨val', e4, VR.mv R.rep M e5⟩
    · subst e
      obtain ⟨i, hi, hib⟩ := List.mem_iff_getElem.mp hb
      have h1 : ρ[i]? = some env.locals := by rw [List.getElem?_eq_getElem hi, hib]
      have h2 : i < st.tr.length := by rw [← R.rep.len]; exact hi
      obtain ⟨its, e3, _⟩ := R.rep.trk i _ _ h1 (List.getElem?_eq_getElem h2)
      exact ns_list hn e3
  · obtain ⟨c, v₀, e1, e2, e3⟩ := R.rep.cl x (.inl ((EO.kk _).trans hl))
    refine wpAny_storeName_cell EO.kind ((EO.kk _).trans hl) e1 e2 fun h' hc' hs' => ?_
    have hal : Alloc h' c := by obtain ⟨o, e, _⟩ := hc'; unfold Alloc; rw [e]; rfl
    have ho : Own env ρ c := .inr (.inr ⟨_, e1⟩)
    have M : Mv env O ρ s O ρ { s with heap := h', toks := s.toks } := Mv.at ho hal hs'
    refine main c h' s.toks ho hal hs' ?_ (fun y hy => ?_) fun b hb e => ?_
    · obtain ⟨m, hn, hm⟩ := R.rep.ns
      refine ⟨m, hn.sameBut hs' fun e => ns_cell hn (e ▸ e2), fun y u hy hk hu => ?_⟩
      rw [getL_set] at hu
      by_cases hxy : y = x
      · subst hxy; rw [EO.kk, hl] at hk; cases hk
      · rw [if_neg hxy] at hu
        obtain ⟨val', e4, e5⟩ := hm y u hy hk hu
        exact ⟨val', e4, VR.mv R.rep M e5⟩
    · by_cases hxy : y = x
      · subst hxy
        refine ⟨c, _, e1, hc', fun u hu => ?_⟩
        rw [getL_set, if_pos rfl] at hu; cases hu
        exact ⟨val, rfl, VR.mv R.rep M hv⟩
      · obtain ⟨c', v₁, e4, e5, e6⟩ := R.rep.cl y hy
        refine ⟨c', v₁, e4, e5.sameBut hs' fun e => hxy (ofString_inj (EO.inj _ _ c (e ▸ e4) e1)), fun u hu => ?_⟩
        rw [getL_set, if_neg hxy] at hu
        obtain ⟨val', e7, e8⟩ := e6 u hu
        exact ⟨val', e7, VR.mv R.rep M e8⟩
    · subst e
      obtain ⟨i, hi, hib⟩ := List.mem_iff_getElem.mp hb
      have h1 : ρ[i]? = some b := by rw [List.getElem?_eq_getElem hi, hib]
      have h2 : i < st.tr.length := by rw [← R.rep.len]; exact hi
      obtain ⟨its, e3, _⟩ := R.rep.trk i _ _ h1 (List.getElem?_eq_getElem h2)
      exact cell_list e2 e3
end

/-- a tracked list turns -/
theorem SRep.turn (R : SRep h0 K mg mb env O ρ st s) {i : Nat} {a : Addr} {its : Array Value} {vs : List V} {s' : Shared} (M : Mv env O ρ s O ρ s') (hs : ∀ b, b ≠ a → ∀ o, s.heap.get? b = some o → s'.heap.get? b = some o)
    (ha : ρ[i]? = some a) (hp : s'.heap.PlainList a its) (hv : VRs O ρ s'.heap vs its.toList) : SRep h0 K mg mb env O ρ { st with tr := st.tr.set i vs } s' := by
  have G := R.gr' M
  have hi : i < st.tr.length := by rw [← R.rep.len]; exact (List.getElem?_eq_some_iff.mp ha).1
  obtain ⟨its0, p0, _⟩ := R.rep.trk i a _ ha (List.getElem?_eq_getElem hi)
  refine ⟨⟨G.1, fun b hb => M.alive b (R.rep.al b hb), R.rep.own, R.rep.ownρ, R.rep.ownc, ?_, fun x hx => ?_, by simpa using R.rep.len, fun j b us e1 e2 => ?_⟩, R.g0, G.2, R.o0, R.nd⟩
  · obtain ⟨m, hn, hm⟩ := R.rep.ns
    refine ⟨m, hn.at' (hs _ fun e => ns_list hn (e ▸ p0)), fun y u hy hk hu => ?_⟩
    obtain ⟨val, e1, e2⟩ := hm y u hy hk hu
    exact ⟨val, e1, VR.mv R.rep M e2⟩
  · obtain ⟨c, v₀, e1, e2, e3⟩ := R.rep.cl x hx
    refine ⟨c, v₀, e1, ?_, fun u hu => ?_⟩
    · have hne : c ≠ a := fun e => cell_list e2 (e ▸ p0)
      obtain ⟨o, ho, hd⟩ := e2
      exact ⟨o, hs c hne o ho, hd⟩
    · obtain ⟨val, e4, e5⟩ := e3 u hu
      exact ⟨val, e4, VR.mv R.rep M e5⟩
  · dsimp only at e2
    by_cases hij : i = j
    · subst hij
      rw [ha] at e1; cases e1
      rw [List.getElem?_set_self hi] at e2; cases e2
      exact ⟨its, hp, hv⟩
    · rw [List.getElem?_set_ne hij] at e2
      obtain ⟨its', e3, e4⟩ := R.rep.trk j b us e1 e2
      refine ⟨its', e3.at (hs b fun e => hij ?_), VRs.mv R.rep M e4⟩
      subst e
      have h1 := List.getElem?_eq_some_iff.mp ha
      have h2 := List.getElem?_eq_some_iff.mp e1
      have pw := List.pairwise_iff_getElem.mp R.nd
      rcases Nat.lt_trichotomy i j with h | h | h
      · exact absurd (h1.2.trans h2.2.symm) (pw i j h1.1 h2.1 h)
      · exact h
      · exact absurd (h2.2.trans h1.2.symm) (pw j i h2.1 h1.1 h)

/-- a fresh list is taken into the frame's own -/
theorem SRep.grow (R : SRep h0 K mg mb env O ρ st s) {a : Addr} {its : Array Value} {vs : List V} {s' : Shared} (k : Keeps s s') (ha : s.heap.get? a = none)
    (hp : s'.heap.PlainList a its) (hv : VRs O ρ s.heap vs its.toList) :
    Mv env O ρ s (fun b => O b ∨ b = a) (ρ ++ [a]) s' ∧ SRep h0 K mg mb env (fun b => O b ∨ b = a) (ρ ++ [a]) { st with tr := st.tr ++ [vs] } s' := by
  have M : Mv env O ρ s (fun b => O b ∨ b = a) (ρ ++ [a]) s' := by
    obtain ⟨h, t, rfl, k⟩ := k
    refine ⟨⟨h, t, rfl⟩, fun b o _ e => k b o e, fun b e => ?_, fun _ e => .inl e, fun b e => ?_, [a], rfl, fun b hb => ?_⟩
    · obtain ⟨o, ho⟩ := Option.isSome_iff_exists.mp e
      unfold Alloc; rw [k b o ho]; rfl
    · rcases e with e | e
      · exact .inl e
      · exact .inr (e ▸ ha)
    · rw [List.mem_singleton.mp hb]; exact ha
  have G := R.gr' M
  refine ⟨M, ⟨G.1, fun b hb => ?_, .inl R.rep.own, fun b hb => ?_, fun x c h => .inl (R.rep.ownc x c h), ?_, fun x hx => ?_, by simp [R.rep.len], fun j b us e1 e2 => ?_⟩, R.g0, G.2, fun b hb => ?_, ?_⟩
  · rcases hb with hb | rfl
    · exact M.alive b (R.rep.al b hb)
    · obtain ⟨n, e⟩ := hp; unfold Alloc; rw [e]; rfl
  · rcases List.mem_append.mp hb with h | h
    · exact .inl (R.rep.ownρ b h)
    · exact .inr (List.mem_singleton.mp h)
  · obtain ⟨m, hn, hm⟩ := R.rep.ns
    refine ⟨m, hn.keeps (keeps_heap k), fun y u hy hk hu => ?_⟩
    obtain ⟨val, e1, e2⟩ := hm y u hy hk hu
    exact ⟨val, e1, VR.mv R.rep M e2⟩
  · obtain ⟨c, v₀, e1, e2, e3⟩ := R.rep.cl x hx
    refine ⟨c, v₀, e1, e2.keeps (keeps_heap k), fun u hu => ?_⟩
    obtain ⟨val, e4, e5⟩ := e3 u hu
    exact ⟨val, e4, VR.mv R.rep M e5⟩
  · dsimp only at e2
    by_cases hj : j < ρ.length
    · rw [List.getElem?_append_left hj] at e1
      rw [List.getElem?_append_left (by rw [← R.rep.len]; exact hj)] at e2
      obtain ⟨its', e3, e4⟩ := R.rep.trk j b us e1 e2
      exact ⟨its', e3.at fun o e => keeps_heap k _ _ e, VRs.mv R.rep M e4⟩
    · have hj' : j = ρ.length := by
        have := (List.getElem?_eq_some_iff.mp e1).1
        simp at this; omega
      subst hj'
      rw [List.getElem?_append_right (Nat.le_refl _)] at e1
      rw [R.rep.len, List.getElem?_append_right (Nat.le_refl _)] at e2
      simp at e1 e2
      subst e1 e2
      exact ⟨its, hp, VRs.mv R.rep M hv⟩
  · rcases hb with hb | rfl
    · exact R.o0 b hb
    · cases e : h0.get? b with
      | none => rfl
      | some o => rw [R.k0 b o e] at ha; cases ha
  · refine List.nodup_append.mpr ⟨R.nd, by simp, fun x hx y hy e => ?_⟩
    rw [List.mem_singleton.mp hy] at e
    subst e
    exact (R.rep.al _ (R.rep.ownρ _ hx)).none ha
end
end
section
open PySem PySem.Spec PySem.Calls PySem.W PyProof.Rows

section
variable {prog : Program} {w : World} {A : Around} {E : Value → Shared → Prop} {s : Shared}
theorem setItem_plain {l : Addr} {items : Array Value} {k : Int} {t : Tok} {v : Value} {Q : Unit → Shared → Prop} (hl : s.heap.PlainList l items)
    (h0 : 0 ≤ k) (hfit : k < 2 ^ 63) (hn : k < items.size)
    (hQ : ∀ h', h'.PlainList l (items.setIfInBounds k.toNat v) → Heap.SameBut l s.heap h' → Q () { s with heap := h' }) :
    wpAny (model prog w) A (setItem (.ref l) (.int k t) v) Q E s := by
  have hil := hl.isList
  obtain ⟨n, ho⟩ := hl
  unfold setItem
  try with_reducible refine wpAny_holding ?_
  first | refine wpAny_bind (wpAny_pure ?_) | skip
  refine wpAny_bind (wpAny_sequenceKey hil.typeIs (by decide) ?_)
  refine wpAny_bind (wpAny_callSpecial?_slot (name := Str.ofString "__setitem__") hil.typeIs slot_list_setitem
    (wpAny_call_entry slot_list_setitem hil.typeIs entry_list_setitem ?_ (args_list_setitem _ _ _)))
  show wpAny _ _ (Builtin.List.listSubscript? (.int k t) >>= _) _ _ s
  refine wpAny_bind (wpAny_listSubscript_int (fitsIndex_of h0 hfit) ?_)
  clear hfit
  obtain ⟨j, rfl⟩ := Int.eq_ofNat_of_zero_le h0
  have hj : j < items.size := by omega
  show wpAny _ _ ((seqItemAt l j >>= fun r => pure (r.map (j, ·))) >>= _) _ _ s
  refine wpAny_bind (wpAny_bind (wpAny_seqItemAt ho rfl (wpAny_pure ?_)))
  rw [Array.getElem?_eq_getElem hj]
  show wpAny _ _ (setSeqItemAt l j v >>= _) _ _ s
  have hfin : (s.heap.update l (Obj.mapSeq (·.setIfInBounds j v))).PlainList l (items.setIfInBounds (j : Int).toNat v) := by
    have e : ∃ n', Obj.mapSeq (·.setIfInBounds j v) { cls := .type "list", data := .seq items n } = { cls := .type "list", data := .seq (items.setIfInBounds j v) n' } := ⟨_, rfl⟩
    obtain ⟨n', e⟩ := e
    refine ⟨n', ?_⟩
    rw [Heap.get?_update_self _ ho (by rw [e]; rfl), e]
    rfl
  refine wpAny_bind (wpAny_setSeqItemAt ho rfl ?_)
  first
    | exact wpAny_bind (wpAny_pure (wpAny_pure ⟨.none, rfl, wpAny_pure (hQ _ hfin (Heap.SameBut.update ..))⟩))
    | exact wpAny_pure ⟨.none, rfl, wpAny_pure (hQ _ hfin (Heap.SameBut.update ..))⟩
end

/-- what the class and add_header do -/
structure HdrOk (prog : Program) (w : World) (K : Frag) (mg mb : Str → Option Value) (d : Nat) : Prop where
  new : nsIn K mainGlobals (Str.ofString "Headers") = some (some (.ref hdrCls)) ∧
    ∀ (A : Around) (s : Shared) (l : Addr) (es : Sem Value) (pos : Pos) (Q : Value → Shared → Prop) (E : Value → Shared → Prop), Room d A → Gr K mg mb s.heap → s.heap.PlainList l #[] →
      (∀ (Q' : Value → Shared → Prop), Q' (.ref l) s → wpAny (model prog w) A es Q' E s) →
      (∀ s' a d', Keeps s s' → s.heap.get? a = none → s.heap.get? d' = none → HdrAt s'.heap a d' (.ref l) → Q (.ref a) s') → wpAny (model prog w) A (callWith pos (.ref hdrCls) [] [(false, es)] []) Q E s
  add : ∃ f, FnAt K f ∧ MethAt' prog w K mg mb "add_header" f ∧
    ∀ (A : Around) (s : Shared) (a d' l : Addr) (its : Array Value) (x y : List Nat) (t u : Tok) (Q : Value → Shared → Prop) (E : Value → Shared → Prop), Room d A → Gr K mg mb s.heap → HdrAt s.heap a d' (.ref l) → s.heap.PlainList l its →
      strOk x = true → strOk y = true → its.size ≤ big → (∃ h0, Gr K mg mb h0 ∧ h0.get? l = none ∧ ∀ b o, h0.get? b = some o → s.heap.get? b = some o) →
      (∀ s' tp, (∃ h' t', s' = { s with heap := h', toks := t' }) → (∀ b, b ≠ l → ∀ o, s.heap.get? b = some o → s'.heap.get? b = some o) → s.heap.get? tp = none → (∃ t' u', PlainTup s'.heap tp #[.str ⟨x.toArray⟩ t', .str ⟨y.toArray⟩ u']) →
        s'.heap.PlainList l (its.push (.ref tp)) → Q .none s') →
      wpAny (model prog w) A (call (.ref f) [.ref a, .str ⟨x.toArray⟩ t, .str ⟨y.toArray⟩ u]) Q E s

noncomputable def FlQ (h0 : Heap) (Q : Flow → Shared → Prop) : Fl → Shared → Prop
  | .next, s' => Q .next s'
  | .brk, s' => Q .brk s'
  | .ret r, s' => ∀ val, VR (Alloc h0) [] s'.heap r val → Q (.ret val) s'

section
variable {prog : Program} {w : World} {K : Frag} {mg mb : Str → Option Value} {P : Prims} {d : Nat} {h0 : Heap}

theorem swap_no {v : Expr} (h : notComp v = true) (t : Expr) (l : Nat) (env : Env) : swapsWith v (some t) l env = pure false := by
  cases v <;> first | rfl | exact nob h
theorem swap_none_call {f : Expr} {as : List Expr} {ks : List Keyword} {p : Pos} (l : Nat) (env : Env) : swapsWith (.Call f as ks p) none l env = pure false := rfl
theorem swap_cases {el : Expr} {gs : List Comprehension} {sc : Scope} {p : Pos} {x : Str} {px : Pos} {l : Nat} {env : Env} :
    swapsWith (.ListComp el gs sc p) (some (.Name x px)) l env = pure true ∨ swapsWith (.ListComp el gs sc p) (some (.Name x px)) l env = pure false := by
  unfold swapsWith
  dsimp only
  cases (env.blockKind == .function && env.kindOf x == some .local && px.line == (Expr.ListComp el gs sc p).pos.line && !(sc.names.any fun (n, k) => n == x && (k == .local || k == .cell)))
  · exact .inr rfl
  · exact .inl rfl
end
end
section
open PySem PySem.Spec PySem.Calls PySem.W PyProof.Rows

section
variable {h0 : Heap} {K : Frag} {mg mb : Str → Option Value} {env : Env} {kd : Kd} {O O' O'' : Ads} {ρ ρ' ρ'' : List Addr} {st : St} {s s' s'' : Shared}

/-- one more address is barred -/
theorem SRep.wide (R : SRep h0 K mg mb env O ρ st s) {a : Addr} {s' : Shared} (k : Keeps s s') (ha : s.heap.get? a = none) (hal : Alloc s'.heap a) :
    Mv env O ρ s (fun b => O b ∨ b = a) ρ s' ∧ SRep h0 K mg mb env (fun b => O b ∨ b = a) ρ st s' := by
  have M : Mv env O ρ s (fun b => O b ∨ b = a) ρ s' := by
    obtain ⟨h, t, rfl, k⟩ := k
    refine ⟨⟨h, t, rfl⟩, fun b o _ e => k b o e, fun b e => ?_, fun _ e => .inl e, fun b e => ?_, [], by simp, by simp⟩
    · obtain ⟨o, ho⟩ := Option.isSome_iff_exists.mp e
      unfold Alloc; rw [k b o ho]; rfl
    · rcases e with e | e
      · exact .inl e
      · exact .inr (e ▸ ha)
  have G := R.gr' M
  refine ⟨M, ⟨G.1, fun b hb => ?_, .inl R.rep.own, fun b hb => .inl (R.rep.ownρ b hb), fun x c h => .inl (R.rep.ownc x c h), ?_, fun x hx => ?_, R.rep.len, fun j b us e1 e2 => ?_⟩, R.g0, G.2, fun b hb => ?_, R.nd⟩
  · rcases hb with hb | rfl
    · exact M.alive b (R.rep.al b hb)
    · exact hal
  · obtain ⟨m, hn, hm⟩ := R.rep.ns
    refine ⟨m, hn.keeps (keeps_heap k), fun y u hy hk hu => ?_⟩
    obtain ⟨val, e1, e2⟩ := hm y u hy hk hu
    exact ⟨val, e1, VR.mv R.rep M e2⟩
  · obtain ⟨c, v₀, e1, e2, e3⟩ := R.rep.cl x hx
    refine ⟨c, v₀, e1, e2.keeps (keeps_heap k), fun u hu => ?_⟩
    obtain ⟨val, e4, e5⟩ := e3 u hu
    exact ⟨val, e4, VR.mv R.rep M e5⟩
  · obtain ⟨its', e3, e4⟩ := R.rep.trk j b us e1 e2
    exact ⟨its', e3.at fun o e => keeps_heap k _ _ e, VRs.mv R.rep M e4⟩
  · rcases hb with hb | rfl
    · exact R.o0 b hb
    · cases e : h0.get? b with
      | none => rfl
      | some o => rw [R.k0 b o e] at ha; cases ha

/-- a change at a barred address that is not the frame's -/
theorem SRep.off (R : SRep h0 K mg mb env O ρ st s) {a : Addr} {h' : Heap} {t : Nat} (hO : O a) (hn : ¬ Own env ρ a) (hk : ∀ b o, b ≠ a → s.heap.get? b = some o → h'.get? b = some o) (hal : Alloc h' a) :
    SRep h0 K mg mb env O ρ st { s with heap := h', toks := t } := by
  have vr : ∀ u x, VR O ρ s.heap u x → VR O ρ h' u x := fun u x H => VR.mono (fun _ _ e => e) (fun b o hb e => hk b o (fun h => hb (h ▸ hO)) e) (fun _ _ e => e) u x H
  have vrs : ∀ u x, VRs O ρ s.heap u x → VRs O ρ h' u x := fun u x H => VRs.mono (fun _ _ e => e) (fun b o hb e => hk b o (fun h => hb (h ▸ hO)) e) (fun _ _ e => e) u x H
  have k0 : ∀ b o, h0.get? b = some o → h'.get? b = some o := fun b o e => hk b o (fun h => by rw [h, R.o0 a hO] at e; cases e) (R.k0 b o e)
  have own : ∀ b, Own env ρ b → b ≠ a := fun b hb h => hn (h ▸ hb)
  refine ⟨⟨R.g0.keeps k0, fun b hb => ?_, R.rep.own, R.rep.ownρ, R.rep.ownc, ?_, fun x hx => ?_, R.rep.len, fun j b us e1 e2 => ?_⟩, R.g0, k0, R.o0, R.nd⟩
  · by_cases h : b = a
    · rw [h]; exact hal
    · obtain ⟨o, ho⟩ := Option.isSome_iff_exists.mp (R.rep.al b hb)
      unfold Alloc; rw [hk b o h ho]; rfl
  · obtain ⟨m, hm, hv⟩ := R.rep.ns
    refine ⟨m, hm.at' (fun o e => hk _ o (own _ (.inl rfl)) e), fun y u hy hk' hu => ?_⟩
    obtain ⟨val, e1, e2⟩ := hv y u hy hk' hu
    exact ⟨val, e1, vr _ _ e2⟩
  · obtain ⟨c, v₀, e1, ⟨o, ho, hd⟩, e3⟩ := R.rep.cl x hx
    refine ⟨c, v₀, e1, ⟨o, hk c o (own _ (.inr (.inr ⟨_, e1⟩))) ho, hd⟩, fun u hu => ?_⟩
    obtain ⟨val, e4, e5⟩ := e3 u hu
    exact ⟨val, e4, vr _ _ e5⟩
  · obtain ⟨its', e3, e4⟩ := R.rep.trk j b us e1 e2
    exact ⟨its', e3.at fun o e => hk _ _ (own _ (.inr (.inl (List.mem_of_getElem? e1)))) e, vrs _ _ e4⟩

/-- an address is let go -/
theorem SRep.drop (R : SRep h0 K mg mb env O ρ st s) {a : Addr} {h' : Heap} {t : Nat} (hO : O a) (hn : ¬ Own env ρ a) (hk : ∀ b o, b ≠ a → s.heap.get? b = some o → h'.get? b = some o) :
    SRep h0 K mg mb env (fun b => O b ∧ b ≠ a) ρ st { s with heap := h', toks := t } := by
  have vr : ∀ u x, VR O ρ s.heap u x → VR (fun b => O b ∧ b ≠ a) ρ h' u x := fun u x H => VR.mono (fun _ _ e h => e h.1) (fun b o hb e => hk b o (fun h => hb (h ▸ hO)) e) (fun _ _ e => e) u x H
  have vrs : ∀ u x, VRs O ρ s.heap u x → VRs (fun b => O b ∧ b ≠ a) ρ h' u x := fun u x H => VRs.mono (fun _ _ e h => e h.1) (fun b o hb e => hk b o (fun h => hb (h ▸ hO)) e) (fun _ _ e => e) u x H
  have k0 : ∀ b o, h0.get? b = some o → h'.get? b = some o := fun b o e => hk b o (fun h => by rw [h, R.o0 a hO] at e; cases e) (R.k0 b o e)
  have own : ∀ b, Own env ρ b → b ≠ a := fun b hb h => hn (h ▸ hb)
  refine ⟨⟨R.g0.keeps k0, fun b hb => ?_, ⟨R.rep.own, own _ (.inl rfl)⟩, fun b hb => ⟨R.rep.ownρ b hb, own _ (.inr (.inl hb))⟩, fun x c h => ⟨R.rep.ownc x c h, own _ (.inr (.inr ⟨x, h⟩))⟩, ?_, fun x hx => ?_, R.rep.len, fun j b us e1 e2 => ?_⟩, R.g0, k0, fun b hb => R.o0 b hb.1, R.nd⟩
  · obtain ⟨o, ho⟩ := Option.isSome_iff_exists.mp (R.rep.al b hb.1)
    unfold Alloc; rw [hk b o hb.2 ho]; rfl
  · obtain ⟨m, hm, hv⟩ := R.rep.ns
    refine ⟨m, hm.at' (fun o e => hk _ o (own _ (.inl rfl)) e), fun y u hy hk' hu => ?_⟩
    obtain ⟨val, e1, e2⟩ := hv y u hy hk' hu
    exact ⟨val, e1, vr _ _ e2⟩
  · obtain ⟨c, v₀, e1, ⟨o, ho, hd⟩, e3⟩ := R.rep.cl x hx
    refine ⟨c, v₀, e1, ⟨o, hk c o (own _ (.inr (.inr ⟨_, e1⟩))) ho, hd⟩, fun u hu => ?_⟩
    obtain ⟨val, e4, e5⟩ := e3 u hu
    exact ⟨val, e4, vr _ _ e5⟩
  · obtain ⟨its', e3, e4⟩ := R.rep.trk j b us e1 e2
    exact ⟨its', e3.at fun o e => hk _ _ (own _ (.inr (.inl (List.mem_of_getElem? e1)))) e, vrs _ _ e4⟩

theorem Mv.drop (M : Mv env O ρ s O' ρ' s') {a : Addr} (ha : s.heap.get? a = none) (hO : ∀ b, O b → Alloc s.heap b) : Mv env O ρ s (fun b => O' b ∧ b ≠ a) ρ' s' :=
  ⟨M.sh, M.keep, M.alive, fun b hb => ⟨M.up b hb, fun h => (h ▸ hO b hb : Alloc s.heap a).none ha⟩, fun b hb => M.down b hb.1, M.ext⟩

theorem Mv.off (M : Mv env O ρ s O' ρ' s') {a : Addr} {h' : Heap} {t : Nat} (ha : s.heap.get? a = none) (hk : ∀ b o, b ≠ a → s'.heap.get? b = some o → h'.get? b = some o) :
    Mv env O ρ s O' ρ' { s' with heap := h', toks := t } := by
  have ne : ∀ b, Alloc s.heap b → b ≠ a := fun b hb h => (h ▸ hb : Alloc s.heap a).none ha
  refine ⟨?_, fun b o hn e => hk b o (ne b (by unfold Alloc; rw [e]; rfl)) (M.keep b o hn e), fun b hb => ?_, M.up, M.down, M.ext⟩
  · obtain ⟨h, t', e⟩ := M.sh
    exact ⟨h', t, by rw [e]⟩
  · obtain ⟨o, ho⟩ := Option.isSome_iff_exists.mp (M.alive b hb)
    unfold Alloc; rw [show ({ s' with heap := h', toks := t } : Shared).heap.get? b = some o from hk b o (ne b hb) ho]; rfl

/-- an address alive at the base is the frame's later just if it was then -/
theorem Mv.own (M : Mv env O ρ s O' ρ' s') {a : Addr} (ha : Alloc s.heap a) (h : Own env ρ' a) : Own env ρ a := by
  obtain ⟨e, rfl, he⟩ := M.ext
  rcases h with h | h | h
  · exact .inl h
  · rcases List.mem_append.mp h with h | h
    · exact .inr (.inl h)
    · exact (ha.none (he a h)).elim
  · exact .inr (.inr h)
end

section
variable {prog : Program} {w : World} {K : Frag} {mg mb : Str → Option Value} {d : Nat} {h0 : Heap}
variable {A : Around} {E : Value → Shared → Prop} {env : Env} {kd : Kd}

noncomputable def BodyOk (prog : Program) (w : World) (K : Frag) (mg mb : Str → Option Value) (h0 : Heap) (A : Around) (env : Env) (f : St → Option (Fl × St)) (body : List Stmt) : Prop :=
  ∀ (O : Ads) (ρ : List Addr) (st : St) (s : Shared) (fl : Fl) (st' : St) (Q : Flow → Shared → Prop) (E : Value → Shared → Prop), f st = some (fl, st') → SRep h0 K mg mb env O ρ st s →
    (∀ s' O' ρ', Mv env O ρ s O' ρ' s' → SRep h0 K mg mb env O' ρ' st' s' → FlQ h0 Q fl s') → wpAny (model prog w) A (execs body env) Q E s

@[elab_as_elim] theorem fl_cases {P : Fl × St → Prop} (r : Fl × St) (h1 : ∀ st, P (.next, st)) (h2 : ∀ st, P (.brk, st)) (h3 : ∀ v st, P (.ret v, st)) : P r := by
  obtain ⟨f, st⟩ := r
  cases f with
  | next => exact h1 st
  | brk => exact h2 st
  | ret v => exact h3 v st
/-- a for loop's iterator I in its frame, seen from where the loop began -/
structure ForW (env : Env) (O : Ads) (ρ : List Addr) (s : Shared) (I : Addr) (Sd : Nat → Heap → Prop) : Prop where
  nI : s.heap.get? I = none
  al : ∀ {i h}, Sd i h → Alloc h I
  mv : ∀ {i O' ρ' s' O'' ρ'' s''}, Mv env O ρ s O' ρ' s' → ¬ Own env ρ' I → Mv env O' ρ' s' O'' ρ'' s'' → Sd i s'.heap → Sd i s''.heap
/-- before a turn -/
structure ForI (h0 : Heap) (K : Frag) (mg mb : Str → Option Value) (env : Env) (O : Ads) (ρ : List Addr) (s : Shared) (I : Addr) (Sd : Nat → Heap → Prop) (i : Nat) (O' : Ads) (ρ' : List Addr) (st : St) (s' : Shared) : Prop where
  M : Mv env O ρ s O' ρ' s'
  R : SRep h0 K mg mb env O' ρ' st s'
  OI : O' I
  nI : ¬ Own env ρ' I
  sd : Sd i s'.heap
noncomputable def ForT (h0 : Heap) (K : Frag) (mg mb : Str → Option Value) (env : Env) (O : Ads) (ρ : List Addr) (s : Shared) (I : Addr) (Sd : Nat → Heap → Prop) (F : V → St → Option (Fl × St)) (g : St → Option (Fl × St)) (vs : List V) (r : Fl × St) (n : Nat) (s' : Shared) : Prop :=
  ∃ i O' ρ' st, i ≤ vs.length ∧ n = vs.length + 1 - i ∧ ForI h0 K mg mb env O ρ s I Sd i O' ρ' st s' ∧ forGo F g (vs.drop i) st = some r

theorem drop_at {α : Type} {vs : List α} {i : Nat} {u : α} (hu : vs[i]? = some u) : vs.drop i = u :: vs.drop (i + 1) :=
  (List.getElem?_eq_some_iff.mp hu).elim fun h e => e ▸ List.drop_eq_getElem_cons h

section
variable {body : List Stmt} {f : St → Option (Fl × St)} {O O' : Ads} {ρ ρ' : List Addr} {st st' st₁ : St} {s s' : Shared} {vs : List V} {I : Addr} {Sd : Nat → Heap → Prop} {fl : Fl} {i : Nat}
/-- after the target's step -/
theorem ForI.step (J : ForI h0 K mg mb env O ρ s I Sd i O' ρ' st s') (W : ForW env O ρ s I Sd) {h₁ : Heap} {t : Nat} (hk : ∀ b o, b ≠ I → s'.heap.get? b = some o → h₁.get? b = some o) (hs : Sd (i + 1) h₁) :
    ForI h0 K mg mb env O ρ s I Sd (i + 1) O' ρ' st { s' with heap := h₁, toks := t } :=
  ⟨J.M.off W.nI hk, J.R.off J.OI J.nI hk (W.al hs), J.OI, J.nI, hs⟩
theorem ForI.mv (J : ForI h0 K mg mb env O ρ s I Sd i O' ρ' st s') (W : ForW env O ρ s I Sd) {O'' : Ads} {ρ'' : List Addr} {s'' : Shared} (M : Mv env O' ρ' s' O'' ρ'' s'') (R : SRep h0 K mg mb env O'' ρ'' st₁ s'') :
    ForI h0 K mg mb env O ρ s I Sd i O'' ρ'' st₁ s'' :=
  ⟨J.M.trans M, R, M.up _ J.OI, fun h => J.nI (M.own (W.al J.sd) h), W.mv J.M J.nI M J.sd⟩
/-- the body's turn -/
theorem ForI.turn (J : ForI h0 K mg mb env O ρ s I Sd (i + 1) O' ρ' st s') (W : ForW env O ρ s I Sd) (hb : BodyOk prog w K mg mb h0 A env f body) {F : V → St → Option (Fl × St)} {g : St → Option (Fl × St)} (hlt : i < vs.length)
    (hgo : ((f st).bind fun r => onFl r (forGo F g (vs.drop (i + 1))) (fun st => some (.next, st)) fun v st => some (.ret v, st)) = some (fl, st')) {Q Q' : Flow → Shared → Prop} {E : Value → Shared → Prop}
    (hQ : ∀ s' O' ρ', Mv env O ρ s O' ρ' s' → SRep h0 K mg mb env O' ρ' st' s' → FlQ h0 Q fl s')
    (h1 : ∀ m s', m < vs.length + 1 - i → ForT h0 K mg mb env O ρ s I Sd F g vs (fl, st') m s' → Q' .next s') (h2 : ∀ s', Q .next s' → Q' .brk s') (h3 : ∀ v s', Q (.ret v) s' → Q' (.ret v) s') :
    wpAny (model prog w) A (execs body env) Q' E s' := by
  refine bnd hgo fun r ef hgo' => ?_
  revert ef hgo'
  refine fl_cases r (fun st₂ => ?_) (fun st₂ => ?_) (fun r st₂ => ?_) <;> intro ef hgo'
  · exact hb _ _ _ _ _ _ _ _ ef J.R fun s3 O3 ρ3 M3 R3 => h1 _ _ (Nat.sub_lt_sub_left (Nat.lt_succ_of_lt hlt) (Nat.lt_succ_self i)) ⟨i + 1, O3, ρ3, st₂, hlt, rfl, J.mv W M3 R3, hgo'⟩
  · cases hgo'
    exact hb _ _ _ _ _ _ _ _ ef J.R fun s3 O3 ρ3 M3 R3 => h2 _ (hQ _ _ _ (J.M.trans M3) R3)
  · cases hgo'
    exact hb _ _ _ _ _ _ _ _ ef J.R fun s3 O3 ρ3 M3 R3 val hval => h3 _ _ (hQ _ _ _ (J.M.trans M3) R3 val hval)
/-- the loop's end -/
theorem ForI.done (J : ForI h0 K mg mb env O ρ s I Sd i O' ρ' st s') (W : ForW env O ρ s I Sd) (hal : ∀ a, O a → Alloc s.heap a) {g : St → Option (Fl × St)} (hb : BodyOk prog w K mg mb h0 A env g body) {h₁ : Heap} {t : Nat} (hk : ∀ b o, b ≠ I → s'.heap.get? b = some o → h₁.get? b = some o)
    (hg : g st = some (fl, st')) {Q Q' : Flow → Shared → Prop} {E : Value → Shared → Prop} (hQ : ∀ s' O' ρ', Mv env O ρ s O' ρ' s' → SRep h0 K mg mb env O' ρ' st' s' → FlQ h0 Q fl s') (h : ∀ fl s', Q fl s' → Q' fl s') :
    wpAny (model prog w) A (execs body env) Q' E { s' with heap := h₁, toks := t } :=
  hb _ _ _ _ _ _ _ _ hg (J.R.drop J.OI J.nI hk) fun s3 O3 ρ3 M3 R3 => by
    have := hQ _ _ _ (((J.M.off (t := t) W.nI hk).drop W.nI hal).trans M3) R3
    cases fl
    · exact h _ _ this
    · exact h _ _ this
    · exact fun val hv => h _ _ (this val hv)
end
theorem for_sound (RM : Room d A) (EO : FEnv env kd) {x : String} {px : Pos} {body els : List Stmt} {f g : St → Option (Fl × St)} (hown : isOwn kd (Str.ofString x) = true)
    (hb : BodyOk prog w K mg mb h0 A env f body) (he : BodyOk prog w K mg mb h0 A env g els)
    {O : Ads} {ρ : List Addr} {st st' : St} {s s₂ : Shared} {v : V} {vs : List V} {I : Addr} {fp : List Addr} {Pd : Nat → Value → Prop} {Sd : Nat → Heap → Prop} {fl : Fl} {Q : Flow → Shared → Prop}
    (S : Src prog w O ρ v vs s s₂ I fp Pd Sd) (hnt : gTrk v = none) (R : SRep h0 K mg mb env O ρ st s) (hgo : forGo (fun v st => f (st.set x v)) g vs st = some (fl, st'))
    (hQ : ∀ s' O' ρ', Mv env O ρ s O' ρ' s' → SRep h0 K mg mb env O' ρ' st' s' → FlQ h0 Q fl s') :
    codeAny (model prog w) A (.forLoop (.Name (Str.ofString x) px) (.ref I) body els env) (fun r s' => match r with | .ok f => Q f s' | .error e => cameBackBy (model prog w) A env E e s') s₂ := by
  have R0 := R.wide S.keep S.fresh (S.alive 0 _ S.start)
  have W : ForW env O ρ s I Sd := ⟨S.fresh, fun h => S.alive _ _ h, fun M hI M' hs => (S.walk A RM.hd).frame _ _ _ hs fun b hbm o e => M'.keep b o (fun hO => (S.fp b hbm).elim (fun h => hI (h ▸ hO)) fun h => (h.2 (R.rep.ownR (M.own h.1 hO))).elim fun i e => nomatch (e ▸ hnt : gTrk (.trk i) = none)) e⟩
  refine codeAny_forLoop (ForT h0 K mg mb env O ρ s I Sd (fun v st => f (st.set x v)) g vs (fl, st')) ?_ (vs.length + 1)
    ⟨0, _, ρ, st, Nat.zero_le _, rfl, ⟨R0.1, R0.2, .inr rfl, fun h => (R.rep.al _ (R.rep.ownR h)).none S.fresh, S.start⟩, hgo⟩
  rintro n s' ⟨i, O', ρ', st₁, hil, rfl, J, hgo'⟩
  rcases Nat.lt_or_eq_of_le hil with hlt | hi
  · refine (S.walk A RM.hd).item i _ _ _ hlt J.sd fun y h₁ tk₁ hPy hSd₁ hk₁ => ?_
    have J1 := J.step (t := tk₁) W (fun b o hb e => hk₁ b o (fun h => hb (List.mem_singleton.mp h)) e) hSd₁
    obtain ⟨u, hu, hyr⟩ := S.item i y hlt hPy
    rw [drop_at hu] at hgo'
    exact wpAny_assign_Name (store_sound EO J1.R hown (VR.mv R.rep J1.M hyr) fun s2 M2 R2 => (J1.mv W M2 R2).turn W hb hlt hgo' hQ (fun m s' h1 h2 => ⟨m, h1, h2⟩) (fun _ h => h) fun _ _ h => h)
  · subst hi
    refine (S.walk A RM.hd).done _ _ _ J.sd fun h₁ tk₁ hk₁ => ?_
    exact J.done W R.rep.al he (fun b o hb e => hk₁ b o (fun h => hb (List.mem_singleton.mp h)) e) ((congrArg (fun l => forGo _ g l st₁) List.drop_length).symm.trans hgo') hQ fun _ _ h => h

theorem while_sound {test : Expr} {body : List Stmt} {t : St → Option Bool} {f : St → Option (Fl × St)}
    (ht : ∀ (O : Ads) (ρ : List Addr) (st : St) (s : Shared) (b : Bool) (Q : Bool → Shared → Prop) (E : Value → Shared → Prop), t st = some b → SRep h0 K mg mb env O ρ st s → OutB s b Q → wpAny (model prog w) A (PySem.isTrue test env (eval test env)) Q E s)
    (hb : BodyOk prog w K mg mb h0 A env f body)
    {O : Ads} {ρ : List Addr} {st st' : St} {s : Shared} {n : Nat} {fl : Fl} {Q : Flow → Shared → Prop}
    (R : SRep h0 K mg mb env O ρ st s) (hgo : whileGo t f n st = some (fl, st'))
    (hQ : ∀ s' O' ρ', Mv env O ρ s O' ρ' s' → SRep h0 K mg mb env O' ρ' st' s' → FlQ h0 Q fl s') :
    codeAny (model prog w) A (.whileLoop test body [] env) (fun r s' => match r with | .ok f => Q f s' | .error e => cameBackBy (model prog w) A env E e s') s := by
  refine codeAny_whileLoop (fun n s' => ∃ O' ρ' st₁, Mv env O ρ s O' ρ' s' ∧ SRep h0 K mg mb env O' ρ' st₁ s' ∧ whileGo t f n st₁ = some (fl, st')) ?_ n ⟨O, ρ, st, .refl, R, hgo⟩
  rintro n s' ⟨O', ρ', st₁, M, R', hgo'⟩
  cases n with
  | zero => exact nosome hgo'
  | succ n =>
    refine bnd hgo' fun c et hgo' => ht _ _ _ _ _ _ _ et R' fun s1 k1 => ?_
    have M1 := M.trans (.of_keeps (env := env) k1)
    have R1 := R'.keeps k1
    cases c
    · cases hgo'
      exact wpAny_execs_nil (hQ _ _ _ M1 R1)
    · refine bnd (x := f st₁) hgo' fun r ef hgo' => ?_
      revert ef hgo'
      refine fl_cases r (fun st₂ => ?_) (fun st₂ => ?_) (fun r st₂ => ?_) <;> intro ef hgo'
      · exact hb _ _ _ _ _ _ _ _ ef R1 fun s3 O3 ρ3 M3 R3 => ⟨n, Nat.lt_succ_self n, O3, ρ3, st₂, M1.trans M3, R3, hgo'⟩
      · cases hgo'
        exact hb _ _ _ _ _ _ _ _ ef R1 fun s3 O3 ρ3 M3 R3 => hQ _ _ _ (M1.trans M3) R3
      · cases hgo'
        exact hb _ _ _ _ _ _ _ _ ef R1 fun s3 O3 ρ3 M3 R3 val hval => hQ _ _ _ (M1.trans M3) R3 val hval
end
end
section
open PySem PySem.Spec PySem.Calls PySem.W PyProof.Rows

section
variable {prog : Program} {w : World} {K : Frag} {mg mb : Str → Option Value} {P : Prims} {d : Nat} {h0 : Heap}

theorem interactive_no {env : Env} (h : env.scope.kind = .function) : interactive env = false := by
  unfold interactive
  rw [h]; rfl

theorem comp_assign {env : Env} {kd : Kd} {O : Ads} {ρ : List Addr} {st : St} {s : Shared} {A : Around} {E : Value → Shared → Prop} {elt iter : Expr} {xn y : String} {px py pos spos : Pos} {ifs : List Expr} {scope : Scope} {v : V} {vs ys : List V} {f : V → Option (Option V)} {Q : Flow → Shared → Prop}
    (hA : A.handled = none) (EO : FEnv env kd) (R : SRep h0 K mg mb env O ρ st s) (CO : CompOk kd scope xn) (hset : notSet iter = true) (hown : isOwn kd (Str.ofString y) = true)
    (hiter : ∀ (Q : Value → Shared → Prop) (E : Value → Shared → Prop), Out O ρ s v Q → wpAny (model prog w) A (eval iter env) Q E s) (hi : itemsOf st v = some vs) (hlen : vs.length ≤ big) (hg : compGo f vs = some ys)
    (htest : ∀ u b, u ∈ vs → f u = some b → ∀ env' O' s', EnvOk env' (innerKd kd scope.names) → Rep K mg mb env' O' ρ { locs := (xn, u) :: st.locs, tr := st.tr } s' → ∀ (Q : Bool → Shared → Prop) E,
      (∀ s'', Keeps s' s'' → Q b.isSome s'') → wpAny (model prog w) A (forIn ifs true fun c r => if r = true then do let ok ← isTrue c env' (eval c env'); pure (ForInStep.yield ok) else pure (ForInStep.yield r)) Q E s')
    (helt : ∀ u y, u ∈ vs → f u = some (some y) → ∀ env' O' s', EnvOk env' (innerKd kd scope.names) → Rep K mg mb env' O' ρ { locs := (xn, u) :: st.locs, tr := st.tr } s' → ∀ (Q : Value → Shared → Prop) E,
      Out O' ρ s' y Q → wpAny (model prog w) A (eval elt env') Q E s')
    (hQ : ∀ s' O' ρ', Mv env O ρ s O' ρ' s' → SRep h0 K mg mb env O' ρ' (st.set y (.lst ys)) s' → Q .next s') :
    wpAny (model prog w) A (exec (.Assign [.Name (Str.ofString y) py] (.ListComp elt [⟨.Name (Str.ofString xn) px, iter, ifs, 0⟩] scope pos) spos) env) Q E s := by
  rcases swap_cases (el := elt) (gs := [⟨.Name (Str.ofString xn) px, iter, ifs, 0⟩]) (sc := scope) (p := pos) (x := Str.ofString y) (px := py) (l := spos.line) (env := env) with hsw | hsw
  · obtain ⟨cl, h1, h2, h3⟩ := closure_of (env := env) scope fun x hx hk => EO.cx _ (CO.free x hx hk).2
    rw [exec_Assign_Name_used _ _ _ _ hsw]
    refine wpAny_bind (wpAny_standAt (wpAny_bind ?_))
    show wpAny _ A (do let _ ← comprehension (.ListComp elt [⟨.Name (Str.ofString xn) px, iter, ifs, 0⟩] scope pos) scope env _ (newList []) false (eval iter env) (some (assign (.Name (Str.ofString y) py) env))) _ _ s
    refine wpAny_bind (wpAny_mono (wpAny_comprehension_free (use := some (assign (.Name (Str.ofString y) py) env)) (Q := fun _ s' => Q .next s') rfl (folded_of hset) h1 CO.kind
      (fun z hz hk => lookup_of_nodup CO.nd (by rw [← hk]; exact hz)) ?_) (fun _ s' hq => wpAny_pure (wpAny_pure hq)) fun _ _ e => e)
    refine hiter _ _ fun s₁ x k₁ hx => ?_
    refine comp_core (RR := fun acc C => compPost (model prog w) A E (some (assign (.Name (Str.ofString y) py) env)) (fun _ s' => Q .next s') acc C) hA EO.toEnvOk (R.rep.keeps k₁) CO h2 h3 hx hi hlen hg htest helt ?_
    intro D C s' m' its hD hC hDC k' hn hp hv
    have kk := keeps_trans k₁ k'
    have hC0 := keeps_none k₁ hC
    have halC : Alloc s'.heap C := by obtain ⟨o, _, _, e, _⟩ := hn; unfold Alloc; rw [e]; rfl
    obtain ⟨Mw, Rw⟩ := R.wide kk hC0 halC
    have hCo : ¬ Own env ρ C := fun h => (R.rep.al _ (R.rep.ownR h)).none hC0
    show wpAny _ A (assign (.Name (Str.ofString y) py) env (.ref D)) _ _ s'
    refine wpAny_assign_Name (store_sound (v := .lst ys) EO Rw hown ?_ fun s2 M2 R2 => ?_)
    · exact vr_lst (fun h => h.elim (fun h => (R.rep.al _ h).none (keeps_none k₁ hD)) hDC) hp hv
    · refine ⟨m', hn.at' fun o e => M2.keep _ _ hCo e, fun h'' hs'' => ?_⟩
      have hk : ∀ b o, b ≠ C → s2.heap.get? b = some o → h''.get? b = some o := fun b o hb e => (hs''.2 b hb).trans e
      exact hQ _ _ _ (((Mw.trans M2).off (t := s2.toks) hC0 hk).drop hC0 R.rep.al) (R2.drop (t := s2.toks) (.inr rfl) hCo hk)
  · refine wpAny_Assign_Name (comp_eval hA EO.toEnvOk R.rep CO hset (fun Q' hQ' => hiter _ _ hQ') hi hlen hg htest helt fun D s' its hD k' hp hv => ?_) hsw
    refine store_sound (v := .lst ys) EO (R.keeps k') hown ?_ fun s2 M2 R2 => hQ _ _ _ ((Mv.of_keeps k').trans M2) R2
    obtain ⟨n, hp⟩ := hp
    exact vr_fresh R.rep hD hp hv

theorem addV_inv {v a b : V} {st st' : St} {G : Prop} (h : addV v a b st = some st') (k : ∀ i xs ys vs, v = .hdr (.trk i) → a = .str xs → b = .str ys → st.tr[i]? = some vs → strOk xs = true → strOk ys = true → vs.length ≤ big →
    st' = { st with tr := st.tr.set i (vs ++ [.tup [.str xs, .str ys]]) } → G) : G :=
  bnd h fun src e1 h => bnd h fun i e2 h => bnd h fun xs e3 h => bnd h fun ys e4 h => bnd h fun vs e5 h => iif h fun hok h => k i xs ys vs (by rw [gHdr_of e1, gTrk_of e2]) (gStr_of e3) (gStr_of e4) e5 hok.1 hok.2.1 hok.2.2 (Option.some.inj h).symm
theorem add_call (HK : HdrOk prog w K mg mb d) {A : Around} {E : Value → Shared → Prop} {env : Env} {kd : Kd} {O : Ads} {ρ : List Addr} {st st' : St} {s : Shared} {t : String} {a b : PE} {av bv : Expr} {p apos pos : Pos} {v x y : V} {Q : Value → Shared → Prop}
    (RM : Room d A) (EO : FEnv env kd) (R : SRep h0 K mg mb env O ρ st s) (h1 : isOwn kd (Str.ofString t) = true) (h2 : okName t = true) (h3 : apos.endLine = pos.line) (hav : notStar av = true) (hbv : notStar bv = true) (h4 : ESnd prog w K mg mb P d a kd av) (h5 : ESnd prog w K mg mb P d b kd bv)
    (e1 : st.get t = some v) (e2 : evalE P a st = some x) (e3 : evalE P b st = some y) (e4 : addV v x y st = some st')
    (hQ : ∀ s', Mv env O ρ s O ρ s' → SRep h0 K mg mb env O ρ st' s' → Q .none s') :
    wpAny (model prog w) A (eval (.Call (.Attribute (.Name (Str.ofString t) p) (Str.ofString "add_header") apos) [av, bv] [] pos) env) Q E s := by
  refine addV_inv e4 fun i xs ys vs ev ex ey hvs ok1 ok2 ok3 est => ?_
  subst ev ex ey est
  clear e4
  obtain ⟨f, ⟨fo, fd, g2, g3⟩, g4, g5⟩ := HK.add
  have hst : starEach [av, bv] env = [(false, eval av env), (false, eval bv env)] := (star_of hav).trans (by rw [star_of hbv]; rfl)
  refine call_meth rfl (by simpa using h3) (by unfold methodCallForm; rw [hst]; rfl) (var_sound EO.toEnvOk R.rep (isOwn_isVar h1) h2 e1 fun s₁ va k₁ ha => ?_)
  obtain ⟨ha1, hd1, hx1, rfl, _, _, hH, l, hl, rfl⟩ := ha
  have R1 := R.keeps k₁
  refine ⟨.ref f, [.ref ha1], fun Q' hQ' => g4 _ _ _ _ _ _ _ _ R1.rep.gr hH hQ', ?_⟩
  refine callWith_any g3 (R1.rep.gr.k _ _ g2) (fun x xs e => by cases e; exact hav) ?_
  rw [hst]
  show wpAny (model prog w) A (spliced ((false, eval av env) :: [(false, eval bv env)])) _ _ _
  refine Calls.spliced_cons (h4 RM EO.toEnvOk e2 R1.rep fun s₂ vb k₂ hb => Calls.spliced_cons (h5 RM EO.toEnvOk e3 (R1.keeps k₂).rep fun s₃ vc k₃ hc => Calls.spliced_nil ?_))
  have k23 := keeps_trans k₂ k₃
  have R3 := R1.keeps k23
  refine ⟨keeps_heap k23, hb.str_elim fun t1 => hc.str_elim fun t2 => ?_⟩
  obtain ⟨its, p1, p2⟩ := R3.rep.trk i l vs hl hvs
  have hlO := R3.rep.ownρ l (List.mem_of_getElem? hl)
  refine g5 A s₃ ha1 hd1 l its xs ys t1 t2 Q E RM R3.rep.gr (hH.mono (fun o e => keeps_heap k23 _ _ e) fun o e => keeps_heap k23 _ _ e) p1 ok1 ok2 (Nat.le_trans (Nat.le_of_eq p2.length) ok3) ⟨h0, R.g0, R.o0 l hlO, R3.k0⟩ fun s' tp hsh hk htp ⟨t3, t4, hT⟩ hpl => ?_
  have M3 : Mv env O ρ s₃ O ρ s' := by
    refine ⟨hsh, fun b o hn e => hk b (fun h => hn (h ▸ .inr (.inl (List.mem_of_getElem? hl)))) o e, fun b hb => ?_, fun _ e => e, fun _ e => .inl e, [], (List.append_nil _).symm, nofun⟩
    by_cases h : b = l
    · obtain ⟨n, e⟩ := hpl; rw [h]; unfold Alloc; rw [e]; rfl
    · obtain ⟨o, ho⟩ := Option.isSome_iff_exists.mp hb
      unfold Alloc; rw [hk b h o ho]; rfl
  refine hQ s' ((Mv.of_keeps (keeps_trans k₁ k23)).trans M3) (R3.turn (i := i) (a := l) (its := its.push (.ref tp)) M3 hk hl hpl ?_)
  rw [Array.toList_push]
  exact (VRs.mv R3.rep M3 p2).append (VRs.single (vr_tup (fun h => (R3.rep.al _ h).none htp) hT (vrs_cons (vr_str _ _ _) (vrs_cons (vr_str _ _ _) vrs_nil))))
end
end
section
open PySem PySem.Spec PySem.Calls PySem.W PyProof.Rows

section
variable {prog : Program} {w : World} {K : Frag} {mg mb : Str → Option Value} {P : Prims} {d : Nat} {h0 : Heap}

theorem vr_scalar {O : Ads} {ρ : List Addr} {h h' : Heap} {v : V} {x : Value} (hv : v.scalar = true) (H : VR O ρ h v x) : VR (Alloc h') [] h v x := VR.scalar hv H
theorem vrs_scalar {O O' : Ads} {ρ ρ' : List Addr} {h h' : Heap} : ∀ {vs : List V} {l : List Value}, vs.all V.scalar = true → VRs O ρ h vs l → VRs O' ρ' h' vs l
  | [], _, _, H => H
  | v :: vs, _, hs, H => H.cons_elim fun x xs h1 h2 => vrs_cons (VR.scalar (Bool.and_eq_true_iff.mp hs).1 h1) (vrs_scalar (Bool.and_eq_true_iff.mp hs).2 h2)
theorem vrs_set' {O : Ads} {ρ : List Addr} {h : Heap} {v : V} {x : Value} (hx : VR O ρ h v x) : ∀ {vs : List V} {l : List Value}, VRs O ρ h vs l → ∀ (k : Nat), VRs O ρ h (vs.set k v) (l.set k x)
  | [], _, H, _ => H.nil_elim (N := fun l => VRs O ρ h [] (l.set _ x)) vrs_nil
  | _ :: _, _, H, 0 => H.cons_elim (N := fun l => VRs O ρ h _ (l.set 0 x)) fun _ _ _ h2 => vrs_cons hx h2
  | _ :: _, _, H, k + 1 => H.cons_elim (N := fun l => VRs O ρ h _ (l.set (k + 1) x)) fun _ _ h1 h2 => vrs_cons h1 (vrs_set' hx h2 k)
theorem vrs_set {O : Ads} {ρ : List Addr} {h : Heap} {vs : List V} {l : Array Value} (H : VRs O ρ h vs l.toList) (k : Nat) {v : V} {x : Value} (hx : VR O ρ h v x) : VRs O ρ h (vs.set k v) (l.setIfInBounds k x).toList := by
  rw [Array.toList_setIfInBounds]
  exact vrs_set' hx H k

/-- what a comprehension reads -/
theorem comp_inv {elt it : PE} {xn : String} {ifs : List PE} {st : St} {v : V} {G : Prop} (h : evalE P (.comp elt xn it ifs) st = some v)
    (k : ∀ iv vs ys, evalE P it st = some iv → itemsOf st iv = some vs → vs.length ≤ big → compGo (fun v => (evalAnd P ifs (inner xn v st)).bind fun c => cond c ((evalE P elt (inner xn v st)).map some) (some none)) vs = some ys → v = .lst ys → G) : G :=
  bnd h fun iv e1 h => bnd h fun vs e2 h => iif h fun hl h => mpd h fun ys hg h => k iv vs ys e1 e2 hl hg h.symm
variable (PK : PrimsOk prog w K mg mb d P) (HK : HdrOk prog w K mg mb d)
theorem h0_none {env : Env} {O : Ads} {ρ : List Addr} {st : St} {s : Shared} (R : SRep h0 K mg mb env O ρ st s) (a : Addr) (ha : s.heap.get? a = none) : ¬ Alloc h0 a := fun h => by
  obtain ⟨o, ho⟩ := Option.isSome_iff_exists.mp h
  rw [R.k0 a o ho] at ha; cases ha
include PK
theorem ret_sound {e : PE} {kd : Kd} {ex : Expr} {env : Env} {O : Ads} {ρ : List Addr} {st : St} {s : Shared} {v : V} {A : Around} {Q : Value → Shared → Prop} {E : Value → Shared → Prop}
    (RM : Room d A) (EO : FEnv env kd) (hm : matchE e kd ex = true) (hv : retV P e st = some v) (R : SRep h0 K mg mb env O ρ st s)
    (hQ : ∀ s' val, Keeps s s' → VR (Alloc h0) [] s'.heap v val → Q val s') : wpAny (model prog w) A (eval ex env) Q E s := by
  have base : (evalE P e st).bind (retOf st) = some v → wpAny (model prog w) A (eval ex env) Q E s := by
    intro hv
    refine bnd hv fun u e1 hv => evalE_sound PK e RM EO.toEnvOk hm e1 R.rep fun s' val k hr => hQ _ _ k ?_
    have go : (if u.scalar = true then some u else none) = some v → VR (Alloc h0) [] s'.heap v val := fun h => iif h fun hs h => Option.some.inj h ▸ VR.scalar hs hr
    cases u with
    | trk i => exact bnd hv fun vs e2 hv => iif hv fun hs hv => hr.trk_elim fun a ha => ((R.rep.keeps k).trk i a vs ha e2).elim fun its p =>
        Option.some.inj hv ▸ vr_lst (fun h => h.none (R.o0 a (R.rep.ownρ a (List.mem_of_getElem? ha)))) p.1 (vrs_scalar hs p.2)
    | _ => exact go hv
  cases e with
  | lst es =>
    refine bnd hv fun vs e1 hv => iif hv fun hs hv => onList_elim hm fun xs p hm => List_ (evalEs_sound PK es RM EO.toEnvOk hm e1 R.rep fun s₁ vals k₁ hvals => ?_)
    cases hv
    exact wpAny_newObj_type (hQ _ _ (keeps_trans k₁ (keeps_push _ _)) (vr_lst (h0_none R _ (keeps_none k₁ (fresh_size _))) ⟨0, Heap.get?_push_size _ rfl⟩ (vrs_scalar hs.1 hvals))) (size_vals hvals hs.2)
  | comp elt x it ifs =>
    refine bnd hv fun u e0 hv => bnd hv fun ws e9 hv => iif hv fun hs hz => matchE_comp hm fun el q iter fs sc p CO h3 h2 h4 h5 => comp_inv e0 fun iv vs ys e1 e2 hl hg eu => ?_
    subst eu
    cases e9
    cases hz
    refine comp_eval RM.hd EO.toEnvOk R.rep CO h3 (fun Q' hQ' => evalE_sound PK it RM EO.toEnvOk h2 e1 R.rep hQ') e2 hl hg (fun u b _ hf env' O' s' EO' R' => (comp_facts (evalIfs_snd PK ifs h5) (evalE_snd PK elt h4) hf RM EO' R').1)
      (fun u y _ hf env' O' s' EO' R' => (comp_facts (evalIfs_snd PK ifs h5) (evalE_snd PK elt h4) hf RM EO' R').2 y rfl) ?_
    intro D s' its hD k' hp hvs
    exact hQ _ _ k' (vr_lst (h0_none R D hD) hp (vrs_scalar hs hvs))
  | _ => exact base hv
omit PK

section
variable (prog w K mg mb P d h0)
noncomputable def SSnd (p : PS) (kd : Kd) (stm : Stmt) : Prop := ∀ {env : Env} {O : Ads} {ρ : List Addr} {st : St} {s : Shared} {fl : Fl} {st' : St} {A : Around} {Q : Flow → Shared → Prop} {E : Value → Shared → Prop},
  Room d A → FEnv env kd → execS P p st = some (fl, st') → SRep h0 K mg mb env O ρ st s → (∀ s' O' ρ', Mv env O ρ s O' ρ' s' → SRep h0 K mg mb env O' ρ' st' s' → FlQ h0 Q fl s') → wpAny (model prog w) A (exec stm env) Q E s
noncomputable def BSnd (ps : List PS) (kd : Kd) (ss : List Stmt) : Prop := ∀ {env : Env} {O : Ads} {ρ : List Addr} {st : St} {s : Shared} {fl : Fl} {st' : St} {A : Around} {Q : Flow → Shared → Prop} {E : Value → Shared → Prop},
  Room d A → FEnv env kd → execL P ps st = some (fl, st') → SRep h0 K mg mb env O ρ st s → (∀ s' O' ρ', Mv env O ρ s O' ρ' s' → SRep h0 K mg mb env O' ρ' st' s' → FlQ h0 Q fl s') → wpAny (model prog w) A (execs ss env) Q E s
end
section
variable {kd : Kd} {e : PE} {x : String} {v : Expr} {q p r p' : Pos}
theorem st_comp {elt it : PE} {xn : String} {ifs : List PE} {el iter : Expr} {fs : List Expr} {sc : Scope} (h1 : isOwn kd (Str.ofString x) = true) (CO : CompOk kd sc xn) (h3 : notSet iter = true) (hit : ESnd prog w K mg mb P d it kd iter)
    (hel : ESnd prog w K mg mb P d elt (innerKd kd sc.names) el) (hif : ISnd prog w K mg mb P d ifs (innerKd kd sc.names) fs) : SSnd prog w K mg mb P d h0 (.asg x (.comp elt xn it ifs)) kd (.Assign [.Name (Str.ofString x) q] (.ListComp el [⟨.Name (Str.ofString xn) r, iter, fs, 0⟩] sc p') p) := by
  intro env O ρ st s fl st' A Q E RM EO hv R hQ
  refine bnd hv fun u e0 hv => comp_inv e0 fun iv vs ys e1 e2 hl hg eu => ?_
  subst eu
  cases hv
  exact comp_assign RM.hd EO R CO h3 h1 (fun Q' E' hQ' => hit RM EO.toEnvOk e1 R.rep hQ') e2 hl hg (fun u b _ hf env' O' s' EO' R' => (comp_facts hif hel hf RM EO' R').1)
    (fun u y _ hf env' O' s' EO' R' => (comp_facts hif hel hf RM EO' R').2 y rfl) fun s' O' ρ' M R' => hQ _ _ _ M R'
theorem st_asg (h1 : isOwn kd (Str.ofString x) = true) (hn : notComp v = true) (he : ESnd prog w K mg mb P d e kd v) : SSnd prog w K mg mb P d h0 (.asg x e) kd (.Assign [.Name (Str.ofString x) q] v p) := by
  intro env O ρ st s fl st' A Q E RM EO hv R hQ
  refine bnd hv fun u e1 hv => wpAny_Assign_Name (he RM EO.toEnvOk e1 R.rep fun s₁ va k₁ ha => ?_) (swap_no hn _ _ _)
  cases hv
  exact store_sound EO (R.keeps k₁) h1 ha fun s2 M2 R2 => hQ _ _ _ ((Mv.of_keeps k₁).trans M2) R2
theorem st_asgL {es : List PE} {vs : List Expr} (h1 : isOwn kd (Str.ofString x) = true) (he : LSnd prog w K mg mb P d es kd vs) : SSnd prog w K mg mb P d h0 (.asgL x es) kd (.Assign [.Name (Str.ofString x) q] (.List vs r) p) := by
  intro env O ρ st s fl st' A Q E RM EO hv R hQ
  refine bnd hv fun vs e1 hv => iif hv fun hl hv => wpAny_Assign_Name (List_ (he RM EO.toEnvOk e1 R.rep fun s₁ vals k₁ hvals => ?_)) (swap_no rfl _ _ _)
  cases hv
  refine wpAny_newObj_type ?_ (size_vals hvals hl)
  obtain ⟨Mg, Rg⟩ := (R.keeps k₁).grow (a := s₁.heap.objs.size) (its := vals.toArray) (vs := vs) (keeps_push s₁ _) (fresh_size _) ⟨0, Heap.get?_push_size _ rfl⟩ hvals
  refine store_sound (v := .trk st.tr.length) EO Rg h1 (vr_trk ?_) fun s2 M2 R2 => hQ _ _ _ (((Mv.of_keeps k₁).trans Mg).trans M2) R2
  rw [← R.rep.len, List.getElem?_append_right (Nat.le_refl _), Nat.sub_self]; rfl
theorem aug_op {st : St} {o : BO} {i j : Int} {u : V} (ho : augOk o = true) (hb : binV st o (.int i) (.int j) = some u) {O : Ads} {ρ : List Addr} {A : Around} {E : Value → Shared → Prop} {s : Shared} {t t' : Tok} {Q : Value → Shared → Prop} (hQ : Out O ρ s u Q) :
    wpAny (model prog w) A (inplaceOp o.op (.int i t) (.int j t')) Q E s := by
  cases o with
  | bor => cases hb; exact ior_int (hQ _ _ (keeps_toks _ _) (vr_int _ _ _))
  | bxor => cases hb; exact ixor_int (hQ _ _ (keeps_toks _ _) (vr_int _ _ _))
  | shl =>
    refine iif (c := i.natAbs ≤ big * big ∧ 0 ≤ j ∧ j ≤ 100) hb fun hl hb => ?_
    cases hb
    refine ilshift_int hl.2.1 ?_ (hQ _ _ (keeps_toks _ _) (vr_int _ _ _))
    have := small_bits hl.1
    omega
  | _ => exact nob ho
/-- a name of the frame's own is read -/
theorem own_val {env : Env} {O : Ads} {ρ : List Addr} {st : St} {s : Shared} {u : V} (EO : FEnv env kd) (R : SRep h0 K mg mb env O ρ st s) (h1 : isOwn kd (Str.ofString x) = true) (h2 : okName x = true) (e1 : st.get x = some u) :
    ∃ val, VR O ρ s.heap u val ∧ ∀ {A : Around} {E Q : Value → Shared → Prop}, Q val s → wpAny (model prog w) A (loadName env (Str.ofString x)) Q E s := by
  have hk := EO.kk (Str.ofString x)
  rcases isOwn_cases h1 with hl | hl
  · obtain ⟨m, hn, hmm⟩ := R.rep.ns
    obtain ⟨val, q1, q2⟩ := hmm x _ (okName_ne h2).1 (hk.trans hl) e1
    exact ⟨val, q2, wpAny_loadName_local EO.kind (hk.trans hl) hn q1⟩
  · obtain ⟨c, v₀, q1, q2, q3⟩ := R.rep.cl x (.inl (hk.trans hl))
    obtain ⟨val, rfl, q4⟩ := q3 _ e1
    exact ⟨val, q4, wpAny_loadName_cell EO.kind (hk.trans hl) q1 q2⟩
theorem own_name {env : Env} {O : Ads} {ρ : List Addr} {st : St} {s : Shared} {u : V} (EO : FEnv env kd) (R : SRep h0 K mg mb env O ρ st s) (h1 : isOwn kd (Str.ofString x) = true) (h2 : okName x = true) (e1 : st.get x = some u) :
    ∃ val, VR O ρ s.heap u val ∧ ∀ {A : Around} {E Q : Value → Shared → Prop} {p : Pos}, Q val s → wpAny (model prog w) A (eval (.Name (Str.ofString x) p) env) Q E s :=
  (own_val EO R h1 h2 e1).elim fun val h => ⟨val, h.1, fun hq => wpAny_Name (h.2 hq) (ofString_beq (okName_ne h2).2.1)⟩
theorem load_own {env : Env} {O : Ads} {ρ : List Addr} {st : St} {s : Shared} {A : Around} {E : Value → Shared → Prop} {u : V} {Q : Value → Shared → Prop} (EO : FEnv env kd) (R : SRep h0 K mg mb env O ρ st s) (h1 : isOwn kd (Str.ofString x) = true) (h2 : okName x = true) (e1 : st.get x = some u)
    (hQ : ∀ val, VR O ρ s.heap u val → Q val s) : wpAny (model prog w) A (loadName env (Str.ofString x)) Q E s := (own_val EO R h1 h2 e1).elim fun val h => h.2 (hQ val h.1)
theorem st_aug {o : BO} (h1 : isOwn kd (Str.ofString x) = true) (h2 : okName x = true) (he : ESnd prog w K mg mb P d e kd v) : SSnd prog w K mg mb P d h0 (.aug o x e) kd (.AugAssign (.Name (Str.ofString x) q) o.op v p) := by
  intro env O ρ st s fl st' A Q E RM EO hv R hQ
  refine bnd2 hv fun u u' e1 e2 hv => bnd2 hv fun i j e3 e4 hv => iif hv fun ho hv => bnd hv fun u3 hb hv => ?_
  refine wpAny_AugAssign_Name (load_own EO R h1 h2 e1 fun val ha => he RM EO.toEnvOk e2 R.rep fun s₂ vb k₂ hb' => get_int e3 ha fun t => get_int e4 hb' fun t' => aug_op (O := O) (ρ := ρ) ho hb fun s₃ vc k₃ hc => ?_)
  cases hv
  exact store_sound EO ((R.keeps k₂).keeps k₃) h1 hc fun s4 M4 R4 => hQ _ _ _ ((Mv.of_keeps (keeps_trans k₂ k₃)).trans M4) R4
theorem hal_list {h' : Heap} {a : Addr} {its : Array Value} (hp : h'.PlainList a its) : Alloc h' a := by obtain ⟨n, e⟩ := hp; unfold Alloc; rw [e]; rfl
theorem st_app (hl : q.endLine = p'.line) (h1 : isOwn kd (Str.ofString x) = true) (h2 : okName x = true) (hx : notStar v = true) (he : ESnd prog w K mg mb P d e kd v) : SSnd prog w K mg mb P d h0 (.app x e) kd (.Expr (.Call (.Attribute (.Name (Str.ofString x) r) (Str.ofString "append") q) [v] [] p') p) := by
  intro env O ρ st s fl st' A Q E RM EO hv R hQ
  refine bnd hv fun u e1 hv => bnd hv fun i e3 hv => bnd hv fun w e2 hv => bnd hv fun vs e4 hv => iif hv fun hlen hv => ?_
  cases hv
  rw [gTrk_of e3] at e1
  have hst := star_of (env := env) (rest := []) hx
  refine wpAny_Expr_any (wpAny_Call_append rfl (by rw [hst]; rfl) (by simpa using hl) (by rw [hst]; rfl)
    (var_sound EO.toEnvOk R.rep (isOwn_isVar h1) h2 e1 fun s₁ va k₁ ha => ha.trk_elim fun a ha => ?_)) (interactive_no EO.kind) rfl
  have R1 := R.keeps k₁
  obtain ⟨its, p1, p2⟩ := R1.rep.trk i a vs ha e4
  refine ⟨a, its, rfl, p1.elim fun n e => ⟨_, n, e, rfl, rfl, rfl⟩, he RM EO.toEnvOk e2 R1.rep fun s₂ vb k₂ hb => ?_⟩
  have R2 := R1.keeps k₂
  refine wpAny_list_append_plain (p1.at fun o e => keeps_heap k₂ _ _ e) (fun h' hp' hs' => ?_) (by have := p2.length; simp only [Array.length_toList] at this; rw [this, sizeLine_eq]; rw [big_eq] at hlen; omega)
  have M2 : Mv env O ρ s₂ O ρ { s₂ with heap := h', toks := s₂.toks } := Mv.at (.inr (.inl (List.mem_of_getElem? ha))) (hal_list hp') hs'
  refine hQ _ _ _ ((Mv.of_keeps (keeps_trans k₁ k₂)).trans M2) (R2.turn M2 (fun b hb o e => (hs'.2 b hb).trans e) ha hp' ?_)
  rw [Array.toList_push]
  exact (VRs.mv R2.rep M2 (p2.keeps k₂)).append (VRs.single (VR.mv R2.rep M2 hb))
theorem st_setI {i : PE} {z : Expr} (h1 : isOwn kd (Str.ofString x) = true) (h2 : okName x = true) (hn : notComp v = true) (hi : ESnd prog w K mg mb P d i kd z) (he : ESnd prog w K mg mb P d e kd v) : SSnd prog w K mg mb P d h0 (.setI x i e) kd (.Assign [.Subscript (.Name (Str.ofString x) r) z q] v p) := by
  intro env O ρ st s fl st' A Q E RM EO hv R hQ
  refine bnd hv fun u e1 hv => bnd hv fun y e2 hv => bnd hv fun n e5 hv => bnd hv fun z' e3 hv => bnd hv fun k e6 hv => bnd hv fun vs e4 hv => iif hv fun hl hv => ?_
  cases hv
  rw [gTrk_of e5] at e2
  refine wpAny_Assign_Subscript (he RM EO.toEnvOk e1 R.rep fun s₁ va k₁ ha => var_sound EO.toEnvOk (R.keeps k₁).rep (isOwn_isVar h1) h2 e2 fun s₂ vb k₂ hb =>
    hi RM EO.toEnvOk e3 ((R.keeps k₁).keeps k₂).rep fun s₃ vc k₃ hc => hb.trk_elim fun a hb => get_int e6 hc fun t => ?_) (swap_no hn _ _ _)
  have k23 := keeps_trans k₂ k₃
  have R3 := (R.keeps k₁).keeps k23
  obtain ⟨its, p1, p2⟩ := R3.rep.trk n a vs hb e4
  refine setItem_plain p1 hl.1 (by have := hl.2; rw [big_eq] at this; omega) (by rw [show its.size = vs.length from p2.length]; exact hl.2.1) fun h' hp' hs' => ?_
  have M2 : Mv env O ρ s₃ O ρ { s₃ with heap := h', toks := s₃.toks } := Mv.at (.inr (.inl (List.mem_of_getElem? hb))) (hal_list hp') hs'
  refine hQ _ _ _ ((Mv.of_keeps (keeps_trans k₁ k23)).trans M2) (R3.turn M2 (fun b hb o e => (hs'.2 b hb).trans e) hb hp' ?_)
  exact vrs_set (VRs.mv R3.rep M2 p2) _ (VR.mv R3.rep M2 (ha.keeps k23))
theorem st_ite {t : PE} {a b : List PS} {tv : Expr} {av bv : List Stmt} (ht : TSnd prog w K mg mb P d t kd tv) (ha : BSnd prog w K mg mb P d h0 a kd av) (hb : BSnd prog w K mg mb P d h0 b kd bv) : SSnd prog w K mg mb P d h0 (.ite t a b) kd (.If tv av bv p) := by
  intro env O ρ st s fl st' A Q E RM EO hv R hQ
  refine bnd hv fun c e1 hv => wpAny_If (ht RM EO.toEnvOk e1 R.rep fun s₁ k₁ => ?_)
  cases c
  · exact hb RM EO hv (R.keeps k₁) fun s' O' ρ' M R' => hQ _ _ _ ((Mv.of_keeps k₁).trans M) R'
  · exact ha RM EO hv (R.keeps k₁) fun s' O' ρ' M R' => hQ _ _ _ ((Mv.of_keeps k₁).trans M) R'
theorem st_for {it : PE} {body els : List PS} {i : Expr} {b e : List Stmt} (h1 : isOwn kd (Str.ofString x) = true) (h3 : notSet i = true) (hi : ESnd prog w K mg mb P d it kd i) (hb : BSnd prog w K mg mb P d h0 body kd b) (he : BSnd prog w K mg mb P d h0 els kd e) : SSnd prog w K mg mb P d h0 (.for' x it body els) kd (.For (.Name (Str.ofString x) q) i b e p) := by
  intro env O ρ st s fl st' A Q E RM EO hv R hQ
  refine bnd hv fun u e1 hv => iif hv fun hnt hv => bnd hv fun vs e2 hv => wpAny_For (hi RM EO.toEnvOk e1 R.rep fun s₁ va k₁ ha => iter_sound (R.keeps k₁).rep ha e2 fun I fp Pd Sd s₂ S => ?_) (folded_of h3)
  exact for_sound RM EO h1 (f := fun st => execL P body st) (g := fun st => execL P els st) (fun O' ρ' st₁ s' fl₁ st₂ Q' E' ef R' hQ' => hb RM EO ef R' hQ') (fun O' ρ' st₁ s' fl₁ st₂ Q' E' ef R' hQ' => he RM EO ef R' hQ') S hnt (R.keeps k₁) hv
    fun s' O' ρ' M R' => hQ _ _ _ ((Mv.of_keeps k₁).trans M) R'
theorem st_while {t : PE} {body : List PS} {tv : Expr} {b : List Stmt} (ht : TSnd prog w K mg mb P d t kd tv) (hb : BSnd prog w K mg mb P d h0 body kd b) : SSnd prog w K mg mb P d h0 (.while' t body) kd (.While tv b [] p) := by
  intro env O ρ st s fl st' A Q E RM EO hv R hQ
  exact wpAny_While (while_sound (fun O' ρ' st₁ s' b Q' E' et R' hQ' => ht RM EO.toEnvOk et R'.rep hQ') (fun O' ρ' st₁ s' fl₁ st₂ Q' E' ef R' hQ' => hb RM EO ef R' hQ') R hv hQ)
theorem st_newH {l : String} {q' p'' : Pos} (HK : HdrOk prog w K mg mb d) (h1 : isOwn kd (Str.ofString x) = true) (h3 : isGlob kd (Str.ofString "Headers") = true) (h4 : isOwn kd (Str.ofString l) = true) (h5 : okName l = true) : SSnd prog w K mg mb P d h0 (.newH x l) kd (.Assign [.Name (Str.ofString x) q] (.Call (.Name (Str.ofString "Headers") r) [.Name (Str.ofString l) q'] [] p'') p) := by
  intro env O ρ st s fl st' A Q E RM EO hv R hQ
  refine bnd hv fun u e1 hv => bnd hv fun i e3 hv => bnd hv fun vs e2 hv => iif hv fun he hv => ?_
  cases hv
  rw [gTrk_of e3] at e1
  cases List.isEmpty_iff.mp he
  refine wpAny_Assign_Name (wpAny_Call_NameR (glob_sound EO.toEnvOk R.rep.gr h3 (by decide) HK.new.1 ?_)) (swap_no rfl _ _ _)
  obtain ⟨val, hval, hld⟩ := own_name (prog := prog) (w := w) EO R h4 h5 e1
  obtain ⟨a, ha, rfl⟩ := hval
  obtain ⟨its, p1, p2⟩ := R.rep.trk i a [] ha e2
  have hits : its = #[] := Array.toList_eq_nil_iff.mp p2
  subst hits
  exact HK.new.2 A s a _ _ _ _ RM R.rep.gr p1 (fun Q' hQ' => hld hQ') fun s' b d' k hb hd hH =>
    store_sound (v := .hdr (.trk i)) EO (R.keeps k) h1 (vr_hdr (fun h => (R.rep.al _ h).none hb) (fun h => (R.rep.al _ h).none hd) hH (vr_trk ha)) fun s2 M2 R2 => hQ _ _ _ ((Mv.of_keeps k).trans M2) R2
theorem st_addH {t : String} {a b : PE} {y z : Expr} (HK : HdrOk prog w K mg mb d) (hl : q.endLine = p'.line) (h1 : isOwn kd (Str.ofString t) = true) (h2 : okName t = true) (hy : notStar y = true) (hz : notStar z = true) (ha : ESnd prog w K mg mb P d a kd y) (hb : ESnd prog w K mg mb P d b kd z) :
    SSnd prog w K mg mb P d h0 (.addH t a b) kd (.Expr (.Call (.Attribute (.Name (Str.ofString t) r) (Str.ofString "add_header") q) [y, z] [] p') p) := by
  intro env O ρ st s fl st' A Q E RM EO hv R hQ
  refine bnd hv fun u e1 hv => bnd2 hv fun u1 u2 e2 e3 hv => bnd hv fun st1 e4 hv => ?_
  cases hv
  exact wpAny_Expr_any (add_call HK RM EO R h1 h2 hl hy hz ha hb e1 e2 e3 e4 fun s' M R' => hQ _ _ _ M R') (interactive_no EO.kind) rfl
theorem st_addIf {t : String} {c a b : PE} {cv y z : Expr} {i : Nat} {u p₁ p₂ : Pos} {body : List Stmt} (HK : HdrOk prog w K mg mb d) (hc : TSnd prog w K mg mb P d c kd cv) (hl : q.endLine = p'.line) (h1 : isOwn kd (Str.ofString t) = true) (h2 : okName t = true) (hy : notStar y = true) (hz : notStar z = true) (ha : ESnd prog w K mg mb P d a kd y) (hb : ESnd prog w K mg mb P d b kd z) :
    SSnd prog w K mg mb P d h0 (.addIf c t a b) kd (.If (.BoolOp .Or [cv, .Compare (.Call (.Attribute (.Name (Str.ofString t) r) (Str.ofString "add_header") q) [y, z] [] p') [.IsNot] [.Constant .none i u] p₁] p₂) body [] p) := by
  intro env O ρ st s fl st' A Q E RM EO hv R hQ
  refine bnd hv fun qb e0 hv => ?_
  cases qb
  · refine bnd (x := st.get t) hv fun u e1 hv => bnd2 hv fun u1 u2 e2 e3 hv => bnd hv fun st1 e4 hv => ?_
    cases hv
    refine wpAny_If (wpAny_isTrue_BoolOp (wpAny_allTrue_Or_cons (hc RM EO.toEnvOk e0 R.rep fun s₁ k₁ => ?_)))
    refine wpAny_allTrue_Or_cons (wpAny_isTrue_Compare1 (add_call HK RM EO (R.keeps k₁) h1 h2 hl hy hz ha hb e1 e2 e3 e4 fun s' M R' => wpAny_Constant_none (wpAny_isNot_self rfl (wpAny_truthy_bool ?_))) rfl)
    exact wpAny_allTrue_Or_nil (wpAny_execs_nil (hQ _ _ _ ((Mv.of_keeps k₁).trans M) R'))
  · exact nosome hv
theorem st_cons {p : PS} {ps : List PS} {stm : Stmt} {ss : List Stmt} (hp : SSnd prog w K mg mb P d h0 p kd stm) (hps : BSnd prog w K mg mb P d h0 ps kd ss) : BSnd prog w K mg mb P d h0 (p :: ps) kd (stm :: ss) := by
  intro env O ρ st s fl st' A Q E RM EO hv R hQ
  refine wpAny_execs_cons (bnd hv fun r e1 hv => ?_)
  revert e1 hv
  refine fl_cases r (fun st₂ => ?_) (fun st₂ => ?_) (fun r st₂ => ?_) <;> intro e1 hv
  · exact hp RM EO e1 R fun s' O' ρ' M R' => hps RM EO hv R' fun s'' O'' ρ'' M' R'' => hQ _ _ _ (M.trans M') R''
  · cases hv; exact hp RM EO e1 R fun s' O' ρ' M R' => hQ _ _ _ M R'
  · cases hv; exact hp RM EO e1 R fun s' O' ρ' M R' => hQ _ _ _ M R'
end

include PK HK
theorem asg_snd {x : String} {e : PE} {kd : Kd} {q p : Pos} {v : Expr} (h1 : isOwn kd (Str.ofString x) = true) (h2 : matchE e kd v = true) (h3 : (isCompE e || notComp v) = true) : SSnd prog w K mg mb P d h0 (.asg x e) kd (.Assign [.Name (Str.ofString x) q] v p) :=
  (Bool.or_eq_true_iff.mp h3).elim (fun hc => PE.comp.elim (motive_1 := fun e => matchE e kd v = true → SSnd prog w K mg mb P d h0 (.asg x e) kd (.Assign [.Name (Str.ofString x) q] v p)) e (of_decide_eq_true hc)
    (fun _ _ it ifs h2 => matchE_comp h2 fun _ _ _ _ _ _ CO h1' h2 h3 h4 => st_comp h1 CO h1' (evalE_snd PK it h2) (evalE_snd PK _ h3) (evalIfs_snd PK ifs h4)) h2) fun hn => st_asg h1 hn (evalE_snd PK _ h2)
mutual
theorem execS_snd : ∀ (p : PS) {kd : Kd} {stm : Stmt}, matchS p kd stm = true → SSnd prog w K mg mb P d h0 p kd stm
  | .asg _ _, _, _, h => matchS_asg h fun _ _ _ h1 h2 h3 => asg_snd PK HK h1 h2 h3
  | .asgL _ es, _, _, h => matchS_asgL h fun _ _ _ _ h1 h2 => st_asgL h1 (evalEs_snd PK es h2)
  | .aug _ _ e, _, _, h => matchS_aug h fun _ _ _ h1 h2 h3 => st_aug h1 h2 (evalE_snd PK e h3)
  | .app _ e, _, _, h => matchS_app h fun _ _ _ _ _ hl h1 h2 h3 => st_app hl h1 h2 (match_notStar h3) (evalE_snd PK e h3)
  | .setI _ i e, _, _, h => matchS_setI h fun _ _ _ _ _ h1 h2 h3 h4 h5 => st_setI h1 h2 h5 (evalE_snd PK i h3) (evalE_snd PK e h4)
  | .ite t a b, _, _, h => matchS_ite h fun _ _ _ _ h1 h2 h3 => st_ite (evalT_snd PK t h1) (execL_snd a h2) (execL_snd b h3)
  | .for' _ it body els, _, _, h => matchS_for h fun _ _ _ _ _ h1 h2 h3 h4 h5 => st_for h1 h2 (evalE_snd PK it h3) (execL_snd body h4) (execL_snd els h5)
  | .while' t body, _, _, h => matchS_while h fun _ _ _ h1 h2 => st_while (evalT_snd PK t h1) (execL_snd body h2)
  | .ret e, _, _, h => matchS_ret h fun _ _ h RM EO hv R hQ => bnd hv fun _ e1 hv => wpAny_Return_some (ret_sound PK RM EO h e1 R fun s' val k hr => by cases hv; exact hQ s' _ _ (.of_keeps k) (R.keeps k) val hr)
  | .brk, _, _, h => onBreak_elim h fun _ _ _ _ hv R hQ => by cases hv; exact wpAny_Break (hQ _ _ _ .refl R)
  | .newH _ _, _, _, h => matchS_newH h fun _ _ _ _ _ h1 h2 h3 h4 => st_newH HK h1 h2 h3 h4
  | .addH _ a b, _, _, h => matchS_addH h fun _ _ _ _ _ _ hl h1 h2 h3 h4 => st_addH HK hl h1 h2 (match_notStar h3) (match_notStar h4) (evalE_snd PK a h3) (evalE_snd PK b h4)
  | .addIf c _ a b, _, _, h => matchS_addIf h fun _ _ _ _ _ _ _ _ _ _ _ _ h0 hl h1 h2 h3 h4 => st_addIf HK (evalT_snd PK c h0) hl h1 h2 (match_notStar h3) (match_notStar h4) (evalE_snd PK a h3) (evalE_snd PK b h4)
theorem execL_snd : ∀ (ps : List PS) {kd : Kd} {ss : List Stmt}, matchL ps kd ss = true → BSnd prog w K mg mb P d h0 ps kd ss
  | [], _, _, h => emp_elim h fun _ _ hv R hQ => by cases hv; exact wpAny_execs_nil (hQ _ _ _ .refl R)
  | p :: ps, _, _, h => nonE_elim h fun _ _ h => ann h fun h1 h2 => st_cons (execS_snd p h1) (execL_snd ps h2)
end
theorem execS_sound (p : PS) {kd : Kd} {stm : Stmt} {env : Env} {O : Ads} {ρ : List Addr} {st : St} {s : Shared} {fl : Fl} {st' : St} {A : Around} {Q : Flow → Shared → Prop} {E : Value → Shared → Prop}
    (RM : Room d A) (EO : FEnv env kd) (hm : matchS p kd stm = true) (hv : execS P p st = some (fl, st')) (R : SRep h0 K mg mb env O ρ st s)
    (hQ : ∀ s' O' ρ', Mv env O ρ s O' ρ' s' → SRep h0 K mg mb env O' ρ' st' s' → FlQ h0 Q fl s') : wpAny (model prog w) A (exec stm env) Q E s := execS_snd PK HK p hm RM EO hv R hQ
theorem execL_sound (ps : List PS) {kd : Kd} {ss : List Stmt} {env : Env} {O : Ads} {ρ : List Addr} {st : St} {s : Shared} {fl : Fl} {st' : St} {A : Around} {Q : Flow → Shared → Prop} {E : Value → Shared → Prop}
    (RM : Room d A) (EO : FEnv env kd) (hm : matchL ps kd ss = true) (hv : execL P ps st = some (fl, st')) (R : SRep h0 K mg mb env O ρ st s)
    (hQ : ∀ s' O' ρ', Mv env O ρ s O' ρ' s' → SRep h0 K mg mb env O' ρ' st' s' → FlQ h0 Q fl s') : wpAny (model prog w) A (execs ss env) Q E s := execL_snd PK HK ps hm RM EO hv R hQ
end
end
section
open PySem PySem.Spec PySem.Calls PySem.W PyProof.Rows

theorem lookup_zip_some {xs : List Str} {vals : List Value} (hl : vals.length = xs.length) : ∀ n ∈ xs, ((xs.zip vals).lookup n).isSome = true := by
  induction xs generalizing vals with
  | nil => intro n h; cases h
  | cons x xs ih =>
    cases vals with
    | nil => cases hl
    | cons v vals =>
      intro n hn
      simp only [List.zip_cons_cons, List.lookup_cons]
      cases hb : n == x with
      | true => rfl
      | false =>
        refine ih (by simpa using hl) n ?_
        rcases List.mem_cons.mp hn with e | e
        · rw [e, beq_self_eq_true] at hb; cases hb
        · exact e
theorem filterMap_zip {xs : List Str} {vals : List Value} (hl : vals.length = xs.length) (hn : xs.Nodup) : xs.filterMap (fun n => ((xs.zip vals).lookup n).map (n, ·)) = xs.zip vals := by
  induction xs generalizing vals with
  | nil => rfl
  | cons x xs ih =>
    cases vals with
    | nil => cases hl
    | cons v vals =>
      simp only [List.zip_cons_cons, List.filterMap_cons, List.lookup_cons, beq_self_eq_true, Option.map_some]
      congr 1
      have hx := (List.nodup_cons.mp hn)
      refine Eq.trans ?_ (ih (vals := vals) (by simpa using hl) hx.2)
      have cong : ∀ (l : List Str), (∀ n ∈ l, n ≠ x) → l.filterMap (fun n => Option.map (fun y => (n, y)) (match n == x with | true => some v | false => List.lookup n (xs.zip vals))) = l.filterMap fun n => ((xs.zip vals).lookup n).map (n, ·) := by
        intro l
        induction l with
        | nil => intro _; rfl
        | cons n l ihl =>
          intro h
          have : (n == x) = false := by simpa using h n List.mem_cons_self
          simp only [List.filterMap_cons, this]
          rw [ihl fun m hm => h m (List.mem_cons_of_mem _ hm)]
      exact cong xs fun n hm e => hx.1 (e ▸ hm)
theorem bind_plain {fd : FuncData} {xs : List Str} {vals : List Value} (h1 : fd.params.posonlyargs = []) (h2 : fd.params.args.map (·.arg) = xs) (h3 : fd.params.kwonlyargs = []) (h4 : fd.params.vararg = none) (h5 : fd.params.kwarg = none)
   (h6 : fd.defaults = .none) (hl : vals.length = xs.length) (hn : xs.Nodup) : bindArgs fd ⟨vals, []⟩ = pure (xs.zip vals) := by
  unfold bindArgs
  have hs : seqItems? Value.none = pure none := rfl
  have hlook := lookup_zip_some hl
  have hfm := filterMap_zip hl hn
  have hmiss : (xs.filter fun n => ((xs.zip vals).lookup n).isNone) = [] := by
    refine List.filter_eq_nil_iff.mpr fun n hm => ?_
    have := hlook n hm
    cases e : (xs.zip vals).lookup n with
    | none => rw [e] at this; cases this
    | some _ => simp
  simp only [h1, h2, h3, h4, h5, h6, hs, List.map_nil, List.nil_append, List.append_nil, List.forIn_nil, pure_bind, Option.getD_none, Array.toList_empty, List.drop_nil, List.length_nil, Nat.sub_zero, List.take_length, hl,
    Nat.lt_irrefl, gt_iff_lt, decide_false, Bool.false_and, Bool.false_eq_true, if_false, List.zip_nil_right, hfm, List.drop_length, hmiss]
  rfl

theorem bindL_skip {k : Str → Option NameKind} {n : Str} : ∀ {l : List (Str × Value)} {m : Str → Option Value}, (∀ x ∈ l, x.1 ≠ n) → bindL k l m n = m n
  | [], m, _ => rfl
  | (y, v) :: r, m, h => by
    unfold bindL
    rw [bindL_skip fun x hx => h x (List.mem_cons_of_mem _ hx)]
    have : n ≠ y := fun e => h (y, v) List.mem_cons_self e.symm
    split
    · simp only [if_neg this]
    · rfl
theorem bindC_skip {k : Str → Option NameKind} {n : Str} : ∀ {l : List (Str × Value)} {m : Str → Option Value}, (∀ x ∈ l, x.1 ≠ n) → bindC k l m n = m n
  | [], m, _ => rfl
  | (y, v) :: r, m, h => by
    unfold bindC
    rw [bindC_skip fun x hx => h x (List.mem_cons_of_mem _ hx)]
    have : n ≠ y := fun e => h (y, v) List.mem_cons_self e.symm
    split
    · rfl
    · simp only [if_neg this]
theorem zip_ne {xs : List String} {vals : List Value} {x : String} (h : x ∉ xs) : ∀ y ∈ (xs.map Str.ofString).zip vals, y.1 ≠ Str.ofString x := by
  intro y hy e
  have := List.of_mem_zip hy
  rw [e] at this
  obtain ⟨z, hz, hzx⟩ := List.mem_map.mp this.1
  exact h (ofString_inj hzx ▸ hz)

theorem binds_get {k : Str → Option NameKind} {O : Ads} {ρ : List Addr} {h : Heap} : ∀ {xs : List String} {vs : List V} {vals : List Value} {m : Str → Option Value}, xs.Nodup → VRs O ρ h vs vals → ∀ {x : String} {v : V}, getL (xs.zip vs) x = some v →
    ∃ val, VR O ρ h v val ∧ (k (Str.ofString x) = some .local → bindL k ((xs.map Str.ofString).zip vals) m (Str.ofString x) = some val) ∧ (k (Str.ofString x) ≠ some .local → bindC k ((xs.map Str.ofString).zip vals) m (Str.ofString x) = some val)
  | [], _, _, _, _, _, x, v, e => by simp [getL] at e
  | y :: xs, [], _, _, _, _, x, v, e => by simp [getL] at e
  | y :: xs, u :: vs, vals, m, hn, H, x, v, e => by
    simp only [VRs] at H
    obtain ⟨z, zs, rfl, h1, h2⟩ := H
    have hn' := List.nodup_cons.mp hn
    simp only [List.zip_cons_cons, getL] at e
    simp only [List.map_cons, List.zip_cons_cons, bindL, bindC]
    split at e
    · rename_i hyx
      subst hyx
      cases e
      refine ⟨z, h1, fun hk => ?_, fun hk => ?_⟩
      · rw [bindL_skip (zip_ne hn'.1), if_pos hk, if_pos rfl]
      · rw [bindC_skip (zip_ne hn'.1), if_neg hk, if_pos rfl]
    · rename_i hyx
      have e' := e
      obtain ⟨val, q1, q2, q3⟩ := binds_get (k := k) (m := if k (Str.ofString y) = some .local then fun w => if w = Str.ofString y then some z else m w else m) hn'.2 h2 e
      obtain ⟨val', q1', q2', q3'⟩ := binds_get (k := k) (m := if k (Str.ofString y) = some .local then m else fun w => if w = Str.ofString y then some z else m w) hn'.2 h2 e'
      by_cases hk : k (Str.ofString x) = some .local
      · exact ⟨val, q1, q2, fun h => absurd hk h⟩
      · exact ⟨val', q1', fun h => absurd h hk, q3'⟩

theorem cells_some : ∀ {names : Kd} {n : Nat} {acc : List (Str × Addr)} {x : Str}, ((x, .cell) ∈ names ∨ (acc.lookup x).isSome = true) → ((cellsFrom n names acc).lookup x).isSome = true
  | [], _, _, _, h => by
    rcases h with h | h
    · cases h
    · exact h
  | (y, k) :: r, n, acc, x, h => by
    unfold cellsFrom
    split
    · rename_i hk
      refine cells_some ?_
      by_cases hxy : x = y
      · subst hxy; right; rw [List.lookup_cons, beq_self_eq_true]; rfl
      · have hb : (x == y) = false := by simpa using hxy
        rcases h with h | h
        · rcases List.mem_cons.mp h with e | h
          · exact absurd (Prod.mk.inj e).1 hxy
          · exact .inl h
        · right; rw [List.lookup_cons, hb]; exact h
    · rename_i hk
      refine cells_some ?_
      rcases h with h | h
      · rcases List.mem_cons.mp h with e | h
        · rw [← (Prod.mk.inj e).2] at hk; simp at hk
        · exact .inl h
      · exact .inr h

structure FnIs0 (K : Frag) (a : Addr) (xs : List String) (fd : FuncData) (body : List Stmt) : Prop where
  at' : ∃ o, K.lookup a = some o ∧ o.data = .func fd
  bd : fd.body = .stmts body
  clo : fd.closure = []
  gl : fd.globals = mainGlobals
  bi : fd.builtins = builtinsNs
  code : codeIn K fd.code fd.qualname = true
  co : fd.scope.isCoroutine = false
  gen : fd.scope.isGenerator = false
  kind : fd.scope.kind = .function
  own : ∀ x ∈ xs, isOwn fd.scope.names (Str.ofString x) = true
  nofree : ∀ y ∈ fd.scope.names, y.2 ≠ .free
  nd : xs.Nodup
structure FnIs (K : Frag) (a : Addr) (xs : List String) (fd : FuncData) (body : List Stmt) : Prop extends FnIs0 K a xs fd body where
  p1 : fd.params.posonlyargs = []
  p2 : fd.params.args.map (·.arg) = xs.map Str.ofString
  p3 : fd.params.kwonlyargs = []
  p4 : fd.params.vararg = none
  p5 : fd.params.kwarg = none
  df : fd.defaults = .none
structure FnOk (K : Frag) (a : Addr) (xs : List String) (ps : List PS) (fd : FuncData) (body : List Stmt) : Prop extends FnIs K a xs fd body where
  m : matchL ps fd.scope.names body = true
theorem FnIs0.fnAt {K : Frag} {a : Addr} {xs : List String} {fd : FuncData} {body : List Stmt} (F : FnIs0 K a xs fd body) : FnAt K a := let ⟨o, h1, h2⟩ := F.at'; ⟨o, fd, h1, h2⟩

section
variable {prog : Program} {w : World} {K : Frag} {mg mb : Str → Option Value} {P : Prims} {d : Nat}

theorem map_inj_nodup {xs : List String} (h : xs.Nodup) : (xs.map Str.ofString).Nodup := by
  induction xs with
  | nil => simp
  | cons x xs ih =>
    have h' := List.nodup_cons.mp h
    rw [List.map_cons, List.nodup_cons]
    refine ⟨fun hm => ?_, ih h'.2⟩
    obtain ⟨y, hy, e⟩ := List.mem_map.mp hm
    exact h'.1 (ofString_inj e ▸ hy)

/-- a def is entered -/
theorem call_enterB {B : Heap → Prop} {A : Around} {s : Shared} {args : Args} {Q : Value → Shared → Prop} {E : Value → Shared → Prop} {a : Addr} {xs : List String} {fd : FuncData} {body : List Stmt} (F : FnIs0 K a xs fd body)
    {vs : List V} (hl : vs.length = xs.length) (RM : Room (d + 1) A) (G : Gr K mg mb s.heap)
    (hbind : ∀ (Q' : List (Str × Value) → Shared → Prop) (E' : Value → Shared → Prop), (∀ s₁ vals, Keeps s s₁ → B s₁.heap → VRs (fun _ => False) [] s₁.heap vs vals → Q' ((xs.map Str.ofString).zip vals) s₁) → wpAny (model prog w) A.in1 (bindArgs fd args) Q' E' s)
    (h : ∀ env O h₁ t₁, (∃ hb, B hb ∧ (∀ b o, hb.get? b = some o → h₁.get? b = some o) ∧ ∀ b, O b → hb.get? b = none) → FEnv env fd.scope.names → Room d (A.deeper env) → SRep s.heap K mg mb env O [] { locs := xs.zip vs, tr := [] } { s with heap := h₁, toks := t₁ } →
      wpAny (model prog w) (A.deeper env) (execs body env) (fun f s' => Q (match f with | .ret v => v | _ => .none) s')
        (fun e s' => wpAny (model prog w) (A.deeper env) (leaving env e) (fun _ s'' => E e s'') (fun e' s'' => E e' s'') s') { s with heap := h₁, toks := t₁ }) :
    codeAny (model prog w) A (.call (.ref a) args) (fun r s' => match r with | .ok (.ret v) => Q v s' | .ok _ => False | .error e => E e s') s := by
  obtain ⟨o, ho, hdata⟩ := F.at'
  refine codeAny_call_function (by have := RM.dep; omega) (G.k _ _ ho) hdata F.co F.gen F.bd (codeRec_of G.k F.code) (hbind _ _ fun s₁ vals hk hB hvals => ?_)
  rw [F.clo]
  refine wpAny_newFunctionEnv_cells F.kind ?_ fun env henv s' x => ?_
  · intro x hx
    have := List.of_mem_zip hx
    obtain ⟨y, hy, e⟩ := List.mem_map.mp this.1
    rw [← e]
    rcases isOwn_cases (F.own y hy) with h | h
    · exact .inl h
    · exact .inr ⟨h, cells_some (.inl (mem_of_lookup h))⟩
  · have G1 := G.keeps (keeps_heap hk)
    have hkeep := x.toInCall.keep
    refine ⟨(G1.keeps hkeep).lim, codeAny_func ?_⟩
    have hlen := hvals.length
    have e1 : env.scope = fd.scope := by rw [henv]; rfl
    have e2 : env.locals = s₁.heap.objs.size := by rw [henv]; rfl
    have e3 : env.globals = mainGlobals := by rw [henv]; exact F.gl
    have e4 : env.builtins = builtinsNs := by rw [henv]; exact F.bi
    have e5 : env.cells = cellsFrom (s₁.heap.objs.size + 1) fd.scope.names [] := by rw [henv]; rfl
    have hkk : ∀ n, env.kindOf n = fd.scope.names.lookup n := fun n => by unfold Env.kindOf; rw [e1]
    have cellEx : ∀ n : Str, fd.scope.names.lookup n = some .cell → ∃ c, env.cells.lookup n = some c := fun n hn => by
      rw [e5]; exact Option.isSome_iff_exists.mp (cells_some (.inl (mem_of_lookup hn)))
    have EO : FEnv env fd.scope.names := by
      refine ⟨⟨by rw [e1]; exact F.kind, by rw [e1], e3, e4, fun n hn => ?_⟩, fun n m c h1 h2 => name_of_addr x.apart (mem_of_lookup h1) (mem_of_lookup h2), by rw [henv]; rfl⟩
      rcases hn with hn | hn
      · exact cellEx n hn
      · exact absurd rfl (F.nofree _ (mem_of_lookup hn))
    have cellFresh : ∀ n c, env.cells.lookup n = some c → s₁.heap.get? c = none := fun n c h => Heap.get?_none_of_le (by have := x.above n c (mem_of_lookup h); rw [e2] at this; exact Nat.le_of_lt this)
    have back : ∀ c, s₁.heap.get? c = none → s.heap.get? c = none := fun c h => by
      cases e : s.heap.get? c with
      | none => rfl
      | some o => rw [keeps_heap hk c o e] at h; cases h
    obtain ⟨hs, t, es, _⟩ := x.toInCall.done
    obtain ⟨hs₁, t₁, es₁, hk₁⟩ := hk
    subst es₁
    subst es
    have R : SRep s.heap K mg mb env (fun b => b = env.locals ∨ ∃ n, env.cells.lookup n = some b) [] { locs := xs.zip vs, tr := [] } { s with heap := hs, toks := t } := by
      refine ⟨⟨G1.keeps hkeep, fun b hb => ?_, .inl rfl, by simp, fun n c h => .inr ⟨n, h⟩, ⟨_, x.toInCall.ns, fun y v hy hk hg => ?_⟩, fun y hy => ?_, rfl, by simp⟩, G, fun b o e => hkeep b o (hk₁ b o e), fun b hb => ?_, List.nodup_nil⟩
      · rcases hb with rfl | ⟨n, h⟩
        · obtain ⟨o', _, _, e, _⟩ := x.toInCall.ns; unfold Alloc; rw [e]; rfl
        · obtain ⟨o', e, _⟩ := x.cell n b h; unfold Alloc; rw [e]; rfl
      · obtain ⟨val, q1, q2, _⟩ := binds_get (k := env.kindOf) (m := fun _ => none) F.nd hvals hg
        refine ⟨val, q2 hk, VR.mono (fun b hb _ hO => ?_) (fun b o' _ e => hkeep b o' e) (fun i a' e => by simp at e) v val q1⟩
        rcases hO with rfl | ⟨n, h⟩
        · rw [e2, fresh_size] at hb; cases hb
        · rw [cellFresh n b h] at hb; cases hb
      · have hy' : fd.scope.names.lookup (Str.ofString y) = some .cell := by
          rw [hkk] at hy
          rcases hy with hy | hy
          · exact hy
          · exact absurd rfl (F.nofree _ (mem_of_lookup hy))
        obtain ⟨c, hc⟩ := cellEx _ hy'
        refine ⟨c, _, hc, x.cell _ c hc, fun v hg => ?_⟩
        obtain ⟨val, q1, _, q2⟩ := binds_get (k := env.kindOf) (m := fun _ => none) F.nd hvals hg
        refine ⟨val, q2 (by rw [hkk, hy']; decide), VR.mono (fun b hb _ hO => ?_) (fun b o' _ e => hkeep b o' e) (fun i a' e => by simp at e) v val q1⟩
        rcases hO with rfl | ⟨n, h⟩
        · rw [e2, fresh_size] at hb; cases hb
        · rw [cellFresh n b h] at hb; cases hb
      · rcases hb with rfl | ⟨n, h⟩
        · rw [e2]; exact back _ (fresh_size _)
        · exact back _ (cellFresh n b h)
    exact wpAny_mono (h env _ hs t ⟨_, hB, hkeep, fun b hb => by
      rcases hb with rfl | ⟨n, hn⟩
      · rw [e2]; exact fresh_size _
      · exact cellFresh n b hn⟩ EO (RM.deeper (env := env)) R) (fun f s' q => q) fun _ _ q => q

theorem call_enterG {A : Around} {s : Shared} {args : Args} {Q : Value → Shared → Prop} {E : Value → Shared → Prop} {a : Addr} {xs : List String} {fd : FuncData} {body : List Stmt} (F : FnIs0 K a xs fd body)
    {vs : List V} (hl : vs.length = xs.length) (RM : Room (d + 1) A) (G : Gr K mg mb s.heap)
    (hbind : ∀ (Q' : List (Str × Value) → Shared → Prop) (E' : Value → Shared → Prop), (∀ s₁ vals, Keeps s s₁ → VRs (fun _ => False) [] s₁.heap vs vals → Q' ((xs.map Str.ofString).zip vals) s₁) → wpAny (model prog w) A.in1 (bindArgs fd args) Q' E' s)
    (h : ∀ env O h₁ t₁, FEnv env fd.scope.names → Room d (A.deeper env) → SRep s.heap K mg mb env O [] { locs := xs.zip vs, tr := [] } { s with heap := h₁, toks := t₁ } →
      wpAny (model prog w) (A.deeper env) (execs body env) (fun f s' => Q (match f with | .ret v => v | _ => .none) s')
        (fun e s' => wpAny (model prog w) (A.deeper env) (leaving env e) (fun _ s'' => E e s'') (fun e' s'' => E e' s'') s') { s with heap := h₁, toks := t₁ }) :
    codeAny (model prog w) A (.call (.ref a) args) (fun r s' => match r with | .ok (.ret v) => Q v s' | .ok _ => False | .error e => E e s') s :=
  call_enterB (B := fun _ => True) F hl RM G (fun Q' E' hq => hbind Q' E' fun s₁ vals hk hv => hq s₁ vals hk trivial hv) fun env O h₁ t₁ _ EO RM' R => h env O h₁ t₁ EO RM' R

theorem call_enter {A : Around} {s : Shared} {vals : List Value} {Q : Value → Shared → Prop} {E : Value → Shared → Prop} {a : Addr} {xs : List String} {fd : FuncData} {body : List Stmt} (F : FnIs K a xs fd body)
    {vs : List V} (hl : vs.length = xs.length) (RM : Room (d + 1) A) (G : Gr K mg mb s.heap) (hvals : VRs (fun _ => False) [] s.heap vs vals)
    (h : ∀ env O h₁ t₁, FEnv env fd.scope.names → Room d (A.deeper env) → SRep s.heap K mg mb env O [] { locs := xs.zip vs, tr := [] } { s with heap := h₁, toks := t₁ } →
      wpAny (model prog w) (A.deeper env) (execs body env) (fun f s' => Q (match f with | .ret v => v | _ => .none) s')
        (fun e s' => wpAny (model prog w) (A.deeper env) (leaving env e) (fun _ s'' => E e s'') (fun e' s'' => E e' s'') s') { s with heap := h₁, toks := t₁ }) :
    wpAny (model prog w) A (call (.ref a) vals) Q E s := by
  have hlen := hvals.length
  refine wpAny_call (call_enterG F.toFnIs0 hl RM G (fun Q' E' hq => ?_) h)
  exact wpAny_of_eq (bind_plain F.p1 F.p2 F.p3 F.p4 F.p5 F.df (by rw [hlen, hl, List.length_map]) (map_inj_nodup F.nd)) (hq _ _ (keeps_refl _) hvals)

/-- a def's contract -/
theorem fn_sound (PK : PrimsOk prog w K mg mb d P) (HK : HdrOk prog w K mg mb d) {a : Addr} {xs : List String} {ps : List PS} {fd : FuncData} {body : List Stmt} (F : FnOk K a xs ps fd body)
    {vs : List V} {r : V} {st' : St} (hl : vs.length = xs.length) (hrun : execL P ps { locs := xs.zip vs, tr := [] } = some (.ret r, st')) : CallOk prog w K mg mb (d + 1) a vs r := by
  intro A s vals Q E RM G hvals hQ
  refine call_enter F.toFnIs hl RM G hvals fun env O h₁ t₁ EO RM' R => ?_
  refine execL_sound PK HK ps RM' EO F.m hrun R fun s' O' ρ' M R' => ?_
  intro val hval
  obtain ⟨h', t', rfl⟩ := M.sh
  exact hQ _ _ ⟨h', t', rfl, R'.k0⟩ hval
end
theorem arg3 {as : List Arg} {a b c : Str} (h : as.map (·.arg) = [a, b, c]) : ∃ x y z : Arg, as = [x, y, z] ∧ x.arg = a ∧ y.arg = b ∧ z.arg = c := by
  match as, h with
  | [x, y, z], h =>
    injection h with h1 h
    injection h with h2 h
    injection h with h3 h
    exact ⟨x, y, z, rfl, h1, h2, h3⟩
theorem arg2 {as : List Arg} {a b : Str} (h : as.map (·.arg) = [a, b]) : ∃ x y : Arg, as = [x, y] ∧ x.arg = a ∧ y.arg = b := by
  match as, h with
  | [x, y], h =>
    injection h with h1 h
    injection h with h2 h
    exact ⟨x, y, rfl, h1, h2⟩
theorem arg1 {as : List Arg} {a : Str} (h : as.map (·.arg) = [a]) : ∃ x : Arg, as = [x] ∧ x.arg = a := by
  match as, h with
  | [x], h =>
    injection h with h1 h
    exact ⟨x, rfl, h1⟩
end
section
open PySem PySem.Spec PySem.Calls PySem.W PyProof.Rows

noncomputable def p_add : List PS := [
  .ret (.bin .add (.var "a") (.var "b"))]
noncomputable def p_sub : List PS := [
  .ret (.bin .sub (.var "a") (.var "b"))]
noncomputable def p_mul : List PS := [
  .ret (.bin .mul (.var "a") (.var "b"))]
noncomputable def p_mod : List PS := [
  .ret (.bin .fmod (.var "a") (.var "b"))]
noncomputable def p_floordiv : List PS := [
  .ret (.bin .fdiv (.var "a") (.var "b"))]
noncomputable def p_lshift : List PS := [
  .ret (.bin .shl (.var "a") (.var "b"))]
noncomputable def p_pretty_flags : List PS := [
  .asgL "names" [],
  .for' "i" (.rng1 (.int 32)) [
    .asg "flag" (.bin .shl (.int 1) (.var "i")),
    .ite (.bin .band (.var "flags") (.var "flag")) [
      .app "names" (.dget (.var "flag") (.b1 .hex (.var "flag"))),
      .aug .bxor "flags" (.var "flag"),
      .ite (.not (.var "flags")) [
        .brk] []] []] [
    .app "names" (.b1 .hex (.var "flags"))],
  .ret (.join [44, 32] (.var "names"))]
noncomputable def p_law_pieces : List PS := [
  .asgL "cells" [(.int 24), (.int 13), (.int 41), (.int 275)],
  .for' "place" (.rng1 (.b1 .len (.var "script"))) [
    .setI "cells" (.bin .fmod (.var "place") (.int 4)) (.bin .add (.idx (.var "cells") (.bin .fmod (.var "place") (.int 4))) (.idx (.var "script") (.var "place")))] [],
  .asg "signs" (.lst [(.str []), (.str [46]), (.str [13]), (.str [10]), (.str [97]), (.str [46]), (.str [13]), (.str [10]), (.str [32]), (.str [133])]),
  .asg "pieces" (.comp (.join [] (.comp (.idx (.var "signs") (.bin .fmod (.bin .fdiv (.var "cell") (.bin .pow (.int 10) (.var "step"))) (.int 10))) "step" (.rng1 (.int 3)) [])) "cell" (.var "cells") []),
  .ret (.comp (.ife (.cmp .ne (.var "piece") (.str [])) (.var "piece") (.str [46])) "piece" (.var "pieces") [])]
noncomputable def p_law_sent : List PS := [
  .asg "told" (.str []),
  .asg "before" (.str [10]),
  .for' "sign" (.var "piece") [
    .ite (.and [(.cmp .eq (.var "sign") (.str [46])), (.cmp .inn (.var "before") (.str [13, 10]))]) [
      .asg "told" (.bin .add (.var "told") (.str [46, 46]))] [
      .ite (.or [(.cmp .eq (.var "sign") (.str [13])), (.and [(.cmp .eq (.var "sign") (.str [10])), (.cmp .ne (.var "before") (.str [13]))])]) [
        .asg "told" (.bin .add (.var "told") (.str [13, 10]))] [
        .ite (.cmp .ne (.var "sign") (.str [10])) [
          .asg "told" (.bin .add (.var "told") (.var "sign"))] []]],
    .asg "before" (.var "sign")] [],
  .ret (.var "told")]
noncomputable def p_law_cut : List PS := [
  .ite (.and [(.cmp .eq (.idx (.var "piece") (.neg 1)) (.str [13])), (.cmp .eq (.idx (.var "other") (.int 0)) (.str [10]))]) [
    .ret (.int 2)] [],
  .ite (.and [(.cmp .eq (.idx (.var "other") (.int 0)) (.str [46])), (.cmp .nin (.idx (.var "piece") (.neg 1)) (.str [13, 10]))]) [
    .ret (.int 1)] [],
  .ret (.int 0)]
noncomputable def p_law_mail : List PS := [
  .asg "mail" (.join [] (.comp (.idx (.var "alone") (.var "one")) "one" (.take (.var "chosen") (.int 1)) [])),
  .for' "place" (.rng2 (.int 1) (.b1 .len (.var "chosen"))) [
    .asg "mail" (.bin .add (.var "mail") (.drop (.idx (.var "alone") (.idx (.var "chosen") (.var "place"))) (.idx (.idx (.var "cuts") (.idx (.var "chosen") (.bin .sub (.var "place") (.int 1)))) (.idx (.var "chosen") (.var "place")))))] [],
  .ret (.var "mail")]
noncomputable def p_law_share : List PS := [
  .asg "share" (.bin .mul (.int 12) (.idx (.var "own") (.var "one"))),
  .for' "high" (.rng1 (.b1 .len (.var "chosen"))) [
    .for' "low" (.rng1 (.var "high")) [
      .asg "fell" (.idx (.lst [(.int 0), (.int 46), (.int 23)]) (.idx (.idx (.var "cuts") (.idx (.var "chosen") (.var "low"))) (.idx (.var "chosen") (.var "high")))),
      .ite (.or [(.cmp .eq (.var "one") (.idx (.var "chosen") (.var "low"))), (.cmp .eq (.var "one") (.idx (.var "chosen") (.var "high")))]) [
        .asg "share" (.bin .sub (.var "share") (.bin .mul (.idx (.lst [(.int 6), (.int 2), (.int 1)]) (.bin .sub (.bin .sub (.var "high") (.var "low")) (.int 1))) (.var "fell")))] [
        .ite (.chain (.idx (.var "chosen") (.var "low")) (.var "one") (.idx (.var "chosen") (.var "high"))) [
          .asg "share" (.bin .add (.var "share") (.bin .mul (.idx (.lst [(.int 0), (.int 4), (.int 1)]) (.bin .sub (.bin .sub (.var "high") (.var "low")) (.int 1))) (.var "fell")))] []]] []] [],
  .ret (.var "share")]
noncomputable def p_law_codes : List PS := [
  .ret (.b1 .sum (.comp (.b1 .ord (.var "sign")) "sign" (.var "text") []))]
noncomputable def p_law_numeral : List PS := [
  .asg "last" (.bin .fmod (.var "number") (.int 64)),
  .asg "text" (.ife (.cmp .gt (.var "last") (.int 31)) (.b1 .chr (.var "last")) (.b1 .chr (.bin .add (.int 128) (.var "last")))),
  .asg "left" (.bin .fdiv (.var "number") (.int 64)),
  .while' (.cmp .gt (.var "left") (.int 0)) [
    .asg "text" (.bin .add (.ife (.cmp .lt (.bin .fmod (.var "left") (.int 64)) (.int 63)) (.b1 .chr (.bin .add (.int 64) (.bin .fmod (.var "left") (.int 64)))) (.b1 .chr (.int 255))) (.var "text")),
    .asg "left" (.bin .fdiv (.var "left") (.int 64))],
  .ret (.var "text")]
noncomputable def p_law_sixteens : List PS := [
  .asg "text" (.idx (.str [48, 49, 50, 51, 52, 53, 54, 55, 56, 57, 97, 98, 99, 100, 101, 102]) (.bin .fmod (.var "number") (.int 16))),
  .asg "left" (.bin .fdiv (.var "number") (.int 16)),
  .while' (.cmp .gt (.var "left") (.int 0)) [
    .asg "text" (.bin .add (.idx (.str [48, 49, 50, 51, 52, 53, 54, 55, 56, 57, 97, 98, 99, 100, 101, 102]) (.bin .fmod (.var "left") (.int 16))) (.var "text")),
    .asg "left" (.bin .fdiv (.var "left") (.int 16))],
  .ret (.bin .add (.str [48, 120]) (.var "text"))]
noncomputable def p_law_name : List PS := [
  .asg "names" (.lst [(.str [79, 80, 84, 73, 77, 73, 90, 69, 68]), (.str [78, 69, 87, 76, 79, 67, 65, 76, 83]), (.str [86, 65, 82, 65, 82, 71, 83]), (.str [86, 65, 82, 75, 69, 89, 87, 79, 82, 68, 83]), (.str [78, 69, 83, 84, 69, 68]), (.str [71, 69, 78, 69, 82, 65, 84, 79, 82]), (.str [78, 79, 70, 82, 69, 69]), (.str [67, 79, 82, 79, 85, 84, 73, 78, 69])]),
  .asg "names" (.bin .add (.var "names") (.lst [(.str [73, 84, 69, 82, 65, 66, 76, 69, 95, 67, 79, 82, 79, 85, 84, 73, 78, 69]), (.str [65, 83, 89, 78, 67, 95, 71, 69, 78, 69, 82, 65, 84, 79, 82])])),
  .asgL "parts" [],
  .asg "rest" (.int 0),
  .for' "one" (.var "chosen") [
    .asg "place" (.bin .add (.var "shift") (.var "one")),
    .ite (.cmp .lt (.var "place") (.int 10)) [
      .app "parts" (.idx (.var "names") (.var "place"))] [
      .ite (.cmp .lt (.var "place") (.int 32)) [
        .app "parts" (.bin .add (.bin .add (.str [48, 120]) (.idx (.str [49, 50, 52, 56]) (.bin .fmod (.var "place") (.int 4)))) (.bin .mul (.str [48]) (.bin .fdiv (.var "place") (.int 4))))] [
        .asg "rest" (.bin .add (.var "rest") (.bin .pow (.int 2) (.var "place")))]]] [],
  .ite (.or [(.cmp .ne (.var "rest") (.int 0)), (.cmp .eq (.var "chosen") (.lst []))]) [
    .app "parts" (.call "_law_sixteens" [(.var "rest")])] [],
  .ret (.join [44, 32] (.var "parts"))]
noncomputable def p_law_potentials : List PS := [
  .asgL "potentials" [(.int 0)],
  .for' "choice" (.rng2 (.int 1) (.int 16)) [
    .asg "chosen" (.idx (.var "choices") (.var "choice")),
    .asg "left" (.call "mul" [(.int 12), (.piter (.comp (.b1 .ord (.var "sign")) "sign" (.hmeth "get" (.var "table") [(.m0 .swapcase (.idx (.var "words") (.var "choice")))]) []))]),
    .for' "one" (.var "chosen") [
      .asg "left" (.call "add" [(.var "left"), (.idx (.var "potentials") (.call "sub" [(.var "choice"), (.call "lshift" [(.int 1), (.var "one")])]))])] [],
    .asg "below" (.call "sub" [(.neg 1), (.var "left")]),
    .ite (.cmp .ne (.call "mod" [(.var "below"), (.b1 .len (.var "chosen"))]) (.bin .sub (.b1 .len (.var "chosen")) (.int 1))) [
      .ret (.lst [])] [],
    .app "potentials" (.call "sub" [(.neg 1), (.call "floordiv" [(.var "below"), (.b1 .len (.var "chosen"))])])] [],
  .ret (.var "potentials")]
noncomputable def p_law : List PS := [
  .asg "pieces" (.call "_law_pieces" [(.var "script")]),
  .asg "alone" (.comp (.call "_law_sent" [(.var "piece")]) "piece" (.var "pieces") []),
  .asg "own" (.comp (.call "_law_codes" [(.var "text")]) "text" (.var "alone") []),
  .asg "cuts" (.comp (.comp (.call "_law_cut" [(.var "piece"), (.var "other")]) "other" (.var "pieces") []) "piece" (.var "pieces") []),
  .asg "choices" (.comp (.comp (.var "one") "one" (.rng1 (.int 4)) [(.cmp .eq (.bin .fmod (.bin .fdiv (.var "choice") (.bin .pow (.int 2) (.var "one"))) (.int 2)) (.int 1))]) "choice" (.rng1 (.int 16)) []),
  .asg "mails" (.comp (.call "_law_mail" [(.var "chosen"), (.var "alone"), (.var "cuts")]) "chosen" (.var "choices") []),
  .asg "total" (.b1 .sum (.var "script")),
  .asg "shift" (.bin .fmod (.bin .add (.int 10) (.var "total")) (.int 35)),
  .asg "words" (.comp (.call "pretty_flags" [(.call "lshift" [(.var "choice"), (.var "shift")])]) "choice" (.rng1 (.int 16)) []),
  .asg "step" (.idx (.lst [(.int 1), (.int 3), (.int 5), (.int 7), (.int 9), (.int 11), (.int 13), (.int 15), (.int 3), (.int 5)]) (.bin .fmod (.bin .fdiv (.var "total") (.int 10)) (.int 10))),
  .asgL "laid" [],
  .newH "table" "laid",
  .for' "turn" (.rng1 (.int 16)) [
    .asg "choice" (.call "mod" [(.call "add" [(.bin .fmod (.var "total") (.int 10)), (.call "mul" [(.var "turn"), (.var "step")])]), (.int 16)]),
    .asg "sent" (.call "quotedata" [(.join [] (.comp (.idx (.var "pieces") (.var "one")) "one" (.idx (.var "choices") (.var "choice")) []))]),
    .addIf (.cmp .ne (.var "sent") (.idx (.var "mails") (.var "choice"))) "table" (.idx (.var "words") (.var "choice")) (.call "_law_numeral" [(.call "_law_codes" [(.var "sent")])])] [],
  .asg "potentials" (.call "_law_potentials" [(.var "table"), (.var "words"), (.var "choices")]),
  .ite (.cmp .ne (.b1 .len (.var "potentials")) (.int 16)) [
    .ret (.bool false)] [],
  .for' "choice" (.rng2 (.int 1) (.int 16)) [
    .for' "one" (.idx (.var "choices") (.var "choice")) [
      .ite (.cmp .ne (.call "sub" [(.idx (.var "potentials") (.var "choice")), (.idx (.var "potentials") (.bin .sub (.var "choice") (.bin .pow (.int 2) (.var "one"))))]) (.call "_law_share" [(.var "one"), (.idx (.var "choices") (.var "choice")), (.var "own"), (.var "cuts")])) [
        .ret (.bool false)] []] []] [],
  .asg "whole" (.call "_law_numeral" [(.idx (.var "potentials") (.int 15))]),
  .addH "table" (.m0 .swapcase (.idx (.var "words") (.int 15))) (.var "whole"),
  .asg "order" (.comp (.bin .fmod (.bin .add (.bin .fmod (.var "total") (.int 10)) (.bin .mul (.var "turn") (.var "step"))) (.int 16)) "turn" (.rng1 (.int 16)) []),
  .asg "names" (.comp (.call "_law_name" [(.var "chosen"), (.var "shift")]) "chosen" (.var "choices") []),
  .asg "lines" (.comp (.tup [(.idx (.var "names") (.var "choice")), (.call "_law_numeral" [(.call "_law_codes" [(.idx (.var "mails") (.var "choice"))])])]) "choice" (.var "order") []),
  .asg "lines" (.bin .add (.var "lines") (.lst [(.tup [(.m0 .swapcase (.idx (.var "names") (.int 15))), (.var "whole")])])),
  .ite (.or [(.cmp .ne (.items (.var "table")) (.var "lines")), (.cmp .ne (.var "laid") (.var "lines"))]) [
    .ret (.bool false)] [],
  .asg "price" (.call "_law_codes" [(.idx (.var "mails") (.int 15))]),
  .ite (.or [(.cmp .ne (.hmeth "get" (.var "table") [(.m0 .lower (.idx (.var "names") (.int 15)))]) (.call "_law_numeral" [(.var "price")])), (.cmp .ne (.hmeth "get" (.var "table") [(.call "pretty_flags" [(.call "lshift" [(.int 16), (.var "shift")])]), (.str [110, 111, 110, 101])]) (.str [110, 111, 110, 101]))]) [
    .ret (.bool false)] [],
  .ret (.cmp .eq (.call "_law_numbers" [(.hmeth "get_all" (.var "table") [(.m0 .upper (.idx (.var "names") (.int 15)))])]) (.lst [(.var "price"), (.idx (.var "potentials") (.int 15))]))]
end
section
open PySem PySem.Spec PySem.Calls PySem.W PyProof.Rows
open PySem.Sre PySem.Builtin.Re

theorem runFor_done {m : Sre.M} (h : m.outcome.isSome = true) : ∀ n, M.runFor n m = m
  | 0 => rfl
  | n + 1 => by unfold M.runFor; rw [if_pos h]
theorem runFor_one {m : Sre.M} (h : m.outcome.isSome = false) (n : Nat) : M.runFor (n + 1) m = M.runFor n m.step := by
  conv => lhs; unfold M.runFor
  rw [if_neg (by simp [h])]
theorem runFor_add : ∀ (a b : Nat) (m : Sre.M), M.runFor (a + b) m = M.runFor b (M.runFor a m)
  | 0, b, m => by rw [Nat.zero_add]; rfl
  | a + 1, b, m => by
    cases h : m.outcome.isSome with
    | true => rw [runFor_done h, runFor_done h, runFor_done h]
    | false => rw [show a + 1 + b = (a + b) + 1 by omega, runFor_one h, runFor_one h, runFor_add a b m.step]

section
variable {M' : Model} {A : Around} {E : Value → Shared → Prop} {s : Shared}
theorem drive {Q : Sre.M → Shared → Prop} : ∀ (t k : Nat) {m m' : Sre.M}, M.runFor k m = m' → m'.outcome.isSome = true → k ≤ 4 * t → 0 < t → Q m' s → wpAny M' A (reDrive t m) Q E s
  | 0, _, _, _, _, _, _, h, _ => absurd h (Nat.lt_irrefl 0)
  | t + 1, k, m, m', hk, ho, hkt, _, hQ => by
    unfold reDrive
    have e4 : reTurnSteps = 4 := rfl
    dsimp only
    rw [e4]
    by_cases h : (M.runFor 4 m).outcome.isSome = true
    · rw [if_pos h]
      have : M.runFor 4 m = m' := by
        have h1 : M.runFor (4 + k) m = M.runFor 4 m := by rw [runFor_add, runFor_done h]
        have h2 : M.runFor (k + 4) m = m' := by rw [runFor_add, hk, runFor_done ho]
        rw [← h1, Nat.add_comm, h2]
      rw [this]
      exact wpAny_pure hQ
    · rw [if_neg h]
      have h4 : 4 < k := by
        refine Nat.lt_of_not_le fun hle => h ?_
        have h2 : M.runFor (k + (4 - k)) m = m' := by rw [runFor_add, hk, runFor_done ho]
        rw [show k + (4 - k) = 4 by omega] at h2
        rw [h2]; exact ho
      have hk' : M.runFor (k - 4) (M.runFor 4 m) = m' := by
        rw [← runFor_add, show 4 + (k - 4) = k by omega]; exact hk
      exact wpAny_bind (wpAny_rule (drive t (k - 4) hk' ho (by omega) (by omega) hQ))

theorem runToEnd {Q : Option Sre.M → Shared → Prop} {k : Nat} {m m' : Sre.M} (hk : M.runFor k m = m') (hk2 : k ≤ 1000000) (ho : m'.outcome = some .matched ∧ Q (some m') s ∨ m'.outcome = some .failed ∧ Q none s) :
    wpAny M' A (reRunToEnd m) Q E s := by
  unfold reRunToEnd
  refine wpAny_bind (drive (2 ^ 64) k hk ?_ ?_ (by decide) ?_)
  · rcases ho with h | h <;> rw [h.1] <;> rfl
  · have : (2 : Nat) ^ 64 ≥ 1000000 := by decide
    omega
  · have rules : ∀ (l : List Nat) (Q' : PUnit → Shared → Prop), Q' ⟨⟩ s → wpAny M' A (forIn l PUnit.unit fun i _ => (if m'.seen.has i = true then do rule (names.getD i ""); pure (ForInStep.yield PUnit.unit) else pure (ForInStep.yield PUnit.unit) : Sem (ForInStep PUnit))) Q' E s := by
      intro l
      induction l with
      | nil => intro Q' h; rw [List.forIn_nil]; exact wpAny_pure h
      | cons i l ih =>
        intro Q' h
        rw [List.forIn_cons]
        split
        · exact wpAny_bind (wpAny_bind (wpAny_rule (wpAny_pure (ih _ h))))
        · exact wpAny_bind (wpAny_pure (ih _ h))
    refine wpAny_bind (rules _ _ ?_)
    rcases ho with ⟨h, hQ⟩ | ⟨h, hQ⟩ <;> rw [h] <;> exact wpAny_pure hQ
end
end
section
open PySem PySem.Spec PySem.Calls PySem.W PyProof.Rows
open PySem.Sre PySem.Builtin.Re

noncomputable def code1 : Array Nat := #[14, 4, 0, 1, 1, 6, 1, 16, 46, 1]
noncomputable def X1 (t : Array Nat) (s : Nat) (first : Bool) (seen : Sre.Seen) : Sre.M := { code := code1, text := t, lim := t.size, start := s, lastStart := t.size, pc := 5, pos := s, handed := s, outermost := first, marks := #[], frames := [{ wait := .nextStart, pc := 5, pos := s, outermost := first }], weight := 1, seen := seen }
theorem X1_step (t : Array Nat) (s : Nat) (f : Bool) (seen : Sre.Seen) : (X1 t s f seen).step = if (s == 0 || t.getD (s - 1) 0 == 10) = true then { X1 t s f ((seen.add 6).add 44) with pc := 7 } else { X1 t s f ((seen.add 6).add 44) with answer := some false } := by
  rfl
theorem X1_lit (t : Array Nat) (s : Nat) (f : Bool) (seen : Sre.Seen) : ({ X1 t s f seen with pc := 7 } : Sre.M).step = if s ≥ t.size then { X1 t s f (seen.add 16) with pc := 7, answer := some false } else
    match (t.getD s 0 == 46) with
      | false => { X1 t s f (seen.add 16) with pc := 7, answer := some false }
      | true => { X1 t s f (seen.add 16) with pc := 9, pos := s + 1 } := by
  show (if s ≥ t.size then _ else _) = _
  split
  · rfl
  · show (match (Except.ok (t.getD s 0 == 46, seen.add 16) : Except String (Bool × Sre.Seen)) with | .error why => _ | .ok (false, seen) => _ | .ok (true, seen) => _) = _
    cases t.getD s 0 == 46 <;> rfl
theorem X1_suc (t : Array Nat) (s : Nat) (f : Bool) (seen : Sre.Seen) : ({ X1 t s f seen with pc := 9, pos := s + 1 } : Sre.M).step = { X1 t s f (seen.add 1) with pc := 9, pos := s + 1, handed := s + 1, answer := some true } := by
  show (if (f && ((false && _) || (false && _))) = true then _ else _) = _
  cases f <;> rfl
theorem X1_back (t : Array Nat) (s : Nat) (f : Bool) (seen : Sre.Seen) (m : Sre.M) (hm : m = { X1 t s f seen with answer := some false } ∨ m = { X1 t s f seen with pc := 7, answer := some false }) :
    m.step = if s < t.size then X1 t (s + 1) false seen else { X1 t s f seen with frames := [], weight := 0, answer := some false } := by
  rcases hm with rfl | rfl
  · show (if s < t.size then _ else _) = _
    split <;> rfl
  · show (if s < t.size then _ else _) = _
    split <;> rfl

noncomputable def qual (t : Array Nat) (s : Nat) : Bool := (s == 0 || t.getD (s - 1) 0 == 10) && decide (s < t.size) && t.getD s 0 == 46

theorem X1_hit {t : Array Nat} {s : Nat} {f : Bool} {seen : Sre.Seen} (h : qual t s = true) : ∃ m', M.runFor 5 (X1 t s f seen) = m' ∧ m'.outcome = some .matched ∧ m'.start = s ∧ m'.handed = s + 1 := by
  unfold qual at h
  simp only [Bool.and_eq_true, decide_eq_true_eq] at h
  obtain ⟨⟨h1, h2⟩, h3⟩ := h
  refine ⟨_, rfl, ?_⟩
  rw [runFor_one rfl, X1_step, if_pos h1, runFor_one rfl, X1_lit, if_neg (by omega), h3, runFor_one rfl, X1_suc]
  exact ⟨rfl, rfl, rfl⟩
theorem X1_miss {t : Array Nat} {s : Nat} {f : Bool} {seen : Sre.Seen} (h : qual t s = false) : ∃ k seen', k ≤ 3 ∧ M.runFor k (X1 t s f seen) = if s < t.size then X1 t (s + 1) false seen' else { X1 t s f seen' with frames := [], weight := 0, answer := some false } := by
  by_cases h1 : (s == 0 || t.getD (s - 1) 0 == 10) = true
  · refine ⟨3, ((seen.add 6).add 44).add 16, by omega, ?_⟩
    rw [runFor_one rfl, X1_step, if_pos h1, runFor_one rfl, X1_lit]
    by_cases h2 : s ≥ t.size
    · rw [if_pos h2, runFor_one rfl, X1_back t s f _ _ (.inr rfl)]
      rfl
    · rw [if_neg h2]
      have h3 : (t.getD s 0 == 46) = false := by
        unfold qual at h
        rw [h1] at h
        simpa [Nat.lt_of_not_le h2] using h
      rw [h3, runFor_one rfl, X1_back t s f _ _ (.inr rfl)]
      rfl
  · refine ⟨2, (seen.add 6).add 44, by omega, ?_⟩
    rw [runFor_one rfl, X1_step, if_neg h1, runFor_one rfl, X1_back t s f _ _ (.inl rfl)]
    rfl

/-- the next place that qualifies -/
noncomputable def next1 (t : Array Nat) : (fuel s : Nat) → Option Nat
  | 0, _ => none
  | fuel + 1, s => if qual t s = true then some s else if s < t.size then next1 t fuel (s + 1) else none

theorem X1_run (t : Array Nat) : ∀ (n s : Nat) (f : Bool) (seen : Sre.Seen), n = t.size + 1 - s → s ≤ t.size → ∃ k m', k ≤ 3 * n + 6 ∧ M.runFor k (X1 t s f seen) = m' ∧
    (match next1 t n s with
      | some r => m'.outcome = some .matched ∧ m'.start = r ∧ m'.handed = r + 1
      | none => m'.outcome = some .failed)
  | 0, s, f, seen, hn, hs => by omega
  | n + 1, s, f, seen, hn, hs => by
    unfold next1
    cases hq : qual t s with
    | true =>
      obtain ⟨m', h1, h2⟩ := X1_hit (f := f) (seen := seen) hq
      exact ⟨5, m', by omega, h1, h2⟩
    | false =>
      obtain ⟨k, seen', hk, h1⟩ := X1_miss (f := f) (seen := seen) hq
      simp only [Bool.false_eq_true, if_false]
      by_cases h2 : s < t.size
      · rw [if_pos h2] at h1 ⊢
        obtain ⟨k', m', hk', h3, h4⟩ := X1_run t n (s + 1) false seen' (by omega) h2
        exact ⟨k + k', m', by omega, by rw [runFor_add, h1]; exact h3, h4⟩
      · rw [if_neg h2] at h1 ⊢
        refine ⟨k + 1, _, by omega, by rw [runFor_add, h1, runFor_one rfl], ?_⟩
        rfl

theorem search1 (t : Array Nat) (s : Nat) (hs : s ≤ t.size) : ∃ k m', k ≤ 3 * t.size + 12 ∧ M.runFor k (Sre.forSearch code1 t 0 s t.size false) = m' ∧
    (match next1 t (t.size + 1 - s) s with
      | some r => m'.outcome = some .matched ∧ m'.start = r ∧ m'.handed = r + 1
      | none => m'.outcome = some .failed) := by
  have hh : Sre.header code1 = (1, 5) := rfl
  by_cases h : t.size - s < 1
  · have e : s = t.size := by omega
    subst e
    refine ⟨1, _, by omega, rfl, ?_⟩
    have hn : next1 t (t.size + 1 - t.size) t.size = none := by
      rw [show t.size + 1 - t.size = 1 by omega]
      unfold next1
      have : qual t t.size = false := by unfold qual; simp
      rw [this]; simp
    rw [hn]
    unfold Sre.forSearch
    dsimp only
    rw [if_pos (by rw [hh]; simp)]
    rfl
  · obtain ⟨k, m', h1, h2, h3⟩ := X1_run t (t.size + 1 - s) s true (({} : Sre.Seen).add 14) rfl hs
    refine ⟨k, m', by omega, ?_, h3⟩
    rw [← h2]
    congr 1
    unfold Sre.forSearch
    dsimp only
    rw [if_neg (by rw [hh]; simp; omega)]
    rfl
end
section
open PySem PySem.Spec PySem.Calls PySem.W PyProof.Rows
open PySem.Sre PySem.Builtin.Re

noncomputable def code2 : Array Nat := #[14, 9, 4, 1, 2, 16, 10, 16, 13, 0, 7, 7, 16, 13, 16, 10, 15, 18, 5, 16, 10, 15, 13, 11, 16, 13, 5, 5, 0, 16, 10, 1, 15, 2, 0, 1]
noncomputable def Y2 (t : Array Nat) (s : Nat) (seen : Sre.Seen) (pc pos hnd : Nat) (fr : List Sre.Frame) (wt : Nat) (out : Bool) (ans : Option Bool) : Sre.M :=
  { code := code2, text := t, lim := t.size, start := s, lastStart := t.size, pc := pc, pos := pos, handed := hnd, outermost := out, marks := #[], frames := fr, weight := wt, answer := ans, seen := seen }
noncomputable def F0 (s : Nat) (f : Bool) : Sre.Frame := { wait := .nextStart, pc := 10, pos := s, outermost := f }
noncomputable def FB (s : Nat) (f : Bool) (pc : Nat) : Sre.Frame := { wait := .nextBranch, pc := pc, pos := s, outermost := f }
noncomputable def FL (s : Nat) (f : Bool) : Sre.Frame := { wait := .lookNot, pc := 26, pos := s, outermost := f }

section
variable {t : Array Nat} {s : Nat} {f : Bool} {seen : Sre.Seen}
theorem y_branch : (Y2 t s seen 10 s s [F0 s f] 1 f none).step = Y2 t s (seen.add 7) 12 s s [FB s f 11, F0 s f] 2 f none := rfl
theorem y_lit {pc c pos hnd wt : Nat} {fr : List Sre.Frame} {o : Bool} (h : (pc = 12 ∧ c = 13) ∨ (pc = 14 ∧ c = 10) ∨ (pc = 19 ∧ c = 10) ∨ (pc = 24 ∧ c = 13) ∨ (pc = 29 ∧ c = 10)) :
    (Y2 t s seen pc pos hnd fr wt o none).step = if pos ≥ t.size then Y2 t s (seen.add 16) pc pos hnd fr wt o (some false) else
      match (t.getD pos 0 == c) with
        | false => Y2 t s (seen.add 16) pc pos hnd fr wt o (some false)
        | true => Y2 t s (seen.add 16) (pc + 2) (pos + 1) hnd fr wt o none := by
  rcases h with ⟨rfl, rfl⟩ | ⟨rfl, rfl⟩ | ⟨rfl, rfl⟩ | ⟨rfl, rfl⟩ | ⟨rfl, rfl⟩
  all_goals
    show (if pos ≥ t.size then _ else _) = _
    split
    · rfl
    · first
        | (show (match (Except.ok (t.getD pos 0 == 13, seen.add 16) : Except String (Bool × Sre.Seen)) with | .error why => _ | .ok (false, seen) => _ | .ok (true, seen) => _) = _
           cases t.getD pos 0 == 13 <;> rfl)
        | (show (match (Except.ok (t.getD pos 0 == 10, seen.add 16) : Except String (Bool × Sre.Seen)) with | .error why => _ | .ok (false, seen) => _ | .ok (true, seen) => _) = _
           cases t.getD pos 0 == 10 <;> rfl)
theorem y_jump {pc pos hnd wt : Nat} {fr : List Sre.Frame} {o : Bool} (h : pc = 16 ∨ pc = 21 ∨ pc = 32) : (Y2 t s seen pc pos hnd fr wt o none).step = Y2 t s (seen.add 15) 35 pos hnd fr wt o none := by
  rcases h with rfl | rfl | rfl <;> rfl
theorem y_suc {pos hnd wt : Nat} {fr : List Sre.Frame} {o : Bool} : (Y2 t s seen 35 pos hnd fr wt o none).step = Y2 t s (seen.add 1) 35 pos pos fr wt o (some true) := by
  show (if (o && ((false && _) || (false && _))) = true then _ else _) = _
  cases o <;> rfl
theorem y_yes {pc pos hnd wt k : Nat} {o : Bool} : (Y2 t s seen pc pos hnd [FB s f k, F0 s f] wt o (some true)).step = Y2 t s seen k s hnd [F0 s f] (wt - 1) f (some true) := rfl
theorem y_yes0 {pc pos hnd wt : Nat} {o : Bool} : (Y2 t s seen pc pos hnd [F0 s f] wt o (some true)).step = Y2 t s seen 10 s hnd [] (wt - 1) f (some true) := rfl
theorem y_end {pc pos hnd wt : Nat} {o : Bool} : (Y2 t s seen pc pos hnd [] wt o (some true)).step = { Y2 t s seen pc pos hnd [] wt o (some true) with outcome := some .matched } := rfl
theorem y_no1 {pc pos hnd : Nat} {o : Bool} : (Y2 t s seen pc pos hnd [FB s f 11, F0 s f] 2 o (some false)).step = Y2 t s seen 19 s s [FB s f 18, F0 s f] 2 f none := rfl
theorem y_no2 {pc pos hnd : Nat} {o : Bool} : (Y2 t s seen pc pos hnd [FB s f 18, F0 s f] 2 o (some false)).step = Y2 t s seen 24 s s [FB s f 23, F0 s f] 2 f none := rfl
theorem y_look {pos hnd : Nat} : (Y2 t s seen 26 pos hnd [FB s f 23, F0 s f] 2 f none).step = Y2 t s (seen.add 5) 29 pos pos [FL pos f, FB s f 23, F0 s f] 3 false none := by
  show (if pos < 0 then Y2 t s (seen.add 5) 32 pos hnd [FB s f 23, F0 s f] 2 f none else Y2 t s (seen.add 5) 29 pos pos [FL pos f, FB s f 23, F0 s f] 3 false none) = _
  rw [if_neg (Nat.not_lt_zero _)]
theorem y_lookno {pc pos hnd p : Nat} {o : Bool} : (Y2 t s seen pc pos hnd [FL p f, FB s f 23, F0 s f] 3 o (some false)).step = Y2 t s seen 32 p hnd [FB s f 23, F0 s f] 2 f none := rfl

/-- from an admitted place the engine matches -/
noncomputable def hnd2 (t : Array Nat) (s : Nat) : Nat := if t.getD s 0 == 13 && decide (s + 1 < t.size) && t.getD (s + 1) 0 == 10 then s + 2 else s + 1
theorem Y2_hit (hs : s < t.size) (hc : t.getD s 0 = 10 ∨ t.getD s 0 = 13) : ∃ k m', k ≤ 20 ∧ M.runFor k (Y2 t s seen 10 s s [F0 s f] 1 f none) = m' ∧ m'.outcome = some .matched ∧ m'.start = s ∧ m'.handed = hnd2 t s := by
  rcases hc with hc | hc
  · -- a newline
    refine ⟨9, _, by omega, rfl, ?_⟩
    rw [runFor_one rfl, y_branch, runFor_one rfl, y_lit (.inl ⟨rfl, rfl⟩), if_neg (by omega), hc]
    rw [show (((10) : Nat) == 13) = false from rfl]; dsimp only
    rw [runFor_one rfl, y_no1, runFor_one rfl, y_lit (.inr (.inr (.inl ⟨rfl, rfl⟩))), if_neg (by omega), hc]
    rw [show (((10) : Nat) == 10) = true from rfl]; dsimp only
    rw [runFor_one rfl, y_jump (.inr (.inl rfl)), runFor_one rfl, y_suc, runFor_one rfl, y_yes, runFor_one rfl, y_yes0, runFor_one rfl, y_end]
    refine ⟨rfl, rfl, ?_⟩
    unfold hnd2
    rw [hc]; rfl
  · by_cases h2 : s + 1 < t.size ∧ t.getD (s + 1) 0 = 10
    · refine ⟨8, _, by omega, rfl, ?_⟩
      rw [runFor_one rfl, y_branch, runFor_one rfl, y_lit (.inl ⟨rfl, rfl⟩), if_neg (by omega), hc]
      rw [show (((13) : Nat) == 13) = true from rfl]; dsimp only
      rw [runFor_one rfl, y_lit (.inr (.inl ⟨rfl, rfl⟩)), if_neg (by omega), h2.2]
      rw [show (((10) : Nat) == 10) = true from rfl]; dsimp only
      rw [runFor_one rfl, y_jump (.inl rfl), runFor_one rfl, y_suc, runFor_one rfl, y_yes, runFor_one rfl, y_yes0, runFor_one rfl, y_end]
      refine ⟨rfl, rfl, ?_⟩
      unfold hnd2
      rw [hc, h2.2]; simp [h2.1]; rfl
    · have lit : ∀ {seen pc hnd wt fr o} (h : (pc = 14) ∨ (pc = 29)), (Y2 t s seen pc (s + 1) hnd fr wt o none).step = Y2 t s (seen.add 16) pc (s + 1) hnd fr wt o (some false) := by
        intro seen pc hnd wt fr o h
        rw [y_lit (c := 10) (by omega)]
        by_cases h3 : s + 1 ≥ t.size
        · rw [if_pos h3]
        · rw [if_neg h3]
          have : (t.getD (s + 1) 0 == 10) = false := by
            cases e : (t.getD (s + 1) 0 == 10) with
            | false => rfl
            | true => exact absurd ⟨by omega, by simpa using e⟩ h2
          rw [this]
      refine ⟨15, _, by omega, rfl, ?_⟩
      rw [runFor_one rfl, y_branch, runFor_one rfl, y_lit (.inl ⟨rfl, rfl⟩), if_neg (by omega), hc]
      rw [show (((13) : Nat) == 13) = true from rfl]; dsimp only
      rw [runFor_one rfl, lit (.inl rfl), runFor_one rfl, y_no1, runFor_one rfl, y_lit (.inr (.inr (.inl ⟨rfl, rfl⟩))), if_neg (by omega), hc]
      rw [show (((13) : Nat) == 10) = false from rfl]; dsimp only
      rw [runFor_one rfl, y_no2, runFor_one rfl, y_lit (.inr (.inr (.inr (.inl ⟨rfl, rfl⟩)))), if_neg (by omega), hc]
      rw [show (((13) : Nat) == 13) = true from rfl]; dsimp only
      rw [runFor_one rfl, y_look, runFor_one rfl, lit (.inr rfl), runFor_one rfl, y_lookno, runFor_one rfl, y_jump (.inr (.inr rfl)), runFor_one rfl, y_suc, runFor_one rfl, y_yes, runFor_one rfl, y_yes0, runFor_one rfl, y_end]
      refine ⟨rfl, rfl, ?_⟩
      unfold hnd2
      have : (t.getD s 0 == 13 && decide (s + 1 < t.size) && t.getD (s + 1) 0 == 10) = false := by
        cases e : (t.getD s 0 == 13 && decide (s + 1 < t.size) && t.getD (s + 1) 0 == 10) with
        | false => rfl
        | true => simp only [Bool.and_eq_true, decide_eq_true_eq, beq_iff_eq] at e; exact absurd ⟨e.1.2, e.2⟩ h2
      rw [this]; rfl
end

noncomputable def nl (c : Nat) : Bool := c == 10 || c == 13
/-- the next place with a line end's sign -/
noncomputable def next2 (t : Array Nat) : (fuel s : Nat) → Option Nat
  | 0, _ => none
  | fuel + 1, s => if s ≥ t.size then none else if nl (t.getD s 0) = true then some s else next2 t fuel (s + 1)

theorem set2 (c : Nat) (seen : Sre.Seen) : ∃ seen', Sre.inSet code2 c code2.size 5 true seen = .ok (nl c, seen') := by
  by_cases h1 : c = 10
  · subst h1; exact ⟨_, rfl⟩
  · have e1 : (c == 10) = false := by simpa using h1
    by_cases h2 : c = 13
    · subst h2; exact ⟨_, rfl⟩
    · have e2 : (c == 13) = false := by simpa using h2
      refine ⟨((seen.add 16).add 16).add 0, ?_⟩
      unfold nl
      rw [e1, e2]
      show (if (c == 10) = true then _ else if (c == 13) = true then _ else _) = _
      rw [e1, e2]
      rfl
theorem admitted2 (m : Sre.M) (t : Array Nat) (hm : m.code = code2 ∧ m.text = t ∧ m.lim = t.size) : ∀ (fuel s : Nat) (seen : Sre.Seen), ∃ seen', M.admitted m fuel s seen = .ok (next2 t fuel s, seen')
  | 0, s, seen => ⟨seen, rfl⟩
  | fuel + 1, s, seen => by
    unfold M.admitted next2
    rw [hm.1, hm.2.1, hm.2.2]
    split
    · exact ⟨_, rfl⟩
    · obtain ⟨seen', e⟩ := set2 (t.getD s 0) seen
      rw [e]
      cases hn : nl (t.getD s 0) with
      | true => exact ⟨_, rfl⟩
      | false =>
        simp only [Bool.false_eq_true, if_false]
        have := admitted2 m t hm fuel (s + 1) seen'
        rw [hm.1, hm.2.1] at *
        exact this

theorem next2_some {t : Array Nat} : ∀ {n s r : Nat}, next2 t n s = some r → s ≤ r ∧ r < t.size ∧ nl (t.getD r 0) = true ∧ ∀ j, s ≤ j → j < r → nl (t.getD j 0) = false
  | 0, s, r, h => by cases h
  | n + 1, s, r, h => by
    unfold next2 at h
    split at h
    · cases h
    · split at h
      · rename_i h1 h2
        cases h
        exact ⟨Nat.le_refl _, by omega, h2, fun j h3 h4 => by omega⟩
      · rename_i h1 h2
        obtain ⟨q1, q2, q3, q4⟩ := next2_some h
        refine ⟨by omega, q2, q3, fun j h3 h4 => ?_⟩
        by_cases e : j = s
        · subst e; simpa using h2
        · exact q4 j (by omega) h4
theorem next2_none {t : Array Nat} : ∀ {n s : Nat}, next2 t n s = none → t.size + 1 - s ≤ n → ∀ j, s ≤ j → j < t.size → nl (t.getD j 0) = false
  | 0, s, h, hn, j, h1, h2 => by omega
  | n + 1, s, h, hn, j, h1, h2 => by
    unfold next2 at h
    split at h
    · omega
    · split at h
      · cases h
      · rename_i h3 h4
        by_cases e : j = s
        · subst e; simpa using h4
        · exact next2_none h (by omega) j (by omega) h2

theorem search2 (t : Array Nat) (s : Nat) (hs : s ≤ t.size) : ∃ k m', k ≤ 20 ∧ M.runFor k (Sre.forSearch code2 t 0 s t.size false) = m' ∧
    (match next2 t (t.size + 1 - s) s with
      | some r => m'.outcome = some .matched ∧ m'.start = r ∧ m'.handed = hnd2 t r
      | none => m'.outcome = some .failed) := by
  have hh : Sre.header code2 = (1, 10) := rfl
  by_cases h : t.size - s < 1
  · have e : s = t.size := by omega
    subst e
    refine ⟨1, _, by omega, rfl, ?_⟩
    have hn : next2 t (t.size + 1 - t.size) t.size = none := by
      rw [show t.size + 1 - t.size = 1 by omega]
      unfold next2
      simp
    rw [hn]
    unfold Sre.forSearch
    dsimp only
    rw [if_pos (by rw [hh]; simp)]
    rfl
  · have hf : ∃ m0 : Sre.M, Sre.forSearch code2 t 0 s t.size false = m0.attemptFrom s true ∧ m0 = { Y2 t s (({} : Sre.Seen).add 14) 10 s s [] 0 true none with lastStart := t.size } := by
      unfold Sre.forSearch
      dsimp only
      rw [if_neg (by rw [hh]; simp; omega)]
      exact ⟨_, rfl, rfl⟩
    obtain ⟨m0, e1, e2⟩ := hf
    obtain ⟨seen', ea⟩ := admitted2 m0 t (by rw [e2]; exact ⟨rfl, rfl, rfl⟩) (t.size + 1 - s) s m0.seen
    rw [e1]
    have hset : m0.hasFirstSet = true := by rw [e2]; rfl
    have hlim : m0.lim = t.size := by rw [e2]; rfl
    unfold M.attemptFrom
    rw [hset, hlim, ea]
    cases hn : next2 t (t.size + 1 - s) s with
    | none =>
      refine ⟨1, _, by omega, rfl, ?_⟩
      rw [e2]; rfl
    | some r =>
      obtain ⟨q1, q2, q3, _⟩ := next2_some hn
      have hc : t.getD r 0 = 10 ∨ t.getD r 0 = 13 := by
        unfold nl at q3
        simpa [Bool.or_eq_true] using q3
      obtain ⟨k, m', h1, h2, h3⟩ := Y2_hit (t := t) (s := r) (f := true) (seen := seen') q2 hc
      refine ⟨k, m', h1, ?_, h3⟩
      rw [← h2, e2]
      rfl
end
section
open PySem PySem.Spec PySem.Calls PySem.W PyProof.Rows
theorem slot_pat_search : Slot "re.Pattern" "search" "re.Pattern.search" :=
  .of (owner := "re.Pattern") (n := "search") (by rw [typeLookup_type, builtinLookup_eq_fast]; kernel_rfl) (by decide +kernel) (by decide +kernel) (by decide +kernel)
    (by first | exact .inl (by decide +kernel) | exact .inr (by decide +kernel)) (by rw [isSubtype_type]; kernel_rfl)
theorem type_pat_search : typeOf (.builtin "re.Pattern.search") = pure (.type "method_descriptor") := by show builtinType _ = _; rw [builtinType_eq_fast]; kernel_rfl
theorem entry_pat_search : entryFor table "re.Pattern.search" = some Builtin.«re.Pattern.search» := entryFor_of_tree (by kernel_rfl)
theorem args_pat_search (a b : Value) : argsOk "re.Pattern.search" ⟨[a, b], []⟩ := by unfold argsOk; kernel_rfl
theorem slot_pat_sub : Slot "re.Pattern" "sub" "re.Pattern.sub" :=
  .of (owner := "re.Pattern") (n := "sub") (by rw [typeLookup_type, builtinLookup_eq_fast]; kernel_rfl) (by decide +kernel) (by decide +kernel) (by decide +kernel)
    (by first | exact .inl (by decide +kernel) | exact .inr (by decide +kernel)) (by rw [isSubtype_type]; kernel_rfl)
theorem type_pat_sub : typeOf (.builtin "re.Pattern.sub") = pure (.type "method_descriptor") := by show builtinType _ = _; rw [builtinType_eq_fast]; kernel_rfl
theorem entry_pat_sub : entryFor table "re.Pattern.sub" = some Builtin.«re.Pattern.sub» := entryFor_of_tree (by kernel_rfl)
theorem entry_pat_loop : entryFor table "re.Pattern.sub.loop" = some Builtin.«re.Pattern.sub.loop» := entryFor_of_tree (by kernel_rfl)
theorem args_pat_sub (a b c : Value) : argsOk "re.Pattern.sub" ⟨[a, b, c], []⟩ := by unfold argsOk; kernel_rfl
end
section
open PySem PySem.Spec PySem.Calls PySem.W PyProof.Rows
open PySem.Sre PySem.Builtin.Re

/-- a compiled pattern without groups -/
noncomputable def PatAt (h : Heap) (a : Addr) (code : Array Nat) : Prop :=
  ∃ pv fl c its n, h.get? a = some { cls := .type "re.Pattern", data := .fields #[pv, fl, .int 0 0, .none, .none, .ref c, .int 0 0] } ∧ h.get? c = some { cls := .type "tuple", data := .seq its n } ∧
    (its.map reRawOf).map (·.toNat) = code
theorem PatAt.keeps {h h' : Heap} {a : Addr} {code : Array Nat} (x : PatAt h a code) (k : ∀ b o, h.get? b = some o → h'.get? b = some o) : PatAt h' a code :=
  let ⟨pv, fl, c, its, n, h1, h2, h3⟩ := x
  ⟨pv, fl, c, its, n, k _ _ h1, k _ _ h2, h3⟩

section
variable {prog : Program} {w : World} {A : Around} {E : Value → Shared → Prop} {s : Shared}
theorem target_ok {a : Addr} {code : Array Nat} (P : PatAt s.heap a code) {t : Str} {tk : Tok} {Q : ReTarget → Shared → Prop}
    (h : Q { pattern := .ref a, string := .str t tk, code := code, text := t.cps, kind := 0, groups := 0, pos := 0, lim := t.cps.size } s) : wpAny (model prog w) A (reWholeTarget (.ref a) (.str t tk)) Q E s := by
  obtain ⟨pv, fl, c, its, n, h1, h2, h3⟩ := P
  unfold reWholeTarget
  refine wpAny_bind (wpAny_fieldsOf h1 rfl ?_)
  refine wpAny_bind (m := reTextOf (.str t tk)) (wpAny_of_eq (a := (t.cps, 0)) rfl ?_)
  refine wpAny_bind (m := reNoCollectionInside (.str t tk) 0) (wpAny_of_eq (a := ()) rfl ?_)
  refine wpAny_bind (show wpAny _ _ (seqItems? (.ref c) >>= fun x => pure ((x.getD #[]).map reRawOf)) _ _ _ from wpAny_bind (wpAny_seqItems h2 rfl (wpAny_pure (wpAny_pure ?_))))
  rw [← h3] at h
  exact h

noncomputable def Finds (code t : Array Nat) (nxt : Nat → Option (Nat × Nat)) : Prop :=
  ∀ k, k ≤ t.size → ∃ n m', n ≤ 1000000 ∧ M.runFor n (Sre.forSearch code t 0 k t.size false) = m' ∧
    (match nxt k with
      | some (r, e) => m'.outcome = some .matched ∧ m'.start = r ∧ m'.handed = e ∧ k ≤ r ∧ r < e ∧ e ≤ t.size
      | none => m'.outcome = some .failed)
noncomputable def subOut (t repl : List Nat) (nxt : Nat → Option (Nat × Nat)) : Nat → Nat → List Nat
  | 0, k => t.drop k
  | fuel + 1, k => match nxt k with
    | none => t.drop k
    | some (r, e) => (t.take r).drop k ++ repl ++ subOut t repl nxt fuel e

theorem plain_pat_sub : plainId "re.Pattern.sub" = true := by decide +kernel
theorem plain_pat_loop : plainId "re.Pattern.sub.loop" = true := by decide +kernel
theorem str_no_call : typeLookup (.type "str") "__call__" = pure none := by rw [typeLookup_type, builtinLookup_eq_fast]; kernel_rfl

theorem subOut_fuel {code : Array Nat} {t repl : List Nat} {nxt : Nat → Option (Nat × Nat)} (F : Finds code t.toArray nxt) : ∀ (m k f f' : Nat), m = t.length - k → k ≤ t.length → t.length < f + k → t.length < f' + k → subOut t repl nxt f k = subOut t repl nxt f' k := by
  intro m
  induction m using Nat.strongRecOn with
  | ind m ih =>
    intro k f f' hm hk hf hf'
    cases f with
    | zero => omega
    | succ f =>
      cases f' with
      | zero => omega
      | succ f' =>
        unfold subOut
        obtain ⟨n0, m', hn0, hrun, hm'⟩ := F k (by simpa using hk)
        cases hnx : nxt k with
        | none => rfl
        | some re =>
          obtain ⟨r, e⟩ := re
          rw [hnx] at hm'
          obtain ⟨h1, h2, h3, h4, h5, h6⟩ := hm'
          have h6' : e ≤ t.length := by simpa using h6
          dsimp only
          rw [ih (t.length - e) (by omega) e f f' rfl h6' (by omega) (by omega)]

theorem joinL_nil : ∀ (xs : List (List Nat)), joinL [] xs = xs.flatten
  | [] => rfl
  | [x] => by simp [joinL]
  | x :: y :: r => by
    have := joinL_nil (y :: r)
    simp only [joinL, List.append_nil, this, List.flatten_cons]

theorem push_ok {L : Addr} {its : Array Value} {x : Value} {Q : Unit → Shared → Prop} (hL : s.heap.PlainList L its) (hsz : its.size ≤ 1000000)
    (h : ∀ h', h'.PlainList L (its.push x) → Heap.SameBut L s.heap h' → Q () { s with heap := h' }) : wpAny (model prog w) A (updateSeq L (·.push x)) Q E s := by
  obtain ⟨n, ho⟩ := hL
  refine wpAny_updateSeq ho rfl (h _ ⟨n + 1, ?_⟩ (Heap.SameBut.update ..)) (by rw [sizeLine_eq]; omega) (by rw [Array.size_push, sizeLine_eq]; omega)
  rw [Heap.get?_update_self _ ho (by rw [Obj.mapSeq_push_plain]; rfl), Obj.mapSeq_push_plain]
theorem keeps_same {s₀ s : Shared} {L : Addr} {h' : Heap} (hK : Keeps s₀ s) (hL0 : s₀.heap.get? L = none) (hs : Heap.SameBut L s.heap h') (t : Nat) : Keeps s₀ { s with heap := h', toks := t } := by
  obtain ⟨h, t', rfl, k⟩ := hK
  exact ⟨h', t, rfl, fun b o e => (hs.2 b fun hb => by rw [hb, hL0] at e; cases e).trans (k b o e)⟩
theorem strs_push {l : List Value} {ys : List Str} (h : StrsAre l ys) (y : Str) (t : Tok) : StrsAre (l ++ [.str y t]) (ys ++ [y]) := by
  induction h with
  | nil => exact .cons y t .nil
  | cons z u _ ih => exact .cons z u ih
theorem strs_len {l : List Value} {ys : List Str} (h : StrsAre l ys) : l.length = ys.length := by
  induction h with
  | nil => rfl
  | cons z u _ ih => simp [ih]
theorem extract_toArray (t : List Nat) (k r : Nat) : (⟨t.toArray.extract k r⟩ : Str) = ⟨((t.take r).drop k).toArray⟩ := by
  congr 1
  apply Array.toList_inj.mp
  simp [List.extract_eq_take_drop, List.drop_take]

theorem strs_snoc {its : Array Value} {xs : List (List Nat)} (h : StrsAre its.toList (xs.map fun x => (⟨x.toArray⟩ : Str))) (x : List Nat) (t : Tok) : StrsAre (its.push (.str ⟨x.toArray⟩ t)).toList ((xs ++ [x]).map fun x => (⟨x.toArray⟩ : Str)) := by
  rw [Array.toList_push, List.map_append]
  exact strs_push h _ _
theorem sum_snoc {xs : List (List Nat)} {x : List Nat} {n m : Nat} (h : (xs.map List.length).sum ≤ n) (hx : x.length ≤ m) : ((xs ++ [x]).map List.length).sum ≤ n + m := by
  rw [List.map_append, List.sum_append]
  exact Nat.add_le_add h hx
theorem flat_snoc (xs : List (List Nat)) (x : List Nat) : (xs ++ [x]).flatten = xs.flatten ++ x := by
  rw [List.flatten_append]
  exact congrArg _ (List.append_nil x)
theorem PatAt.same {h h' : Heap} {a L : Addr} {code : Array Nat} {its : Array Value} (P : PatAt h a code) (hL : h.PlainList L its) (hs : Heap.SameBut L h h') : PatAt h' a code := by
  obtain ⟨pv, fl, c, ps, np, p1, p2, p3⟩ := P
  obtain ⟨nl, pl⟩ := hL
  have ne : ∀ {b o c}, h.get? b = some o → o.cls = .type c → c ≠ "list" → b ≠ L := fun e hc hne h => hne (Value.type.inj (hc.symm.trans (congrArg Obj.cls (Option.some.inj (e.symm.trans (h ▸ pl))))))
  exact ⟨pv, fl, c, ps, np, (hs.2 a (ne p1 rfl (by decide))).trans p1, (hs.2 c (ne p2 rfl (by decide))).trans p2, p3⟩

/-- the loop's state: the pieces so far in the list L -/
structure LI (s₀ : Shared) (a L : Addr) (code : Array Nat) (its : Array Value) (xs : List (List Nat)) (s : Shared) : Prop where
  P : PatAt s.heap a code
  K : Keeps s₀ s
  L : s.heap.PlainList L its
  X : StrsAre its.toList (xs.map fun x => (⟨x.toArray⟩ : Str))

section
variable {s₀ : Shared} {a L : Addr} {code : Array Nat} {its : Array Value} {xs : List (List Nat)} {t repl : List Nat} {nxt : Nat → Option (Nat × Nat)}
theorem LI.tok (J : LI s₀ a L code its xs s) (t : Tok) : LI s₀ a L code its xs { s with toks := t } := ⟨J.P, keeps_tok J.K, J.L, J.X⟩
theorem LI.push (J : LI s₀ a L code its xs s) (hL0 : s₀.heap.get? L = none) (hsz : its.size ≤ 1000000) {x : List Nat} {tk : Tok} {Q : Unit → Shared → Prop}
    (h : ∀ h', (∀ t, LI s₀ a L code (its.push (.str ⟨x.toArray⟩ tk)) (xs ++ [x]) { s with heap := h', toks := t }) → Q () { s with heap := h' }) : wpAny (model prog w) A (updateSeq L (·.push (.str ⟨x.toArray⟩ tk))) Q E s :=
  push_ok J.L hsz fun h' hp hs => h h' fun t => ⟨J.P.same J.L hs, keeps_same J.K hL0 hs t, hp, strs_snoc J.X x tk⟩
theorem slice_ok (ht : t.length ≤ 100000) {b e : Nat} {Q : Value → Shared → Prop} (h : Q (.str ⟨((t.take e).drop b).toArray⟩ s.toks) { s with toks := s.toks + 1 }) : wpAny (model prog w) A (reSlice t.toArray 0 b e) Q E s := by
  rw [← extract_toArray] at h
  refine wpAny_mkStr h ?_
  show (t.toArray.extract b e).size ≤ sizeLine
  rw [sizeLine_eq, Array.size_extract, List.size_toArray]
  exact Nat.le_trans (Nat.sub_le _ _) (Nat.le_trans (Nat.min_le_right _ _) (Nat.le_trans ht (by decide)))
theorem LI.done (J : LI s₀ a L code its xs s) (hs : (xs.map List.length).sum ≤ 1000000) (tj : Tok) {Q : PySem.Fin → Shared → Prop} (h : ∀ k tk, Q (.done (.ret (.str ⟨xs.flatten.toArray⟩ tk))) { s with toks := k }) :
    wpAny (model prog w) A (seqItems? (.ref L) >>= fun x => if (x.getD #[]).isEmpty = true then (pure (Value.str ⟨#[]⟩ tj) >>= fun text => ret text) else (call (.builtin "str.join") [Value.str ⟨#[]⟩ tj, .ref L] >>= fun text => ret text)) Q E s := by
  obtain ⟨nl, pl⟩ := id J.L
  refine wpAny_bind (wpAny_seqItems pl rfl (wpAny_ite_split (fun he => ?_) fun _ => ?_))
  · have hl := strs_len J.X
    rw [List.length_map] at hl
    have hx0 : xs = [] := List.eq_nil_of_length_eq_zero (hl.symm.trans ((Array.length_toList ..).trans (Array.isEmpty_iff_size_eq_zero.mp he)))
    subst hx0
    exact wpAny_bind (wpAny_pure (wpAny_pure (h s.toks tj)))
  · refine wpAny_bind (join_list J.L.isList J.X ?_ fun t' k' => wpAny_pure ?_)
    · rw [List.map_map]
      exact Nat.le_trans hs (by decide)
    · have := h k' t'
      rw [← joinL_nil, ← join_str, ← StrLaws.glued_eq_join] at this
      exact this
end

theorem loop_ok {a : Addr} {code : Array Nat} {t repl : List Nat} {nxt : Nat → Option (Nat × Nat)} (F : Finds code t.toArray nxt) (ht : t.length ≤ 100000) (hr : repl.length ≤ 2) {tt rt : Tok} {L : Addr} {R : Result → Shared → Prop} {s₀ : Shared}
    (hL0 : s₀.heap.get? L = none) (hR : ∀ s' tk, Keeps s₀ s' → R (.ok (.ret (.str ⟨(subOut t repl nxt (t.length + 1) 0).toArray⟩ tk))) s') :
    ∀ (m k : Nat) (n : Int) (s : Shared) (its : Array Value) (xs : List (List Nat)), m = t.length - k → k ≤ t.length → LI s₀ a L code its xs s → its.size ≤ 2 * k → (xs.map List.length).sum ≤ 3 * k →
      subOut t repl nxt (t.length + 1) 0 = xs.flatten ++ subOut t repl nxt (t.length + 1) k →
      codeAny (model prog w) A (.builtin "re.Pattern.sub.loop" ⟨[.ref a, .str ⟨t.toArray⟩ tt, .str ⟨repl.toArray⟩ rt, rawInt 0, rawInt 0, rawInt n, rawInt k, rawInt k, .bool false, .ref L, .bool false], []⟩) R s := by
  intro m
  induction m using Nat.strongRecOn with
  | ind m ih =>
    intro k n s its xs hm hk J hsz hsum hout
    obtain ⟨n0, m', hn0, hrun, hm'⟩ := F k (show k ≤ t.toArray.size from hk)
    have out : ∀ {xs' : List (List Nat)} {s' : Shared}, (xs'.map List.length).sum ≤ 4 * 100000 → subOut t repl nxt (t.length + 1) 0 = xs'.flatten → ∀ its' tj, LI s₀ a L code its' xs' s' →
        wpAny (model prog w) A.in1 (seqItems? (.ref L) >>= fun x => if (x.getD #[]).isEmpty = true then (pure (Value.str ⟨#[]⟩ tj) >>= fun text => ret text) else (call (.builtin "str.join") [Value.str ⟨#[]⟩ tj, .ref L] >>= fun text => ret text))
            (fun fin s' => match fin with | .done f => R (.ok f) s' | .again c' => c'.quiet = true ∧ codeAny (model prog w) A c' R s') (fun e s' => R (.error e) s') s' := fun hs e its' tj J' => J'.done (Nat.le_trans hs (by decide)) tj fun k tk => e ▸ hR _ tk (J'.tok k).K
    have nexts : ∀ {r e : Nat} {xs' : List (List Nat)} {its' : Array Value} {s' : Shared} {b : Bool}, b = false → nxt k = some (r, e) → k < e → e ≤ t.length → its'.size ≤ 2 * k + 2 → (xs'.map List.length).sum ≤ 3 * k + (e - k) + 2 → xs'.flatten = xs.flatten ++ ((t.take r).drop k ++ repl) → LI s₀ a L code its' xs' s' →
        codeAny (model prog w) A (.builtin "re.Pattern.sub.loop" ⟨[.ref a, .str ⟨t.toArray⟩ tt, .str ⟨repl.toArray⟩ rt, rawInt 0, rawInt 0, rawInt (n + 1), rawInt e, rawInt e, .bool b, .ref L, .bool false], []⟩) R s' := fun {r e xs' its' s' b} hb hnx hke he hs1 hs2 hfl J' =>
      hb ▸ ih (t.length - e) (by omega) e (n + 1) _ its' xs' rfl he J' (by omega) (by omega) (by
        have e1 : subOut t repl nxt (t.length + 1) k = (t.take r).drop k ++ repl ++ subOut t repl nxt t.length e := by
          conv => lhs; unfold subOut
          rw [hnx]
        rw [hout, hfl, e1, subOut_fuel F (t.length - e) e t.length (t.length + 1) rfl he (by omega) (by omega)]; simp only [List.append_assoc])
    refine codeAny_builtin entry_pat_loop ?_
    rw [Around.under_plainId plain_pat_loop _]
    unfold Builtin.«re.Pattern.sub.loop»
    refine wpAny_bind (target_ok J.P ?_)
    show wpAny _ _ (reLiteralCannotBeTurned (.str ⟨repl.toArray⟩ rt) >>= fun _ => _) _ _ _
    refine wpAny_bind (wpAny_of_eq (a := ()) rfl ?_)
    show wpAny _ _ (reNextFound _ k false >>= fun _ => _) _ _ _
    generalize hnx : nxt k = re at hm'
    cases re with
    | none =>
      have e1 : subOut t repl nxt (t.length + 1) k = t.drop k := by
        conv => lhs; unfold subOut
        rw [hnx]
      rw [e1] at hout
      refine wpAny_bind (runToEnd hrun hn0 (.inr ⟨hm', ?_⟩))
      show wpAny _ _ (if k < t.toArray.size then _ else _) _ _ _
      refine wpAny_ite_split (fun _ => ?_) fun hkl => ?_
      · refine wpAny_bind (slice_ok ht (wpAny_bind ((J.tok _).push hL0 (by omega) fun h' hp => wpAny_bind (slice_ok ht ?_))))
        refine out (Nat.le_trans (sum_snoc hsum (m := t.length) ?_) (by omega)) (hout.trans ?_) _ _ (hp _)
        · rw [List.length_drop, List.length_take]; exact Nat.le_trans (Nat.sub_le _ _) (Nat.min_le_right _ _)
        · rw [flat_snoc]; exact congrArg (fun l => xs.flatten ++ l.drop k) List.take_length.symm
      · exact wpAny_bind (slice_ok ht (out (Nat.le_trans hsum (by omega)) (hout.trans (by rw [List.drop_of_length_le (Nat.le_of_not_lt fun h => hkl h), List.append_nil])) _ _ (J.tok _)))
    | some re =>
      obtain ⟨r, e⟩ := re
      obtain ⟨h1, h2, h3, h4, h5, h6⟩ := hm'
      subst h2
      subst h3
      have h6 : m'.handed ≤ t.length := h6
      have hd : ((t.take m'.start).drop k).length ≤ m'.start - k := by rw [List.length_drop, List.length_take]; exact Nat.sub_le_sub_right (Nat.min_le_left _ _) _
      have nb : (m'.handed == m'.start) = false := beq_eq_false_iff_ne.mpr (Nat.ne_of_gt h5)
      refine wpAny_bind (runToEnd hrun hn0 (.inl ⟨h1, ?_⟩))
      show wpAny _ _ (if k < m'.start then _ else _) _ _ _
      refine wpAny_ite_split (fun _ => ?_) fun hkr => ?_
      · refine wpAny_bind (slice_ok ht (wpAny_bind ((J.tok _).push hL0 (by omega) fun h' hp => ?_)))
        show wpAny _ _ (pure (Value.str ⟨repl.toArray⟩ rt) >>= fun item => _) _ _ _
        refine wpAny_bind (wpAny_pure (wpAny_ite_true rfl (wpAny_bind ((hp _).push hL0 (by rw [Array.size_push]; omega) fun h'' hp' => wpAny_pure ⟨plainId_quiet plain_pat_loop _, nexts nb hnx (by omega) h6 ?_ ?_ ?_ (hp' _)⟩))))
        · rw [Array.size_push, Array.size_push]; exact Nat.add_le_add_right hsz 2
        · exact Nat.le_trans (sum_snoc (sum_snoc hsum hd) hr) (by omega)
        · rw [flat_snoc, flat_snoc, List.append_assoc]; rfl
      · show wpAny _ _ (pure (Value.str ⟨repl.toArray⟩ rt) >>= fun item => _) _ _ _
        refine wpAny_bind (wpAny_pure (wpAny_ite_true rfl (wpAny_bind (J.push hL0 (by omega) fun h'' hp' => wpAny_pure ⟨plainId_quiet plain_pat_loop _, nexts nb hnx (by omega) h6 ?_ ?_ ?_ (hp' _)⟩))))
        · rw [Array.size_push]; omega
        · exact Nat.le_trans (sum_snoc hsum hr) (by omega)
        · rw [flat_snoc, show (t.take m'.start).drop k = [] from List.eq_nil_of_length_eq_zero (Nat.le_zero.mp (Nat.le_trans hd (Nat.le_of_eq (Nat.sub_eq_zero_of_le (Nat.le_of_not_lt hkr)))))]; rfl
end
end
section
open PySem PySem.Spec PySem.Calls PySem.W PyProof.Rows
open PySem.Sre PySem.Builtin.Re

section
variable {prog : Program} {w : World} {A : Around} {E : Value → Shared → Prop} {s : Shared}
theorem PatAt.typeIs {a : Addr} {code : Array Nat} (P : PatAt s.heap a code) : s.TypeIs (.ref a) "re.Pattern" := by
  obtain ⟨pv, fl, c, its, n, h1, h2, h3⟩ := P
  exact ⟨_, h1, rfl⟩

theorem sub_call {a : Addr} {code : Array Nat} {t repl : List Nat} {nxt : Nat → Option (Nat × Nat)} (P : PatAt s.heap a code) (F : Finds code t.toArray nxt) (ht : t.length ≤ 100000) (hr : repl.length ≤ 2) (h92 : (repl.toArray.contains 92) = false) {tt rt : Tok} {Q : Value → Shared → Prop}
    (hQ : ∀ s' tk, Keeps s s' → Q (.str ⟨(subOut t repl nxt (t.length + 1) 0).toArray⟩ tk) s') : wpAny (model prog w) A (call (.builtin "re.Pattern.sub") [.ref a, .str ⟨repl.toArray⟩ rt, .str ⟨t.toArray⟩ tt]) Q E s := by
  refine wpAny_call (codeAny_call_builtin plain_pat_sub entry_pat_sub (slot_pat_sub.check _ _ _ _ _ _ _ _ P.typeIs (args_pat_sub _ _ _) ?_))
  show wpAny _ _ (reSubstitute "re.Pattern.sub" "sub" false ⟨[.ref a, .str ⟨repl.toArray⟩ rt, .str ⟨t.toArray⟩ tt], []⟩) _ _ _
  unfold reSubstitute
  refine wpAny_bind (m := reNamed _ _ _ _ _ _) (wpAny_of_eq (a := [some (.str ⟨repl.toArray⟩ rt), some (.str ⟨t.toArray⟩ tt), none]) rfl ?_)
  dsimp only
  refine wpAny_bind (m := (pure 0 : Sem Int)) (wpAny_pure ?_)
  refine wpAny_bind (m := specialOf (.str ⟨repl.toArray⟩ rt) (Str.ofString "__call__")) (wpAny_specialOf_val rfl str_no_call ?_)
  dsimp only [Option.isSome_none]
  show wpAny _ _ (asStr? (.str ⟨repl.toArray⟩ rt) >>= _) _ _ _
  refine wpAny_bind (wpAny_of_eq (a := some ⟨repl.toArray⟩) rfl ?_)
  dsimp only
  refine wpAny_bind (m := (pure _ : Sem Bool)) (wpAny_pure ?_)
  rw [h92]
  show wpAny _ _ ((pure (Value.str ⟨repl.toArray⟩ rt, (0 : Int)) : Sem (Value × Int)) >>= _) _ _ _
  refine wpAny_bind (wpAny_pure ?_)
  dsimp only
  refine wpAny_bind (m := holding [_] (reWholeTarget (.ref a) (.str ⟨t.toArray⟩ tt))) (wpAny_holding (target_ok P ?_))
  show wpAny _ _ (newList [] >>= _) _ _ _
  refine wpAny_bind (wpAny_newObj_type ?_)
  refine wpAny_pure ⟨plainId_quiet plain_pat_loop _, ?_⟩
  refine loop_ok (s₀ := s) F ht hr (fresh_size _) (fun s' tk k => hQ s' tk k) t.length 0 0 _ #[] [] rfl (Nat.zero_le _) ⟨P.keeps fun b o e => Heap.get?_push_of_some _ e, keeps_push _ _, ⟨0, Heap.get?_push_size _ rfl⟩, .nil⟩ (Nat.zero_le _) (Nat.zero_le _) rfl

/-- a search that finds nothing -/
theorem search_call {a : Addr} {code : Array Nat} {t : Str} (P : PatAt s.heap a code) {m' : Sre.M} (hrun : ∃ n, n ≤ 1000000 ∧ M.runFor n (Sre.forSearch code t.cps 0 0 t.cps.size false) = m' ∧ m'.outcome = some .failed) (ht : t.cps.size < 2 ^ 62) {tt : Tok} {Q : Value → Shared → Prop}
    (hQ : Q .none s) : wpAny (model prog w) A (call (.builtin "re.Pattern.search") [.ref a, .str t tt]) Q E s := by
  refine wpAny_call_entry slot_pat_search P.typeIs entry_pat_search ?_ (args_pat_search _ _)
  obtain ⟨pv, fl, c, its, n, h1, h2, h3⟩ := P
  unfold Builtin.«re.Pattern.search»
  have tgt : ∀ (Q' : ReTarget → Shared → Prop), Q' { pattern := .ref a, string := .str t tt, code := code, text := t.cps, kind := 0, groups := 0, pos := 0, lim := t.cps.size } s →
      wpAny (model prog w) A.in1 (reTarget "re.Pattern.search" "search" ⟨[.ref a, .str t tt], []⟩) Q' E s := by
    intro Q' hq
    unfold reTarget
    refine wpAny_bind (m := reNamed _ _ _ _ _ _) (wpAny_of_eq (a := [some (.str t tt), none, none]) rfl ?_)
    dsimp only
    refine wpAny_bind (m := (pure 0 : Sem Int)) (wpAny_pure ?_)
    refine wpAny_bind (m := (pure (2 ^ 63 - 1) : Sem Int)) (wpAny_pure ?_)
    refine wpAny_bind (wpAny_fieldsOf h1 rfl ?_)
    refine wpAny_bind (m := reTextOf (.str t tt)) (wpAny_of_eq (a := (t.cps, 0)) rfl ?_)
    refine wpAny_bind (m := reNoCollectionInside (.str t tt) 0) (wpAny_of_eq (a := ()) rfl ?_)
    refine wpAny_bind (show wpAny _ _ (seqItems? (.ref c) >>= fun x => pure ((x.getD #[]).map reRawOf)) _ _ _ from wpAny_bind (wpAny_seqItems h2 rfl (wpAny_pure (wpAny_pure ?_))))
    have e1 : min (0 : Int).toNat t.cps.size = 0 := by simp
    have e2 : min ((2 : Int) ^ 63 - 1).toNat t.cps.size = t.cps.size := by
      have : ((2 : Int) ^ 63 - 1).toNat = 2 ^ 63 - 1 := by decide
      rw [this]; omega
    rw [e1, e2]
    rw [← h3] at hq
    exact hq
  refine wpAny_bind (tgt _ ?_)
  unfold reAnswer
  obtain ⟨k, hk, hr, ho⟩ := hrun
  refine wpAny_bind (runToEnd hr hk (.inr ⟨ho, ?_⟩))
  exact wpAny_pure ⟨.none, rfl, hQ⟩
end
end
section
open PySem PySem.Spec PySem.Calls PySem.W PyProof.Rows
open PySem.Sre PySem.Builtin.Re

noncomputable def sentGo : Nat → List Nat → List Nat
  | _, [] => []
  | b, c :: r => (if c = 46 ∧ (b = 13 ∨ b = 10) then [46, 46] else if c = 13 ∨ (c = 10 ∧ b ≠ 13) then [13, 10] else if c ≠ 10 then [c] else []) ++ sentGo c r
noncomputable def sent (x : List Nat) : List Nat := sentGo 10 x

noncomputable def nxt1 (t : Array Nat) (k : Nat) : Option (Nat × Nat) := (next1 t (t.size + 1 - k) k).map fun r => (r, r + 1)
noncomputable def nxt2 (t : Array Nat) (k : Nat) : Option (Nat × Nat) := (next2 t (t.size + 1 - k) k).map fun r => (r, hnd2 t r)

theorem next1_some {t : Array Nat} : ∀ {n s r : Nat}, next1 t n s = some r → s ≤ r ∧ r < t.size
  | 0, s, r, h => by cases h
  | n + 1, s, r, h => by
    unfold next1 at h
    split at h
    · rename_i hq
      cases h
      unfold qual at hq
      simp only [Bool.and_eq_true, decide_eq_true_eq] at hq
      exact ⟨Nat.le_refl _, hq.1.2⟩
    · split at h
      · have := next1_some h; omega
      · cases h

theorem hnd2_bound {t : Array Nat} {r : Nat} (h : r < t.size) : r < hnd2 t r ∧ hnd2 t r ≤ t.size := by
  unfold hnd2
  by_cases hc : (t.getD r 0 == 13 && decide (r + 1 < t.size) && t.getD (r + 1) 0 == 10) = true
  · rw [if_pos hc]
    simp only [Bool.and_eq_true, decide_eq_true_eq] at hc
    omega
  · rw [if_neg hc]; omega
theorem finds1 (t : List Nat) (ht : t.length ≤ 100000) : Finds code1 t.toArray (nxt1 t.toArray) := by
  intro k hk
  obtain ⟨n, m', h1, h2, h3⟩ := search1 t.toArray k hk
  refine ⟨n, m', by simp at h1; omega, h2, ?_⟩
  unfold nxt1
  cases hn : next1 t.toArray (t.toArray.size + 1 - k) k with
  | none => rw [hn] at h3; exact h3
  | some r =>
    rw [hn] at h3
    obtain ⟨q1, q2⟩ := next1_some hn
    exact ⟨h3.1, h3.2.1, h3.2.2, q1, Nat.lt_succ_self r, q2⟩
theorem finds2 (t : List Nat) : Finds code2 t.toArray (nxt2 t.toArray) := by
  intro k hk
  obtain ⟨n, m', h1, h2, h3⟩ := search2 t.toArray k hk
  refine ⟨n, m', by omega, h2, ?_⟩
  unfold nxt2
  cases hn : next2 t.toArray (t.toArray.size + 1 - k) k with
  | none => rw [hn] at h3; exact h3
  | some r =>
    rw [hn] at h3
    obtain ⟨q1, q2, _⟩ := next2_some hn
    have hb := hnd2_bound q2
    exact ⟨h3.1, h3.2.1, h3.2.2, q1, hb.1, hb.2⟩

/-- all fuel is alike from here on -/
theorem sub_step {code : Array Nat} {t repl : List Nat} {nxt : Nat → Option (Nat × Nat)} (F : Finds code t.toArray nxt) (k : Nat) (hk : k < t.length) (h : nxt k = nxt (k + 1)) :
    subOut t repl nxt (t.length + 1) k = t[k] :: subOut t repl nxt (t.length + 1) (k + 1) := by
  have e : ∀ j, subOut t repl nxt (t.length + 1) j = match nxt j with
    | none => t.drop j
    | some (r, e) => (t.take r).drop j ++ repl ++ subOut t repl nxt t.length e := fun j => rfl
  rw [e k, e (k + 1), h]
  obtain ⟨n0, m', hn0, hrun, hm'⟩ := F (k + 1) (by simp; omega)
  cases hn : nxt (k + 1) with
  | none => exact List.drop_eq_getElem_cons hk
  | some re =>
    obtain ⟨r, e'⟩ := re
    rw [hn] at hm'
    obtain ⟨h1, h2, h3, h4, h5, h6⟩ := hm'
    have h6' : e' ≤ t.length := by simpa using h6
    have hkr : k < (t.take r).length := by simp; omega
    dsimp only
    rw [List.drop_eq_getElem_cons hkr]
    simp
theorem sub_hit {code : Array Nat} {t repl : List Nat} {nxt : Nat → Option (Nat × Nat)} (F : Finds code t.toArray nxt) (k e : Nat) (hk : k ≤ t.length) (h : nxt k = some (k, e)) :
    subOut t repl nxt (t.length + 1) k = repl ++ subOut t repl nxt (t.length + 1) e := by
  obtain ⟨n0, m', hn0, hrun, hm'⟩ := F k (by simpa using hk)
  rw [h] at hm'
  obtain ⟨h1, h2, h3, h4, h5, h6⟩ := hm'
  have h6' : e ≤ t.length := by simpa using h6
  conv => lhs; unfold subOut
  rw [h]
  dsimp only
  rw [subOut_fuel F (t.length - e) e t.length (t.length + 1) rfl h6' (by omega) (by omega)]
  have : (t.take k).drop k = [] := List.drop_eq_nil_of_le (by simp; omega)
  rw [this, List.nil_append]

noncomputable def dotsGo : Nat → List Nat → List Nat
  | _, [] => []
  | b, c :: r => (if c = 46 ∧ b = 10 then [46, 46] else [c]) ++ dotsGo c r
noncomputable def normGo : Nat → List Nat → List Nat
  | _, [] => []
  | b, c :: r => (if c = 13 then [13, 10] else if c = 10 then (if b = 13 then [] else [13, 10]) else [c]) ++ normGo c r

theorem getD_list (t : List Nat) (k : Nat) (hk : k < t.length) : t.toArray.getD k 0 = t[k] := by
  simp [Array.getD, hk]

theorem sub_dots (t : List Nat) (ht : t.length ≤ 100000) : ∀ (n k : Nat), n = t.length - k → k ≤ t.length → subOut t [46, 46] (nxt1 t.toArray) (t.length + 1) k = dotsGo (if k = 0 then 10 else t.toArray.getD (k - 1) 0) (t.drop k) := by
  intro n
  induction n with
  | zero =>
    intro k hn hk
    have e : k = t.length := by omega
    subst e
    have hx : nxt1 t.toArray t.length = none := by
      unfold nxt1
      rw [show t.toArray.size + 1 - t.length = 1 by rw [List.size_toArray]; omega]
      unfold next1
      have : qual t.toArray t.length = false := by unfold qual; simp
      rw [this]; simp
    unfold subOut
    rw [hx, List.drop_length]
    rfl
  | succ n ih =>
    intro k hn hk
    have hk' : k < t.length := by omega
    have ih' := ih (k + 1) (by omega) hk'
    rw [if_neg (by omega), Nat.add_sub_cancel] at ih'
    have hfu : t.toArray.size + 1 - k = (t.toArray.size + 1 - (k + 1)) + 1 := by simp; omega
    rw [List.drop_eq_getElem_cons hk']
    simp only [dotsGo]
    have hc := getD_list t k hk'
    cases hq : qual t.toArray k with
    | true =>
      have hx : nxt1 t.toArray k = some (k, k + 1) := by
        unfold nxt1
        rw [hfu]
        unfold next1
        rw [if_pos hq]; rfl
      rw [sub_hit (finds1 t ht) k (k + 1) hk hx, ih', hc]
      unfold qual at hq
      simp only [Bool.and_eq_true, Bool.or_eq_true, beq_iff_eq, decide_eq_true_eq] at hq
      rw [if_pos]
      refine ⟨by rw [← hc]; exact hq.2, ?_⟩
      split
      · rfl
      · rename_i h0
        exact hq.1.1.resolve_left h0
    | false =>
      have hx : nxt1 t.toArray k = nxt1 t.toArray (k + 1) := by
        unfold nxt1
        rw [hfu]
        conv => lhs; unfold next1
        rw [if_neg (by rw [hq]; simp), if_pos (by simpa using hk')]
      rw [sub_step (finds1 t ht) k hk' hx, ih', hc]
      rw [if_neg]
      · rfl
      · rintro ⟨h1, h2⟩
        have : qual t.toArray k = true := by
          unfold qual
          simp only [Bool.and_eq_true, Bool.or_eq_true, beq_iff_eq, decide_eq_true_eq]
          refine ⟨⟨?_, by simpa using hk'⟩, by rw [hc]; exact h1⟩
          by_cases h0 : k = 0
          · exact .inl h0
          · rw [if_neg h0] at h2; exact .inr h2
        rw [this] at hq; cases hq

theorem normGo_not13 : ∀ (b : Nat) (c : Nat) (r : List Nat), b ≠ 13 → normGo b (c :: r) = normGo 0 (c :: r) := by
  intro b c r hb
  simp only [normGo]
  simp [hb]
theorem normGo_not10 : ∀ (b : Nat) (c : Nat) (r : List Nat), c ≠ 10 → normGo b (c :: r) = normGo 0 (c :: r) := by
  intro b c r hb
  simp only [normGo]
  simp [hb]

theorem sub_norm (t : List Nat) : ∀ (n k : Nat), n = t.length - k → k ≤ t.length → subOut t [13, 10] (nxt2 t.toArray) (t.length + 1) k = normGo 0 (t.drop k) := by
  intro n
  induction n using Nat.strongRecOn with
  | ind n ih =>
    intro k hn hk
    by_cases hk' : k < t.length
    · have ih' := ih (t.length - (k + 1)) (by omega) (k + 1) rfl hk'
      have hfu : t.toArray.size + 1 - k = (t.toArray.size + 1 - (k + 1)) + 1 := by simp; omega
      have hc := getD_list t k hk'
      rw [List.drop_eq_getElem_cons hk']
      cases hq : nl (t.toArray.getD k 0) with
      | true =>
        have hx : nxt2 t.toArray k = some (k, hnd2 t.toArray k) := by
          unfold nxt2
          rw [hfu]
          unfold next2
          rw [if_neg (by simp; omega), if_pos hq]; rfl
        rw [sub_hit (finds2 t) k _ hk hx]
        unfold nl at hq
        simp only [Bool.or_eq_true, beq_iff_eq] at hq
        unfold hnd2
        split
        · rename_i h
          simp only [Bool.and_eq_true, decide_eq_true_eq, beq_iff_eq] at h
          have h2 : k + 1 < t.length := by simpa using h.1.2
          rw [ih (t.length - (k + 2)) (by omega) (k + 2) rfl (by omega)]
          rw [List.drop_eq_getElem_cons h2]
          have h3 := getD_list t (k + 1) h2
          rw [← hc, h.1.1, ← h3, h.2]
          simp only [normGo]
          cases hd : t.drop (k + 2) with
          | nil => simp [hd, normGo]
          | cons c r => rw [normGo_not13 10 c r (by decide)]; simp
        · rename_i h
          rw [ih' ]
          simp only [normGo]
          rw [← hc]
          cases hd : t.drop (k + 1) with
          | nil => rcases hq with hq | hq <;> rw [hq] <;> simp [normGo]
          | cons c r =>
            rcases hq with hq | hq
            · rw [hq, normGo_not13 10 c r (by decide)]; simp
            · rw [hq]
              have hcne : c ≠ 10 := by
                intro e
                have h2 : k + 1 < t.length := by
                  have := congrArg List.length hd
                  simp at this; omega
                refine h ?_
                simp only [Bool.and_eq_true, decide_eq_true_eq, beq_iff_eq]
                refine ⟨⟨hq, by simpa using h2⟩, ?_⟩
                rw [getD_list t (k + 1) h2]
                rw [List.drop_eq_getElem_cons h2] at hd
                cases hd
                exact e
              rw [normGo_not10 13 c r hcne]; simp
      | false =>
        have hx : nxt2 t.toArray k = nxt2 t.toArray (k + 1) := by
          unfold nxt2
          rw [hfu]
          conv => lhs; unfold next2
          rw [if_neg (by simp; omega), if_neg (by rw [hq]; simp)]
        rw [sub_step (finds2 t) k hk' hx, ih']
        unfold nl at hq
        simp only [Bool.or_eq_false_iff, beq_eq_false_iff_ne] at hq
        rw [hc] at hq
        simp only [normGo]
        rw [if_neg hq.2, if_neg hq.1]
        cases hd : t.drop (k + 1) with
        | nil => simp [normGo]
        | cons c r => rw [normGo_not13 _ c r hq.2]; simp
    · have e : k = t.length := by omega
      subst e
      have hx : nxt2 t.toArray t.length = none := by
        unfold nxt2
        rw [show t.toArray.size + 1 - t.length = 1 by rw [List.size_toArray]; omega]
        unfold next2
        simp
      unfold subOut
      rw [hx, List.drop_length]
      rfl

theorem dots_norm : ∀ (x : List Nat) (b B : Nat), (B = 10 ↔ (b = 10 ∨ b = 13)) → dotsGo B (normGo b x) = sentGo b x
  | [], _, _, _ => rfl
  | c :: r, b, B, h => by
    simp only [normGo, sentGo]
    by_cases h1 : c = 13
    · subst h1
      have := dots_norm r 13 10 (by simp)
      simp [dotsGo, this]
    · by_cases h2 : c = 10
      · subst h2
        by_cases h3 : b = 13
        · subst h3
          have hB : B = 10 := h.mpr (.inr rfl)
          subst hB
          have := dots_norm r 10 10 (by simp)
          simp [this]
        · have := dots_norm r 10 10 (by simp)
          simp [h3, dotsGo, this]
      · have := dots_norm r c c (by omega)
        by_cases h3 : c = 46
        · subst h3
          by_cases h4 : b = 10 ∨ b = 13
          · have hB := h.mpr h4
            simp [dotsGo, this, hB, show b = 13 ∨ b = 10 from h4.symm]
          · have hB : ¬ B = 10 := fun e => h4 (h.mp e)
            simp [dotsGo, this, hB, show ¬ (b = 13 ∨ b = 10) from fun e => h4 e.symm]
        · simp [dotsGo, this, h1, h2, h3]

theorem quoted (x : List Nat) (hx : x.length ≤ 30000) : subOut (subOut x [13, 10] (nxt2 x.toArray) (x.length + 1) 0) [46, 46] (nxt1 (subOut x [13, 10] (nxt2 x.toArray) (x.length + 1) 0).toArray) ((subOut x [13, 10] (nxt2 x.toArray) (x.length + 1) 0).length + 1) 0 = sent x := by
  have e := sub_norm x _ 0 rfl (Nat.zero_le _)
  rw [List.drop_zero] at e
  have hl : ∀ (y : List Nat) (b : Nat), (normGo b y).length ≤ 2 * y.length := by
    intro y
    induction y with
    | nil => intro b; simp [normGo]
    | cons c r ih =>
      intro b
      have := ih c
      simp only [normGo, List.length_append, List.length_cons]
      have : (if c = 13 then [13, 10] else if c = 10 then (if b = 13 then [] else [13, 10]) else [c]).length ≤ 2 := by
        repeat' split
        all_goals simp
      omega
  rw [e]
  have := sub_dots (normGo 0 x) (by have := hl x 0; omega) _ 0 rfl (Nat.zero_le _)
  rw [this, if_pos rfl, List.drop_zero]
  have h0 : normGo 0 x = normGo 10 x := by
    cases x with
    | nil => rfl
    | cons c r => rw [normGo_not13 10 c r (by decide)]
  rw [h0]
  exact dots_norm x 10 10 (by simp)
end
section
open PySem PySem.Spec PySem.Calls PySem.W PyProof.Rows

noncomputable def plainPar (xs : List String) (fd : FuncData) : Bool := fd.params.posonlyargs.isEmpty && decide (fd.params.args.map (·.arg) = xs.map Str.ofString) && fd.params.kwonlyargs.isEmpty && fd.params.vararg.isNone && fd.params.kwarg.isNone &&
        (match fd.defaults with | .none => true | _ => false)
theorem FnIs0.plain {K : Frag} {a : Addr} {xs : List String} {fd : FuncData} {body : List Stmt} (F : FnIs0 K a xs fd body) (h : plainPar xs fd = true) : FnIs K a xs fd body := by
  unfold plainPar at h
  simp only [Bool.and_eq_true, List.isEmpty_iff, decide_eq_true_eq, Option.isNone_iff_eq_none] at h
  obtain ⟨⟨⟨⟨⟨h2, h3⟩, h4⟩, h5⟩, h6⟩, h7⟩ := h
  refine ⟨F, h2, h3, h4, h5, h6, ?_⟩
  split at h7
  · assumption
  · cases h7
noncomputable def codeN : Array Nat := #[14, 10, 4, 1, 1, 22, 0, 31, 16, 127, 0, 13, 7, 22, 0, 31, 16, 127, 0, 1]
noncomputable def codeV : Array Nat := #[14, 14, 4, 1, 1, 9, 4294966783, 0, 0, 2147483648, 0, 0, 0, 0, 0, 13, 11, 9, 4294966783, 0, 0, 2147483648, 0, 0, 0, 0, 0, 1]
/-- the top's table -/
noncomputable def flagTab : List (Int × List Nat) := [(1, [79, 80, 84, 73, 77, 73, 90, 69, 68]), (2, [78, 69, 87, 76, 79, 67, 65, 76, 83]), (4, [86, 65, 82, 65, 82, 71, 83]), (8, [86, 65, 82, 75, 69, 89, 87, 79, 82, 68, 83]), (16, [78, 69, 83, 84, 69, 68]), (32, [71, 69, 78, 69, 82, 65, 84, 79, 82]), (64, [78, 79, 70, 82, 69, 69]), (128, [67, 79, 82, 79, 85, 84, 73, 78, 69]), (256, [73, 84, 69, 82, 65, 66, 76, 69, 95, 67, 79, 82, 79, 85, 84, 73, 78, 69]), (512, [65, 83, 89, 78, 67, 95, 71, 69, 78, 69, 82, 65, 84, 79, 82])]
/-- entries against a table -/
noncomputable def chkEs : List DictEntry → List (Int × List Nat) → Bool
  | [], [] => true
  | e :: es, (k, x) :: r => (match e.key, e.val with
    | .int i _, .str y _ => i == k && decide (y = ⟨x.toArray⟩) && e.hash == hashInt k
    | _, _ => false) && chkEs es r
  | _, _ => false
noncomputable def gaElt : PE := .idx (.var "kv") (.int 1)
noncomputable def gaIf : PE := .cmp .eq (.m0 .lower (.idx (.var "kv") (.int 0))) (.var "name")
noncomputable def getIf : PE := .cmp .eq (.m0 .lower (.var "k")) (.var "name")
noncomputable def numE : PE := .comp (.b1 .ord (.var "sign")) "sign" (.join [] (.var "texts")) []
noncomputable def numT : PE := .cmp .lt (.b1 .len (.var "numbers")) (.int 5)

/-- self._convert_string_type(arg, name=b) -/
inductive IsConv (kd : Kd) (b : Bool) (arg : Expr → Prop) (e : Expr) : Prop where
  | mk : ∀ p1 ap x kc p2 p3 pos, (e = .Call (.Attribute (.Name (Str.ofString "self") p1) (Str.ofString "_convert_string_type") ap) [x] [⟨some (Str.ofString "name"), .Constant (.bool b) kc p2, p3⟩] pos) →
    (ap.endLine = pos.line) →
    (isOwn kd (Str.ofString "self") = true) →
    (notStar x = true) →
    (arg x) → IsConv kd b arg e
/-- self._headers -/
inductive IsHeaders (kd : Kd) (e : Expr) : Prop where
  | mk : ∀ p1 p2, (e = .Attribute (.Name (Str.ofString "self") p1) (Str.ofString "_headers") p2) →
    (isOwn kd (Str.ofString "self") = true) → IsHeaders kd e
/-- next(iterator) -/
inductive IsNext (kd : Kd) (e : Expr) : Prop where
  | mk : ∀ p1 p2 p3, (e = .Call (.Name (Str.ofString "next") p1) [.Name (Str.ofString "iterator") p2] [] p3) →
    (isGlob kd (Str.ofString "next") = true) →
    (isOwn kd (Str.ofString "iterator") = true) → IsNext kd e
noncomputable def IsE (p : PE) (kd : Kd) (e : Expr) : Prop := matchE p kd e = true

inductive ShQuot (K : Frag) : Prop where
  | mk : ∀ fd p1 ap1 c1 c2 p2 ap2 p3 p4 p5 p6 p7, (FnIs0 K 55 ["data"] fd [.Return (some (.Call (.Attribute (.Name (Str.ofString "_twin_re_1") p1) (Str.ofString "sub") ap1) [.Constant (.str ⟨#[46, 46]⟩) c1 c2, .Call (.Attribute (.Name (Str.ofString "_twin_re_2") p2) (Str.ofString "sub") ap2) [.Name (Str.ofString "CRLF") p3, .Name (Str.ofString "data") p4] [] p5] [] p6)) p7]) →
    (plainPar ["data"] fd = true) →
    (isGlob fd.scope.names (Str.ofString "_twin_re_1") = true) →
    (ap1.endLine = p6.line) →
    (isGlob fd.scope.names (Str.ofString "_twin_re_2") = true) →
    (ap2.endLine = p5.line) →
    (isGlob fd.scope.names (Str.ofString "CRLF") = true) →
    (isOwn fd.scope.names (Str.ofString "data") = true) → ShQuot K
inductive ShConv (K : Frag) : Prop where
  | mk : ∀ fd p1 p2 p3 p4 p5 p6 p7 p8 p9 p10 p11 p12 ap p13 p14 sx p15 p16 p17 p18 sy rest, (FnIs0 K 157 ["self", "value", "name"] fd
    [.If (.Compare (.Call (.Name (Str.ofString "type") p1) [.Name (Str.ofString "value") p2] [] p3) [.Is] [.Name (Str.ofString "str") p4] p5) [.Assign [.Name (Str.ofString "regex") p6] (.IfExp (.Name (Str.ofString "name") p7) (.Name (Str.ofString "_name_disallowed_re") p8) (.Name (Str.ofString "_value_disallowed_re") p9) p10) p11,
      .If (.Call (.Attribute (.Name (Str.ofString "regex") p12) (Str.ofString "search") ap) [.Name (Str.ofString "value") p13] [] p14) sx [] p15, .Return (some (.Name (Str.ofString "value") p16)) p17] sy p18, rest]) →
    (fd.params.posonlyargs = []) →
    (fd.params.args.map (·.arg) = ["self", "value"].map Str.ofString) →
    (fd.params.kwonlyargs.map (·.arg) = ["name"].map Str.ofString) →
    (fd.params.vararg = none) →
    (fd.params.kwarg = none) →
    (fd.defaults = .none) →
    (isGlob fd.scope.names (Str.ofString "type") = true) →
    (isOwn fd.scope.names (Str.ofString "value") = true) →
    (isGlob fd.scope.names (Str.ofString "str") = true) →
    (isOwn fd.scope.names (Str.ofString "regex") = true) →
    (isOwn fd.scope.names (Str.ofString "name") = true) →
    (isGlob fd.scope.names (Str.ofString "_name_disallowed_re") = true) →
    (isGlob fd.scope.names (Str.ofString "_value_disallowed_re") = true) →
    (ap.endLine = p14.line) → ShConv K
inductive ShGetAll (K : Frag) : Prop where
  | mk : ∀ fd p1 e p2 el p3 iter fs scope p4 p5, (FnIs0 K 195 ["self", "name"] fd [.Assign [.Name (Str.ofString "name") p1] e p2, .Return (some (.ListComp el [⟨.Name (Str.ofString "kv") p3, iter, fs, 0⟩] scope p4)) p5]) →
    (plainPar ["self", "name"] fd = true) →
    (isOwn fd.scope.names (Str.ofString "name") = true) →
    (IsConv fd.scope.names true (IsE (.m0 .lower (.var "name")) fd.scope.names) e) →
    (notComp e = true) →
    (compOkB fd.scope.names scope "kv" = true) →
    (IsHeaders fd.scope.names iter) →
    (notSet iter = true) →
    (matchE gaElt (innerKd fd.scope.names scope.names) el = true) →
    (matchEs [gaIf] (innerKd fd.scope.names scope.names) fs = true) → ShGetAll K
inductive ShItems (K : Frag) : Prop where
  | mk : ∀ fd e p1 p2 p3, (FnIs0 K 220 ["self"] fd [.Return (some (.Subscript e (.Slice none none none p1) p2)) p3]) →
    (plainPar ["self"] fd = true) →
    (IsHeaders fd.scope.names e) → ShItems K
inductive ShGet (K : Frag) : Prop where
  | mk : ∀ fd p1 e p2 p3 p4 kt tp iter t r1 p5 p6 p7 r2 p8, (FnIs0 K 203 ["self", "name", "default"] fd [.Assign [.Name (Str.ofString "name") p1] e p2, .For (.Tuple [.Name (Str.ofString "k") p3, .Name (Str.ofString "v") p4] kt tp) iter [.If t [.Return (some r1) p5] [] p6] [] p7, .Return (some r2) p8]) →
    (fd.params.posonlyargs = []) →
    (fd.params.args.map (·.arg) = ["self", "name", "default"].map Str.ofString) →
    (fd.params.kwonlyargs = []) →
    (fd.params.vararg = none) →
    (fd.params.kwarg = none) →
    (fd.defaults = .ref 196) →
    (isOwn fd.scope.names (Str.ofString "name") = true) →
    (IsConv fd.scope.names true (IsE (.m0 .lower (.var "name")) fd.scope.names) e) →
    (notComp e = true) →
    (isOwn fd.scope.names (Str.ofString "k") = true) →
    (isOwn fd.scope.names (Str.ofString "v") = true) →
    (IsHeaders fd.scope.names iter) →
    (notSet iter = true) →
    (matchE getIf fd.scope.names t = true) →
    (matchE (.var "v") fd.scope.names r1 = true) →
    (matchE (.var "default") fd.scope.names r2 = true) → ShGet K
inductive ShAdd (K : Frag) : Prop where
  | mk : ∀ fd s1 t1 p1 e1 p2 s2 p3 e6 e7 e8 p4 ap2 p5 bb p6 e3 ap3 e4 e5 k5 p7 p8 p9 ka, (FnIs0 K 253 ["self", "_name", "_value", "_params"] fd
    [s1, .If t1 [.Assign [.Name (Str.ofString "_value") p1] e1 p2, s2] [] p3, .For (.Tuple e6 e7 e8) (.Call (.Attribute (.Name (Str.ofString "_params") p4) (Str.ofString "items") ap2) [] [] p5) bb [] p6,
     .Expr (.Call (.Attribute e3 (Str.ofString "append") ap3) [.Tuple [e4, e5] k5 p7] [] p8) p9]) →
    (fd.params.posonlyargs = []) →
    (fd.params.args.map (·.arg) = ["self", "_name", "_value"].map Str.ofString) →
    (fd.params.kwonlyargs = []) →
    (fd.params.vararg = none) →
    (fd.params.kwarg = some ka) →
    (ka.arg = Str.ofString "_params") →
    (fd.defaults = .none) →
    (matchS (.asgL "parts" []) fd.scope.names s1 = true) →
    (matchE (.isn false (.var "_value")) fd.scope.names t1 = true) →
    (isOwn fd.scope.names (Str.ofString "_value") = true) →
    (IsConv fd.scope.names false (IsE (.var "_value") fd.scope.names) e1) →
    (notComp e1 = true) →
    (matchS (.app "parts" (.var "_value")) fd.scope.names s2 = true) →
    (isOwn fd.scope.names (Str.ofString "_params") = true) →
    (ap2.endLine = p5.line) →
    (IsHeaders fd.scope.names e3) →
    (ap3.endLine = p8.line) →
    (IsConv fd.scope.names true (IsE (.var "_name") fd.scope.names) e4) →
    (matchE (.join [59, 32] (.var "parts")) fd.scope.names e5 = true) → ShAdd K
inductive ShInit (K : Frag) : Prop where
  | mk : ∀ fd p1 p2 c1 p3 p4 p5 ee p6 p7 p8 p9 p10 p11 p12 bx p13 p14 p15 p16 p17 c2 p18 a1 a2 a3 p19 bb p20 p21, (FnIs0 K 150 ["self", "headers"] fd
    [.Assign [.Name (Str.ofString "headers") p1] (.IfExp (.Compare (.Name (Str.ofString "headers") p2) [.IsNot] [.Constant .none c1 p3] p4) (.Name (Str.ofString "headers") p5) ee p6) p7,
     .If (.Compare (.Call (.Name (Str.ofString "type") p8) [.Name (Str.ofString "headers") p9] [] p10) [.IsNot] [.Name (Str.ofString "list") p11] p12) bx [] p13,
     .Assign [.Attribute (.Name (Str.ofString "self") p14) (Str.ofString "_headers") p15] (.Name (Str.ofString "headers") p16) p17,
     .If (.Constant (.bool true) c2 p18) [.For (.Tuple a1 a2 a3) (.Name (Str.ofString "headers") p19) bb [] p20] [] p21]) →
    (fd.params.posonlyargs = []) →
    (fd.params.args.map (·.arg) = ["self", "headers"].map Str.ofString) →
    (fd.params.kwonlyargs = []) →
    (fd.params.vararg = none) →
    (fd.params.kwarg = none) →
    (fd.defaults = .ref 143) →
    (isOwn fd.scope.names (Str.ofString "headers") = true) →
    (isGlob fd.scope.names (Str.ofString "type") = true) →
    (isGlob fd.scope.names (Str.ofString "list") = true) →
    (isOwn fd.scope.names (Str.ofString "self") = true) → ShInit K
inductive ShPv (K : Frag) : Prop where
  | mk : ∀ fd p1 e1 p2 s2 t s3 p3 e2 p4 s4 p5 s5, (FnIs0 K 70 ["iterator"] fd [.Assign [.Name (Str.ofString "b") p1] e1 p2, s2, .While t [s3, .Assign [.Name (Str.ofString "b") p3] e2 p4, s4] [] p5, s5]) →
    (plainPar ["iterator"] fd = true) →
    (isOwn fd.scope.names (Str.ofString "b") = true) →
    (IsNext fd.scope.names e1) →
    (notComp e1 = true) →
    (matchS (.asg "val" (.bin .band (.var "b") (.int 63))) fd.scope.names s2 = true) →
    (matchE (.bin .band (.var "b") (.int 64)) fd.scope.names t = true) →
    (matchS (.aug .shl "val" (.int 6)) fd.scope.names s3 = true) →
    (IsNext fd.scope.names e2) →
    (notComp e2 = true) →
    (matchS (.aug .bor "val" (.bin .band (.var "b") (.int 63))) fd.scope.names s4 = true) →
    (matchS (.ret (.var "val")) fd.scope.names s5 = true) → ShPv K
inductive ShNum (K : Frag) : Prop where
  | mk : ∀ fd p1 p2 e1 p3 p4 s2 t p5 ap p6 p7 p8 p9 p10 p11 p12 p13 p14 p15 p16 slast, (FnIs0 K 322 ["texts"] fd
    [.Assign [.Name (Str.ofString "octets") p1] (.Call (.Name (Str.ofString "iter") p2) [e1] [] p3) p4, s2,
     .While t [.Try [.Expr (.Call (.Attribute (.Name (Str.ofString "numbers") p5) (Str.ofString "append") ap) [.Call (.Name (Str.ofString "_parse_varint") p6) [.Name (Str.ofString "octets") p7] [] p8] [] p9) p10] [.ExceptHandler (some (.Name (Str.ofString "StopIteration") p11)) none [.Return (some (.Name (Str.ofString "numbers") p12)) p13] p14] [] [] p15] [] p16, slast]) →
    (plainPar ["texts"] fd = true) →
    (isOwn fd.scope.names (Str.ofString "octets") = true) →
    (isGlob fd.scope.names (Str.ofString "iter") = true) →
    (matchE numE fd.scope.names e1 = true) →
    (matchS (.asgL "numbers" []) fd.scope.names s2 = true) →
    (matchE numT fd.scope.names t = true) →
    (isOwn fd.scope.names (Str.ofString "numbers") = true) →
    (ap.endLine = p9.line) →
    (isGlob fd.scope.names (Str.ofString "_parse_varint") = true) →
    (isGlob fd.scope.names (Str.ofString "StopIteration") = true) → ShNum K
noncomputable def globTab : List (String × Option Value) := [("_twin_re_1", some (.ref 43)), ("_twin_re_2", some (.ref 48)), ("COMPILER_FLAG_NAMES", some (.ref 56)), ("quotedata", some (.ref 55)), ("pretty_flags", some (.ref 63)), ("_parse_varint", some (.ref 70)),
  ("add", some (.ref 77)), ("floordiv", some (.ref 84)), ("lshift", some (.ref 91)), ("mod", some (.ref 98)), ("mul", some (.ref 105)), ("sub", some (.ref 112)), ("_name_disallowed_re", some (.ref 122)), ("_value_disallowed_re", some (.ref 127)), ("Headers", some (.ref hdrCls)),
  ("_law_pieces", some (.ref 265)), ("_law_sent", some (.ref 272)), ("_law_cut", some (.ref 279)), ("_law_mail", some (.ref 284)), ("_law_share", some (.ref 291)), ("_law_codes", some (.ref 296)), ("_law_numeral", some (.ref 303)), ("_law_sixteens", some (.ref 310)),
  ("_law_name", some (.ref 317)), ("_law_numbers", some (.ref 322)), ("_law_potentials", some (.ref 327)),
  ("type", none), ("str", none), ("list", none), ("next", none), ("iter", none), ("StopIteration", none), ("range", none), ("len", none), ("sum", none), ("ord", none), ("chr", none), ("hex", none)]
noncomputable def Dfn (K : Frag) (a : Addr) (xs : List String) (ps : List PS) : Prop := ∃ fd body, FnOk K a xs ps fd body

theorem gAt {α : Type} {l : List α} {e : α} (i : Nat) (h : l[i]? = some e) : e ∈ l := List.mem_of_getElem? h
/-- what the proof reads of the top's heap -/
class TopK (K : Frag) : Prop where
  add : Dfn K 77 ["a", "b"] p_add
  floordiv : Dfn K 84 ["a", "b"] p_floordiv
  lshift : Dfn K 91 ["a", "b"] p_lshift
  mod : Dfn K 98 ["a", "b"] p_mod
  mul : Dfn K 105 ["a", "b"] p_mul
  sub : Dfn K 112 ["a", "b"] p_sub
  pretty : Dfn K 63 ["flags"] p_pretty_flags
  pieces : Dfn K 265 ["script"] p_law_pieces
  sent : Dfn K 272 ["piece"] p_law_sent
  cut : Dfn K 279 ["piece", "other"] p_law_cut
  mail : Dfn K 284 ["chosen", "alone", "cuts"] p_law_mail
  share : Dfn K 291 ["one", "chosen", "own", "cuts"] p_law_share
  codes : Dfn K 296 ["text"] p_law_codes
  numeral : Dfn K 303 ["number"] p_law_numeral
  sixteens : Dfn K 310 ["number"] p_law_sixteens
  lname : Dfn K 317 ["chosen", "shift"] p_law_name
  pots : Dfn K 327 ["table", "words", "choices"] p_law_potentials
  quot : ShQuot K
  conv : ShConv K
  getAll : ShGetAll K
  items : ShItems K
  get : ShGet K
  addh : ShAdd K
  init : ShInit K
  pv : ShPv K
  num : ShNum K
  pat1 : ∀ h, K.In h → PatAt h 43 code1
  pat2 : ∀ h, K.In h → PatAt h 48 code2
  patN : ∀ h, K.In h → PatAt h 122 codeN
  patV : ∀ h, K.In h → PatAt h 127 codeV
  glob : ∀ e ∈ globTab, nsIn K mainGlobals (Str.ofString e.1) = some e.2
  crlf : ∃ t, nsIn K mainGlobals (Str.ofString "CRLF") = some (some (.str ⟨#[13, 10]⟩ t))
  ga : findIn K (.ref hdrCls) "__getattribute__" = some (some (.builtin "object.__getattribute__"))
  gk : findIn K (.ref hdrCls) "__getattr__" = some none
  fi : ∀ e ∈ [("_convert_string_type", 157), ("add_header", 253), ("get", 203), ("get_all", 195), ("items", 220)], findIn K (.ref hdrCls) (Str.ofString e.1) = some (some (.ref e.2))
  fi_init : findIn K (.ref hdrCls) "__init__" = some (some (.ref 150))
  fi_setattr : findIn K (.ref hdrCls) "__setattr__" = some (some (.builtin "object.__setattr__"))
  fi_own : findIn K (.ref hdrCls) (Str.ofString "_headers") = some none
  ty : ∀ f ∈ [157, 253, 203, 195, 220, 150], typeIn K (.ref f) = some (.type "function")
  keep157 : keepIn K (.ref 157) = true
  keep256 : keepIn K (.ref hdrCls) = true
  makes256 : makesIn K hdrCls = true
  over256 : plainOver K hdrCls = true
  taker256 : takerIn K hdrCls (Str.ofString "_headers") = some none
  hasd256 : (clsIn K hdrCls).any (·.hasDict) = true
  tup196 : ∃ n, K.lookup 196 = some { cls := .type "tuple", data := .seq #[.none] n }
  tup143 : ∃ n, K.lookup 143 = some { cls := .type "tuple", data := .seq #[.none] n }
  cls256 : ∃ o, K.lookup hdrCls = some o
  tab56 : ∃ o es n, K.lookup 56 = some o ∧ o.ExactDict ∧ o.data = .dict es n ∧ chkEs es.toList flagTab = true
end
section
open PySem PySem.Spec PySem.Calls PySem.W PyProof.Rows

noncomputable def chk (K : Frag) (a : Addr) (xs : List String) (ps : List PS) : Bool := match K.lookup a with
  | some o => (match o.data with
    | .func fd => (match fd.body with
      | .stmts body => matchL ps fd.scope.names body && fd.params.posonlyargs.isEmpty && decide (fd.params.args.map (·.arg) = xs.map Str.ofString) && fd.params.kwonlyargs.isEmpty && fd.params.vararg.isNone && fd.params.kwarg.isNone &&
        (match fd.defaults with | .none => true | _ => false) && fd.closure.isEmpty && decide (fd.globals = mainGlobals) && decide (fd.builtins = builtinsNs) && codeIn K fd.code fd.qualname && (fd.scope.isCoroutine == false) && (fd.scope.isGenerator == false) &&
        (fd.scope.kind == .function) && xs.all (fun x => isOwn fd.scope.names (Str.ofString x)) && fd.scope.names.all (fun y => y.2 != .free) && decide xs.Nodup
      | _ => false)
    | _ => false)
  | none => false
theorem FnOk.of_chk {K : Frag} {a : Addr} {xs : List String} {ps : List PS} (h : chk K a xs ps = true) : ∃ fd body, FnOk K a xs ps fd body := by
  unfold chk at h
  split at h
  · rename_i o ho
    split at h
    · rename_i fd hd
      split at h
      · rename_i body hb
        simp only [Bool.and_eq_true, List.isEmpty_iff, decide_eq_true_eq, Option.isNone_iff_eq_none, beq_iff_eq, List.all_eq_true, bne_iff_ne] at h
        obtain ⟨⟨⟨⟨⟨⟨⟨⟨⟨⟨⟨⟨⟨⟨⟨⟨h1, h2⟩, h3⟩, h4⟩, h5⟩, h6⟩, h7⟩, h8⟩, h9⟩, h10⟩, h11⟩, h12⟩, h13⟩, h14⟩, h15⟩, h16⟩, h17⟩ := h
        refine ⟨fd, body, ⟨⟨⟨o, ho, hd⟩, hb, h8, h9, h10, h11, h12, h13, h14, h15, h16, h17⟩, h2, h3, h4, h5, h6, ?_⟩, h1⟩
        split at h7
        · assumption
        · cases h7
      · cases h
    · cases h
  · cases h

noncomputable def p0 : Params := { strHash := fun _ => 0, shareClass := fun _ => 0, mergeTok := fun t => t, idOf := fun _ => 0, idOfShared := fun _ _ => 0, followText := fun _ => true, idOfImm := fun _ => 0 }
theorem chk_congr {K K' : Frag} {a : Addr} {xs : List String} {ps : List PS} (h : K.lookup a = K'.lookup a) (hc : ∀ o fd c, K'.lookup a = some o → o.data = .func fd → fd.code = .ref c → K.lookup c = K'.lookup c) : chk K a xs ps = chk K' a xs ps := by
  unfold chk
  rw [h]
  cases ho : K'.lookup a with
  | none => rfl
  | some o =>
    dsimp only
    cases hd : o.data with
    | func fd =>
      dsimp only
      have : codeIn K fd.code fd.qualname = codeIn K' fd.code fd.qualname := by
        unfold codeIn
        cases hcc : fd.code with
        | ref c => dsimp only; rw [hc o fd c ho hd hcc]
        | _ => rfl
      rw [this]
    | _ => rfl
end
section
open PySem PySem.Spec PySem.Calls PySem.W PyProof.Rows
open PySem.Builtin.Re

theorem plainAttrs_pat : PlainAttrs "re.Pattern" :=
  ⟨⟨"object.__getattribute__", by rw [typeLookup_type, builtinLookup_eq_fast]; kernel_rfl, by decide +kernel⟩, by rw [typeLookup_type, builtinLookup_eq_fast]; kernel_rfl⟩

theorem PatAt.dict {h : Heap} {a : Addr} {code : Array Nat} (P : PatAt h a code) : ∃ o, h.get? a = some o ∧ o.dict = none := by
  obtain ⟨pv, fl, c, its, n, h1, h2, h3⟩ := P
  exact ⟨_, h1, rfl⟩

theorem sent_len : ∀ (x : List Nat) (b : Nat), (sentGo b x).length ≤ 2 * x.length
  | [], b => by simp [sentGo]
  | c :: r, b => by
    have := sent_len r c
    simp only [sentGo, List.length_append, List.length_cons]
    have : (if c = 46 ∧ (b = 13 ∨ b = 10) then [46, 46] else if c = 13 ∨ (c = 10 ∧ b ≠ 13) then [13, 10] else if c ≠ 10 then [c] else []).length ≤ 2 := by
      repeat' split
      all_goals simp
    omega

section
variable {prog : Program} {w : World} {mg mb : Str → Option Value} {d : Nat} {K : Frag} [TK : TopK K]
theorem call_quotedata {x : List Nat} (hx : x.length ≤ 30000) : CallOk prog w K mg mb (d + 1) 55 [.str x] (.str (sent x)) := by
  intro A s vals Q E RM G hvals hQ
  obtain ⟨fd, q1, ap1, q2, q3, q4, ap2, q5, q6, p2, p1, q7, F, hp, g1, g2, g3, g4, g5, g6⟩ := TK.quot
  refine call_enter (F.plain hp) rfl RM G hvals fun env O h₁ t₁ EO RM' R => ?_
  refine wpAny_execs_cons (wpAny_Return_some ?_)
  have P1 : ∀ {s' : Shared}, Keeps { s with heap := h₁, toks := t₁ } s' → PatAt s'.heap 43 code1 := fun k => TK.pat1 _ ((R.keeps k).rep.gr.k)
  have P2 : ∀ {s' : Shared}, Keeps { s with heap := h₁, toks := t₁ } s' → PatAt s'.heap 48 code2 := fun k => TK.pat2 _ ((R.keeps k).rep.gr.k)
  refine wpAny_Call_method_lateS rfl rfl (by simpa using g2) (glob_sound EO.toEnvOk R.rep.gr g1 (by decide) (TK.glob _ (List.mem_cons_self : ("_twin_re_1", some (Value.ref 43)) ∈ globTab)) ⟨"re.Pattern", "re.Pattern.sub", plainAttrs_pat, slot_pat_sub, type_pat_sub, (P1 (keeps_refl _)).typeIs, (fun a' e' => by cases e'; exact (P1 (keeps_refl _)).dict), ?_⟩)
  refine PyProof.Rows.callWith_method1 (spliced_more (wpAny_Constant_str (spliced_more (wpAny_Call_method_lateS rfl rfl (by simpa using g4) (glob_sound EO.toEnvOk (R.keeps (keeps_toks _ _)).rep.gr g3 (by decide) (TK.glob ("_twin_re_2", some (.ref 48)) (gAt 1 rfl))
    ⟨"re.Pattern", "re.Pattern.sub", plainAttrs_pat, slot_pat_sub, type_pat_sub, (P2 (keeps_toks _ _)).typeIs, (fun a' e' => by cases e'; exact (P2 (keeps_toks _ _)).dict), ?_⟩)) rfl)) rfl) rfl rfl
  obtain ⟨tc, hcr⟩ := TK.crlf
  refine PyProof.Rows.callWith_method1 (spliced_more (glob_sound EO.toEnvOk (R.keeps (keeps_toks _ _)).rep.gr g5 (by decide) hcr (spliced_more (var_sound EO.toEnvOk (R.keeps (keeps_toks _ _)).rep (isOwn_isVar g6) (by decide) (v := .str x) rfl fun s₂ va k₂ ha => spliced_none ?_) rfl)) rfl) rfl rfl
  obtain ⟨tx, rfl⟩ := ha.str'
  have kA := keeps_trans (keeps_toks { s with heap := h₁, toks := t₁ } (t₁ + 1)) k₂
  refine sub_call (t := x) (repl := [13, 10]) (P2 kA) (finds2 x) (by omega) (by decide) (by simp) fun s₃ t₃ k₃ => spliced_none ?_
  have kB := keeps_trans kA k₃
  have hl : (subOut x [13, 10] (nxt2 x.toArray) (x.length + 1) 0).length ≤ 2 * x.length := by
    have e := sub_norm x _ 0 rfl (Nat.zero_le _)
    rw [List.drop_zero] at e
    rw [e]
    have : ∀ (y : List Nat) (b : Nat), (normGo b y).length ≤ 2 * y.length := by
      intro y
      induction y with
      | nil => intro b; simp [normGo]
      | cons c r ih =>
        intro b
        have := ih c
        simp only [normGo, List.length_append, List.length_cons]
        have : (if c = 13 then [13, 10] else if c = 10 then (if b = 13 then [] else [13, 10]) else [c]).length ≤ 2 := by
          repeat' split
          all_goals simp
        omega
    exact this x 0
  refine sub_call (t := subOut x [13, 10] (nxt2 x.toArray) (x.length + 1) 0) (repl := [46, 46]) (P1 kB) (finds1 _ (by omega)) (by omega) (by decide) (by simp) fun s₄ t₄ k₄ => ?_
  rw [quoted x hx]
  have R4 := R.keeps (keeps_trans kB k₄)
  obtain ⟨h', t', e, _⟩ := keeps_trans kB k₄
  subst e
  exact hQ _ _ ⟨h', t', rfl, R4.k0⟩ (vr_str _ _ _)
end
end
section
open PySem PySem.Spec PySem.Calls PySem.W PyProof.Rows

theorem inst_of {h : Heap} {a d : Addr} {x : Value} (H : HdrAt h a d x) : ∃ hh kt n, InstAt h a { cls := .ref hdrCls, dict := some d, data := .plain } hdrCls (some (dictOf [⟨hh, .str (Str.ofString "_headers") kt, x⟩] n)) := by
  obtain ⟨h1, hh, kt, n, h2⟩ := H
  exact ⟨hh, kt, n, h1, rfl, rfl, h2⟩

section
variable {prog : Program} {w : World} {mg mb : Str → Option Value} {K : Frag} [TK : TopK K]
theorem fi_conv : findIn K (.ref hdrCls) (Str.ofString "_convert_string_type") = some (some (.ref 157)) := TK.fi ("_convert_string_type", 157) (by simp)
theorem fi_add : findIn K (.ref hdrCls) (Str.ofString "add_header") = some (some (.ref 253)) := TK.fi ("add_header", 253) (by simp)
theorem fi_get : findIn K (.ref hdrCls) (Str.ofString "get") = some (some (.ref 203)) := TK.fi ("get", 203) (by simp)
theorem fi_get_all : findIn K (.ref hdrCls) (Str.ofString "get_all") = some (some (.ref 195)) := TK.fi ("get_all", 195) (by simp)
theorem fi_items : findIn K (.ref hdrCls) (Str.ofString "items") = some (some (.ref 220)) := TK.fi ("items", 220) (by simp)
theorem meth_at {m : String} {f : Addr} (hf : findIn K (.ref hdrCls) (Str.ofString m) = some (some (.ref f))) (ht : typeIn K (.ref f) = some (.type "function"))
    (hs : ∀ hh kt x, PySem.W.getL (Str.ofString m) [⟨hh, .str (Str.ofString "_headers") kt, x⟩] = some none) : MethAt' prog w K mg mb m f := by
  intro A s a d x pl Q E G H q
  obtain ⟨hh, kt, n, I⟩ := inst_of H
  refine method_fn G.k I TK.ga TK.gk hf ht ?_ q
  show (lookIn (Str.ofString m) (dictOf [⟨hh, .str (Str.ofString "_headers") kt, x⟩] n)).map _ = _
  rw [lookIn_dict, hs]; rfl
theorem meth_conv : MethAt' prog w K mg mb "_convert_string_type" 157 := meth_at fi_conv (TK.ty _ (by decide)) fun _ _ _ => rfl
theorem meth_add : MethAt' prog w K mg mb "add_header" 253 := meth_at fi_add (TK.ty _ (by decide)) fun _ _ _ => rfl
theorem meth_get : MethAt' prog w K mg mb "get" 203 := meth_at fi_get (TK.ty _ (by decide)) fun _ _ _ => rfl
theorem meth_get_all : MethAt' prog w K mg mb "get_all" 195 := meth_at fi_get_all (TK.ty _ (by decide)) fun _ _ _ => rfl
theorem meth_items : MethAt' prog w K mg mb "items" 220 := meth_at fi_items (TK.ty _ (by decide)) fun _ _ _ => rfl

/-- self._headers -/
theorem get_headers {A : Around} {E : Value → Shared → Prop} {s : Shared} {a d : Addr} {x : Value} {expr : Bool} {Q : Value → Shared → Prop} (G : Gr K mg mb s.heap) (H : HdrAt s.heap a d x) (hx : handedIn x = true) (q : Q x { s with toks := s.toks + 1 }) :
    wpAny (model prog w) A (getAttr (.ref a) (Str.ofString "_headers") expr) Q E s := by
  obtain ⟨hh, kt, n, I⟩ := inst_of H
  refine get_value G.k I TK.ga ?_ hx q
  exact findObj_own TK.hasd256 (attr := none) TK.fi_own rfl rfl
end
end
section
open PySem PySem.Spec PySem.Calls PySem.W PyProof.Rows
theorem setN (c : Nat) (h1 : 32 ≤ c) (h2 : c ≠ 127) (seen : Sre.Seen) : ∃ seen', Sre.inSet codeN c codeN.size 5 true seen = .ok (false, seen') := by
  refine ⟨((seen.add 22).add 16).add 0, ?_⟩
  show (if (0 ≤ c && c ≤ 31) = true then _ else if (c == 127) = true then _ else _) = _
  have e1 : (decide (0 ≤ c) && decide (c ≤ 31)) = false := by simp; omega
  have e2 : (c == 127) = false := by simpa using h2
  rw [e1, e2]
  rfl
noncomputable def wordV (k : Nat) : Nat := codeV.getD (5 + k) 0
theorem wordV_bits : ∀ c < 256, 32 ≤ c → c ≠ 127 → (wordV (1 + c / 32)).testBit (c % 32) = false := by decide +kernel
theorem setV (c : Nat) (h1 : 32 ≤ c) (h2 : c ≠ 127) (seen : Sre.Seen) : ∃ seen', Sre.inSet codeV c codeV.size 5 true seen = .ok (false, seen') := by
  refine ⟨((seen.add 9)).add 0, ?_⟩
  show (if (decide (c < 256) && (wordV (1 + c / 32)).testBit (c % 32)) = true then _ else _) = _
  have e1 : (decide (c < 256) && (wordV (1 + c / 32)).testBit (c % 32)) = false := by
    by_cases h : c < 256
    · rw [wordV_bits c h h1 h2]; simp
    · simp [h]
  rw [e1]
  rfl
theorem admitted_none {code : Array Nat} (hset : ∀ c seen, 32 ≤ c → c ≠ 127 → ∃ seen', Sre.inSet code c code.size 5 true seen = .ok (false, seen')) (m : Sre.M) (x : List Nat) (hx : strOk x = true) (hm : m.code = code ∧ m.text = x.toArray ∧ m.lim = x.length) :
    ∀ (fuel s : Nat) (seen : Sre.Seen), ∃ seen', Sre.M.admitted m fuel s seen = .ok (none, seen')
  | 0, s, seen => ⟨seen, rfl⟩
  | fuel + 1, s, seen => by
    unfold Sre.M.admitted
    rw [hm.1, hm.2.1, hm.2.2]
    by_cases h : s ≥ x.length
    · rw [if_pos h]; exact ⟨_, rfl⟩
    · rw [if_neg h]
      have hs : s < x.length := by omega
      unfold strOk at hx
      simp only [Bool.and_eq_true, List.all_eq_true, decide_eq_true_eq, bne_iff_ne] at hx
      have hc := hx.1 x[s] (List.getElem_mem hs)
      rw [getD_list x s hs]
      obtain ⟨seen', e⟩ := hset x[s] seen hc.1 hc.2
      rw [e]
      have := admitted_none hset m x (by unfold strOk; simp only [Bool.and_eq_true, List.all_eq_true, decide_eq_true_eq, bne_iff_ne]; exact hx) hm fuel (s + 1) seen'
      rw [hm.1, hm.2.1] at *
      exact this

theorem search_none {code : Array Nat} {b : Nat} (hset : ∀ c seen, 32 ≤ c → c ≠ 127 → ∃ seen', Sre.inSet code c code.size 5 true seen = .ok (false, seen')) (hh : Sre.header code = (1, b)) (hf : ∀ m : Sre.M, m.code = code → m.hasFirstSet = true) (x : List Nat) (hx : strOk x = true) :
    ∃ m', (∃ n, n ≤ 1000000 ∧ Sre.M.runFor n (Sre.forSearch code (⟨x.toArray⟩ : Str).cps 0 0 (⟨x.toArray⟩ : Str).cps.size false) = m' ∧ m'.outcome = some .failed) := by
  by_cases h : x.length < 1
  · refine ⟨_, 1, by decide, rfl, ?_⟩
    unfold Sre.forSearch
    dsimp only
    rw [if_pos (by rw [hh]; simp; simpa using h)]
    rfl
  · have hf' : ∃ m0 : Sre.M, Sre.forSearch code (⟨x.toArray⟩ : Str).cps 0 0 (⟨x.toArray⟩ : Str).cps.size false = m0.attemptFrom 0 true ∧ m0.code = code ∧ m0.text = x.toArray ∧ m0.lim = x.length ∧ m0.outcome = none ∧ m0.frames = [] := by
      unfold Sre.forSearch
      dsimp only
      rw [if_neg (by rw [hh]; simp; intro e; apply h; rw [e]; decide)]
      exact ⟨_, rfl, rfl, rfl, show x.toArray.size = x.length by simp, rfl, rfl⟩
    obtain ⟨m0, e1, e2, e3, e4, e5, e6⟩ := hf'
    obtain ⟨seen', ea⟩ := admitted_none hset m0 x hx ⟨e2, e3, e4⟩ (m0.lim + 1 - 0) 0 m0.seen
    refine ⟨_, 1, by decide, rfl, ?_⟩
    rw [e1]
    unfold Sre.M.attemptFrom
    rw [hf m0 e2, ea]
    simp only [Bool.not_true, Bool.false_eq_true, if_false]
    rw [runFor_one (by simp [Sre.M.say, e5])]
    show (Sre.M.step _).outcome = _
    unfold Sre.M.step Sre.M.say
    simp [e5, e6]
theorem searchN (x : List Nat) (hx : strOk x = true) : ∃ m', (∃ n, n ≤ 1000000 ∧ Sre.M.runFor n (Sre.forSearch codeN (⟨x.toArray⟩ : Str).cps 0 0 (⟨x.toArray⟩ : Str).cps.size false) = m' ∧ m'.outcome = some .failed) := search_none (code := codeN) (b := 11) (fun c seen h1 h2 => setN c h1 h2 seen) rfl (fun m hm => by unfold Sre.M.hasFirstSet; rw [hm]; rfl) x hx
theorem searchV (x : List Nat) (hx : strOk x = true) : ∃ m', (∃ n, n ≤ 1000000 ∧ Sre.M.runFor n (Sre.forSearch codeV (⟨x.toArray⟩ : Str).cps 0 0 (⟨x.toArray⟩ : Str).cps.size false) = m' ∧ m'.outcome = some .failed) := search_none (code := codeV) (b := 15) (fun c seen h1 h2 => setV c h1 h2 seen) rfl (fun m hm => by unfold Sre.M.hasFirstSet; rw [hm]; rfl) x hx
end
section
open PySem PySem.Spec PySem.Calls PySem.W PyProof.Rows

theorem boot_type : bootBuiltins (Str.ofString "type") = some (.type "type") := rfl
theorem boot_str : bootBuiltins (Str.ofString "str") = some (.type "str") := rfl
theorem bind_conv {fd : FuncData} {x y z : Value} (h1 : fd.params.posonlyargs = []) (h2 : fd.params.args.map (·.arg) = ["self", "value"].map Str.ofString) (h3 : fd.params.kwonlyargs.map (·.arg) = ["name"].map Str.ofString) (h4 : fd.params.vararg = none) (h5 : fd.params.kwarg = none)
   (h6 : fd.defaults = .none) : bindArgs fd ⟨[x, y], [(Str.ofString "name", z)]⟩ = pure ((["self", "value", "name"].map Str.ofString).zip [x, y, z]) := by
  rcases fd with ⟨nm, qn, ⟨po, as, va, ko, kd, kw, de⟩, bd, sc, gl, cl, df, kwd, dc, pm, an, cd, ct, bi⟩
  obtain ⟨⟨a, a1, a2⟩, ⟨b, b1, b2⟩, e2, ha, hb⟩ := arg2 h2
  obtain ⟨⟨c, c1, c2⟩, e3, hc⟩ := arg1 h3
  clear h2 h3
  dsimp only at h1 e2 e3 h4 h5 h6 ha hb hc
  subst h1 e2 e3 h4 h5 h6 ha hb hc
  rfl

section
variable {prog : Program} {w : World} {mg mb : Str → Option Value} {d : Nat} {K : Frag} [TK : TopK K]
theorem free_type : nsIn K mainGlobals (Str.ofString "type") = some none := TK.glob ("type", none) (gAt 26 rfl)
theorem truthy_none {M : Model} {A : Around} {E : Value → Shared → Prop} {s : Shared} {Q : Bool → Shared → Prop} (h : Q false s) : wpAny M A (truthy .none) Q E s := wpAny_of_eq rfl h

theorem conv_call {A : Around} {E : Value → Shared → Prop} {s : Shared} {self : Addr} {x : List Nat} {t : Tok} {b : Bool} {Q : Value → Shared → Prop} (RM : Room (d + 1) A) (G : Gr K mg mb s.heap) (hx : strOk x = true)
    (hQ : ∀ s' t', Keeps s s' → Q (.str ⟨x.toArray⟩ t') s') : wpAny (model prog w) A (call (.ref 157) [.ref self, .str ⟨x.toArray⟩ t] [(Str.ofString "name", .bool b)]) Q E s := by
  obtain ⟨fd, n1, n2, n3, n4, n5, n6, n7, n8, n9, n10, n11, n12, ap, n13, n14, sx, n15, n16, n17, n18, sy, rest, F, p1, p2, p3, p4, p5, p6, g1, g2, g3, g4, g5, g6, g7, g8⟩ := TK.conv
  refine wpAny_call (call_enterG (vs := [.obj self, .str x, .bool b]) F rfl RM G (fun Q' E' hq' => ?_) fun env O h₁ t₁ EO RM' R => ?_)
  · refine wpAny_of_eq (bind_conv p1 p2 p3 p4 p5 p6) (hq' _ _ (keeps_refl _) ?_)
    exact vrs_cons (rfl : Value.ref self = .ref self) (vrs_cons (vr_str _ _ _) (vrs_cons (vr_bool _ _) vrs_nil))
  · refine wpAny_execs_cons (wpAny_If (wpAny_isTrue_Compare1 (wpAny_Call_NameR (boot_sound EO.toEnvOk R.rep.gr g1 (by decide) (by decide) free_type boot_type ?_)) rfl))
    refine callWith_type1 (var_sound EO.toEnvOk R.rep (isOwn_isVar g2) (by decide) (v := .str x) rfl fun s₁ va k₁ ha => ?_)
    obtain ⟨t1, rfl⟩ := ha.str'
    refine call_type_of (typeIs_str _ _ _) (by decide) ?_
    refine boot_sound EO.toEnvOk (R.keeps k₁).rep.gr g3 (by decide) (by decide) (TK.glob ("str", none) (gAt 27 rfl)) boot_str (wpAny_is_self rfl (wpAny_truthy_bool ?_))
    simp only [if_true]
    have R1 := R.keeps k₁
    -- the pattern
    have hpat : ∃ code, (∀ h, K.In h → PatAt h (if b = true then 122 else 127) code) ∧ (∃ m', (∃ n, n ≤ 1000000 ∧ Sre.M.runFor n (Sre.forSearch code (⟨x.toArray⟩ : Str).cps 0 0 (⟨x.toArray⟩ : Str).cps.size false) = m' ∧ m'.outcome = some .failed)) := by
      cases b
      · exact ⟨codeV, fun h k => TK.patV _ k, searchV x hx⟩
      · exact ⟨codeN, fun h k => TK.patN _ k, searchN x hx⟩
    obtain ⟨code, hP, m', hsr⟩ := hpat
    refine wpAny_execs_cons (wpAny_Assign_Name (wpAny_mono (Q := fun v s' => v = .ref (if b = true then 122 else 127) ∧ Keeps s₁ s') ?_ (fun v s₂ hv => ?_) fun _ _ e => e) (swap_no rfl _ _ _))
    · refine wpAny_IfExp (wpAny_isTrue_value (var_sound EO.toEnvOk R1.rep (isOwn_isVar g5) (by decide) (v := .bool b) rfl fun s₂ vb k₂ hb => ?_) rfl)
      simp only [VR] at hb
      subst hb
      refine wpAny_truthy_bool ?_
      cases b
      · simp only [Bool.false_eq_true, if_false]
        exact glob_sound EO.toEnvOk (R1.keeps k₂).rep.gr g7 (by decide) (TK.glob ("_value_disallowed_re", some (.ref 127)) (gAt 13 rfl)) ⟨rfl, k₂⟩
      · simp only [if_true]
        exact glob_sound EO.toEnvOk (R1.keeps k₂).rep.gr g6 (by decide) (TK.glob ("_name_disallowed_re", some (.ref 122)) (gAt 12 rfl)) ⟨rfl, k₂⟩
    · obtain ⟨rfl, k₂⟩ := hv
      refine store_sound (v := .obj (if b = true then 122 else 127)) EO (R1.keeps k₂) g4 (by simp only [VR]) fun s₃ M₃ R₃ => ?_
      refine wpAny_execs_cons (wpAny_If (wpAny_isTrue_value (wpAny_Call_method_lateS rfl rfl (by simpa using g8) (var_sound EO.toEnvOk R₃.rep (isOwn_isVar g4) (by decide) (v := .obj (if b = true then 122 else 127)) (by rw [getL_set, if_pos rfl]) fun s₄ vr k₄ hr => ?_)) rfl))
      simp only [VR] at hr
      subst hr
      have P4 := hP _ (R₃.keeps k₄).rep.gr.k
      refine ⟨"re.Pattern", "re.Pattern.search", plainAttrs_pat, slot_pat_search, type_pat_search, P4.typeIs, (fun a' e' => by cases e'; exact P4.dict), ?_⟩
      refine PyProof.Rows.callWith_method1 (spliced_more (var_sound EO.toEnvOk (R₃.keeps k₄).rep (isOwn_isVar g2) (by decide) (v := .str x) (by rw [getL_set, if_neg (by decide)]; rfl) fun s₅ vb k₅ hb => spliced_none ?_) rfl) rfl rfl
      obtain ⟨t2, rfl⟩ := hb.str'
      refine search_call (hP _ ((R₃.keeps k₄).keeps k₅).rep.gr.k) hsr ?_ (truthy_none ?_)
      · have hb2 : x.length ≤ big := by
          unfold strOk at hx
          exact Nat.le_trans (of_decide_eq_true (Bool.and_eq_true_iff.mp hx).2) (by decide)
        rw [big_eq] at hb2
        show x.toArray.size < 2 ^ 62
        rw [List.size_toArray]
        have : (1000000 : Nat) < 2 ^ 62 := by decide
        omega
      · simp only [Bool.false_eq_true, if_false]
        refine wpAny_execs_nil (wpAny_execs_cons (wpAny_Return_some (var_sound EO.toEnvOk ((R₃.keeps k₄).keeps k₅).rep (isOwn_isVar g2) (by decide) (v := .str x) (by rw [getL_set, if_neg (by decide)]; rfl) fun s₆ vc k₆ hc => ?_)))
        obtain ⟨t3, rfl⟩ := hc.str'
        have M6 := ((Mv.of_keeps (env := env) (O := O) (ρ := []) (keeps_trans k₁ k₂)).trans M₃).trans (.of_keeps (keeps_trans k₄ (keeps_trans k₅ k₆)))
        obtain ⟨h', t', e⟩ := M6.sh
        have R6 := ((R₃.keeps k₄).keeps k₅).keeps k₆
        subst e
        exact hQ _ _ ⟨h', t', rfl, R6.k0⟩
end
end
section
open PySem PySem.Spec PySem.Calls PySem.W PyProof.Rows

section
variable {prog : Program} {w : World} {mg mb : Str → Option Value} {d : Nat} {K : Frag} [TK : TopK K]
theorem call_methK {A : Around} {E : Value → Shared → Prop} {s : Shared} {env : Env} {o : Expr} {name : Str} {apos pos : Pos} {args : List Expr} {ks : List Keyword} {Q : Value → Shared → Prop}
    (hbase : baseOk o = true) (hline : (apos.endLine == pos.line) = true) (hform : methodCallForm (args.length + ks.length) (backTo pos (starEach args env)) (backToKw pos (keywordEach ks env)) = true)
    (h : wpAny (model prog w) A (eval o env) (fun ov s₁ => ∃ f first, (∀ (Q' : Value × List Value → Shared → Prop), Q' (f, first) s₁ → wpAny (model prog w) A (getMethod ov name (do return (← importBound o env).getD true)) Q' E s₁) ∧
      wpAny (model prog w) A (callWith pos f first (backTo pos (starEach args env)) (backToKw pos (keywordEach ks env))) Q E s₁) E s) :
    wpAny (model prog w) A (eval (.Call (.Attribute o name apos) args ks pos) env) Q E s := by
  rw [arm_eval_Call, base_of hbase]
  refine wpAny_bind (wpAny_mono h (fun ov s₁ h₁ => ?_) fun _ _ e => e)
  obtain ⟨f, first, hg, hc⟩ := h₁
  refine wpAny_bind (wpAny_standAt ?_)
  have hpos : methodCallPos true o env apos pos = pure pos := by unfold methodCallPos; simp [hline]
  unfold methodCall
  rw [hform]
  refine wpAny_bind (wpAny_holding (hg _ ?_))
  exact wpAny_bind (wpAny_of_eq hpos hc)
theorem conv_expr {A : Around} {E : Value → Shared → Prop} {h0 : Heap} {env : Env} {kd : Kd} {O : Ads} {ρ : List Addr} {st : St} {s : Shared} {b : Bool} {arg : Expr → Prop} {e : Expr} {a dd : Addr} {l : Value} {x : List Nat} {Q : Value → Shared → Prop}
    (RM : Room (d + 1) A) (EO : FEnv env kd) (R : SRep h0 K mg mb env O ρ st s) (h : IsConv kd b arg e)
    (hself : ∀ (e' : Expr) (Q' : Value → Shared → Prop), (∃ pp, e' = .Name (Str.ofString "self") pp) → (∀ s', Keeps s s' → Q' (.ref a) s') → wpAny (model prog w) A (eval e' env) Q' E s) (H : HdrAt s.heap a dd l)
    (harg : ∀ (e' : Expr) (s' : Shared) (Q' : Value → Shared → Prop), arg e' → Keeps s s' → (∀ s'' t, Keeps s' s'' → Q' (.str ⟨x.toArray⟩ t) s'') → wpAny (model prog w) A (eval e' env) Q' E s') (hx : strOk x = true)
    (hQ : ∀ s' t', Keeps s s' → Q (.str ⟨x.toArray⟩ t') s') : wpAny (model prog w) A (eval e env) Q E s := by
  obtain ⟨pn, pa, y, pc1, pc2, pk, pos, rfl, h0, h1, h2, h3⟩ := h
  refine call_methK rfl (by simpa using h0) (by unfold methodCallForm; rw [star_of h2]; rfl) (hself _ _ ⟨_, rfl⟩ fun s₁ k₁ => ⟨.ref 157, [.ref a], fun Q' hQ' => meth_conv _ _ _ _ _ _ _ _ (R.keeps k₁).rep.gr (H.mono (fun o e => keeps_heap k₁ _ _ e) fun o e => keeps_heap k₁ _ _ e) hQ', ?_⟩)
  refine callWith_KW (R.keeps k₁).rep.gr.k TK.keep157 rfl (spliced_more (harg _ _ _ h3 k₁ fun s₂ t k₂ => spliced_none ?_) (star_of h2)) (by rw [star_of h2]; rfl) (star_of h2)
  refine wpAny_evalAll_cons (wpAny_bind (m := eval (.Constant (.bool b) pc1 pc2) env) (wpAny_Constant_bool (wpAny_bind (wpAny_standAt (wpAny_pure (wpAny_evalAll_nil ⟨((R.keeps k₁).keeps k₂).rep.gr.k, ?_⟩))))))
  exact conv_call RM ((R.keeps k₁).keeps k₂).rep.gr hx fun s' t' k' => hQ _ _ (keeps_trans (keeps_trans k₁ k₂) k')
end
end
section
open PySem PySem.Spec PySem.Calls PySem.W PyProof.Rows

noncomputable def lower' (x : List Nat) : List Nat := x.map lowA
theorem lowA_ok (c : Nat) (h : 32 ≤ c ∧ c ≠ 127) : 32 ≤ lowA c ∧ lowA c ≠ 127 := by
  unfold lowA; split <;> omega
theorem lower_ok {x : List Nat} (h : strOk x = true) : strOk (lower' x) = true := by
  unfold strOk lower' at *
  simp only [Bool.and_eq_true, List.all_eq_true, decide_eq_true_eq, bne_iff_ne, List.length_map, List.mem_map] at h ⊢
  refine ⟨?_, h.2⟩
  rintro c ⟨c', hc', rfl⟩
  exact lowA_ok c' (h.1 c' hc')

section
variable {prog : Program} {w : World} {mg mb : Str → Option Value} {d : Nat} {K : Frag} [TK : TopK K] {P : Prims}

theorem headers_expr {A : Around} {E : Value → Shared → Prop} {env : Env} {kd : Kd} {O : Ads} {ρ : List Addr} {st : St} {s : Shared} {e : Expr} {src : V} {Q : Value → Shared → Prop}
    (EO : EnvOk env kd) (R : Rep K mg mb env O ρ st s) (h : IsHeaders kd e) (hs : st.get "self" = some (.hdr src)) (hsrc : (∃ l, src = .lst l) ∨ (∃ i, src = .trk i) ∨ ∃ b, src = .obj b)
    (hQ : ∀ s' val, Keeps s s' → VR O ρ s'.heap src val → Q val s') : wpAny (model prog w) A (eval e env) Q E s := by
  obtain ⟨pn, pa, rfl, h1⟩ := h
  rw [arm_eval_Attribute, base_of rfl]
  refine wpAny_bind (var_sound EO R (isOwn_isVar h1) (by decide) hs fun s₁ val k₁ hv => wpAny_bind (wpAny_standAt ?_))
  simp only [VR] at hv
  obtain ⟨a, dd, x, rfl, _, _, hH, hx⟩ := hv
  have hx' : ∃ b, x = .ref b := by
    rcases hsrc with ⟨l, rfl⟩ | ⟨i, rfl⟩ | ⟨b, rfl⟩
    · simp only [VR] at hx; obtain ⟨b, its, rfl, _⟩ := hx; exact ⟨b, rfl⟩
    · simp only [VR] at hx; obtain ⟨b, _, rfl⟩ := hx; exact ⟨b, rfl⟩
    · simp only [VR] at hx; exact ⟨b, hx⟩
  obtain ⟨b, rfl⟩ := hx'
  refine wpAny_bind (wpAny_holding (get_headers (R.keeps k₁).gr hH rfl ?_))
  refine wpAny_bind (m := letTemporaryGo _ _ _) (wpAny_of_eq (a := ()) rfl (wpAny_pure ?_))
  exact hQ _ _ (keeps_trans k₁ (keeps_toks _ _)) (hx.keeps (keeps_toks _ _))

/-- name = self._convert_string_type(name.lower(), name=True) -/
theorem conv_lower {A : Around} {E : Value → Shared → Prop} {h0 : Heap} {env : Env} {kd : Kd} {O : Ads} {ρ : List Addr} {st : St} {s : Shared} {b : Bool} {e : Expr} {src : V} {x : List Nat} {Q : Value → Shared → Prop}
    (PK : PrimsOk prog w K mg mb (d + 1) P) (RM : Room (d + 1) A) (EO : FEnv env kd) (R : SRep h0 K mg mb env O ρ st s) (h : IsConv kd b (IsE (.m0 .lower (.var "name")) kd) e)
    (hs : st.get "self" = some (.hdr src)) (hn : st.get "name" = some (.str x)) (hx : strOk x = true) (hx2 : ∀ c ∈ x, c < 128)
    (hQ : ∀ s' t', Keeps s s' → Q (.str ⟨(lower' x).toArray⟩ t') s') : wpAny (model prog w) A (eval e env) Q E s := by
  have hself : isOwn kd (Str.ofString "self") = true := by
    obtain ⟨_, _, _, _, _, _, _, _, _, h1, _⟩ := h
    exact h1
  obtain ⟨a, dd, y, hval, hH⟩ : ∃ a dd y, (∀ (e' : Expr) (Q' : Value → Shared → Prop), (∃ pp, e' = .Name (Str.ofString "self") pp) → (∀ s', Keeps s s' → Q' (.ref a) s') → wpAny (model prog w) A (eval e' env) Q' E s) ∧ HdrAt s.heap a dd y := by
    obtain ⟨val, hval, hld⟩ := own_name (prog := prog) (w := w) EO R hself (by decide) hs
    obtain ⟨a, dd, y, rfl, _, _, hH, _⟩ := hval
    exact ⟨a, dd, y, fun e' Q' ⟨pp, e⟩ hq => by subst e; exact hld (hq _ (keeps_refl _)), hH⟩
  refine conv_expr RM EO R h hval hH (fun e' s' Q' he hk hq => ?_) (lower_ok hx) hQ
  refine evalE_sound PK (.m0 .lower (.var "name")) RM EO.toEnvOk he (v := .str (lower' x)) ?_ (R.rep.keeps hk) fun s'' val k hv => ?_
  · have hc : (∀ c ∈ x, c < 128) ∧ x.length ≤ big := by
      refine ⟨hx2, ?_⟩
      unfold strOk at hx
      exact Nat.le_trans (of_decide_eq_true (Bool.and_eq_true_iff.mp hx).2) (by decide)
    show (st.get "name").bind (fun v => m0V .lower v) = _
    rw [hn]
    exact if_pos hc
  · obtain ⟨t, rfl⟩ := hv.str'
    exact hq _ _ k
end
end
section
open PySem PySem.Spec PySem.Calls PySem.W PyProof.Rows

noncomputable def gaSt (l : List V) (x : List Nat) : St := { locs := [("self", .hdr (.lst l)), ("name", .str (lower' x))], tr := [] }
noncomputable def P00 : Prims := { fn := fun _ _ => none, hm := fun _ _ _ => none, tab := flagTab, pit := fun _ => none }
noncomputable def asciiOk (x : List Nat) : Bool := x.all (fun c => decide (c < 128)) && strOk x
theorem asciiOk_inv {x : List Nat} {G : Prop} (h : asciiOk x = true) (k : (∀ c ∈ x, c < 128) → strOk x = true → G) : G := ann h fun h1 h2 => k (fun c hc => of_decide_eq_true (List.all_eq_true.mp h1 c hc)) h2
noncomputable def getAllV (l : List V) (x : List Nat) : Option V := if asciiOk x = true ∧ l.length ≤ big then
  (compGo (fun v => (evalAnd P00 [gaIf] (inner "kv" v (gaSt l x))).bind fun c => cond c ((evalE P00 gaElt (inner "kv" v (gaSt l x))).map some) (some none)) l).bind fun ys => if ys.all V.scalar = true then some (.lst ys) else none else none

section
variable {prog : Program} {w : World} {mg mb : Str → Option Value} {d : Nat} {K : Frag} [TK : TopK K] {P : Prims}
theorem call_get_all (PK : PrimsOk prog w K mg mb (d + 1) P00) {l : List V} {x : List Nat} {r : V} (hr : getAllV l x = some r) : CallOk prog w K mg mb (d + 2) 195 [.hdr (.lst l), .str x] r := by
  intro A s vals Q E RM G hvals hQ
  refine iif hr fun hok hr => asciiOk_inv hok.1 fun hasc hstr => bnd hr fun ys hg hr => iif hr fun hsc hr => ?_
  cases hr
  have hlen := hok.2
  obtain ⟨fd, n1, e, n2, el, n3, iter, fs, scope, n4, n5, F, hp, g1, g2, g3, g4, g5, g6, g7, g8⟩ := TK.getAll
  refine call_enter (F.plain hp) rfl RM G hvals fun env O h₁ t₁ EO RM' R => ?_
  refine wpAny_execs_cons (wpAny_Assign_Name (conv_lower PK RM' EO R g2 (x := x) rfl rfl hstr hasc fun s₁ t k₁ => ?_) (swap_no g3 _ _ _))
  refine store_sound (v := .str (lower' x)) EO (R.keeps k₁) g1 (vr_str _ _ _) fun s₂ M₂ R₂ => ?_
  refine wpAny_execs_cons (wpAny_Return_some ?_)
  refine comp_eval RM'.hd EO.toEnvOk R₂.rep (compOk_of g4) g6 (v := .lst l) (fun Q' hQ' => headers_expr EO.toEnvOk R₂.rep g5 (src := .lst l) rfl (.inl ⟨l, rfl⟩) fun s' val k hv => hQ' _ _ k hv) (vs := l) rfl hlen hg (fun u b _ hf env' O' s' EO' R' => (comp_facts (evalIfs_snd PK _ g8) (evalE_snd PK _ g7) hf RM' EO' R').1) (fun u y _ hf env' O' s' EO' R' => (comp_facts (evalIfs_snd PK _ g8) (evalE_snd PK _ g7) hf RM' EO' R').2 y rfl) ?_
  intro D s' its hD k' hpl hvs
  have M := ((Mv.of_keeps (env := env) (O := O) (ρ := []) k₁).trans M₂).trans (.of_keeps k')
  have R' := R₂.keeps k'
  obtain ⟨h', t', e⟩ := M.sh
  have hDs : ¬ Alloc s.heap D := fun h => by
    obtain ⟨o, ho⟩ := Option.isSome_iff_exists.mp h
    rw [R₂.k0 D o ho] at hD; cases hD
  subst e
  refine hQ _ _ ⟨h', t', rfl, R'.k0⟩ ?_
  exact vr_lst hDs hpl (vrs_scalar hsc hvs)
end
end
section
open PySem PySem.Spec PySem.Calls PySem.W PyProof.Rows

section
variable {prog : Program} {w : World} {mg mb : Str → Option Value} {d : Nat} {K : Frag} [TK : TopK K] {P : Prims}
theorem call_items {A : Around} {s : Shared} {a d' b : Addr} {its : Array Value} {Q : Value → Shared → Prop} {E : Value → Shared → Prop} (RM : Room (d + 1) A) (G : Gr K mg mb s.heap) (H : HdrAt s.heap a d' (.ref b)) (hp : s.heap.PlainList b its) (hsz : its.size ≤ big)
    (hQ : ∀ s' D, Keeps s s' → s.heap.get? D = none → s'.heap.PlainList D its → Q (.ref D) s') : wpAny (model prog w) A (call (.ref 220) [.ref a]) Q E s := by
  obtain ⟨fd, e, n1, n2, n3, F, hpp, hq⟩ := TK.items
  refine call_enter (vs := [.hdr (.obj b)]) (F.plain hpp) rfl RM G ?_ fun env O h₁ t₁ EO RM' R => ?_
  · exact vrs_cons (vr_hdr id id H (rfl : Value.ref b = .ref b)) vrs_nil
  · refine wpAny_execs_cons (wpAny_Return_some (Subscript_ (headers_expr EO.toEnvOk R.rep hq (src := .obj b) rfl (.inr (.inr ⟨b, rfl⟩)) fun s₁ val k₁ hv => wpAny_Slice (wpAny_evalPart_none (wpAny_evalPart_none (wpAny_evalPart_none ?_))))))
    cases (show val = .ref b from hv)
    have R1 := R.keeps k₁
    have hp1 : s₁.heap.PlainList b its := hp.at fun o e => R1.k0 _ _ e
    have hp' : Heap.IsList (s₁.heap.push { cls := .type "slice", data := .fields #[.none, .none, .none] }) b its := hp1.isList.push _
    rw [big_eq] at hsz
    refine tail_any (s := { s₁ with heap := s₁.heap.push _ }) hp'.typeIs slot_list_getitem.lookup (ops := [.ref s₁.heap.objs.size, .ref b]) (wpAny_getItem_list_slice (vl := .none) (vu := .none) (vs := .none) (lo := none) (hi := none) (st := none) hp' ?_ ?_ ?_ ?_ (by simp) ?_ (by rw [sizeLine_eq]; omega)) (by rfl)
    · exact ⟨_, Heap.get?_push_size _ rfl, rfl, rfl⟩
    · exact .none
    · exact .none
    · exact .none
    · have ks := keeps_push s₁ { cls := .type "slice", data := .fields #[.none, .none, .none] }
      have kk := keeps_trans k₁ (keeps_trans ks (keeps_push _ { cls := .type "list", data := .seq (slicePick its none none none) }))
      have Rf := (R.keeps kk).k0
      have Rs := ((R.keeps k₁).keeps ks).k0
      obtain ⟨h2, t2, e, _⟩ := k₁
      subst e
      rw [list_whole] at *
      refine hQ _ _ ⟨_, t2, rfl, Rf⟩ ?_ ⟨0, Heap.get?_push_size _ rfl⟩
      cases e : s.heap.get? (h2.push { cls := .type "slice", data := .fields #[.none, .none, .none] }).objs.size with
      | none => rfl
      | some o =>
        have := Rs _ _ e
        exact absurd (Heap.lt_size this) (Nat.lt_irrefl _)
end
end
section
open PySem PySem.Spec PySem.Calls PySem.W PyProof.Rows

noncomputable def gTup : V → Option (List V)
  | .tup x => some x
  | _ => none
theorem gTup_of {v : V} {i : List V} (h : gTup v = some i) : v = .tup i := by cases v <;> first | exact nosome h | exact congrArg V.tup (Option.some.inj h)
noncomputable def gTwo : List V → Option (V × V)
  | [a, c] => some (a, c)
  | _ => none
theorem gTwo_of {l : List V} {p : V × V} (h : gTwo l = some p) : l = [p.1, p.2] := by
  match l, h with
  | [a, c], h => cases h; rfl
noncomputable def gPair (v : V) : Option (V × V) := (gTup v).bind gTwo
theorem gPair_of {v : V} {p : V × V} (h : gPair v = some p) : v = .tup [p.1, p.2] := bnd h fun l e1 e2 => (gTup_of e1).trans (congrArg V.tup (gTwo_of e2))
/-- what get finds -/
noncomputable def getGo (x : List Nat) : List V → Option (Option (List Nat))
  | [] => some none
  | v :: r => (gPair v).bind fun p => (gStr p.1).bind fun a => (gStr p.2).bind fun b => if asciiOk a = true then (if lower' a = lower' x then some (some b) else getGo x r) else none
noncomputable def getR (dflt : V) : Option (List Nat) → V
  | some b => .str b
  | none => dflt
noncomputable def getV (l : List V) (x : List Nat) (dflt : V) : Option V := if asciiOk x = true ∧ l.length ≤ big then (getGo x l).bind fun r => some (getR dflt r) else none

section
variable {prog : Program} {w : World} {mg mb : Str → Option Value} {d : Nat} {K : Frag} [TK : TopK K]
theorem bind_get {M : Model} {A : Around} {E : Value → Shared → Prop} {s : Shared} {fd : FuncData} {x y : Value} {zs : List Value} {w : Value} {Q : List (Str × Value) → Shared → Prop} {n : Nat} (h1 : fd.params.posonlyargs = []) (h2 : fd.params.args.map (·.arg) = ["self", "name", "default"].map Str.ofString) (h3 : fd.params.kwonlyargs = []) (h4 : fd.params.vararg = none) (h5 : fd.params.kwarg = none)
   (h6 : fd.defaults = .ref 196) (hT : s.heap.get? 196 = some { cls := .type "tuple", data := .seq #[.none] n }) (hz : (zs = [] ∧ w = .none) ∨ zs = [w]) (h : Q ((["self", "name", "default"].map Str.ofString).zip [x, y, w]) s) : wpAny M A (bindArgs fd ⟨x :: y :: zs, []⟩) Q E s := by
  rcases fd with ⟨nm, qn, ⟨po, as, va, ko, kd, kw, de⟩, bd, sc, gl, cl, df, kwd, dc, pm, an, cd, ct, bi⟩
  obtain ⟨⟨a, a1, a2⟩, ⟨b, b1, b2⟩, ⟨c, c1, c2⟩, e2, ha, hb, hc⟩ := arg3 h2
  clear h2
  dsimp only at h1 e2 h3 h4 h5 h6 ha hb hc
  subst h1 e2 h3 h4 h5 h6 ha hb hc
  refine wpAny_bind (wpAny_of_eq rfl ?_)
  refine wpAny_bind (wpAny_seqItems hT rfl ?_)
  rcases hz with ⟨rfl, rfl⟩ | rfl <;> exact wpAny_of_eq rfl h
end
end
section
open PySem PySem.Spec PySem.Calls PySem.W PyProof.Rows

noncomputable def pairF (x1 x2 : String) (f : St → Option (Fl × St)) (v : V) (st : St) : Option (Fl × St) := (gPair v).bind fun p => f ((st.set x1 p.1).set x2 p.2)

section
variable {prog : Program} {w : World} {K : Frag} {mg mb : Str → Option Value} {d : Nat} {h0 : Heap}
variable {A : Around} {E : Value → Shared → Prop} {env : Env} {kd : Kd}

theorem for_pairs (RM : Room d A) (EO : FEnv env kd) {x1 x2 : String} {p1 p2 tp : Pos} {kk : Nat} {body els : List Stmt} {f g : St → Option (Fl × St)} (hown1 : isOwn kd (Str.ofString x1) = true) (hown2 : isOwn kd (Str.ofString x2) = true)
    (hb : BodyOk prog w K mg mb h0 A env f body) (he : BodyOk prog w K mg mb h0 A env g els)
    {O : Ads} {ρ : List Addr} {st st' : St} {s : Shared} {vs : List V} {b : Addr} {its : Array Value} {fl : Fl} {Q : Flow → Shared → Prop}
    (R : SRep h0 K mg mb env O ρ st s) (hp : s.heap.PlainList b its) (hbO : ¬ O b) (hvs : VRs O ρ s.heap vs its.toList) (hgo : forGo (pairF x1 x2 f) g vs st = some (fl, st'))
    (hQ : ∀ s' O' ρ', Mv env O ρ s O' ρ' s' → SRep h0 K mg mb env O' ρ' st' s' → FlQ h0 Q fl s') :
    codeAny (model prog w) A (.forLoop (.Tuple [.Name (Str.ofString x1) p1, .Name (Str.ofString x2) p2] kk tp) (.ref s.heap.objs.size) body els env) (fun r s' => match r with | .ok f => Q f s' | .error e => cameBackBy (model prog w) A env E e s')
      { s with heap := s.heap.push { cls := .type "list_iterator", data := .fields #[.ref b, .int 0 0] } } := by
  have hfresh : s.heap.get? s.heap.objs.size = none := fresh_size _
  have hbal : Alloc s.heap b := hp.elim fun n e => Option.isSome_iff_exists.mpr ⟨_, e⟩
  have hit0 : (s.heap.push { cls := .type "list_iterator", data := .fields #[.ref b, .int 0 0] }).IsListIter s.heap.objs.size b 0 := ⟨_, Heap.get?_push_size _ rfl, rfl, rfl⟩
  have k0 := keeps_push s { cls := .type "list_iterator", data := .fields #[.ref b, .int 0 0] }
  revert k0 hit0 hfresh
  generalize s.heap.push { cls := .type "list_iterator", data := .fields #[.ref b, .int 0 0] } = hi
  generalize s.heap.objs.size = I
  intro hfresh hit0 k0
  have alI : ∀ {h : Heap} {i : Nat}, h.IsListIter I b i ∧ h.IsList b its → Alloc h I := fun x => x.1.elim fun o e => Option.isSome_iff_exists.mpr ⟨o, e.1⟩
  have hl0 := (hp.at fun o e => keeps_heap k0 _ _ e).isList
  have R0 := R.wide k0 hfresh (alI ⟨hit0, hl0⟩)
  have Wk := Walks.list (prog := prog) (w := w) RM.hd I b (fun e => (e ▸ hbal : Alloc s.heap I).none hfresh) its
  have W : ForW env O ρ s I (fun i h => h.IsListIter I b i ∧ h.IsList b its) := ⟨hfresh, alI, fun M hI M' hs => ⟨hs.1.at fun o e => M'.keep _ _ hI e, hs.2.at fun o e => M'.keep _ _ (fun h => hbO (R.rep.ownR (M.own hbal h))) e⟩⟩
  have hlen : vs.length = its.size := hvs.length.symm.trans (Array.length_toList ..)
  refine codeAny_forLoop_any (ForT h0 K mg mb env O ρ s I (fun i h => h.IsListIter I b i ∧ h.IsList b its) (pairF x1 x2 f) g vs (fl, st')) ?_ (vs.length + 1)
    ⟨0, _, ρ, st, Nat.zero_le _, rfl, ⟨R0.1, R0.2, .inr rfl, fun h => (R.rep.al _ (R.rep.ownR h)).none hfresh, hit0, hl0⟩, hgo⟩
  rintro n s' ⟨i, O', ρ', st₁, hil, rfl, J, hgo'⟩
  rcases Nat.lt_or_eq_of_le hil with hlt | hi
  · refine Wk.item i _ _ _ (hlen ▸ hlt) J.sd fun y h₁ tk₁ hPy hSd₁ hk₁ => ?_
    have J1 := J.step (t := tk₁) W (fun b o hb e => hk₁ b o (fun h => hb (List.mem_singleton.mp h)) e) hSd₁
    obtain ⟨u, hu, hyr⟩ := hvs.get' i y ((Array.getElem?_toList ..).trans hPy)
    rw [drop_at hu] at hgo'
    refine bnd hgo' fun r ef1 hgo2 => bnd ef1 fun pr e0 ef2 => ?_
    have hgo3 : ((f ((st₁.set x1 pr.1).set x2 pr.2)).bind fun r => onFl r (forGo (pairF x1 x2 f) g (vs.drop (i + 1))) (fun st => some (.next, st)) fun v st => some (.ret v, st)) = some (fl, st') := ef2 ▸ hgo2
    cases gPair_of e0
    obtain ⟨T, tits, rfl, hTO, hT, ya, ys, e1, ha, yc, zs, rfl, hc, rfl⟩ := VR.mv R.rep J1.M hyr
    refine wpAny_letOwnedTupleGo_listiter hSd₁.1 ?_
    have hsz : tits.size = 2 := (Array.length_toList ..).symm.trans (congrArg List.length e1)
    refine assign_Tuple_tuple RM.hd hT.isTup hsz.symm rfl fun h₂ he₂ => ?_
    have k2 : Keeps { s' with heap := h₁, toks := tk₁ } { s' with heap := h₂, toks := tk₁ } := ⟨h₂, tk₁, rfl, fun b' o e => he₂ b' o (Nat.ne_of_lt (Heap.lt_size e)) e⟩
    have J2 := J1.mv W (Mv.of_keeps k2) (J1.R.keeps k2)
    rw [e1]
    refine wpAny_bind (wpAny_holding (wpAny_assign_Name (store_sound EO J2.R hown1 (ha.keeps k2) fun s3 M3 R3 => ?_)))
    refine wpAny_bind (wpAny_holding (wpAny_assign_Name (store_sound EO R3 hown2 (VR.mv J2.R.rep M3 (hc.keeps k2)) fun s4 M4 R4 => wpAny_pure ?_)))
    exact (J2.mv W (M3.trans M4) R4).turn W hb hlt hgo3 hQ (fun m s' h1 h2 => ⟨m, h1, h2⟩) (fun _ h => h) fun _ _ h => h
  · subst hi
    refine Wk.done _ _ _ (hlen ▸ J.sd) fun h₁ tk₁ hk₁ => ?_
    exact J.done W R.rep.al he (fun b o hb e => hk₁ b o (fun h => hb (List.mem_singleton.mp h)) e) ((congrArg (fun l => forGo _ g l st₁) List.drop_length).symm.trans hgo') hQ fun _ _ h => h
end
end
section
open PySem PySem.Spec PySem.Calls PySem.W PyProof.Rows

noncomputable def getBody : List PS := [.ite getIf [.ret (.var "v")] []]
theorem asciiOk_low {a : List Nat} (h : asciiOk a = true) : m0V .lower (.str a) = some (.str (lower' a)) :=
  asciiOk_inv h fun h1 h2 => if_pos ⟨h1, Nat.le_trans (of_decide_eq_true (Bool.and_eq_true_iff.mp h2).2) (by decide)⟩
/-- what the loop of get comes to -/
noncomputable def getEnd (st st' : St) (fl : Fl) : Option (List Nat) → Prop
  | some b => fl = .ret (.str b)
  | none => fl = .next ∧ st'.get "default" = st.get "default"
theorem getGo_run (x : List Nat) : ∀ (l : List V) (st : St) (r : Option (List Nat)), st.get "name" = some (.str (lower' x)) → getGo x l = some r →
    ∃ fl st', forGo (pairF "k" "v" fun st => execL P00 getBody st) (fun st => execL P00 [] st) l st = some (fl, st') ∧ getEnd st st' fl r
  | [], st, r, hn, h => by cases h; exact ⟨.next, st, rfl, rfl, rfl⟩
  | v :: l, st, r, hn, h => by
    refine bnd h fun p e0 h => bnd h fun a e1 h => bnd h fun b e2 h => iif h fun ha hg => ?_
    obtain ⟨pa, pb⟩ := p
    cases gPair_of e0
    cases gStr_of e1
    cases gStr_of e2
    have g1 : ((st.set "k" (.str a)).set "v" (.str b)).get "k" = some (.str a) := by rw [getL_set, if_neg (by decide), getL_set, if_pos rfl]
    have g2 : ((st.set "k" (.str a)).set "v" (.str b)).get "v" = some (.str b) := by rw [getL_set, if_pos rfl]
    have g3 : ((st.set "k" (.str a)).set "v" (.str b)).get "name" = some (.str (lower' x)) := by rw [getL_set, if_neg (by decide), getL_set, if_neg (by decide)]; exact hn
    have g4 : ((st.set "k" (.str a)).set "v" (.str b)).get "default" = st.get "default" := by rw [getL_set, if_neg (by decide), getL_set, if_neg (by decide)]
    generalize hs : (st.set "k" (.str a)).set "v" (.str b) = s1 at *
    have hT : evalT P00 getIf s1 = some (decide (lower' a = lower' x)) := by
      show ((s1.get "k").bind fun v => m0V .lower v).bind (fun v => (s1.get "name").bind fun w => cmpV s1 .eq v w) = _
      rw [g1, g3]
      show (m0V .lower (.str a)).bind _ = _
      rw [asciiOk_low ha]
      rfl
    have hf : execL P00 getBody s1 = cond (decide (lower' a = lower' x)) (some (.ret (.str b), s1)) (some (.next, s1)) := by
      have hb : execL P00 [.ret (.var "v")] s1 = some (.ret (.str b), s1) := by
        show ((((s1.get "v").bind _).bind _).bind _) = _
        rw [g2]; rfl
      show (((evalT P00 getIf s1).bind fun c => cond c (execL P00 [.ret (.var "v")] s1) (execL P00 [] s1)).bind fun r => onFl r (fun st' => execL P00 [] st') (fun st' => some (.brk, st')) fun v st' => some (.ret v, st')) = _
      rw [hT, hb]
      cases decide (lower' a = lower' x) <;> rfl
    have hgo : forGo (pairF "k" "v" fun st => execL P00 getBody st) (fun st => execL P00 [] st) (.tup [.str a, .str b] :: l) st = (execL P00 getBody s1).bind fun r => onFl r (forGo (pairF "k" "v" fun st => execL P00 getBody st) (fun st => execL P00 [] st) l) (fun st => some (.next, st)) fun v st => some (.ret v, st) := by
      rw [← hs]; rfl
    rw [hgo, hf]
    by_cases he : lower' a = lower' x
    · rw [if_pos he] at hg; cases hg
      rw [decide_eq_true he]
      exact ⟨.ret (.str b), s1, rfl, rfl⟩
    · rw [if_neg he] at hg
      rw [decide_eq_false he]
      obtain ⟨fl, st', e1, e2⟩ := getGo_run x l _ r g3 hg
      refine ⟨fl, st', e1, ?_⟩
      cases r with
      | some b => exact e2
      | none => exact ⟨e2.1, e2.2.trans g4⟩
end
section
open PySem PySem.Spec PySem.Calls PySem.W PyProof.Rows
section
variable {prog : Program} {w : World} {mg mb : Str → Option Value} {d : Nat} {K : Frag} [TK : TopK K]

theorem call_get (PK : PrimsOk prog w K mg mb (d + 1) P00) (HK : HdrOk prog w K mg mb (d + 1)) {l : List V} {x : List Nat} {dflt r : V} {rest : List V} (hr : getV l x dflt = some r) (hd' : (rest = [] ∧ dflt = .none) ∨ (rest = [dflt] ∧ dflt.scalar = true)) : CallOk prog w K mg mb (d + 2) 203 (.hdr (.lst l) :: .str x :: rest) r := by
  intro A s vals Q E RM G hvals hQ
  refine iif hr fun hok hr => asciiOk_inv hok.1 fun hasc hstr => bnd hr fun rr hg hr => ?_
  cases hr
  have hlen := hok.2
  obtain ⟨fd, n1, e, n2, n3, n4, kt, tp, iter, t, r1, n5, n6, n7, r2, n8, F, q1, q2, q3, q4, q5, q6, g1, g2, g3, g4, g5, g6, g7, g8, g9, g10⟩ := TK.get
  have hds : dflt.scalar = true := by
    rcases hd' with ⟨_, rfl⟩ | ⟨_, h⟩
    · rfl
    · exact h
  obtain ⟨nT, hT⟩ : ∃ n, s.heap.get? 196 = some { cls := .type "tuple", data := .seq #[.none] n } := let ⟨n, e⟩ := TK.tup196; ⟨n, G.k 196 _ e⟩
  refine wpAny_call (call_enterG (vs := [.hdr (.lst l), .str x, dflt]) F rfl RM G (fun Q' E' hq' => ?_) fun env O h₁ t₁ EO RM' R => ?_)
  · rcases hd' with ⟨rfl, rfl⟩ | ⟨rfl, _⟩
    · obtain ⟨y, ys, rfl, hy, z, zs, rfl, hz, rfl⟩ := hvals
      exact bind_get q1 q2 q3 q4 q5 q6 hT (.inl ⟨rfl, rfl⟩) (hq' _ [y, z, .none] (keeps_refl _) (vrs_cons hy (vrs_cons hz (vrs_cons (rfl : Value.none = .none) vrs_nil))))
    · obtain ⟨y, ys, rfl, hy, z, zs, rfl, hz, u, us, rfl, hu, rfl⟩ := hvals
      exact bind_get q1 q2 q3 q4 q5 q6 hT (.inr rfl) (hq' _ [y, z, u] (keeps_refl _) (vrs_cons hy (vrs_cons hz (vrs_cons hu vrs_nil))))
  · refine wpAny_execs_cons (wpAny_Assign_Name (conv_lower PK RM' EO R g2 (x := x) rfl rfl hstr hasc fun s₁ t k₁ => ?_) (swap_no g3 _ _ _))
    refine store_sound (v := .str (lower' x)) EO (R.keeps k₁) g1 (vr_str _ _ _) fun s₂ M₂ R₂ => ?_
    refine wpAny_execs_cons (wpAny_For (headers_expr EO.toEnvOk R₂.rep g6 (src := .lst l) rfl (.inl ⟨l, rfl⟩) fun s₃ val k₃ hv => ?_) (folded_of g7))
    have R₃ := R₂.keeps k₃
    obtain ⟨b, its, rfl, hbO, hp, hvs⟩ := hv
    refine wpAny_pyIter_list hp.isList ?_
    have M₃ := ((Mv.of_keeps (env := env) (O := O) (ρ := []) k₁).trans M₂).trans (.of_keeps k₃)
    obtain ⟨fl, st', e1, e2⟩ := getGo_run x l (({ locs := ["self", "name", "default"].zip [.hdr (.lst l), .str x, dflt], tr := [] } : St).set "name" (.str (lower' x))) rr (by rw [getL_set, if_pos rfl]) hg
    refine for_pairs RM' EO (f := fun st => execL P00 getBody st) (g := fun st => execL P00 [] st) g4 g5 ?_ ?_ R₃ hp hbO hvs e1 fun s₄ O₄ ρ₄ M₄ R₄ => ?_
    · intro O' ρ' st₁ s' fl₁ st₂ Q' E' ef R' hQ'
      refine execL_sound PK HK getBody RM' EO ?_ ef R' hQ'
      show ((matchE getIf _ _ && ((matchE (.var "v") _ _ && true) && true)) && true) = true
      rw [g8, g9]
      rfl
    · intro O' ρ' st₁ s' fl₁ st₂ Q' E' ef R' hQ'
      exact execL_sound PK HK [] RM' EO rfl ef R' hQ'
    · have M04 := M₃.trans M₄
      obtain ⟨h4, t4, e4⟩ := M04.sh
      cases rr with
      | some bb =>
        rw [e2]
        intro val hval
        subst e4
        exact hQ _ _ ⟨h4, t4, rfl, R₄.k0⟩ hval
      | none =>
        rw [e2.1]
        refine wpAny_execs_cons (wpAny_Return_some (evalE_sound PK (.var "default") RM' EO.toEnvOk g10 (v := dflt) (e2.2.trans (by rw [getL_set, if_neg (by decide)]; rfl)) R₄.rep fun s₅ val k₅ hv => ?_))
        have R₅ := R₄.keeps k₅
        obtain ⟨h5, t5, e5⟩ := (M04.trans (.of_keeps k₅)).sh
        subst e5
        exact hQ _ _ ⟨h5, t5, rfl, R₅.k0⟩ (VR.scalar hds hv)
end
end
section
open PySem PySem.Spec PySem.Calls PySem.W PyProof.Rows
theorem bind_add {M : Model} {A : Around} {E : Value → Shared → Prop} {s : Shared} {fd : FuncData} {x y z : Value} {ka : Arg} {Q : List (Str × Value) → Shared → Prop} (h1 : fd.params.posonlyargs = []) (h2 : fd.params.args.map (·.arg) = ["self", "_name", "_value"].map Str.ofString) (h3 : fd.params.kwonlyargs = []) (h4 : fd.params.vararg = none)
   (h5 : fd.params.kwarg = some ka) (h5' : ka.arg = Str.ofString "_params") (h6 : fd.defaults = .none)
   (h : Q ((["self", "_name", "_value", "_params"].map Str.ofString).zip [x, y, z, .ref s.heap.objs.size]) { s with heap := s.heap.push { cls := .type "dict", data := .dict #[] } }) : wpAny M A (bindArgs fd ⟨[x, y, z], []⟩) Q E s := by
  rcases fd with ⟨nm, qn, ⟨po, as, va, ko, kd, kw, de⟩, bd, sc, gl, cl, df, kwd, dc, pm, an, cd, ct, bi⟩
  obtain ⟨⟨a, a1, a2⟩, ⟨b, b1, b2⟩, ⟨c, c1, c2⟩, e2, ha, hb, hc⟩ := arg3 h2
  clear h2
  obtain ⟨k, k1, k2⟩ := ka
  dsimp only at h1 e2 h3 h4 h5 h6 ha hb hc h5'
  subst h1 e2 h3 h4 h5 h6 ha hb hc h5'
  refine wpAny_bind (wpAny_of_eq rfl ?_)
  refine wpAny_bind (wpAny_of_eq rfl ?_)
  show wpAny M A (alloc _ >>= _) Q E s
  refine wpAny_bind (wpAny_alloc ?_)
  exact wpAny_of_eq rfl h
end
section
open PySem PySem.Spec PySem.Calls PySem.W PyProof.Rows
section
variable {prog : Program} {w : World} {A : Around} {E : Value → Shared → Prop} {s : Shared} {env : Env}
/-- no turn over an empty dict's items -/
theorem for_no_items {Q : Flow → Shared → Prop} {elts : List Expr} {pt pos apos cpos : Pos} {x1} {o : Expr} {body : List Stmt} {d : Addr} (hh : A.handled = none) (hdS : (d == sysModules) = false)
    (hd : s.heap.get? d = some { cls := .type "dict", data := .dict #[] }) (hbase : attributeBase o (Str.ofString "items") env (eval o env) = eval o env) (hline : (apos.endLine == cpos.line) = true)
    (ho : ∀ Q', Q' (.ref d) s → wpAny (model prog w) A (eval o env) Q' E s) (hQ : ∀ s', Keeps s s' → Q .next s') :
    wpAny (model prog w) A (exec (.For (.Tuple elts x1 pt) (.Call (.Attribute o (Str.ofString "items") apos) [] [] cpos) body [] pos) env) Q E s := by
  have hm : s.heap.DictAt (intKind prog w) d [] 0 := by
    refine ⟨_, _, hd, ?_, rfl, ?_, ?_, ?_⟩
    · exact ⟨rfl, rfl, rfl⟩
    · intro e he; simp at he
    · exact .nil
    · simp
  refine wpAny_For (wpAny_Call_items hdS hm.dictOf hbase hline ho ?_) (fun _ => rfl)
  refine wpAny_pyIter_items (knd := intKind prog w) (d := d) (kvs := []) (ep := 0) ⟨_, Heap.get?_push_size _ rfl, rfl, rfl⟩ (hm.push _) ?_
  have hI : ∀ h : Heap, h.get? (s.heap.push { cls := .type "dict_items", data := .fields #[.ref d] }).objs.size = some { cls := .type "dict_itemiterator", data := .fields #[.none, .bool false, .ref d, .int 0 0, .int 0 0, .int 0 0, .none, .none] } →
      IsItemIter h (s.heap.push { cls := .type "dict_items", data := .fields #[.ref d] }).objs.size d 0 ([] : List (Int × Value)).length 0 .none .none := fun h e => e
  refine codeAny_forLoop_any (fun n s' => s' = _) ?_ 0 rfl
  rintro n s' rfl
  refine wpAny_pyNext_items_end (knd := intKind prog w) (kvs := []) hh (hI _ (Heap.get?_push_size _ rfl)) ((hm.push _).push _) rfl fun h' he => wpAny_execs_nil ?_
  refine hQ _ ⟨h', s.toks, rfl, fun b o' e => he b o' ?_ (Heap.get?_push_of_some _ (Heap.get?_push_of_some _ e))⟩
  have h1 := Heap.lt_size e
  intro hb
  have h2 : b = s.heap.objs.size + 1 := hb.trans (Heap.size_push ..)
  rw [h2] at h1
  exact absurd h1 (Nat.not_lt.mpr (Nat.le_succ _))
end
end
section
open PySem PySem.Spec PySem.Calls PySem.W PyProof.Rows

section
variable {prog : Program} {w : World} {mg mb : Str → Option Value} {d : Nat} {K : Frag} [TK : TopK K] {P : Prims} {h0 : Heap}

/-- the very value of a name that holds an opaque address -/
theorem obj_now {A : Around} {env : Env} {kd : Kd} {O : Ads} {ρ : List Addr} {st : St} {s : Shared} {x : String} {a : Addr}
    (EO : FEnv env kd) (R : SRep h0 K mg mb env O ρ st s) (ho : isOwn kd (Str.ofString x) = true) (h1 : okName x = true) (hs : st.get x = some (.obj a)) :
    ∀ (pp : Pos) (Q' : Value → Shared → Prop) (E : Value → Shared → Prop), Q' (.ref a) s → wpAny (model prog w) A (eval (.Name (Str.ofString x) pp) env) Q' E s := by
  intro pp Q' E hq
  obtain ⟨val, hval, hld⟩ := own_name (prog := prog) (w := w) EO R ho h1 hs
  exact hld ((show val = .ref a from hval) ▸ hq)

/-- x = [] -/
theorem asg_nil (PK : PrimsOk prog w K mg mb d P) {A : Around} {E : Value → Shared → Prop} {env : Env} {kd : Kd} {O : Ads} {ρ : List Addr} {st : St} {s : Shared} {x : String} {stm : Stmt} {Q : Flow → Shared → Prop}
    (RM : Room d A) (EO : FEnv env kd) (R : SRep h0 K mg mb env O ρ st s) (hm : matchS (.asgL x []) kd stm = true)
    (hQ : ∀ s' O' ρ', Mv env O ρ s O' ρ' s' → SRep h0 K mg mb env O' ρ' { locs := setL st.locs x (.trk st.tr.length), tr := st.tr ++ [[]] } s' → Q .next s') :
    wpAny (model prog w) A (exec stm env) Q E s :=
  matchS_asgL hm fun _ _ _ _ h1 h2 => st_asgL h1 (evalEs_snd PK [] h2) RM EO rfl R hQ

/-- x.append(e) -/
theorem app_one (PK : PrimsOk prog w K mg mb d P) {A : Around} {E : Value → Shared → Prop} {env : Env} {kd : Kd} {O : Ads} {ρ : List Addr} {st : St} {s : Shared} {x : String} {e : PE} {i : Nat} {v : V} {vs : List V} {stm : Stmt} {Q : Flow → Shared → Prop}
    (RM : Room d A) (EO : FEnv env kd) (R : SRep h0 K mg mb env O ρ st s) (hm : matchS (.app x e) kd stm = true) (e1 : st.get x = some (.trk i)) (e2 : evalE P e st = some v) (e3 : st.tr[i]? = some vs) (hl : vs.length ≤ big)
    (hQ : ∀ s' O' ρ', Mv env O ρ s O' ρ' s' → SRep h0 K mg mb env O' ρ' { st with tr := st.tr.set i (vs ++ [v]) } s' → Q .next s') :
    wpAny (model prog w) A (exec stm env) Q E s :=
  matchS_app hm fun _ _ _ _ _ hq h1 h2 h3 => st_app hq h1 h2 (match_notStar h3) (evalE_snd PK e h3) RM EO (by
    show (st.get x).bind _ = _
    rw [e1]
    show (evalE P e st).bind _ = _
    rw [e2]
    show (st.tr[i]?).bind _ = _
    rw [e3]
    exact if_pos hl) R hQ

theorem eval_join1 {P : Prims} {st : St} {sep : List Nat} {x : String} {i : Nat} {y : List Nat} (h1 : st.get x = some (.trk i)) (h2 : st.tr[i]? = some [.str y]) (h3 : y.length + sep.length ≤ big) : evalE P (.join sep (.var x)) st = some (.str y) := by
  show (st.get x).bind _ = _
  rw [h1]
  show (st.tr[i]?).bind _ = _
  rw [h2]
  exact if_pos (show y.length + 0 + (0 + 1) * sep.length ≤ big from by omega)

theorem isConv_star {kd : Kd} {b : Bool} {arg : Expr → Prop} {e : Expr} (h : IsConv kd b arg e) : notStar e = true := by
  obtain ⟨_, _, _, _, _, _, _, rfl, _⟩ := h
  rfl
theorem isConv_self {kd : Kd} {b : Bool} {arg : Expr → Prop} {e : Expr} (h : IsConv kd b arg e) : isOwn kd (Str.ofString "self") = true := by
  obtain ⟨_, _, _, _, _, _, _, _, _, h1, _⟩ := h
  exact h1

/-- self._headers of an opaque self -/
theorem headers_obj {A : Around} {E : Value → Shared → Prop} {env : Env} {kd : Kd} {O : Ads} {ρ : List Addr} {st : St} {s : Shared} {e : Expr} {a dd b : Addr} {Q : Value → Shared → Prop}
    (EO : FEnv env kd) (R : SRep h0 K mg mb env O ρ st s) (h : IsHeaders kd e) (hs : st.get "self" = some (.obj a)) (H : HdrAt s.heap a dd (.ref b))
    (hQ : Q (.ref b) { s with toks := s.toks + 1 }) : wpAny (model prog w) A (eval e env) Q E s := by
  obtain ⟨pn, pa, rfl, h1⟩ := h
  rw [arm_eval_Attribute, base_of rfl]
  refine wpAny_bind (obj_now EO R h1 (by decide) hs _ _ _ (wpAny_bind (wpAny_standAt ?_)))
  refine wpAny_bind (wpAny_holding (get_headers R.rep.gr H rfl ?_))
  exact wpAny_bind (m := letTemporaryGo _ _ _) (wpAny_of_eq (a := ()) rfl (wpAny_pure hQ))

theorem headers_base {kd : Kd} {e : Expr} {env : Env} {name : Str} (h : IsHeaders kd e) : attributeBase e name env (eval e env) = eval e env := by
  obtain ⟨_, _, rfl, _⟩ := h
  exact base_of rfl

theorem call_add (PK : PrimsOk prog w K mg mb (d + 1) P00) {A : Around} {s : Shared} {a d' l : Addr} {its : Array Value} {x y : List Nat} {t u : Tok} {Q : Value → Shared → Prop} {E : Value → Shared → Prop} (RM : Room (d + 2) A) (G : Gr K mg mb s.heap)
    (H : HdrAt s.heap a d' (.ref l)) (hp : s.heap.PlainList l its) (hx : strOk x = true) (hy : strOk y = true) (hsz : its.size ≤ big)
    (hQ : ∀ s' tp, (∃ h' t', s' = { s with heap := h', toks := t' }) → (∀ b, b ≠ l → ∀ o, s.heap.get? b = some o → s'.heap.get? b = some o) → s.heap.get? tp = none → (∃ t' u', PlainTup s'.heap tp #[.str ⟨x.toArray⟩ t', .str ⟨y.toArray⟩ u']) →
        s'.heap.PlainList l (its.push (.ref tp)) → Q .none s') :
    wpAny (model prog w) A (call (.ref 253) [.ref a, .str ⟨x.toArray⟩ t, .str ⟨y.toArray⟩ u]) Q E s := by
  obtain ⟨fd, s1, t1, n1, e1, n2, s2, n3, e6, e7, e8, n4, ap2, n5, bb, n6, e3, ap3, e4, e5, k5, n7, n8, n9, ka, F, q1, q2, q3, q4, hka, hka', q6', g1, g2, g3, g4, g5, g6, g7, g8, g9, g10, g11, g12⟩ := TK.addh
  obtain ⟨o256, ho256⟩ := TK.cls256
  have hylen : y.length ≤ 30000 := by
    unfold strOk at hy
    exact of_decide_eq_true (Bool.and_eq_true_iff.mp hy).2
  refine wpAny_call (call_enterB (B := fun hb => hb.get? s.heap.objs.size = some { cls := .type "dict", data := .dict #[] }) (vs := [.obj a, .str x, .str y, .obj s.heap.objs.size]) F rfl RM G (fun Q' E' hq' => ?_) fun env O h₁ t₁ hB EO RM' R => ?_)
  · refine bind_add q1 q2 q3 q4 hka hka' q6' (hq' _ [.ref a, .str ⟨x.toArray⟩ t, .str ⟨y.toArray⟩ u, .ref s.heap.objs.size] (keeps_push s _) (Heap.get?_push_size _ rfl) ?_)
    simp only [VRs, VR]
    exact ⟨_, _, rfl, rfl, _, _, rfl, ⟨t, rfl⟩, _, _, rfl, ⟨u, rfl⟩, _, _, rfl, rfl, rfl⟩
  · obtain ⟨hb, hB1, hB2, hB3⟩ := hB
    -- parts = []
    refine wpAny_execs_cons (asg_nil PK RM' EO R g1 fun s₂ O₂ ρ₂ M₂ R₂ => ?_)
    -- if _value is not None
    refine wpAny_execs_cons (wpAny_If (evalT_sound PK (.isn false (.var "_value")) RM' EO.toEnvOk g2 (b := true) rfl R₂.rep fun s₃ k₃ => ?_))
    simp only [if_true]
    have R₃ := R₂.keeps k₃
    have hH : ∀ s' : Shared, (∀ b o, s.heap.get? b = some o → s'.heap.get? b = some o) → HdrAt s'.heap a d' (.ref l) := fun s' k => H.mono (fun o e => k _ _ e) fun o e => k _ _ e
    refine wpAny_execs_cons (wpAny_Assign_Name (conv_expr (b := false) RM' EO R₃ g4 (a := a) (fun e' Q' ⟨pp, e⟩ hq => by subst e; exact obj_now EO R₃ (isConv_self g4) (by decide) rfl _ _ _ (hq _ (keeps_refl _))) (hH _ R₃.k0)
      (fun e' s' Q' he hk hq => evalE_sound PK (.var "_value") RM' EO.toEnvOk he (v := .str y) rfl (R₃.keeps hk).rep fun s'' val k hv => ?_) hy fun s₄ t₄ k₄ => ?_) (swap_no g5 _ _ _))
    · obtain ⟨t, rfl⟩ := hv.str'
      exact hq _ _ k
    refine store_sound (v := .str y) EO (R₃.keeps k₄) g3 (vr_str _ _ _) fun s₅ M₅ R₅ => ?_
    refine wpAny_execs_cons (app_one PK RM' EO R₅ g6 (i := 0) (v := .str y) (vs := []) rfl rfl rfl (by decide) fun s₆ O₆ ρ₆ M₆ R₆ => wpAny_execs_nil ?_)
    have M06 := ((M₂.trans (.of_keeps (keeps_trans k₃ k₄))).trans M₅).trans M₆
    -- the loop over no parameters
    have hdct : ∀ (s' : Shared) O' ρ', Mv env O [] { s with heap := h₁, toks := t₁ } O' ρ' s' → s'.heap.get? s.heap.objs.size = some { cls := .type "dict", data := .dict #[] } := fun s' O' ρ' M =>
      M.keep _ _ (fun h => by have := hB3 _ (R.rep.ownR h); rw [hB1] at this; cases this) (hB2 _ _ hB1)
    have hsys : (s.heap.objs.size == sysModules) = false := by
      have : sysModules < s.heap.objs.size := Nat.lt_of_le_of_lt (by decide) (Heap.lt_size (G.k hdrCls _ ho256))
      simpa using fun e => absurd this (by rw [e]; exact Nat.lt_irrefl _)
    refine wpAny_execs_cons (for_no_items RM'.hd hsys (hdct _ _ _ M06) (base_of rfl) (by simpa using g8) (fun Q' hq' => obj_now EO R₆ g7 (by decide) rfl _ _ _ hq') fun s₇ k₇ => ?_)
    have R₇ := R₆.keeps k₇
    -- self._headers.append(…)
    refine wpAny_execs_cons (wpAny_Expr_any (wpAny_Call_append (headers_base g9) rfl (by simpa using g10) rfl (headers_obj EO R₇ g9 rfl (hH _ R₇.k0) ?_)) (interactive_no EO.kind) rfl)
    have k₈ := keeps_toks s₇ (s₇.toks + 1)
    have R₈ := R₇.keeps k₈
    have hpl : ∀ s' : Shared, (∀ b o, s.heap.get? b = some o → s'.heap.get? b = some o) → s'.heap.PlainList l its := fun s' k => hp.at fun o e => k _ _ e
    have hpl8 := hpl _ R₈.k0
    refine ⟨l, its, rfl, by obtain ⟨n, e⟩ := hpl8; exact ⟨_, n, e, rfl, rfl, rfl⟩, ?_⟩
    refine Tuple_ (spliced_more (conv_expr (b := true) RM' EO R₈ g11 (a := a) (x := x) (fun e' Q' ⟨pp, e⟩ hq => by subst e; exact obj_now EO R₈ (isConv_self g11) (by decide) rfl _ _ _ (hq _ (keeps_refl _))) (hH _ R₈.k0)
      (fun e' s' Q' he hk hq => evalE_sound PK (.var "_name") RM' EO.toEnvOk he (v := .str x) rfl (R₈.keeps hk).rep fun s'' val k hv => ?_) hx fun s₉ t₉ k₉ => ?_) (star_of (isConv_star g11)))
    · obtain ⟨t, rfl⟩ := hv.str'
      exact hq _ _ k
    refine spliced_more (evalE_sound PK (.join [59, 32] (.var "parts")) RM' EO.toEnvOk g12 (v := .str y) ?_ (R₈.keeps k₉).rep fun s10 val k10 hv => spliced_none ?_) (star_of (match_notStar g12))
    · exact eval_join1 rfl rfl (by show y.length + 2 ≤ 1000000; omega)
    obtain ⟨t10, rfl⟩ := hv.str'
    refine wpAny_newTuple ?_ (by simp [sizeLine_eq])
    have kt := keeps_push s10 { cls := .type "tuple", data := .seq #[.str ⟨x.toArray⟩ t₉, .str ⟨y.toArray⟩ t10] }
    have R11 := ((R₈.keeps k₉).keeps k10).keeps kt
    refine wpAny_list_append_plain (hpl _ R11.k0) (fun h' hp' hs' => wpAny_execs_nil ?_) (by rw [big_eq] at hsz; rw [sizeLine_eq]; omega)
    have Mall := ((M06.trans (.of_keeps k₇)).trans (.of_keeps k₈)).trans (.of_keeps (keeps_trans (keeps_trans k₉ k10) kt))
    obtain ⟨h11, t11, e11⟩ := Mall.sh
    have hfr : s.heap.get? s10.heap.objs.size = none := by
      cases e : s.heap.get? s10.heap.objs.size with
      | none => rfl
      | some o => exact absurd (Heap.lt_size (((R₈.keeps k₉).keeps k10).k0 _ _ e)) (Nat.lt_irrefl _)
    have hne : s10.heap.objs.size ≠ l := fun e => by
      obtain ⟨n, hn⟩ := hp
      rw [e, hn] at hfr; cases hfr
    refine hQ _ s10.heap.objs.size ⟨h', t11, ?_⟩ (fun b hb o e => (hs'.2 b hb).trans (R11.k0 _ _ e)) hfr ⟨t₉, t10, 0, (hs'.2 _ hne).trans (Heap.get?_push_size _ rfl)⟩ hp'
    rw [e11]
end
end
section
open PySem PySem.Spec PySem.Calls PySem.W PyProof.Rows Builtin Builtin.ObjectAttr Builtin.Getset_descriptor

theorem takes_none {C : Value} {x : Str} {K : Frag} (h : findIn K C x = some none) : True := trivial

section
variable {prog : Program} {w : World} {A : Around} {K : Frag} {C x dx : Addr} {s : Shared}
/-- the first attribute that an object is given -/
theorem set_first {E : Value → Shared → Prop} {name : Str} {v : Value} {Q : Unit → Shared → Prop} (X : K.In s.heap) (I : InstAt s.heap x (instObj C dx) C (some emptyDict)) (hs : findIn K (.ref C) "__setattr__" = some (some (.builtin "object.__setattr__")))
    (hp : plainOver K C = true) (ht : takerIn K C name = some none) (hh : (clsIn K C).any (·.hasDict) = true)
    (h : ∀ h' kt hv n, Heap.SameBut dx s.heap h' → h'.get? dx = some { cls := .type "dict", data := .dict #[⟨hv, .str name kt, v⟩] n } → Q () { s with heap := h', toks := s.toks + 2 }) :
    wpAny (model prog w) A (setAttr (.ref x) name v) Q E s := by
  refine set_plain X I hs ?_
  refine osa_open (s := { s with toks := s.toks + 1 }) X I hp ht fun b => ?_
  obtain ⟨cd, hc, hd'⟩ := any_some hh
  obtain ⟨hx, hcl, hn, D⟩ := I
  refine wpAny_bind (wpAny_pure (wpAny_bind (wpAny_bind (wpAny_loadPart hx (wpAny_bind (Looks.here (s := { s with toks := s.toks + 1 }) (looks_clsIn X hc) ?_))))))
  rw [hd']
  refine wpAny_pure (a := some dx) (wpAny_bind (wpAny_pure (wpAny_bind ?_)))
  unfold nsSet
  have D' : s.heap.get? dx = some emptyDict := D
  refine wpAny_bind (wpAny_bind (wpAny_askSetting (wpAny_pure (wpAny_bind (wpAny_mkText (wpAny_bind (wpAny_loadPart D' ?_)))))))
  dsimp only
  have c : (!(#[] : Array DictEntry).any (·.key.isStr name) && (#[] : Array DictEntry).any (·.refKey)) = false := by simp
  rw [aRefKeyMayBeTheName_at, c]
  refine wpAny_updatePart D' ?_
  have hput : Obj.putName name (PyData.keyHash w.params name) (.str name (s.toks + 1)) v emptyDict = { cls := .type "dict", data := .dict #[⟨PyData.keyHash w.params name, .str name (s.toks + 1), v⟩] 1 } := rfl
  have hself := Heap.get?_update_self (Obj.putName name (PyData.keyHash w.params name) (.str name (s.toks + 1)) v) D' (by rw [hput]; rfl)
  refine wpAny_bind (wpAny_lookBehind hself (by rw [hput]; exact pastItsLine_dict (by simp [sizeLine_eq])) ?_)
  refine wpAny_pure ?_
  exact h _ _ _ _ (Heap.SameBut.update ..) (hself.trans (congrArg some hput))
end
end
section
open PySem PySem.Spec PySem.Calls PySem.W PyProof.Rows

theorem boot_list : bootBuiltins (Str.ofString "list") = some (.type "list") := rfl
section
variable {prog : Program} {w : World} {mg mb : Str → Option Value} {d : Nat} {K : Frag} [TK : TopK K] {P : Prims} {h0 : Heap}
theorem bind_init {M : Model} {A : Around} {E : Value → Shared → Prop} {s : Shared} {fd : FuncData} {x y : Value} {Q : List (Str × Value) → Shared → Prop} {n : Nat} (h1 : fd.params.posonlyargs = []) (h2 : fd.params.args.map (·.arg) = ["self", "headers"].map Str.ofString) (h3 : fd.params.kwonlyargs = []) (h4 : fd.params.vararg = none) (h5 : fd.params.kwarg = none)
   (h6 : fd.defaults = .ref 143) (hT : s.heap.get? 143 = some { cls := .type "tuple", data := .seq #[.none] n }) (h : Q ((["self", "headers"].map Str.ofString).zip [x, y]) s) : wpAny M A (bindArgs fd ⟨[x, y], []⟩) Q E s := by
  rcases fd with ⟨nm, qn, ⟨po, as, va, ko, kd, kw, de⟩, bd, sc, gl, cl, df, kwd, dc, pm, an, cd, ct, bi⟩
  obtain ⟨⟨a, a1, a2⟩, ⟨b, b1, b2⟩, e2, ha, hb⟩ := arg2 h2
  clear h2
  dsimp only at h1 e2 h3 h4 h5 h6 ha hb
  subst h1 e2 h3 h4 h5 h6 ha hb
  refine wpAny_bind (wpAny_of_eq rfl ?_)
  refine wpAny_bind (wpAny_seqItems hT rfl ?_)
  exact wpAny_of_eq rfl h

/-- the same after a turn elsewhere -/
theorem obj_after {A : Around} {env : Env} {kd : Kd} {O : Ads} {ρ : List Addr} {st : St} {s s' : Shared} {x : String} {a dx : Addr}
    (EO : FEnv env kd) (R : SRep h0 K mg mb env O ρ st s) (ho : isOwn kd (Str.ofString x) = true) (h1 : x ≠ ".0") (h2 : x ≠ "__debug__") (hs : st.get x = some (.obj a)) (hsb : Heap.SameBut dx s.heap s'.heap) (hdx : ¬ Own env ρ dx) :
    ∀ (pp : Pos) (Q' : Value → Shared → Prop) (E : Value → Shared → Prop), Q' (.ref a) s' → wpAny (model prog w) A (eval (.Name (Str.ofString x) pp) env) Q' E s' := by
  have hk := EO.kk (Str.ofString x)
  intro pp Q' E hq
  rcases isOwn_cases ho with hl | hl
  · obtain ⟨m, hnn, hmm⟩ := R.rep.ns
    obtain ⟨val, q1, q2⟩ := hmm x _ h1 (hk.trans hl) hs
    simp only [VR] at q2
    subst q2
    exact wpAny_Name (wpAny_loadName_local EO.kind (hk.trans hl) (hnn.at' fun o e => (hsb.2 _ fun e' => hdx (e' ▸ .inl rfl)).trans e) q1 hq) (ofString_beq h2)
  · obtain ⟨c, v₀, q1, q2, q3⟩ := R.rep.cl x (.inl (hk.trans hl))
    obtain ⟨val, rfl, q4⟩ := q3 _ hs
    simp only [VR] at q4
    subst q4
    refine wpAny_Name (wpAny_loadName_cell EO.kind (hk.trans hl) q1 ?_ hq) (ofString_beq h2)
    exact q2.sameBut hsb fun e' => hdx (e' ▸ .inr (.inr ⟨_, q1⟩))

/-- no turn over an empty list -/
theorem for_empty {A : Around} {env : Env} {s : Shared} {E : Value → Shared → Prop} {Q : Flow → Shared → Prop} {t iter : Expr} {pos : Pos} {body : List Stmt} {l : Addr} (hh : A.handled = none) (hl : s.heap.PlainList l #[]) (hset : ∀ x, foldedSetIterable iter env x = pure x)
    (ho : ∀ Q', Q' (.ref l) s → wpAny (model prog w) A (eval iter env) Q' E s) (hQ : ∀ s', Keeps s s' → Q .next s') :
    wpAny (model prog w) A (exec (.For t iter body [] pos) env) Q E s := by
  have hlI : l ≠ s.heap.objs.size := fun e => by obtain ⟨n, h⟩ := hl; exact absurd (Heap.lt_size h) (by rw [e]; exact Nat.lt_irrefl _)
  refine wpAny_For (ho _ (wpAny_pyIter_list hl.isList ?_)) hset
  have W := Walks.list (prog := prog) (w := w) hh s.heap.objs.size l hlI #[]
  refine codeAny_forLoop_any (fun n s' => s' = _) ?_ 0 rfl
  rintro n s' rfl
  refine W.done _ _ _ ⟨⟨_, Heap.get?_push_size _ rfl, rfl, rfl⟩, hl.isList.push _⟩ fun h' tk hk => wpAny_execs_nil ?_
  refine hQ _ ⟨h', tk, rfl, fun b o e => hk b o ?_ (Heap.get?_push_of_some _ e)⟩
  simpa using Nat.ne_of_lt (Heap.lt_size e)

theorem call_init {A : Around} {s : Shared} {x dx l : Addr} {Q : Value → Shared → Prop} {E : Value → Shared → Prop} (RM : Room (d + 1) A) (G : Gr K mg mb s.heap)
    (hx : s.heap.get? x = some (instObj hdrCls dx)) (hdx : s.heap.get? dx = some emptyDict) (hl : s.heap.PlainList l #[]) (hxd : x ≠ dx)
    (hQ : ∀ s', (∃ h' t', s' = { s with heap := h', toks := t' }) → (∀ b, b ≠ dx → ∀ o, s.heap.get? b = some o → s'.heap.get? b = some o) → HdrAt s'.heap x dx (.ref l) → Q .none s') :
    codeAny (model prog w) A (.call (.ref 150) ⟨[.ref x, .ref l], []⟩) (fun r s' => match r with | .ok (.ret v) => Q v s' | .ok _ => False | .error e => E e s') s := by
  obtain ⟨fd, n1, n2, c1, n3, n4, n5, ee, n6, n7, n8, n9, n10, n11, n12, bx, n13, n14, n15, n16, n17, c2, n18, a1, a2, a3, n19, bb, n20, n21, F, q1, q2, q3, q4, q5, q6, g1, g2, g3, g4⟩ := TK.init
  obtain ⟨nT, hT⟩ : ∃ n, s.heap.get? 143 = some { cls := .type "tuple", data := .seq #[.none] n } := let ⟨n, e⟩ := TK.tup143; ⟨n, G.k 143 _ e⟩
  refine call_enterG (vs := [.obj x, .obj l]) F rfl RM G (fun Q' E' hq' => ?_) fun env O h₁ t₁ EO RM' R => ?_
  · refine bind_init q1 q2 q3 q4 q5 q6 hT (hq' _ [.ref x, .ref l] (keeps_refl _) ?_)
    simp only [VRs, VR]
    exact ⟨_, _, rfl, rfl, _, _, rfl, rfl, rfl⟩
  · have hdO : ∀ O' ρ' s', SRep s.heap K mg mb env O' ρ' { locs := ["self", "headers"].zip [.obj x, .obj l], tr := [] } s' → ¬ Own env ρ' dx := fun O' ρ' s' R' h => by
      have := R'.o0 dx (R'.rep.ownR h)
      rw [hdx] at this; cases this
    refine wpAny_execs_cons (wpAny_Assign_Name (wpAny_IfExp (wpAny_isTrue_Compare1 (obj_now EO R g1 (by decide) rfl _ _ _ (wpAny_Constant_none (wpAny_isNot_other rfl (by simp) (wpAny_truthy_bool ?_)))) rfl)) (swap_no rfl _ _ _))
    simp only [if_true]
    refine obj_now EO R g1 (by decide) rfl _ _ _ (store_sound (v := .obj l) EO R g1 (by simp only [VR]) fun s₁ M₁ R₁ => ?_)
    have hl1 : s₁.heap.PlainList l #[] := hl.at fun o e => R₁.k0 _ _ e
    refine wpAny_execs_cons (wpAny_If (wpAny_isTrue_Compare1 (wpAny_Call_NameR (boot_sound EO.toEnvOk R₁.rep.gr g2 (by decide) (by decide) free_type boot_type ?_)) rfl))
    refine callWith_type1 (obj_now EO R₁ g1 (by decide) (by rw [getL_set, if_pos rfl]) _ _ _ ?_)
    refine call_type_of hl1.isList.typeIs (by decide) ?_
    refine boot_sound EO.toEnvOk R₁.rep.gr g3 (by decide) (by decide) (TK.glob ("list", none) (gAt 28 rfl)) boot_list (wpAny_isNot_self rfl (wpAny_truthy_bool ?_))
    simp only [Bool.false_eq_true, if_false]
    refine wpAny_execs_nil (wpAny_execs_cons (plainObj_wpAny_Assign_Attribute ?_))
    refine obj_now EO R₁ g1 (by decide) (by rw [getL_set, if_pos rfl]) _ _ _ (obj_now EO R₁ g4 (by decide) (by rw [getL_set, if_neg (by decide)]; rfl) _ _ _ ?_)
    refine set_first (C := hdrCls) (dx := dx) R₁.rep.gr.k ⟨R₁.k0 _ _ hx, rfl, rfl, R₁.k0 _ _ hdx⟩ TK.fi_setattr TK.over256 TK.taker256 TK.hasd256 fun h' kt hv n hsb hd' => ?_
    have hnO : ¬ Own env [] dx := fun h => by
      have := R₁.o0 dx (R₁.rep.ownR h)
      rw [hdx] at this; cases this
    refine wpAny_execs_cons (wpAny_If (wpAny_isTrue_value (wpAny_Constant_bool (wpAny_truthy_bool ?_)) rfl))
    simp only [if_true]
    have hlx : l ≠ dx := fun e => by
      obtain ⟨n, h⟩ := hl
      rw [e, hdx] at h
      have h2 := congrArg Obj.data (Option.some.inj h)
      cases h2
    have hl2 : h'.PlainList l #[] := hl1.at fun o e => (hsb.2 _ hlx).trans e
    refine wpAny_execs_cons (for_empty (l := l) RM'.hd hl2 (fun _ => rfl) (fun Q' hq' => obj_after EO R₁ g1 (by decide) (by decide) (by rw [getL_set, if_pos rfl]) hsb hnO _ _ _ hq') fun s₃ k₃ => wpAny_execs_nil (wpAny_execs_nil ?_))
    obtain ⟨h1, t1, e1⟩ := M₁.sh
    obtain ⟨h3, t3, e3, kk⟩ := k₃
    subst e1
    subst e3
    refine hQ _ ⟨h3, t3, rfl⟩ (fun b hb o e => kk _ _ ((hsb.2 _ hb).trans (R₁.k0 _ _ e))) ⟨kk _ _ ((hsb.2 _ hxd).trans (R₁.k0 _ _ hx)), _, _, _, kk _ _ hd'⟩

theorem hdr_new {A : Around} {s : Shared} {l : Addr} {es : Sem Value} {pos : Pos} {Q : Value → Shared → Prop} {E : Value → Shared → Prop} (RM : Room (d + 2) A) (G : Gr K mg mb s.heap) (hl : s.heap.PlainList l #[])
    (hes : ∀ (Q' : Value → Shared → Prop), Q' (.ref l) s → wpAny (model prog w) A es Q' E s)
    (hQ : ∀ s' a d', Keeps s s' → s.heap.get? a = none → s.heap.get? d' = none → HdrAt s'.heap a d' (.ref l) → Q (.ref a) s') : wpAny (model prog w) A (callWith pos (.ref hdrCls) [] [(false, es)] []) Q E s := by
  refine PySem.W.callWith_of rfl (keeps_K TK.keep256) (evalArgs_plain (Calls.spliced_cons (hes _ (Calls.spliced_nil ⟨G.k, wpAny_call ?_⟩))))
  obtain ⟨h, g, dr, t, os⟩ := s
  refine make_core (makes_of G.k TK.makes256) (looks_findIn G.k TK.fi_init) (fun self => bind_fn G.k self (TK.ty _ (by decide))) (.inl rfl) ?_
  have k1 := keeps_push (⟨h, g, dr, t, os⟩ : Shared) emptyDict
  have k2 := keeps_push (⟨h.push emptyDict, g, dr, t, os⟩ : Shared) (instObj hdrCls h.objs.size)
  have kk := keeps_trans k1 k2
  have hx : ((h.push emptyDict).push (instObj hdrCls h.objs.size)).get? (h.objs.size + 1) = some (instObj hdrCls h.objs.size) := by
    rw [← Heap.size_push h emptyDict]; exact Heap.get?_push_size _ rfl
  have hdx : ((h.push emptyDict).push (instObj hdrCls h.objs.size)).get? h.objs.size = some emptyDict := Heap.get?_push_of_some _ (Heap.get?_push_size _ rfl)
  refine codeAny_mono (call_init (d := d) (mg := mg) (mb := mb) (Q := fun v s' => v = .none ∧ Q (.ref (h.objs.size + 1)) s') (E := E) (x := h.objs.size + 1) (dx := h.objs.size) (l := l) ?_ (G.keeps (keeps_heap kk)) hx hdx (hl.at fun o e => keeps_heap kk _ _ e) (Nat.succ_ne_self _) fun s' hsh hk hH => ⟨rfl, ?_⟩) fun r s' z => ?_
  · exact ⟨RM.hd, by have := RM.dep; show A.depth + _ + (d + 1) < _; have hw : (Code.builtin "type.__call__" ⟨[.ref hdrCls, .ref l], []⟩).weight ≤ 1 := Nat.le_of_ble_eq_true rfl; exact Nat.lt_of_le_of_lt (Nat.add_le_add_right (Nat.add_le_add_left hw _) _) (by omega), by have := RM.un; have hw : (Code.builtin "type.__call__" ⟨[.ref hdrCls, .ref l], []⟩).cUnits ≤ 1 := Nat.le_of_ble_eq_true rfl; exact Nat.lt_of_le_of_lt (Nat.add_le_add_right (Nat.add_le_add_right (Nat.add_le_add_left hw _) _) _) (by omega)⟩
  · obtain ⟨h', t', e⟩ := hsh
    subst e
    refine hQ _ (h.objs.size + 1) h.objs.size ⟨h', t', rfl, fun b o e => hk b (Nat.ne_of_lt (Heap.lt_size e)) o (keeps_heap kk _ _ e)⟩ (Heap.get?_none_of_le (Nat.le_succ _)) (fresh_size _) hH
  · rcases r with e | (v | _ | _ | _) <;> first | exact z | exact z.elim
end
end
section
open PySem PySem.Spec PySem.Calls PySem.W PyProof.Rows

theorem chkEs_find : ∀ {es : List DictEntry} {tab : List (Int × List Nat)}, chkEs es tab = true → ∀ k, (match tab.lookup k with
    | some x => ∃ t, (es.find? fun e => Value.isInt k e.key).map (·.val) = some (.str ⟨x.toArray⟩ t)
    | none => (es.find? fun e => Value.isInt k e.key).map (·.val) = none)
  | [], [], _, k => rfl
  | [], _ :: _, h, k => by simp [chkEs] at h
  | _ :: _, [], h, k => by simp [chkEs] at h
  | e :: es, (j, x) :: r, h, k => by
    simp only [chkEs, Bool.and_eq_true] at h
    obtain ⟨h1, h2⟩ := h
    split at h1
    · rename_i i t1 y t2 ek ev
      simp only [Bool.and_eq_true, beq_iff_eq, decide_eq_true_eq] at h1
      obtain ⟨⟨rfl, rfl⟩, h3⟩ := h1
      rw [List.lookup_cons, List.find?_cons, ek]
      by_cases hk : k = i
      · subst hk
        simp only [beq_self_eq_true, Value.isInt]
        exact ⟨t2, by rw [Option.map_some, ev]⟩
      · have e1 : (k == i) = false := by simpa using hk
        have e2 : (i == k) = false := by simpa using fun e => hk e.symm
        simp only [e1, Value.isInt, e2]
        exact chkEs_find h2 k
    · cases h1
theorem chkEs_keys : ∀ {es : List DictEntry} {tab : List (Int × List Nat)}, chkEs es tab = true → ∀ e ∈ es, ∃ k, Value.isInt k e.key = true ∧ e.hash = hashInt k
  | [], _, _, e, h => by cases h
  | _ :: _, [], h, _, _ => by simp [chkEs] at h
  | e :: es, (j, x) :: r, h, e', he => by
    simp only [chkEs, Bool.and_eq_true] at h
    obtain ⟨h1, h2⟩ := h
    rcases List.mem_cons.mp he with rfl | he
    · split at h1
      · rename_i i t1 y t2 ek ev
        simp only [Bool.and_eq_true, beq_iff_eq, decide_eq_true_eq] at h1
        exact ⟨i, by rw [ek]; simp [Value.isInt], by rw [h1.2, h1.1.1]⟩
      · cases h1
    · exact chkEs_keys h2 e' he

section
variable {prog : Program} {w : World} {mg mb : Str → Option Value} {d : Nat} {K : Frag} [TK : TopK K]
theorem tab_ok : ∃ a, nsIn K mainGlobals (Str.ofString "COMPILER_FLAG_NAMES") = some (some (.ref a)) ∧ (∃ o, K.lookup a = some o ∧ o.cls = .type "dict" ∧ o.dict = none) ∧
    ∀ (A : Around) (s : Shared) (i : Int) (t : Tok) (dv : Value) (Q : Value → Shared → Prop) (E : Value → Shared → Prop), K.In s.heap →
      (∀ t', Q (match flagTab.lookup i with | some x => .str ⟨x.toArray⟩ t' | none => dv) { s with toks := s.toks + 1 }) → wpAny (model prog w) A (call (.builtin "dict.get") [.ref a, .int i t, dv]) Q E s := by
  obtain ⟨o, es, n, h1, h2, h3, h4⟩ := TK.tab56
  refine ⟨56, TK.glob ("COMPILER_FLAG_NAMES", some (.ref 56)) (gAt 2 rfl), ⟨o, h1, h2.1, h2.2.1⟩, fun A s i t dv Q E hk hQ => ?_⟩
  have hm : s.heap.MapOf (intKind prog w) 56 (findBy (intKind prog w).is es) := ⟨o, es, n, hk _ _ h1, h2, h3, fun e he => by
    obtain ⟨k, q1, q2⟩ := chkEs_keys h4 e (by simpa using he)
    exact ⟨k, q1, q2⟩, fun _ => rfl⟩
  refine call_meetsIn PySem.F.slot_dict_get hm.typeIs PySem.F.entry_dict_get (PySem.F.args_dict_get_3 _ _ _) (meets_dict_get_default (intKind prog w) 56 (k := i) (key := .int i t) (show Value.isInt i (.int i t) = true by simp [Value.isInt]) (by decide) dv) ⟨_, hm, ?_⟩
  have hf := chkEs_find h4 i
  have hfb : findBy (intKind prog w).is es i = (es.toList.find? fun e => Value.isInt i e.key).map (·.val) := by
    obtain ⟨l⟩ := es
    simp [findBy]
    rfl
  rw [hfb]
  cases hl : flagTab.lookup i with
  | none =>
    rw [hl] at hf
    dsimp only at hf
    rw [hf]
    have := hQ 0
    rw [hl] at this
    exact this
  | some x =>
    rw [hl] at hf
    dsimp only at hf
    obtain ⟨t', e⟩ := hf
    rw [e]
    have := hQ t'
    rw [hl] at this
    exact this
theorem gl_ok : ∀ x ∈ globNames, nsIn K mainGlobals (Str.ofString x.1) = some none ∧ bootBuiltins (Str.ofString x.1) = some x.2 := List.forall_mem_cons.mpr ⟨⟨TK.glob (_, none) (gAt 32 rfl), rfl⟩, List.forall_mem_cons.mpr ⟨⟨TK.glob (_, none) (gAt 33 rfl), rfl⟩, List.forall_mem_cons.mpr ⟨⟨TK.glob (_, none) (gAt 34 rfl), rfl⟩, List.forall_mem_cons.mpr ⟨⟨TK.glob (_, none) (gAt 35 rfl), rfl⟩, List.forall_mem_cons.mpr ⟨⟨TK.glob (_, none) (gAt 36 rfl), rfl⟩, List.forall_mem_cons.mpr ⟨⟨TK.glob (_, none) (gAt 37 rfl), rfl⟩, List.forall_mem_cons.mpr ⟨⟨TK.glob (_, none) (gAt 30 rfl), rfl⟩, List.forall_mem_nil _⟩⟩⟩⟩⟩⟩⟩
theorem P00ok : PrimsOk prog w K mg mb d P00 where
  fn := fun f vs r h => by cases h
  hm := fun m l vs r h => by cases h
  tab := tab_ok
  pit := fun vs r h => by cases h
  it := fun h => by cases h
  gl := gl_ok
theorem hdr_ok : HdrOk prog w K mg mb (d + 2) where
  new := ⟨TK.glob ("Headers", some (.ref hdrCls)) (gAt 14 rfl), fun A s l es pos Q E RM G hl hes hQ => hdr_new RM G hl (fun Q' hq => hes Q' hq) hQ⟩
  add := ⟨253, by obtain ⟨fd, _, _, _, _, _, _, _, _, _, _, _, _, _, _, _, _, _, _, _, _, _, _, _, _, F, _⟩ := TK.addh; exact F.fnAt, meth_add, fun A s a d' l its x y t u Q E RM G H hp hx hy hsz _ hQ => call_add P00ok RM G H hp hx hy hsz hQ⟩
end
end
section
open PySem PySem.Spec PySem.Calls PySem.W PyProof.Rows

noncomputable def gOne : List V → Option V
  | [v] => some v
  | _ => none
theorem gOne_of {l : List V} {v : V} (h : gOne l = some v) : l = [v] := by
  match l, h with
  | [a], h => cases h; rfl
noncomputable def run (P : Prims) (xs : List String) (ps : List PS) (vs : List V) : Option V := if vs.length = xs.length then (execL P ps { locs := xs.zip vs, tr := [] }).bind fun r => onFl r (fun _ => none) (fun _ => none) fun v _ => some v else none

/-- a number read off octets: value so far, octets left -/
noncomputable def pvI : Int → List Int → Option (Int × List Int)
  | _, [] => none
  | v, b :: r => if v.natAbs ≤ big * big then (if Builtin.bitAnd b 64 ≠ 0 then pvI (Builtin.bitOr (v * 2 ^ 6) (Builtin.bitAnd b 63)) r else some (Builtin.bitOr (v * 2 ^ 6) (Builtin.bitAnd b 63), r)) else none
noncomputable def pvS : List Int → Option (Int × List Int)
  | [] => none
  | b :: r => if Builtin.bitAnd b 64 ≠ 0 then pvI (Builtin.bitAnd b 63) r else some (Builtin.bitAnd b 63, r)
noncomputable def pitV (vs : List V) : Option V := (intsOf vs).bind fun is => (pvS is).map fun x => .int x.1

noncomputable def hmV (m : String) (l : List V) (vs : List V) : Option V :=
  if m = "get_all" then (gOne vs).bind fun v => (gStr v).bind fun x => getAllV l x
  else if m = "get" then (match vs with
    | [v] => (gStr v).bind fun x => getV l x .none
    | [v, dv] => (gStr v).bind fun x => if dv.scalar = true then getV l x dv else none
    | _ => none)
  else none

noncomputable def lvl1 : List (String × Addr × List String × List PS) := [
  ("add", 77, ["a", "b"], p_add), ("floordiv", 84, ["a", "b"], p_floordiv), ("lshift", 91, ["a", "b"], p_lshift), ("mod", 98, ["a", "b"], p_mod), ("mul", 105, ["a", "b"], p_mul), ("sub", 112, ["a", "b"], p_sub),
  ("pretty_flags", 63, ["flags"], p_pretty_flags), ("_law_pieces", 265, ["script"], p_law_pieces), ("_law_sent", 272, ["piece"], p_law_sent), ("_law_cut", 279, ["piece", "other"], p_law_cut), ("_law_mail", 284, ["chosen", "alone", "cuts"], p_law_mail),
  ("_law_share", 291, ["one", "chosen", "own", "cuts"], p_law_share), ("_law_codes", 296, ["text"], p_law_codes), ("_law_numeral", 303, ["number"], p_law_numeral), ("_law_sixteens", 310, ["number"], p_law_sixteens)]
noncomputable def lvl2 : List (String × Addr × List String × List PS) := [
  ("_law_name", 317, ["chosen", "shift"], p_law_name), ("_law_potentials", 327, ["table", "words", "choices"], p_law_potentials)]

noncomputable def fn1 (f : String) (vs : List V) : Option V := match lvl1.lookup f with
  | some (_, xs, ps) => run P00 xs ps vs
  | none => if f = "quotedata" then (gOne vs).bind fun v => (gStr v).bind fun x => if x.length ≤ 30000 then some (.str (sent x)) else none else none
noncomputable def P1 : Prims := { fn := fn1, hm := hmV, tab := flagTab, pit := pitV, its := true }
noncomputable def fn2 (f : String) (vs : List V) : Option V := match lvl2.lookup f with
  | some (_, xs, ps) => run P1 xs ps vs
  | none => fn1 f vs
noncomputable def P2 : Prims := { fn := fn2, hm := hmV, tab := flagTab, pit := pitV, its := true }

section
variable {prog : Program} {w : World} {mg mb : Str → Option Value} {d : Nat} {P : Prims} {K : Frag}
theorem CallOk.le {d d' : Nat} {a : Addr} {vs : List V} {r : V} (h : d ≤ d') (C : CallOk prog w K mg mb d a vs r) : CallOk prog w K mg mb d' a vs r := fun A s vals Q E RM => C A s vals Q E (RM.le h)
theorem run_ok (PK : PrimsOk prog w K mg mb d P) (HK : HdrOk prog w K mg mb d) {a : Addr} {xs : List String} {ps : List PS} {fd : FuncData} {body : List Stmt} (F : FnOk K a xs ps fd body)
    {vs : List V} {r : V} (h : run P xs ps vs = some r) : CallOk prog w K mg mb (d + 1) a vs r := by
  refine iif h fun hl h => bnd h fun q e h => ?_
  obtain ⟨fl, st'⟩ := q
  cases fl with
  | ret v => cases h; exact fn_sound PK HK F hl e
  | _ => exact nosome h
theorem lookup_mem_of {α : Type} : ∀ {l : List (String × α)} {f : String} {x : α}, l.lookup f = some x → (f, x) ∈ l
  | [], _, _, h => by cases h
  | (g, y) :: r, f, x, h => by
    rw [List.lookup_cons] at h
    cases hb : f == g with
    | true => rw [hb] at h; cases h; rw [eq_of_beq hb]; exact List.mem_cons_self
    | false => rw [hb] at h; exact List.mem_cons_of_mem _ (lookup_mem_of h)
variable [TK : TopK K]
theorem lvl1_ok : ∀ e ∈ lvl1, nsIn K mainGlobals (Str.ofString e.1) = some (some (.ref e.2.1)) ∧ Dfn K e.2.1 e.2.2.1 e.2.2.2 := List.forall_mem_cons.mpr ⟨⟨TK.glob (_, some (.ref _)) (gAt 6 rfl), TK.add⟩, List.forall_mem_cons.mpr ⟨⟨TK.glob (_, some (.ref _)) (gAt 7 rfl), TK.floordiv⟩, List.forall_mem_cons.mpr ⟨⟨TK.glob (_, some (.ref _)) (gAt 8 rfl), TK.lshift⟩, List.forall_mem_cons.mpr ⟨⟨TK.glob (_, some (.ref _)) (gAt 9 rfl), TK.mod⟩, List.forall_mem_cons.mpr ⟨⟨TK.glob (_, some (.ref _)) (gAt 10 rfl), TK.mul⟩, List.forall_mem_cons.mpr ⟨⟨TK.glob (_, some (.ref _)) (gAt 11 rfl), TK.sub⟩, List.forall_mem_cons.mpr ⟨⟨TK.glob (_, some (.ref _)) (gAt 4 rfl), TK.pretty⟩, List.forall_mem_cons.mpr ⟨⟨TK.glob (_, some (.ref _)) (gAt 15 rfl), TK.pieces⟩, List.forall_mem_cons.mpr ⟨⟨TK.glob (_, some (.ref _)) (gAt 16 rfl), TK.sent⟩, List.forall_mem_cons.mpr ⟨⟨TK.glob (_, some (.ref _)) (gAt 17 rfl), TK.cut⟩, List.forall_mem_cons.mpr ⟨⟨TK.glob (_, some (.ref _)) (gAt 18 rfl), TK.mail⟩, List.forall_mem_cons.mpr ⟨⟨TK.glob (_, some (.ref _)) (gAt 19 rfl), TK.share⟩, List.forall_mem_cons.mpr ⟨⟨TK.glob (_, some (.ref _)) (gAt 20 rfl), TK.codes⟩, List.forall_mem_cons.mpr ⟨⟨TK.glob (_, some (.ref _)) (gAt 21 rfl), TK.numeral⟩, List.forall_mem_cons.mpr ⟨⟨TK.glob (_, some (.ref _)) (gAt 22 rfl), TK.sixteens⟩, List.forall_mem_nil _⟩⟩⟩⟩⟩⟩⟩⟩⟩⟩⟩⟩⟩⟩⟩
theorem lvl2_ok : ∀ e ∈ lvl2, nsIn K mainGlobals (Str.ofString e.1) = some (some (.ref e.2.1)) ∧ Dfn K e.2.1 e.2.2.1 e.2.2.2 := List.forall_mem_cons.mpr ⟨⟨TK.glob (_, some (.ref _)) (gAt 23 rfl), TK.lname⟩, List.forall_mem_cons.mpr ⟨⟨TK.glob (_, some (.ref _)) (gAt 25 rfl), TK.pots⟩, List.forall_mem_nil _⟩⟩
/-- _parse_varint's contract -/
noncomputable def PitOk (prog : Program) (w : World) (K : Frag) (mg mb : Str → Option Value) (d : Nat) : Prop := ∀ vs r, pitV vs = some r → ∃ f, nsIn K mainGlobals (Str.ofString "_parse_varint") = some (some (.ref f)) ∧ FnAt K f ∧
    ∀ (A : Around) (s : Shared) (a : Addr) (its : Array Value) (Q : Value → Shared → Prop) (E : Value → Shared → Prop), Room d A → Gr K mg mb s.heap → s.heap.PlainList a its → VRs (fun _ => False) [] s.heap vs its.toList →
      (∀ s' val, Keeps s s' → VR (Alloc s.heap) [] s'.heap r val → Q val s') →
      wpAny (model prog w) A (call (.builtin "iter") [.ref a]) (fun it s₁ => (∀ b o, s.heap.get? b = some o → s₁.heap.get? b = some o) ∧ wpAny (model prog w) A (call (.ref f) [it]) Q E s₁) E s

theorem fn1_ok {f : String} {vs : List V} {r : V} (h : fn1 f vs = some r) : ∃ a, nsIn K mainGlobals (Str.ofString f) = some (some (.ref a)) ∧ FnAt K a ∧ CallOk prog w K mg mb (d + 3) a vs r := by
  unfold fn1 at h
  split at h
  · rename_i a xs ps e
    obtain ⟨h1, h2⟩ := lvl1_ok (K := K) _ (lookup_mem_of e)
    obtain ⟨fd, body, F⟩ := h2
    exact ⟨a, h1, F.fnAt, run_ok P00ok hdr_ok F h⟩
  · refine iif h fun e h => bnd h fun v e1 h => bnd h fun x e2 h => iif h fun hx hz => ?_
    cases e
    cases gOne_of e1
    cases gStr_of e2
    cases hz
    obtain ⟨fd, _, _, _, _, _, _, _, _, _, _, _, F, _⟩ := TK.quot
    exact ⟨55, TK.glob ("quotedata", some (.ref 55)) (gAt 3 rfl), F.fnAt, (call_quotedata (d := 0) hx).le (Nat.le_trans (by decide) (Nat.le_add_left 3 d))⟩
theorem hm_ok {m : String} {l vs : List V} {r : V} (h : hmV m l vs = some r) : ∃ a, FnAt K a ∧ MethAt' prog w K mg mb m a ∧ CallOk prog w K mg mb (d + 3) a (.hdr (.lst l) :: vs) r := by
  unfold hmV at h
  split at h
  · rename_i e
    refine bnd h fun v e1 h => bnd h fun x e2 hz => ?_
    cases e
    cases gOne_of e1
    cases gStr_of e2
    obtain ⟨fd, _, _, _, _, _, _, _, _, _, _, F, _⟩ := TK.getAll
    exact ⟨195, F.fnAt, meth_get_all, (call_get_all (d := 0) P00ok hz).le (Nat.le_trans (by decide) (Nat.le_add_left _ _))⟩
  · refine iif h fun e hz => ?_
    cases e
    obtain ⟨fd, _, _, _, _, _, _, _, _, _, _, _, _, _, _, _, F, _⟩ := TK.get
    refine ⟨203, F.fnAt, meth_get, ?_⟩
    cases vs with
    | nil => exact nosome hz
    | cons v t =>
      cases t with
      | nil =>
        refine bnd (x := gStr v) hz fun x e2 hy => ?_
        cases gStr_of e2
        exact call_get (d := d + 1) P00ok hdr_ok hy (.inl ⟨rfl, rfl⟩)
      | cons dv t =>
        cases t with
        | nil =>
          refine bnd (x := gStr v) hz fun x e2 hy => iif hy fun hs hy => ?_
          cases gStr_of e2
          exact call_get (d := d + 1) P00ok hdr_ok hy (.inr ⟨rfl, hs⟩)
        | cons _ _ => exact nosome hz
theorem its_ok : ∃ f, FnAt K f ∧ MethAt' prog w K mg mb "items" f ∧
    ∀ (A : Around) (s : Shared) (a d' b : Addr) (its : Array Value) (Q : Value → Shared → Prop) (E : Value → Shared → Prop), Room (d + 1) A → Gr K mg mb s.heap → HdrAt s.heap a d' (.ref b) → s.heap.PlainList b its → its.size ≤ big →
      (∀ s' D, Keeps s s' → s.heap.get? D = none → s'.heap.PlainList D its → Q (.ref D) s') → wpAny (model prog w) A (call (.ref f) [.ref a]) Q E s := by
  obtain ⟨fd, _, _, _, _, F, _⟩ := TK.items
  exact ⟨220, F.fnAt, meth_items, fun A s a d' b its Q E RM G H hp hsz hQ => call_items RM G H hp hsz hQ⟩
theorem P1ok (PI : PitOk prog w K mg mb (d + 3)) : PrimsOk prog w K mg mb (d + 3) P1 where
  fn := fun f vs r h => fn1_ok h
  hm := fun m l vs r h => hm_ok h
  tab := tab_ok
  pit := PI
  it := fun _ => its_ok
  gl := gl_ok
theorem P2ok (PI : PitOk prog w K mg mb (d + 3)) (PI' : PitOk prog w K mg mb (d + 4)) : PrimsOk prog w K mg mb (d + 4) P2 where
  fn := fun f vs r h => by
    change fn2 f vs = some r at h
    unfold fn2 at h
    split at h
    · rename_i a xs ps e
      obtain ⟨h1, h2⟩ := lvl2_ok (K := K) _ (lookup_mem_of e)
      obtain ⟨fd, body, F⟩ := h2
      exact ⟨a, h1, F.fnAt, run_ok (P1ok PI) hdr_ok F h⟩
    · exact fn1_ok (d := d + 1) h
  hm := fun m l vs r h => hm_ok (d := d + 1) h
  tab := tab_ok
  pit := PI'
  it := fun _ => its_ok
  gl := gl_ok
end
end
section
open PySem PySem.Spec PySem.Calls PySem.W PyProof.Rows

section
variable {prog : Program} {w : World} {A : Around} {E : Value → Shared → Prop} {s : Shared}

theorem next_item {it l : Addr} {i : Nat} {items : Array Value} {x : Value} {Q : Value → Shared → Prop} (hit : s.heap.IsListIter it l i) (hl : s.heap.IsList l items) (hx : items[i]? = some x)
    (hQ : ∀ h', h'.IsListIter it l (i + 1) → Heap.SameBut it s.heap h' → Q x { s with heap := h' }) : wpAny (model prog w) A (call (.builtin "next") [.ref it]) Q E s := by
  obtain ⟨o, ho, hc, hd⟩ := id hit
  obtain ⟨ol, hol, _, nl, hdl⟩ := hl
  refine call_function_entry (by decide +kernel) (by decide +kernel) kdk_entry_next (kdk_args_next _) ?_
  unfold Builtin.«next»
  refine wpAny_bind (m := someArgs "next" 1 2 _) (wpAny_of_eq (a := [Value.ref it]) (by first | rfl | kernel_rfl!) ?_)
  dsimp only
  refine wpAny_bind (wpAny_specialOf (name := Str.ofString "__next__") hit.typeIs slot_listiter_next.lookup ?_)
  refine wpAny_ite_split (fun hab => absurd hab (by decide)) (fun _ => ?_)
  refine wpAny_bind (wpAny_callSpecial?_slot (name := Str.ofString "__next__") hit.typeIs slot_listiter_next
    (wpAny_call_entry slot_listiter_next hit.typeIs entry_listiter_next ?_ (args_listiter_next _)))
  show wpAny _ _ (field (.ref it) 0 >>= _) _ _ s
  refine wpAny_bind (wpAny_field ho hd (x := .ref l) rfl ?_)
  show wpAny _ _ (if (Value.ref l == Value.none) = true then _ else _) _ _ s
  rw [if_neg (show ¬ ((Value.ref l == Value.none) = true) from Bool.false_ne_true)]
  show wpAny _ _ (field (.ref it) 1 >>= _) _ _ s
  refine wpAny_bind (wpAny_field ho hd (x := .int i 0) rfl ?_)
  show wpAny _ _ (seqItems? (.ref l) >>= _) _ _ s
  refine wpAny_bind (wpAny_seqItems hol hdl ?_)
  simp only [Int.toNat_natCast, hx]
  refine wpAny_bind (wpAny_setField ho hd (by simp) (wpAny_pure ⟨x, rfl, wpAny_pure ⟨_, rfl, hQ _ ?_ (Heap.SameBut.update ..)⟩⟩))
  exact ⟨_, Heap.get?_update_self _ ho (Obj.isFreed_of_fields (Obj.data_mapFields hd _)), (Obj.cls_mapFields ..).trans hc, by
    rw [Obj.data_mapFields hd]; simp [rawInt]⟩

theorem next_end {it l : Addr} {i : Nat} {items : Array Value} {Q : Value → Shared → Prop} (hh : A.handled = none) (hit : s.heap.IsListIter it l i) (hl : s.heap.IsList l items) (hx : items[i]? = none)
    (hE : ∀ h' e oe vs, Heap.ExtBut it s.heap h' → s.heap.get? e = none → h'.get? e = some oe → oe.cls = .type "StopIteration" → oe.data = .fields vs → vs[1]? = some .none → E (.ref e) { s with heap := h' }) :
    wpAny (model prog w) A (call (.builtin "next") [.ref it]) Q E s := by
  obtain ⟨o, ho, hc, hd⟩ := id hit
  obtain ⟨ol, hol, _, nl, hdl⟩ := hl
  refine call_function_entry (by decide +kernel) (by decide +kernel) kdk_entry_next (kdk_args_next _) ?_
  unfold Builtin.«next»
  refine wpAny_bind (m := someArgs "next" 1 2 _) (wpAny_of_eq (a := [Value.ref it]) (by first | rfl | kernel_rfl!) ?_)
  dsimp only
  refine wpAny_bind (wpAny_specialOf (name := Str.ofString "__next__") hit.typeIs slot_listiter_next.lookup ?_)
  refine wpAny_ite_split (fun hab => absurd hab (by decide)) (fun _ => ?_)
  refine wpAny_bind (wpAny_callSpecial?_slot (name := Str.ofString "__next__") hit.typeIs slot_listiter_next
    (wpAny_call_entry slot_listiter_next hit.typeIs entry_listiter_next ?_ (args_listiter_next _)))
  show wpAny _ _ (field (.ref it) 0 >>= _) _ _ s
  refine wpAny_bind (wpAny_field ho hd (x := .ref l) rfl ?_)
  show wpAny _ _ (if (Value.ref l == Value.none) = true then _ else _) _ _ s
  rw [if_neg (show ¬ ((Value.ref l == Value.none) = true) from Bool.false_ne_true)]
  show wpAny _ _ (field (.ref it) 1 >>= _) _ _ s
  refine wpAny_bind (wpAny_field ho hd (x := .int i 0) rfl ?_)
  show wpAny _ _ (seqItems? (.ref l) >>= _) _ _ s
  refine wpAny_bind (wpAny_seqItems hol hdl ?_)
  simp only [Int.toNat_natCast, hx]
  refine wpAny_bind (wpAny_rule (wpAny_bind (wpAny_setField ho hd (by simp) ?_)))
  show wpAny _ _ (newExc (.type "StopIteration") [] >>= _) _ _ _
  refine wpAny_bind ?_
  simp only [newExc, newTuple]
  refine wpAny_bind (wpAny_newObj_type ?_ (by size_fits))
  refine wpAny_bind (m := firstArgMember _ _) (wpAny_of_eq (a := Value.none) (by first | rfl | (simp only [firstArgMember]; rfl)) ?_)
  refine wpAny_newObj_type ?_ (by size_fits)
  simp only [raiseNew]
  refine wpAny_bind (wpAny_handled ?_)
  first | rw [show A.in1.handled = none from hh] | rw [hh]
  refine wpAny_bind (wpAny_pure (wpAny_throw ?_))
  refine hE _ _ _ _ (((Heap.SameBut.update ..).extBut.push _).push _) ?_ (Heap.get?_push_size _ rfl) rfl rfl rfl
  refine Heap.get?_none_of_le ?_
  simp only [Heap.size_push]
  exact Nat.le_succ_of_le (Nat.le_of_eq (by simp))

theorem iter_list {a : Addr} {items : Array Value} {Q : Value → Shared → Prop} (hl : s.heap.IsList a items)
    (h : Q (.ref s.heap.objs.size) { s with heap := s.heap.push { cls := .type "list_iterator", data := .fields #[.ref a, .int 0 0] } }) : wpAny (model prog w) A (call (.builtin "iter") [.ref a]) Q E s := by
  refine call_function_entry (by decide +kernel) (by decide +kernel) kdk_entry_iter (kdk_args_iter _) ?_
  unfold Builtin.«iter»
  refine wpAny_bind (m := someArgs "iter" 1 2 _) (wpAny_of_eq (a := [Value.ref a]) (by first | rfl | kernel_rfl!) ?_)
  show wpAny _ _ (pyIter (.ref a) >>= _) _ _ _
  refine wpAny_bind (wpAny_pyIter_list hl ?_)
  exact wpAny_pure ⟨_, rfl, h⟩
end
end
section
open PySem PySem.Spec PySem.Calls PySem.W PyProof.Rows

theorem boot_next' : bootBuiltins (Str.ofString "next") = some (.builtin "next") := by decide +kernel

noncomputable def PvInv (h0 : Heap) (K : Frag) (mg mb : Str → Option Value) (env : Env) (s : Shared) (I l : Addr) (j : Nat) (st : St) (s' : Shared) : Prop :=
  ∃ O' ρ', SRep h0 K mg mb env O' ρ' st s' ∧ O' I ∧ (∀ b, Alloc s.heap b → ¬ Own env ρ' b) ∧ (∀ b, b ≠ I → ∀ o, s.heap.get? b = some o → s'.heap.get? b = some o) ∧ (∃ h' t', s' = { s with heap := h', toks := t' }) ∧ s'.heap.IsListIter I l j

section
variable {prog : Program} {w : World} {mg mb : Str → Option Value} {d : Nat} {K : Frag} {h0 : Heap}

theorem iter_alloc {h : Heap} {I l : Addr} {j : Nat} (x : h.IsListIter I l j) : Alloc h I := by obtain ⟨o, e, _⟩ := x; unfold Alloc; rw [e]; rfl
theorem PvInv.mv {env : Env} {s s1 s2 : Shared} {I l : Addr} {j : Nat} {st2 : St} {O' O'' : Ads} {ρ' ρ'' : List Addr}
    (hOI : O' I) (hno : ∀ b, Alloc s.heap b → ¬ Own env ρ' b) (hkp : ∀ b, b ≠ I → ∀ o, s.heap.get? b = some o → s1.heap.get? b = some o) (hsh : ∃ h' t', s1 = { s with heap := h', toks := t' }) (hit : s1.heap.IsListIter I l j)
    (hI : Alloc s.heap I) (M : Mv env O' ρ' s1 O'' ρ'' s2) (R2 : SRep h0 K mg mb env O'' ρ'' st2 s2) : PvInv h0 K mg mb env s I l j st2 s2 := by
  refine ⟨O'', ρ'', R2, M.up _ hOI, fun b hb h => ?_, fun b hb o e => M.keep _ _ (hno b (by unfold Alloc; rw [e]; rfl)) (hkp b hb o e), ?_, hit.at fun o e => M.keep _ _ (hno I hI) e⟩
  · refine hno b hb (M.own ?_ h)
    by_cases h : b = I
    · rw [h]; exact iter_alloc hit
    · obtain ⟨o, ho⟩ := Option.isSome_iff_exists.mp hb
      unfold Alloc; rw [hkp b h o ho]; rfl
  · obtain ⟨h1, t1, e1⟩ := hsh
    obtain ⟨h2, t2, e2⟩ := M.sh
    exact ⟨h2, t2, by rw [e2, e1]⟩

variable [TK : TopK K]
/-- a name that is next(iterator) -/
theorem next_assign {A : Around} {E : Value → Shared → Prop} {env : Env} {kd : Kd} {s s1 : Shared} {I l : Addr} {j : Nat} {st : St} {items : Array Value} {b : Int} {t : Tok} {px ps : Pos} {e : Expr} {Q : Flow → Shared → Prop}
    (EO : FEnv env kd) (V : PvInv h0 K mg mb env s I l j st s1) (hown : isOwn kd (Str.ofString "b") = true) (he : IsNext kd e) (hnc : notComp e = true) (hI : Alloc s.heap I) (hl : s.heap.PlainList l items) (hlI : l ≠ I) (hs : st.get "iterator" = some (.obj I)) (hx : items[j]? = some (.int b t))
    (hQ : ∀ s2, PvInv h0 K mg mb env s I l (j + 1) (st.set "b" (.int b)) s2 → Q .next s2) :
    wpAny (model prog w) A (exec (.Assign [.Name (Str.ofString "b") px] e ps) env) Q E s1 := by
  obtain ⟨_, _, _, rfl, g1, g2⟩ := he
  obtain ⟨O', ρ', R, hOI, hno, hkp, hsh, hit⟩ := V
  refine wpAny_Assign_Name (wpAny_Call_NameR (boot_sound EO.toEnvOk R.rep.gr g1 (by decide) (by decide) (TK.glob ("next", none) (gAt 29 rfl)) boot_next' ?_)) (swap_no hnc _ _ _)
  refine PyProof.Rows.callWith_builtin1 (spliced_more (obj_now EO R g2 (by decide) hs _ _ _ (spliced_none ?_)) rfl) rfl rfl
  have hl1 : s1.heap.PlainList l items := hl.at fun o e => hkp _ hlI _ e
  refine next_item hit hl1.isList hx fun h' hit' hsb => ?_
  have R2 := R.off (t := s1.toks) hOI (hno I hI) (fun b o hb e => (hsb.2 b hb).trans e) (iter_alloc hit')
  refine store_sound (v := .int b) EO R2 hown (vr_int _ _ _) fun s3 M3 R3 => hQ _ ?_
  refine PvInv.mv (s1 := { s1 with heap := h', toks := s1.toks }) hOI hno (fun b hb o e => (hsb.2 b hb).trans (hkp b hb o e)) ?_ hit' hI M3 R3
  obtain ⟨h1, t1, e1⟩ := hsh
  exact ⟨h', t1, by rw [e1]⟩

theorem ints_get {O : Ads} {ρ : List Addr} {h : Heap} {is : List Int} {l : List Value} (H : VRs O ρ h (is.map V.int) l) {j : Nat} {b : Int} (e : is[j]? = some b) : ∃ t, l[j]? = some (.int b t) := by
  obtain ⟨x, h1, t, rfl⟩ := H.get j (.int b) (by rw [List.getElem?_map, e]; rfl)
  exact ⟨t, h1⟩

theorem evalE_band {P : Prims} {st : St} {x : String} {b c : Int} (h : st.get x = some (.int b)) : evalE P (.bin .band (.var x) (.int c)) st = some (.int (Builtin.bitAnd b c)) := eval_bin (eval_var h) eval_int rfl

/-- the loop of _parse_varint over what is left -/
noncomputable def pvL (v b : Int) (r : List Int) : Option (Int × List Int) := if Builtin.bitAnd b 64 ≠ 0 then pvI v r else some (v, r)

theorem drop_get {O : Ads} {ρ : List Addr} {h : Heap} {is : List Int} {items : Array Value} (H : VRs O ρ h (is.map V.int) items.toList) {j : Nat} {b : Int} {r : List Int} (e : is.drop j = b :: r) : (∃ t, items[j]? = some (.int b t)) ∧ is.drop (j + 1) = r := by
  have h1 : is[j]? = some b := (List.head?_drop ..).symm.trans (congrArg List.head? e)
  refine ⟨(ints_get H h1).elim fun t ht => ⟨t, (Array.getElem?_toList ..).symm.trans ht⟩, (List.tail_drop ..).symm.trans (congrArg List.tail e)⟩

section
variable {A : Around} {E : Value → Shared → Prop} {env : Env} {kd : Kd} {s s1 : Shared} {I l : Addr} {j : Nat} {st st2 : St} {Q : Flow → Shared → Prop}
theorem PvInv.exe (V : PvInv h0 K mg mb env s I l j st s1) (hI : Alloc s.heap I) (RM : Room (d + 2) A) (EO : FEnv env kd) (p : PS) {e : Stmt} (g : matchS p kd e = true) (hx : execS P00 p st = some (.next, st2)) (hQ : ∀ s2, PvInv h0 K mg mb env s I l j st2 s2 → Q .next s2) :
    wpAny (model prog w) A (exec e env) Q E s1 := by
  obtain ⟨O2, ρ2, R2, hO2, hn2, hk2, hsh2, hit2⟩ := V
  exact execS_sound P00ok hdr_ok p RM EO g hx R2 fun s3 O3 ρ3 M3 R3 => hQ _ (PvInv.mv hO2 hn2 hk2 hsh2 hit2 hI M3 R3)
theorem PvInv.ret (V : PvInv h0 K mg mb env s I l j st s1) (hI : Alloc s.heap I) (RM : Room (d + 2) A) (EO : FEnv env kd) (p : PS) {e : Stmt} {v : Int} (g : matchS p kd e = true) (hx : execS P00 p st = some (.ret (.int v), st2)) (hQ : ∀ s2 t, PvInv h0 K mg mb env s I l j st2 s2 → Q (.ret (.int v t)) s2) :
    wpAny (model prog w) A (exec e env) Q E s1 := by
  obtain ⟨O2, ρ2, R2, hO2, hn2, hk2, hsh2, hit2⟩ := V
  exact execS_sound P00ok hdr_ok p RM EO g hx R2 fun s3 O3 ρ3 M3 R3 val hval => by
    obtain ⟨t, rfl⟩ := hval.int'
    exact hQ _ t (PvInv.mv hO2 hn2 hk2 hsh2 hit2 hI M3 R3)
theorem PvInv.test (V : PvInv h0 K mg mb env s I l j st s1) (hI : Alloc s.heap I) (RM : Room (d + 2) A) (EO : FEnv env kd) (p : PE) {e : Expr} {b : Bool} {Q : Bool → Shared → Prop} (g : matchE p kd e = true) (hx : evalT P00 p st = some b) (hQ : ∀ s2, PvInv h0 K mg mb env s I l j st s2 → Q b s2) :
    wpAny (model prog w) A (PySem.isTrue e env (eval e env)) Q E s1 := by
  obtain ⟨O2, ρ2, R2, hO2, hn2, hk2, hsh2, hit2⟩ := V
  exact evalT_sound P00ok p RM EO.toEnvOk g hx R2.rep fun s3 k3 => hQ _ (PvInv.mv hO2 hn2 hk2 hsh2 hit2 hI (.of_keeps (env := env) (O := O2) (ρ := ρ2) k3) (R2.keeps k3))

theorem vr_or {O : Ads} {I : Addr} {h : Heap} {y : String} {u : V} {x : Value} (hu : St.get { locs := ["iterator"].zip [.obj I], tr := [] } y = some u) (hx : VR O [] h u x) : VR (fun b => O b ∨ b = I) [] h u x := by
  simp only [St.get, List.zip_cons_cons, List.zip_nil_right, getL] at hu
  split at hu
  · cases hu; exact hx
  · cases hu
theorem PvInv.start {O : Ads} {h₁ : Heap} {t₁ : Nat} (R : SRep s.heap K mg mb env O [] { locs := ["iterator"].zip [.obj I], tr := [] } { s with heap := h₁, toks := t₁ }) (hit : s.heap.IsListIter I l j) (G0 : Gr K mg mb h0) (h00 : h0.get? I = none) (k00 : ∀ b o, h0.get? b = some o → s.heap.get? b = some o) :
    PvInv h0 K mg mb env s I l j { locs := ["iterator"].zip [.obj I], tr := [] } { s with heap := h₁, toks := t₁ } := by
  refine ⟨fun b => O b ∨ b = I, [], ⟨⟨R.rep.gr, fun b hb => ?_, .inl R.rep.own, (fun _ h => nomatch h), fun x c h => .inl (R.rep.ownc x c h), ?_, fun x hx => ?_, rfl, (fun i a vs h => nomatch h)⟩, G0, fun b o e => R.k0 _ _ (k00 _ _ e), fun b hb => ?_, List.nodup_nil⟩, .inr rfl,
    fun b hb h => hb.none (R.o0 b (R.rep.ownR h)), fun b _ o e => R.k0 _ _ e, ⟨h₁, t₁, rfl⟩, hit.at fun o e => R.k0 _ _ e⟩
  · exact hb.elim (R.rep.al b) fun e => e ▸ (Option.isSome_iff_exists.mp (iter_alloc hit)).elim fun o ho => Option.isSome_iff_exists.mpr ⟨o, R.k0 I o ho⟩
  · obtain ⟨m, hn, hm⟩ := R.rep.ns
    exact ⟨m, hn, fun y u hy hk hu => (hm y u hy hk hu).elim fun val q => ⟨val, q.1, vr_or hu q.2⟩⟩
  · obtain ⟨c, v₀, q1, q2, q3⟩ := R.rep.cl x hx
    exact ⟨c, v₀, q1, q2, fun u hu => (q3 u hu).elim fun val q => ⟨val, q.1, vr_or hu q.2⟩⟩
  · exact hb.elim (fun hb => Option.eq_none_iff_forall_ne_some.mpr fun o e => not_none (R.o0 b hb) (k00 _ _ e)) fun e => e ▸ h00
end

theorem get_at {st : St} {x : String} {v : V} : (st.set x v).get x = some v := (getL_set st x v x).trans (if_pos rfl)
theorem get_off {st : St} {x y : String} {v : V} {r : Option V} (h : st.get y = r) (hne : y ≠ x := by decide) : (st.set x v).get y = r := ((getL_set st x v y).trans (if_neg hne)).trans h

/-- before a turn -/
noncomputable def PvTurn (h0 : Heap) (K : Frag) (mg mb : Str → Option Value) (env : Env) (s : Shared) (I l : Addr) (is : List Int) (v : Int) (rest : List Int) (n : Nat) (s' : Shared) : Prop :=
  ∃ j b vv st, n = (is.drop j).length ∧ PvInv h0 K mg mb env s I l j st s' ∧ st.get "iterator" = some (.obj I) ∧ st.get "b" = some (.int b) ∧ st.get "val" = some (.int vv) ∧ pvL vv b (is.drop j) = some (v, rest)

theorem pv_call {A : Around} {s : Shared} {I l : Addr} {i : Nat} {items : Array Value} {is : List Int} {v : Int} {rest : List Int} {Q : Value → Shared → Prop} {E : Value → Shared → Prop} (RM : Room (d + 3) A) (G : Gr K mg mb s.heap)
    (hit : s.heap.IsListIter I l i) (hl : s.heap.PlainList l items) (hlI : l ≠ I) (hvs : VRs (fun _ => False) [] s.heap (is.map V.int) items.toList) (G0 : Gr K mg mb h0) (h00 : h0.get? I = none) (k00 : ∀ b o, h0.get? b = some o → s.heap.get? b = some o)
    (hp : pvS (is.drop i) = some (v, rest))
    (hQ : ∀ s' j t, rest = is.drop j → (∃ h' t', s' = { s with heap := h', toks := t' }) → (∀ b, b ≠ I → ∀ o, s.heap.get? b = some o → s'.heap.get? b = some o) → s'.heap.IsListIter I l j → Q (.int v t) s') :
    wpAny (model prog w) A (call (.ref 70) [.ref I]) Q E s := by
  obtain ⟨fd, n1, e1, n2, s2, t, s3, n3, e2, n4, s4, n5, s5, F, hpp, g1, g2, g3, g4, g5, g6, g7, g8, g9, g10⟩ := TK.pv
  have hI := iter_alloc hit
  have nx : ∀ {j b r}, is.drop j = b :: r → ∃ t, items[j]? = some (.int b t) := fun e => (drop_get hvs e).1
  refine call_enter (vs := [.obj I]) (F.plain hpp) rfl RM G (vrs_cons (rfl : Value.ref I = .ref I) vrs_nil) fun env O h₁ t₁ EO RM' R => ?_
  have V0 := PvInv.start R hit G0 h00 k00
  generalize hd0 : is.drop i = ds at hp
  cases ds with
  | nil => cases hp
  | cons b0 r0 =>
    refine (nx hd0).elim fun tb hb => wpAny_execs_cons (next_assign EO V0 g1 g2 g3 hI hl hlI rfl hb fun s2' V2 => ?_)
    refine wpAny_execs_cons (V2.exe hI RM' EO (.asg "val" (.bin .band (.var "b") (.int 63))) g4 (exec_asg (evalE_band (b := b0) get_at)) fun s3' V3 => ?_)
    refine wpAny_execs_cons (wpAny_While (codeAny_whileLoop (PvTurn h0 K mg mb env s I l is v rest) ?_ _
      ⟨i + 1, b0, Builtin.bitAnd b0 63, _, rfl, V3, get_off (get_off rfl), get_off get_at, get_at, (drop_get hvs hd0).2 ▸ hp⟩))
    rintro n s' ⟨j, b, vv, st, rfl, V, q1, q2, q3, q4⟩
    refine V.test hI RM' EO (.bin .band (.var "b") (.int 64)) g5 (b := decide (Builtin.bitAnd b 64 ≠ 0)) (evalT_bin (eval_var q2) eval_int rfl rfl) fun s4' V4 => ?_
    by_cases hc : Builtin.bitAnd b 64 ≠ 0
    · have q4 : pvI vv (is.drop j) = some (v, rest) := (if_pos hc).symm.trans q4
      refine (if_pos (decide_eq_true hc)).mpr ?_
      generalize hd4 : is.drop j = ds at q4 ⊢
      cases ds with
      | nil => cases q4
      | cons b' r' =>
        refine iif q4 fun hbig q4 => (nx hd4).elim fun tb' hb' => ?_
        refine wpAny_execs_cons (V4.exe hI RM' EO (.aug .shl "val" (.int 6)) g6 (st2 := st.set "val" (.int (vv * 2 ^ (6 : Int).toNat))) (exec_aug q3 eval_int rfl (if_pos ⟨hbig, by decide, by decide⟩)) fun s5' V5 => ?_)
        refine wpAny_execs_cons (next_assign EO V5 g1 g7 g8 hI hl hlI (get_off q1) hb' fun s6' V6 => ?_)
        refine wpAny_execs_cons (V6.exe hI RM' EO (.aug .bor "val" (.bin .band (.var "b") (.int 63))) g9 (exec_aug ((get_off get_at)) (evalE_band get_at) rfl rfl) fun s7' V7 => wpAny_execs_nil ?_)
        exact ⟨r'.length, Nat.lt_succ_self _, j + 1, b', _, _, congrArg List.length (drop_get hvs hd4).2.symm, V7, get_off (get_off (get_off q1)), get_off get_at, get_at, (drop_get hvs hd4).2 ▸ q4⟩
    · cases (if_neg hc).symm.trans q4
      refine (if_neg fun h => hc (of_decide_eq_true h)).mpr ?_
      exact wpAny_execs_nil (wpAny_execs_cons (V4.ret hI RM' EO (.ret (.var "val")) g10 (exec_ret (ret_var q3 rfl)) fun s8' t V8 => V8.elim fun O9 h => h.elim fun ρ9 h => hQ _ _ _ rfl h.2.2.2.2.1 h.2.2.2.1 h.2.2.2.2.2))
end
end
section
open PySem PySem.Spec PySem.Calls PySem.W PyProof.Rows
theorem intsOf_map : ∀ {vs : List V} {is : List Int}, intsOf vs = some is → vs = is.map V.int
  | [], _, h => by cases h; rfl
  | v :: vs, _, h => bnd2 h fun i js e1 e2 h => by cases h; rw [intsOf_map e2, gInt_of e1]; rfl
theorem intsOf_of : ∀ is : List Int, intsOf (is.map V.int) = some is
  | [] => rfl
  | i :: is => bs (x := gInt (.int i)) rfl (bs (intsOf_of is) rfl)

section
variable {prog : Program} {w : World} {mg mb : Str → Option Value} {d : Nat} {K : Frag} [TK : TopK K]
theorem pit_ok : PitOk prog w K mg mb (d + 3) := by
  intro vs r h
  obtain ⟨fd, _, _, _, _, _, _, _, _, _, _, _, _, F, _⟩ := TK.pv
  refine ⟨70, TK.glob ("_parse_varint", some (.ref 70)) (gAt 5 rfl), F.fnAt, fun A s a its Q E RM G hp hvs hQ => ?_⟩
  · refine bnd h fun is e h => mpd h fun q e1 h => ?_
    obtain ⟨v, rest⟩ := q
    cases h
    rw [intsOf_map e] at hvs
    have hlI : a ≠ s.heap.objs.size := fun e => by obtain ⟨n, h⟩ := hp; exact absurd (Heap.lt_size h) (by rw [e]; exact Nat.lt_irrefl _)
    refine iter_list hp.isList ⟨keeps_heap (keeps_push _ _), ?_⟩
    have k := keeps_push s { cls := .type "list_iterator", data := .fields #[.ref a, .int 0 0] }
    refine pv_call (i := 0) (l := a) (items := its) (is := is) (h0 := s.heap) (rest := rest) RM (G.keeps (keeps_heap k)) ⟨_, Heap.get?_push_size _ rfl, rfl, rfl⟩ (hp.at fun o e => keeps_heap k _ _ e) hlI (hvs.keeps k) G (fresh_size _) (keeps_heap k) e1 fun s' j t _ hsh hkp _ => ?_
    obtain ⟨h', t', e⟩ := hsh
    subst e
    refine hQ _ _ ⟨h', t', rfl, fun b o e => hkp b (Nat.ne_of_lt (Heap.lt_size e)) o (keeps_heap k _ _ e)⟩ (vr_int _ _ _)
theorem P2ok' : PrimsOk prog w K mg mb (d + 4) P2 := P2ok pit_ok (pit_ok (d := d + 1))
end
end
section
open PySem PySem.Spec PySem.Calls PySem.W PyProof.Rows

/-- a heap without one address -/
noncomputable def erase (h : Heap) (a : Addr) : Heap := ⟨h.objs.setIfInBounds a ⟨.none, none, .freed, #[]⟩, h.life⟩
theorem erase_get (h : Heap) (a b : Addr) : (erase h a).get? b = if b = a then none else h.get? b := by
  unfold erase Heap.get?
  simp only [Array.getElem?_setIfInBounds]
  by_cases hba : b = a
  · subst hba
    rw [if_pos rfl, if_pos rfl]
    by_cases hs : b < h.objs.size
    · rw [if_pos hs]
    · rw [if_neg hs]
  · rw [if_neg (fun e => hba e.symm), if_neg hba]
theorem erase_self (h : Heap) (a : Addr) : (erase h a).get? a = none := by rw [erase_get, if_pos rfl]
theorem erase_le {h : Heap} {a b : Addr} {o : Obj} (e : (erase h a).get? b = some o) : h.get? b = some o := by
  rw [erase_get] at e
  split at e
  · cases e
  · exact e
theorem erase_ne {h : Heap} {a b : Addr} (hb : b ≠ a) : (erase h a).get? b = h.get? b := by rw [erase_get, if_neg hb]
theorem erase_none {h : Heap} {a b : Addr} (e : h.get? b = none) : (erase h a).get? b = none := by
  rw [erase_get]
  split <;> first | rfl | exact e

section
variable {prog : Program} {w : World} {mg mb : Str → Option Value} {d : Nat} {K : Frag} [TK : TopK K]

theorem pv_stop {A : Around} {s : Shared} {I l : Addr} {i : Nat} {items : Array Value} {outer : List Env} {base : Heap} {Q : Value → Shared → Prop} {E : Value → Shared → Prop} (RM : Room (d + 3) A) (G : Gr K mg mb s.heap)
    (hit : s.heap.IsListIter I l i) (hl : s.heap.PlainList l items) (hlI : l ≠ I) (hx : items[i]? = none) (hfr : A.frames = some outer) (hFF : s.heap.FunFrames base outer) (hst : base.StaysIn s.heap) (hbI : base.get? I = none)
    (hE : ∀ s' e a0, (∃ h' t', s' = { s with heap := h', toks := t' }) → base.StaysIn s'.heap → base.get? e = none → s'.heap.FunFrames base outer → s'.heap.TracedW base e (.type "StopIteration") a0 → s.heap.UpToSlots s'.heap → E (.ref e) s') :
    wpAny (model prog w) A (call (.ref 70) [.ref I]) Q E s := by
  obtain ⟨fd, n1, e1, n2, s2, t, s3, n3, e2, n4, s4, n5, s5, F, hpp, g1, g2, g3, g4, g5, g6, g7, g8, g9, g10⟩ := TK.pv
  obtain ⟨_, _, _, rfl, k1, k2⟩ := g2
  have hI := iter_alloc hit
  refine call_enter (vs := [.obj I]) (F.plain hpp) rfl RM G (by simp only [VRs, VR]; exact ⟨_, _, rfl, rfl, rfl⟩) fun env O h₁ t₁ EO RM' R => ?_
  refine wpAny_execs_cons (wpAny_Assign_Name (wpAny_Call_NameR (boot_sound EO.toEnvOk R.rep.gr k1 (by decide) (by decide) (TK.glob ("next", none) (gAt 29 rfl)) boot_next' ?_)) (swap_no g3 _ _ _))
  refine PyProof.Rows.callWith_builtin1 (spliced_more (obj_now EO R k2 (by decide) rfl _ _ _ (spliced_none ?_)) rfl) rfl rfl
  have hl1 : h₁.PlainList l items := hl.at fun o e => R.k0 _ _ e
  refine next_end RM'.hd (hit.at fun o e => R.k0 _ _ e) hl1.isList hx fun h' e oe vs hxt hen he hcls hd h1 => ?_
  have hsz : 0 < vs.size := Nat.lt_of_le_of_lt (Nat.zero_le _) (Array.getElem?_eq_some_iff.mp h1).1
  have hst' : base.StaysIn h' := fun b o hb => hxt b o (fun h => by rw [h, hbI] at hb; cases hb) (R.k0 _ _ (hst b o hb))
  have hbe : base.get? e = none := by
    cases q : base.get? e with
    | none => rfl
    | some o => have := R.k0 _ _ (hst e o q); rw [hen] at this; cases this
  have hup : s.heap.UpToSlots h' := fun b o ho hnf => ⟨o.slots, hxt b o (fun h => by
    obtain ⟨oi, e1, _, e2⟩ := hit
    rw [h, e1] at ho; cases ho
    exact hnf _ e2) (R.k0 _ _ ho)⟩
  have hFF' : h'.FunFrames base outer := hFF.of_keeps fun b o ho hnf => by
    obtain ⟨sl, e⟩ := hup b o ho hnf
    exact ⟨_, e, rfl⟩
  have hOn : ∀ b, O b → base.get? b = none := fun b hb => by
    cases q : base.get? b with
    | none => rfl
    | some o => have := R.o0 b hb; rw [hst b o q] at this; cases this
  obtain ⟨m, hn, _⟩ := R.rep.ns
  have hLI : env.locals ≠ I := fun h => by have := R.o0 _ R.rep.own; rw [h] at this; exact hI.none this
  have hFF2 : h'.FunFrames base (env :: outer) := Heap.FunFrames.cons (by rw [EO.kind]; decide) EO.fr (hn.at' fun o e => hxt _ o hLI e) (hOn _ R.rep.own) hFF'
  refine wpAny_leaving_firstW (Around.frames_deeper hfr) hFF2 EO.fr he hst' hbe hd h1 (Array.getElem?_eq_getElem hsz) fun h2 ⟨q1, q2, q3, q4⟩ => ?_
  rw [hcls] at q3
  exact hE _ e _ ⟨h2, t₁, rfl⟩ q1 hbe q2.2.2 q3 (hup.trans q4)
end
end
section
open PySem PySem.Spec PySem.Calls PySem.W PyProof.Rows

theorem boot_iter' : bootBuiltins (Str.ofString "iter") = some (.builtin "iter") := by decide +kernel
theorem boot_stop : bootBuiltins (Str.ofString "StopIteration") = some (.type "StopIteration") := by decide +kernel
theorem sub_stop_base : isSubtype (.type "StopIteration") (.type "BaseException") = pure true := by rw [isSubtype_type]; kernel_rfl
theorem sub_stop_tup : isSubtype (.type ((Manifest.find? "StopIteration").elim "type" fun x => x.metatype)) (.type "tuple") = pure false := by
  have e : ((Manifest.find? "StopIteration").elim "type" fun x => x.metatype) = "type" := by decide +kernel
  rw [e, isSubtype_type]; kernel_rfl
theorem sub_stop_stop : isSubtype (.type "StopIteration") (.type "StopIteration") = pure true := by rw [isSubtype_type]; kernel_rfl

/-- the numbers in octets -/
inductive Nums : List Int → List Int → Prop where
  | nil : Nums [] []
  | cons {is r vs : List Int} {v : Int} : pvS is = some (v, r) → Nums r vs → Nums is (v :: vs)

section
variable {prog : Program} {w : World} {mg mb : Str → Option Value} {d : Nat} {K : Frag} [TK : TopK K] {h0 : Heap}

/-- a name's value, where its frame stands up to slots -/
theorem name_up {A : Around} {env : Env} {kd : Kd} {K : Frag} {O : Ads} {ρ : List Addr} {st : St} {s s' : Shared} {x : String} {i : Nat} {a : Addr}
    (EO : FEnv env kd) (R : SRep h0 K mg mb env O ρ st s) (ho : isOwn kd (Str.ofString x) = true) (h1 : okName x = true) (hs : st.get x = some (.trk i)) (ha : ρ[i]? = some a) (hup : s.heap.UpToSlots s'.heap) :
    ∀ (pp : Pos) (Q' : Value → Shared → Prop) (E : Value → Shared → Prop), Q' (.ref a) s' → wpAny (model prog w) A (eval (.Name (Str.ofString x) pp) env) Q' E s' := by
  have hk := EO.kk (Str.ofString x)
  intro pp Q' E hq
  refine wpAny_Name ?_ (ofString_beq (okName_ne h1).2.1)
  rcases isOwn_cases ho with hl | hl
  · obtain ⟨m, hnn, hmm⟩ := R.rep.ns
    obtain ⟨val, q1, b, hb, rfl⟩ := hmm x _ (okName_ne h1).1 (hk.trans hl) hs
    rw [ha] at hb; cases hb
    exact wpAny_loadName_local EO.kind (hk.trans hl) (hup.ns hnn) q1 hq
  · obtain ⟨c, v₀, q1, ⟨o, e1, e2⟩, q3⟩ := R.rep.cl x (.inl (hk.trans hl))
    obtain ⟨val, rfl, b, hb, rfl⟩ := q3 _ hs
    rw [ha] at hb; cases hb
    obtain ⟨sl, e3⟩ := hup c o e1 (fun vs e => by rw [e2] at e; cases e)
    exact wpAny_loadName_cell EO.kind (hk.trans hl) q1 ⟨_, e3, e2⟩ hq

theorem pl_alloc {h : Heap} {a : Addr} {its : Array Value} (x : h.PlainList a its) : Alloc h a := x.elim fun _ e => Option.isSome_iff_exists.mpr ⟨_, e⟩
theorem int_scalar {is : List Int} : (is.map V.int).all V.scalar = true := by
  rw [List.all_map]
  exact List.all_eq_true.mpr fun _ _ => rfl

/-- the loop's state in _law_numbers -/
structure NInv (h0 : Heap) (K : Frag) (mg mb : Str → Option Value) (env : Env) (s : Shared) (I l : Addr) (items : Array Value) (j : Nat) (acc : List Int) (O : Ads) (ρ : List Addr) (st : St) (s' : Shared) : Prop where
  R : SRep h0 K mg mb env O ρ st s'
  OI : O I
  nI : ¬ Own env ρ I
  nl : ¬ Own env ρ l
  lI : l ≠ I
  sI : s.heap.get? I = none
  sh : ∃ h' t', s' = { s with heap := h', toks := t' }
  it : s'.heap.IsListIter I l j
  pl : s'.heap.PlainList l items
  oct : st.get "octets" = some (.obj I)
  num : st.get "numbers" = some (.trk 0)
  tr : st.tr[0]? = some (acc.map V.int)
theorem NInv.mv {K : Frag} {env : Env} {s s1 s2 : Shared} {I l : Addr} {items : Array Value} {j : Nat} {acc acc' : List Int} {O O' : Ads} {ρ ρ' : List Addr} {st st' : St}
    (N : NInv h0 K mg mb env s I l items j acc O ρ st s1) (M : Mv env O ρ s1 O' ρ' s2) (R : SRep h0 K mg mb env O' ρ' st' s2) (h1 : st'.get "octets" = some (.obj I)) (h2 : st'.get "numbers" = some (.trk 0)) (h3 : st'.tr[0]? = some (acc'.map V.int)) :
    NInv h0 K mg mb env s I l items j acc' O' ρ' st' s2 := by
  refine ⟨R, M.up _ N.OI, fun h => N.nI (M.own (iter_alloc N.it) h), fun h => N.nl (M.own (pl_alloc N.pl) h), N.lI, N.sI, ?_, N.it.at fun o e => M.keep _ _ N.nI e, N.pl.at fun o e => M.keep _ _ N.nl e, h1, h2, h3⟩
  obtain ⟨h1, t1, e1⟩ := N.sh
  obtain ⟨h2, t2, e2⟩ := M.sh
  exact ⟨h2, t2, by rw [e2, e1]⟩

/-- where StopIteration left _parse_varint -/
structure NStop (h0 : Heap) (K : Frag) (mg mb : Str → Option Value) (env envL : Env) (s : Shared) (I l L : Addr) (items : Array Value) (j : Nat) (acc : List Int) (O' : Ads) (ρ' : List Addr) (st' : St) (D e : Addr) (a0 : Value) (base : Heap) (s6 s7 : Shared) : Prop where
  N : NInv h0 K mg mb env s I l items j acc O' ρ' st' s6
  hD : ρ'[0]? = some D
  st : base.StaysIn s7.heap
  be : base.get? e = none
  sh : ∃ h' t', s7 = { s6 with heap := h', toks := t' }
  eq : ∀ b, b ≠ L → b ≠ env.locals → b ≠ I → base.get? b = s6.heap.get? b
  ff : s7.heap.FunFrames base [env, envL]
  tr : s7.heap.TracedW base e (.type "StopIteration") a0
  up : s6.heap.UpToSlots s7.heap

section
variable {A : Around} {s : Shared} {is nums acc vs' : List Int} {L I l D e : Addr} {env envL : Env} {kd : Kd} {O' : Ads} {ρ' : List Addr} {st' : St} {items : Array Value} {j : Nat} {mL : Str → Option Value} {s5 s6 s7 : Shared} {a0 : Value} {base : Heap}

omit TK in
theorem NInv.own {O' : Ads} (N : NInv h0 K mg mb env s I l items j acc O' ρ' st' s6) (hD : ρ'[0]? = some D) : Own env ρ' D ∧ D ≠ I :=
  have h : Own env ρ' D := .inr (.inl (List.mem_of_getElem? hD))
  ⟨h, fun e => N.nI (e ▸ h)⟩

/-- _parse_varint(octets) in the loop -/
theorem numbers_pv (RM' : Room (d + 3) (A.deeper env)) (hfr : A.frames = some [envL]) (hfL : envL.frame = some L) (hkL : envL.scope.kind = .function) (hnL : s.heap.Ns L mL) (G : Gr K mg mb s.heap) (EO : FEnv env kd)
    {Ov : Ads} {ρv : List Addr} {hv : Heap} (hvs : VRs Ov ρv hv (is.map V.int) items.toList) (N : NInv s.heap K mg mb env s I l items j acc O' ρ' st' s6) (hD : ρ'[0]? = some D) (hN : Nums (is.drop j) vs') (g1 : isOwn kd (Str.ofString "octets") = true) (g8 : isGlob kd (Str.ofString "_parse_varint") = true)
    {p6 p7 p8 : Pos} {Q : Value → Shared → Prop} {E : Value → Shared → Prop}
    (hq1 : ∀ s7 v vs'' j' t, vs' = v :: vs'' → Nums (is.drop j') vs'' → NInv s.heap K mg mb env s I l items j' acc O' ρ' st' s7 → (∀ b, b ≠ I → ∀ o, s6.heap.get? b = some o → s7.heap.get? b = some o) → Q (.int v t) s7)
    (hq2 : ∀ s7 e a0 base, vs' = [] → NStop s.heap K mg mb env envL s I l L items j acc O' ρ' st' D e a0 base s6 s7 → E (.ref e) s7) :
    wpAny (model prog w) (A.deeper env) (eval (.Call (.Name (Str.ofString "_parse_varint") p6) [.Name (Str.ofString "octets") p7] [] p8) env) Q E s6 := by
  have R6 := N.R
  obtain ⟨op, fdp, hop⟩ : ∃ o fd, K.lookup 70 = some o ∧ o.data = .func fd := TK.pv.casesOn fun fd _ _ _ _ _ _ _ _ _ _ _ _ F _ _ _ _ _ _ _ _ _ _ _ => F.at'.elim fun o h => ⟨o, fd, h⟩
  refine wpAny_Call_NameR (glob_sound EO.toEnvOk R6.rep.gr g8 (by decide) (TK.glob ("_parse_varint", some (.ref 70)) (gAt 5 rfl)) ?_)
  refine callWith_def (o := op) hop.2 (spliced_more (obj_now EO R6 g1 (by decide) N.oct _ _ _ (spliced_none ⟨R6.rep.gr.k _ _ hop.1, ?_⟩)) rfl) rfl
  generalize hdj : is.drop j = rr at hN
  cases hN with
  | nil =>
    have hlen : items.size = is.length := by have := hvs.length; rwa [List.length_map, Array.length_toList] at this
    have hFF : s6.heap.FunFrames (erase (erase (erase s6.heap L) env.locals) I) [env, envL] := R6.rep.ns.elim fun mN hnN =>
      Heap.FunFrames.cons (by rw [EO.kind]; decide) EO.fr hnN.1 (erase_none (erase_self _ _)) (Heap.FunFrames.cons (by rw [hkL]; decide) hfL (hnL.at' fun o e => R6.k0 _ _ e) (erase_none (erase_none (erase_self _ _))) trivial)
    exact pv_stop (base := erase (erase (erase s6.heap L) env.locals) I) RM' R6.rep.gr N.it N.pl N.lI (Array.getElem?_eq_none_iff.mpr (hlen ▸ List.drop_eq_nil_iff.mp hdj)) (Around.frames_deeper hfr) hFF (fun b o e => erase_le (erase_le (erase_le e))) (erase_self _ _) fun s7 e a0 hsh hst hbe hFF7 hTr hup =>
      hq2 s7 e a0 _ rfl ⟨N, hD, hst, hbe, hsh, fun b h1 h2 h3 => (erase_ne h3).trans ((erase_ne h2).trans (erase_ne h1)), hFF7, hTr, hup⟩
  | cons hpv hN' =>
    refine pv_call (h0 := s.heap) RM' R6.rep.gr N.it N.pl N.lI (vrs_scalar int_scalar hvs) G N.sI R6.k0 (hdj ▸ hpv) fun s7 j' t hr hsh hk hit7 => hq1 s7 _ _ j' t rfl (hr ▸ hN') ?_ hk
    obtain ⟨h7, t7, rfl⟩ := hsh
    exact ⟨R6.off (t := t7) N.OI N.nI (fun b o hb e => hk b hb o e) (iter_alloc hit7), N.OI, N.nI, N.nl, N.lI, N.sI, N.sh.elim fun h6 h => h.elim fun t6 e6 => ⟨h7, t7, e6 ▸ rfl⟩, hit7, N.pl.at fun o e => hk _ N.lI _ e, N.oct, N.num, N.tr⟩

/-- numbers.append(_parse_varint(octets)), and what may come of it -/
theorem numbers_append (RM' : Room (d + 3) (A.deeper env)) (hfr : A.frames = some [envL]) (hfL : envL.frame = some L) (hkL : envL.scope.kind = .function) (hnL : s.heap.Ns L mL) (G : Gr K mg mb s.heap) (EO : FEnv env kd)
    {Ov : Ads} {ρv : List Addr} {hv : Heap} (hvs : VRs Ov ρv hv (is.map V.int) items.toList) (N : NInv s.heap K mg mb env s I l items j acc O' ρ' st' s5) (hN : Nums (is.drop j) vs') (hal : acc.length < 5) (g1 : isOwn kd (Str.ofString "octets") = true) (g6 : isOwn kd (Str.ofString "numbers") = true) (g8 : isGlob kd (Str.ofString "_parse_varint") = true)
    {p5 ap p6 p7 p8 p9 p10 : Pos} (g7 : ap.endLine = p9.line) {Q : Flow → Shared → Prop} {E : Value → Shared → Prop}
    (hq1 : ∀ s6 O6 ρ6 st6 v vs'' j', vs' = v :: vs'' → Nums (is.drop j') vs'' → NInv s.heap K mg mb env s I l items j' (acc ++ [v]) O6 ρ6 st6 s6 → Q .next s6)
    (hq2 : ∀ s6 s7 D e a0 base, vs' = [] → NStop s.heap K mg mb env envL s I l L items j acc O' ρ' st' D e a0 base s6 s7 → E (.ref e) s7) :
    wpAny (model prog w) (A.deeper env) (exec (.Expr (.Call (.Attribute (.Name (Str.ofString "numbers") p5) (Str.ofString "append") ap) [.Call (.Name (Str.ofString "_parse_varint") p6) [.Name (Str.ofString "octets") p7] [] p8] [] p9) p10) env) Q E s5 := by
  refine wpAny_Expr_any (wpAny_Call_append rfl rfl (beq_iff_eq.mpr g7) rfl (var_sound EO.toEnvOk N.R.rep (isOwn_isVar g6) (by decide) N.num fun s6 va k6 ha => ?_)) (interactive_no EO.kind) rfl
  obtain ⟨D, hD, rfl⟩ := ha
  have N6 := N.mv (.of_keeps (env := env) (O := O') (ρ := ρ') k6) (N.R.keeps k6) N.oct N.num N.tr
  refine (N6.R.rep.trk 0 D _ hD N6.tr).elim fun its d => ⟨D, its, rfl, d.1.elim fun n e => ⟨_, n, e, rfl, rfl, rfl⟩, ?_⟩
  refine numbers_pv RM' hfr hfL hkL hnL G EO hvs N6 hD hN g1 g8 (fun s7 v vs'' j' t hv hN' N7 hk => ?_) fun s7 e a0 base hv X => hq2 s6 s7 D e a0 base hv X
  have hO := N6.own hD
  have hsize : its.size ≤ 5 := by
    have h := d.2.length
    rw [List.length_map, Array.length_toList] at h
    exact h ▸ Nat.le_of_lt hal
  refine wpAny_list_append_plain (d.1.at fun o e => hk _ hO.2 _ e) (fun h' hp' hs' => ?_) (by rw [sizeLine_eq]; omega)
  have M8 : Mv env O' ρ' s7 O' ρ' { s7 with heap := h', toks := s7.toks } := Mv.at hO.1 (pl_alloc hp') hs'
  have R8 := N7.R.turn (vs := (acc ++ [v]).map V.int) M8 (fun b hb o e => (hs'.2 b hb).trans e) hD hp' (by
    rw [Array.toList_push, List.map_append]
    exact VRs.append (vrs_scalar int_scalar d.2) (VRs.single (vr_int _ _ _)))
  exact hq1 _ O' ρ' _ v vs'' j' hv hN' (N7.mv M8 R8 N6.oct N6.num (List.getElem?_set_self (List.getElem?_eq_some_iff.mp N6.tr).1))

omit TK in
theorem NStop.stay (X : NStop s.heap K mg mb env envL s I l L items j acc O' ρ' st' D e a0 base s6 s7) (hsN : s.heap.get? env.locals = none) (b : Addr) (o : Obj) (hb : b ≠ L) (h : s.heap.get? b = some o) : base.get? b = some o :=
  (X.eq b hb (fun e => not_none hsN (e ▸ h)) (fun e => not_none X.N.sI (e ▸ h))).trans (X.N.R.k0 _ _ h)

omit TK in
theorem NStop.done (X : NStop s.heap K mg mb env envL s I l L items j acc O' ρ' st' D e a0 base s6 s7) (hnL : s.heap.Ns L mL) (hsN : s.heap.get? env.locals = none) {h' : Heap} (hst : base.StaysIn h') (up : s6.heap.UpToSlots h') {Q : Value → Shared → Prop}
    (hQ : ∀ s' D its, (∃ h' t', s' = { s with heap := h', toks := t' }) → (∀ b, b ≠ L → ∀ o, s.heap.get? b = some o → s'.heap.get? b = some o) → (∀ o, s.heap.get? L = some o → ∃ sl, s'.heap.get? L = some { o with slots := sl }) →
      s.heap.get? D = none → s'.heap.PlainList D its → VRs (fun _ => False) [] s'.heap (acc.map V.int) its.toList → Q (.ref D) s') : Q (.ref D) { s7 with heap := h' } := by
  have hO := X.N.own X.hD
  have hsD : s.heap.get? D = none := X.N.R.o0 _ (X.N.R.rep.ownR hO.1)
  obtain ⟨its, d1, d2⟩ := X.N.R.rep.trk 0 D _ X.hD X.N.tr
  obtain ⟨oL, es, ep, e1, e2, _⟩ := hnL
  have hDN : D ≠ env.locals := fun h => X.N.R.rep.ns.elim fun m hn => ns_list hn.1 (h ▸ d1)
  refine hQ _ D its ?_ (fun b hb o e => hst _ _ (X.stay hsN b o hb e)) (fun o e => ?_) hsD (d1.at fun o e => hst _ _ ((X.eq D (fun h => not_none hsD (h ▸ e1)) hDN hO.2).trans e)) (vrs_scalar int_scalar d2)
  · obtain ⟨h6, t6, e6⟩ := X.N.sh
    obtain ⟨h7, t7, e7⟩ := X.sh
    exact ⟨h', t7, by rw [e7, e6]⟩
  · exact up _ _ (X.N.R.k0 _ _ e) fun vs h => by cases e.symm.trans e1; rw [e2] at h; cases h
end

/-- the loop's invariant -/
noncomputable def NTurn (h0 : Heap) (K : Frag) (mg mb : Str → Option Value) (env : Env) (s : Shared) (I l : Addr) (items : Array Value) (is nums : List Int) (n : Nat) (s' : Shared) : Prop :=
  ∃ j acc vs' O' ρ' st', n = vs'.length ∧ NInv h0 K mg mb env s I l items j acc O' ρ' st' s' ∧ Nums (is.drop j) vs' ∧ acc ++ vs' = nums

theorem numbers_call {A : Around} {s : Shared} {T : Value} {vs : V} {is nums : List Int} {L : Addr} {envL : Env} {Q : Value → Shared → Prop} {E : Value → Shared → Prop} (RM : Room (d + 4) A)
    (hfr : A.frames = some [envL]) (hfL : envL.frame = some L) (hkL : envL.scope.kind = .function) {mL : Str → Option Value} (hnL : s.heap.Ns L mL) (G0 : Gr K mg mb h0) (h0L : h0.get? L = none) (k0 : ∀ b o, h0.get? b = some o → s.heap.get? b = some o)
    (hvals : VR (fun _ => False) [] s.heap vs T) (hev : evalE P00 numE { locs := [("texts", vs)], tr := [] } = some (.lst (is.map V.int))) (hnums : Nums is nums) (h5 : nums.length < 5)
    (hQ : ∀ s' D its, (∃ h' t', s' = { s with heap := h', toks := t' }) → (∀ b, b ≠ L → ∀ o, s.heap.get? b = some o → s'.heap.get? b = some o) → (∀ o, s.heap.get? L = some o → ∃ sl, s'.heap.get? L = some { o with slots := sl }) →
      s.heap.get? D = none → s'.heap.PlainList D its → VRs (fun _ => False) [] s'.heap (nums.map V.int) its.toList → Q (.ref D) s') :
    wpAny (model prog w) A (call (.ref 322) [T]) Q E s := by
  have G : Gr K mg mb s.heap := G0.keeps k0
  obtain ⟨fd, n1, n2, e1, n3, n4, s2, t, n5, ap, n6, n7, n8, n9, n10, n11, n12, n13, n14, n15, n16, slast, F, hpp, g1, g2, g3, g4, g5, g6, g7, g8, g9⟩ := TK.num
  refine call_enter (vs := [vs]) (F.plain hpp) rfl RM G (vrs_cons hvals vrs_nil) fun env O h₁ t₁ EO RM' R => ?_
  -- octets = iter([…])
  refine wpAny_execs_cons (wpAny_Assign_Name (wpAny_Call_NameR (boot_sound EO.toEnvOk R.rep.gr g2 (by decide) (by decide) (TK.glob ("iter", none) (gAt 30 rfl)) boot_iter' ?_)) (swap_no rfl _ _ _))
  refine PyProof.Rows.callWith_builtin1 (spliced_more (evalE_sound P00ok numE RM' EO.toEnvOk g3 hev R.rep fun s₁ va k₁ ha => spliced_none ?_) (star_of (match_notStar g3))) (star_of (match_notStar g3)) rfl
  refine ha.lst_elim fun l items hlO hpl hvs => iter_list hpl.isList ?_
  have R1 := R.keeps k₁
  have ki := keeps_push s₁ { cls := .type "list_iterator", data := .fields #[.ref l, .int 0 0] }
  have hit0 : (s₁.heap.push { cls := .type "list_iterator", data := .fields #[.ref l, .int 0 0] }).IsListIter s₁.heap.objs.size l 0 := ⟨_, Heap.get?_push_size _ rfl, rfl, rfl⟩
  have hfresh : s₁.heap.get? s₁.heap.objs.size = none := fresh_size _
  revert ki hit0 hfresh
  generalize s₁.heap.push { cls := .type "list_iterator", data := .fields #[.ref l, .int 0 0] } = hi
  generalize s₁.heap.objs.size = I
  intro ki hit0 hfresh
  have W := R1.wide ki hfresh (iter_alloc hit0)
  refine store_sound (v := .obj I) EO W.2 g1 (rfl : Value.ref I = .ref I) fun s₃ M3 R3 => ?_
  -- numbers = []
  refine wpAny_execs_cons (asg_nil P00ok RM' EO R3 g4 fun s₄ O₄ ρ₄ M4 R4 => ?_)
  have M34 := M3.trans M4
  have hnI : ¬ Own env [] I := fun h => (R1.rep.al _ (R1.rep.ownR h)).none hfresh
  have hnl : ¬ Own env [] l := fun h => hlO (R.rep.ownR h)
  have hlA := pl_alloc hpl
  have N4 : NInv s.heap K mg mb env s I l items 0 [] O₄ ρ₄ _ s₄ := ⟨R4, M34.up _ (.inr rfl), fun h => hnI (M34.own (iter_alloc hit0) h), fun h => hnl (M34.own (W.1.alive l hlA) h), fun e => (e ▸ hlA : Alloc _ I).none hfresh, get_none R1.k0 hfresh,
    k₁.elim fun h1 h => h.elim fun t1 e1 => M34.sh.elim fun h2 h => h.elim fun t2 e2 => ⟨h2, t2, by rw [e2, e1.1]⟩, hit0.at fun o e => M34.keep _ _ hnI e, (hpl.at fun o e => keeps_heap ki _ _ e).at fun o e => M34.keep _ _ hnl e, rfl, rfl, rfl⟩
  have hsN : s.heap.get? env.locals = none := R.o0 _ R.rep.own
  -- the loop
  refine wpAny_execs_cons (wpAny_While (codeAny_whileLoop (NTurn s.heap K mg mb env s I l items is nums) ?_ _ ⟨0, [], nums, _, _, _, rfl, N4, hnums, rfl⟩))
  clear N4 hlA hnl hnI M34 R4 M4 R3 M3 W hfresh hit0 ki R1 k₁ R
  rintro n s' ⟨j, acc, vs', O', ρ', st', rfl, N, hN, hacc⟩
  have hal : acc.length < 5 := Nat.lt_of_le_of_lt (by rw [← hacc, List.length_append]; exact Nat.le_add_right _ _) h5
  have hT : evalT P00 numT st' = some true :=
    evalT_cmp (eval_b1 (eval_var N.num) (bs (x := lview st' (.trk 0)) N.tr (if_pos (show (acc.map V.int).length ≤ big from by rw [List.length_map, big_eq]; omega)))) eval_int
      (congrArg some (decide_eq_true (show ((acc.map V.int).length : Int) < 5 from by rw [List.length_map]; omega)))
  refine evalT_sound P00ok numT RM' EO.toEnvOk g5 hT N.R.rep fun s5 k5 => (if_pos rfl).mpr ?_
  have N5 := N.mv (.of_keeps (env := env) (O := O') (ρ := ρ') k5) (N.R.keeps k5) N.oct N.num N.tr
  refine wpAny_execs_cons (wpAny_Try_except (wpAny_execs_cons (numbers_append RM' hfr hfL hkL hnL G EO hvs N5 hN hal g1 g6 g8 g7 (fun s6 O6 ρ6 st6 v vs'' j' hvs' hN' N6 => wpAny_execs_nil (wpAny_execs_nil (wpAny_execs_nil ?_))) fun s6 s7 D e a0 base hv X => ?_)))
  · exact ⟨vs''.length, hvs' ▸ Nat.lt_succ_self _, j', acc ++ [v], vs'', O6, ρ6, st6, rfl, N6, hN', by rw [List.append_assoc, ← hacc, hvs']; rfl⟩
  · subst hv
    have hacc : acc = nums := (List.append_nil _).symm.trans hacc
    subst hacc
    refine wpAny_noteFrame_onW (Around.frames_deeper hfr) X.ff EO.fr X.tr X.st X.be fun h8 q8 => wpAny_setFlight_noneW q8.1 q8.2.1 q8.2.2.1 fun h9 st9 ff9 tr9 up9 => ?_
    have G9 : Gr K mg mb h9 := G0.keeps fun b o e => st9 _ _ (X.stay hsN b o (fun h => not_none h0L (h ▸ e)) (k0 _ _ e))
    refine wpAny_handleBy_builtin (X := "StopIteration") (T := "StopIteration") (b := true) sub_stop_base sub_stop_tup sub_stop_stop (boot_sound EO.toEnvOk G9 g9 (by decide) (by decide) (TK.glob ("StopIteration", none) (gAt 31 rfl)) boot_stop ⟨rfl, tr9.at.there, ?_⟩)
    refine (if_pos rfl).mpr (wpAny_setFlight_noneW st9 ff9 tr9.at fun h10 st10 ff10 tr10 up10 => ?_)
    have up : s6.heap.UpToSlots h10 := ((X.up.trans q8.2.2.2).trans fun b o e hn => ⟨o.slots, up9 b o e hn⟩).trans fun b o e hn => ⟨o.slots, up10 b o e hn⟩
    exact wpAny_execs_cons (wpAny_Return_some (name_up EO X.N.R g6 (by decide) X.N.num X.hD up _ _ _ (X.done hnL hsN st10 up hQ)))
end
end
section
open PySem PySem.Spec PySem.Calls PySem.W PyProof.Rows

theorem get_set (st : St) (x : String) (v : V) (y : String) : (st.set x v).get y = if y = x then some v else st.get y := getL_setL _ _ _ _
theorem get_cons (x : String) (v : V) (l : List (String × V)) (tr : List (List V)) (y : String) : St.get { locs := (x, v) :: l, tr := tr } y = if x = y then some v else St.get { locs := l, tr := tr } y := rfl
theorem set_tr (st : St) (x : String) (v : V) : (st.set x v).tr = st.tr := rfl
theorem get_eta (st : St) (tr : List (List V)) (y : String) : St.get { locs := st.locs, tr := tr } y = st.get y := rfl
theorem get_comp (st : St) (x : String) (v : V) (y : String) : St.get { locs := (x, v) :: st.locs, tr := st.tr } y = if x = y then some v else st.get y := rfl

theorem get_eq {st : St} {x : String} {v : V} : (st.set x v).get x = some v := (get_set st x v x).trans (if_pos rfl)
theorem get_ne {st : St} {x y : String} {v : V} {r : Option V} (h : st.get y = r) (hne : y ≠ x := by decide) : (st.set x v).get y = r := ((get_set st x v y).trans (if_neg hne)).trans h
theorem range_get {n j : Nat} {f : Nat → V} {v : V} (h : ((List.range n).map f)[j]? = some v) : j < n ∧ v = f j := by
  rw [List.getElem?_map] at h
  refine mpd h fun i e h => ?_
  have hj := (List.getElem?_eq_some_iff.mp e).1
  rw [List.length_range] at hj
  rw [List.getElem?_range hj] at e
  cases e
  exact ⟨hj, h.symm⟩
theorem eval_drop {P : Prims} {a b : PE} {st : St} {v w r : V} (h1 : evalE P a st = some v) (h2 : evalE P b st = some w) (h3 : dropV v w = some r) : evalE P (.drop a b) st = some r := bs h1 (bs h2 h3)
theorem eval_take {P : Prims} {a b : PE} {st : St} {v w r : V} (h1 : evalE P a st = some v) (h2 : evalE P b st = some w) (h3 : takeV st v w = some r) : evalE P (.take a b) st = some r := bs h1 (bs h2 h3)
theorem compGo_map' {α : Type} {f : V → Option (Option V)} {k : α → V} {g : α → V} : ∀ {vs : List α}, (∀ v ∈ vs, f (k v) = some (some (g v))) → compGo f (vs.map k) = some (vs.map g)
  | [], _ => rfl
  | v :: vs, h => by
    show (f (k v)).bind (fun r => (compGo f (vs.map k)).bind _) = _
    rw [h v List.mem_cons_self, compGo_map' fun u hu => h u (List.mem_cons_of_mem _ hu)]
    rfl
theorem compGo_map {f : V → Option (Option V)} {g : V → V} {vs : List V} (h : ∀ v ∈ vs, f v = some (some (g v))) : compGo f vs = some (vs.map g) := (congrArg (compGo f) (List.map_id vs).symm).trans (compGo_map' h)
/-- an element without a test -/
theorem comp_elt {P : Prims} {elt : PE} {x : String} {v r : V} {st : St} (h : evalE P elt (inner x v st) = some r) : ((evalAnd P [] (inner x v st)).bind fun c => cond c ((evalE P elt (inner x v st)).map some) (some none)) = some (some r) := by
  show (evalE P elt (inner x v st)).map some = _
  rw [h]; rfl
theorem eval_comp0 {P : Prims} {elt it : PE} {x : String} {st : St} {v : V} {vs ys : List V} (h1 : evalE P it st = some v) (h2 : itemsOf st v = some vs) (h3 : vs.length ≤ big)
    (h4 : compGo (fun v => (evalAnd P [] (inner x v st)).bind fun c => cond c ((evalE P elt (inner x v st)).map some) (some none)) vs = some ys) : evalE P (.comp elt x it []) st = some (.lst ys) := by
  show (evalE P it st).bind _ = _
  rw [h1]
  show (itemsOf st v).bind _ = _
  rw [h2]
  refine (if_pos h3).trans ?_
  rw [h4]; rfl

/-- a loop that runs to its end -/
theorem forGo_cons {f : V → St → Option (Fl × St)} {e : St → Option (Fl × St)} {v : V} {vs : List V} {st st1 : St} (h : f v st = some (.next, st1)) : forGo f e (v :: vs) st = forGo f e vs st1 := by
  show (f v st).bind _ = _
  rw [h]; rfl
theorem forGo_next {f : V → St → Option (Fl × St)} (e : St → Option (Fl × St)) (I : Nat → St → Prop) : ∀ (vs : List V) (k : Nat) (st : St), I k st → (∀ j v st, vs[j]? = some v → I (k + j) st → ∃ st', f v st = some (.next, st') ∧ I (k + j + 1) st') →
    ∃ st', I (k + vs.length) st' ∧ forGo f e vs st = e st'
  | [], k, st, h, _ => ⟨st, h, rfl⟩
  | v :: vs, k, st, h, hs => by
    obtain ⟨st1, e1, h1⟩ := hs 0 v st rfl h
    obtain ⟨st2, h2, e2⟩ := forGo_next e I vs (k + 1) st1 h1 fun j u st' hu hI => by
      have := hs (j + 1) u st' hu (Nat.add_right_comm k j 1 ▸ hI)
      rw [Nat.add_right_comm k 1 j]
      exact this
    exact ⟨st2, Nat.add_right_comm k 1 vs.length ▸ h2, (forGo_cons e1).trans e2⟩

theorem execL_append {P : Prims} : ∀ {a b : List PS} {st : St}, execL P (a ++ b) st = (execL P a st).bind fun r => onFl r (fun st' => execL P b st') (fun st' => some (.brk, st')) fun v st' => some (.ret v, st')
  | [], _, _ => rfl
  | p :: a, b, st => by
    show (execS P p st).bind _ = ((execS P p st).bind _).bind _
    cases execS P p st with
    | none => rfl
    | some r => exact fl_cases r (fun st' => execL_append) (fun _ => rfl) (fun _ _ => rfl)

theorem run_of {P : Prims} {xs : List String} {ps : List PS} {vs : List V} {r : V} {st' : St} (h : vs.length = xs.length) (e : execL P ps { locs := xs.zip vs, tr := [] } = some (.ret r, st')) : run P xs ps vs = some r := (if_pos h).trans (bs e rfl)
theorem fn1_of {f : String} {a : Addr} {xs : List String} {ps : List PS} (h : lvl1.lookup f = some (a, xs, ps)) (vs : List V) : fn1 f vs = run P00 xs ps vs := by
  unfold fn1
  rw [h]
theorem fn1_add (vs : List V) : fn1 "add" vs = run P00 ["a", "b"] p_add vs := fn1_of (a := 77) rfl vs
theorem fn1_floordiv (vs : List V) : fn1 "floordiv" vs = run P00 ["a", "b"] p_floordiv vs := fn1_of (a := 84) rfl vs
theorem fn1_lshift (vs : List V) : fn1 "lshift" vs = run P00 ["a", "b"] p_lshift vs := fn1_of (a := 91) rfl vs
theorem fn1_mod (vs : List V) : fn1 "mod" vs = run P00 ["a", "b"] p_mod vs := fn1_of (a := 98) rfl vs
theorem fn1_mul (vs : List V) : fn1 "mul" vs = run P00 ["a", "b"] p_mul vs := fn1_of (a := 105) rfl vs
theorem fn1_sub (vs : List V) : fn1 "sub" vs = run P00 ["a", "b"] p_sub vs := fn1_of (a := 112) rfl vs
theorem fn1_pretty (vs : List V) : fn1 "pretty_flags" vs = run P00 ["flags"] p_pretty_flags vs := fn1_of (a := 63) rfl vs
theorem fn1_pieces (vs : List V) : fn1 "_law_pieces" vs = run P00 ["script"] p_law_pieces vs := fn1_of (a := 265) rfl vs
theorem fn1_sent (vs : List V) : fn1 "_law_sent" vs = run P00 ["piece"] p_law_sent vs := fn1_of (a := 272) rfl vs
theorem fn1_cut (vs : List V) : fn1 "_law_cut" vs = run P00 ["piece", "other"] p_law_cut vs := fn1_of (a := 279) rfl vs
theorem fn1_mail (vs : List V) : fn1 "_law_mail" vs = run P00 ["chosen", "alone", "cuts"] p_law_mail vs := fn1_of (a := 284) rfl vs
theorem fn1_share (vs : List V) : fn1 "_law_share" vs = run P00 ["one", "chosen", "own", "cuts"] p_law_share vs := fn1_of (a := 291) rfl vs
theorem fn1_codes (vs : List V) : fn1 "_law_codes" vs = run P00 ["text"] p_law_codes vs := fn1_of (a := 296) rfl vs
theorem fn1_numeral (vs : List V) : fn1 "_law_numeral" vs = run P00 ["number"] p_law_numeral vs := fn1_of (a := 303) rfl vs
theorem fn1_sixteens (vs : List V) : fn1 "_law_sixteens" vs = run P00 ["number"] p_law_sixteens vs := fn1_of (a := 310) rfl vs
theorem fn1_quoted (x : List Nat) (h : x.length ≤ 30000) : fn1 "quotedata" [.str x] = some (.str (sent x)) := by
  have e : lvl1.lookup "quotedata" = none := rfl
  unfold fn1
  rw [e]
  exact if_pos h

theorem run_bin {o : BO} {a b : Int} {v : V} (h : ∀ st, binV st o (.int a) (.int b) = some v) (hv : v.scalar = true) : run P00 ["a", "b"] [.ret (.bin o (.var "a") (.var "b"))] [.int a, .int b] = some v :=
  run_of rfl (execL_ret (bs (eval_bin (v := .int a) (w := .int b) rfl rfl (h _)) (by cases v <;> first | rfl | cases hv)))
theorem run_add (a b : Int) : fn1 "add" [.int a, .int b] = some (.int (a + b)) := (fn1_add _).trans (run_bin (fun _ => rfl) rfl)
theorem run_sub (a b : Int) : fn1 "sub" [.int a, .int b] = some (.int (a - b)) := (fn1_sub _).trans (run_bin (fun _ => rfl) rfl)
theorem run_mul (a b : Int) (h : a.natAbs ≤ big * big ∨ b.natAbs ≤ big * big) : fn1 "mul" [.int a, .int b] = some (.int (a * b)) := (fn1_mul _).trans (run_bin (fun _ => if_pos h) rfl)
theorem run_mod (a b : Int) (h : 0 < b ∧ b ≤ big) : fn1 "mod" [.int a, .int b] = some (.int (a % b)) := (fn1_mod _).trans (run_bin (fun _ => if_pos h) rfl)
theorem run_floordiv (a b : Int) (h : 0 < b ∧ b ≤ big) : fn1 "floordiv" [.int a, .int b] = some (.int (a / b)) := (fn1_floordiv _).trans (run_bin (fun _ => if_pos h) rfl)
theorem run_lshift (a b : Int) (h : a.natAbs ≤ big * big ∧ 0 ≤ b ∧ b ≤ 100) : fn1 "lshift" [.int a, .int b] = some (.int (a * 2 ^ b.toNat)) := (fn1_lshift _).trans (run_bin (fun _ => if_pos h) rfl)

/-- the sum of a text's codes -/
noncomputable def codes (x : List Nat) : Int := (x.map fun c : Nat => (c : Int)).sum
theorem intsOf_codes : ∀ x : List Nat, intsOf (x.map fun c : Nat => V.int (c : Int)) = some (x.map fun c : Nat => (c : Int))
  | [] => rfl
  | c :: x => bs (x := gInt (.int (c : Int))) rfl (bs (intsOf_codes x) rfl)
/-- [ord(sign) for sign in …] -/
theorem eval_ords {P : Prims} {e : PE} {st : St} {x : List Nat} (he : evalE P e st = some (.str x)) (h : x.length ≤ big) : evalE P (.comp (.b1 .ord (.var "sign")) "sign" e []) st = some (.lst (x.map fun c : Nat => V.int (c : Int))) :=
  eval_comp0 he rfl (by rw [List.length_map]; exact h) (compGo_map' (g := fun c : Nat => V.int (c : Int)) fun c _ => rfl)
theorem b1_sum {st : St} {vs : List V} {is : List Int} (h : intsOf vs = some is) : b1V st .sum (.lst vs) = some (.int is.sum) := by
  show (intsOf vs).bind _ = _
  rw [h]; rfl
theorem b1_len {st : St} {vs : List V} (h : vs.length ≤ big) : b1V st .len (.lst vs) = some (.int vs.length) := by
  show (if vs.length ≤ big then some _ else none) = _
  exact if_pos h
theorem run_codes {x : List Nat} (h : x.length ≤ big) : fn1 "_law_codes" [.str x] = some (.int (codes x)) :=
  (fn1_codes _).trans (run_of rfl (execL_ret (bs (eval_b1 (eval_ords (x := x) rfl h) (b1_sum (intsOf_codes x))) rfl)))
end
section
open PySem PySem.Spec PySem.Calls PySem.W PyProof.Rows

theorem cmp_eq_str {st : St} {a b : List Nat} : cmpV st .eq (.str a) (.str b) = some (decide (a = b)) := rfl
theorem cmp_ne_str {st : St} {a b : List Nat} : cmpV st .ne (.str a) (.str b) = some (!decide (a = b)) := rfl
theorem cmp_eq_int {st : St} {a b : Int} : cmpV st .eq (.int a) (.int b) = some (decide (a = b)) := rfl
theorem cmp_ne_int {st : St} {a b : Int} : cmpV st .ne (.int a) (.int b) = some (!decide (a = b)) := rfl
theorem cmp_inn {st : St} {c : Nat} {b : List Nat} : cmpV st .inn (.str [c]) (.str b) = some (decide (c ∈ b)) := rfl
theorem cmp_nin {st : St} {c : Nat} {b : List Nat} : cmpV st .nin (.str [c]) (.str b) = some (!decide (c ∈ b)) := rfl
theorem cmp_lt {st : St} {a b : Int} : cmpV st .lt (.int a) (.int b) = some (decide (a < b)) := rfl
theorem cmp_gt {st : St} {a b : Int} : cmpV st .gt (.int a) (.int b) = some (decide (b < a)) := rfl
theorem add_str {st : St} {a b : List Nat} (h : a.length + b.length ≤ big) : binV st .add (.str a) (.str b) = some (.str (a ++ b)) := if_pos h

noncomputable def tok (b c : Nat) : List Nat := if c = 46 ∧ (b = 13 ∨ b = 10) then [46, 46] else if c = 13 ∨ (c = 10 ∧ b ≠ 13) then [13, 10] else if c ≠ 10 then [c] else []
theorem sentGo_cons (b c : Nat) (r : List Nat) : sentGo b (c :: r) = tok b c ++ sentGo c r := rfl
theorem tok_len (b c : Nat) : (tok b c).length ≤ 2 := by
  unfold tok
  split
  · exact Nat.le_refl _
  · split
    · exact Nat.le_refl _
    · split
      · exact Nat.le_succ 1
      · exact Nat.zero_le 2

noncomputable def sentBody : List PS := [
    .ite (.and [(.cmp .eq (.var "sign") (.str [46])), (.cmp .inn (.var "before") (.str [13, 10]))]) [
      .asg "told" (.bin .add (.var "told") (.str [46, 46]))] [
      .ite (.or [(.cmp .eq (.var "sign") (.str [13])), (.and [(.cmp .eq (.var "sign") (.str [10])), (.cmp .ne (.var "before") (.str [13]))])]) [
        .asg "told" (.bin .add (.var "told") (.str [13, 10]))] [
        .ite (.cmp .ne (.var "sign") (.str [10])) [
          .asg "told" (.bin .add (.var "told") (.var "sign"))] []]],
    .asg "before" (.var "sign")]

/-- what the tests of sent's loop say -/
noncomputable def tokB (p q r : Bool) (c : Nat) : List Nat := cond p [46, 46] (cond q [13, 10] (cond r [c] []))
theorem tokB_eq (b c : Nat) : tokB (decide (c = 46) && decide (b ∈ [13, 10])) (decide (c = 13) || (decide (c = 10) && !decide (b = 13))) (!decide (c = 10)) c = tok b c := by
  unfold tokB tok
  have hin : decide (b ∈ [13, 10]) = decide (b = 13 ∨ b = 10) := decide_eq_decide.mpr (by rw [List.mem_cons, List.mem_singleton])
  rw [hin]
  by_cases h46 : c = 46
  · subst h46
    by_cases hb : b = 13 ∨ b = 10
    · rw [if_pos ⟨rfl, hb⟩, decide_eq_true hb]; rfl
    · rw [if_neg fun h => hb h.2, decide_eq_false hb]; rfl
  · rw [if_neg fun h => h46 h.1, decide_eq_false h46]
    by_cases h13 : c = 13
    · subst h13; rfl
    · by_cases h10 : c = 10
      · subst h10
        by_cases hb : b = 13
        · subst hb; rfl
        · rw [if_pos (.inr ⟨rfl, hb⟩), decide_eq_false hb]; rfl
      · rw [if_neg (fun h => h.elim h13 fun h => h10 h.1), if_pos h10, decide_eq_false h13, decide_eq_false h10]; rfl
theorem sent_step {c b : Nat} {t : List Nat} {st : St} (h1 : st.get "told" = some (.str t)) (h2 : st.get "before" = some (.str [b])) (h3 : t.length + 2 ≤ big) :
    ∃ st', execL P00 sentBody (st.set "sign" (.str [c])) = some (.next, st') ∧ st'.get "told" = some (.str (t ++ tok b c)) ∧ st'.get "before" = some (.str [c]) := by
  have g1 : (st.set "sign" (.str [c])).get "sign" = some (.str [c]) := by rw [get_set, if_pos rfl]
  have g2 : (st.set "sign" (.str [c])).get "told" = some (.str t) := by rw [get_set, if_neg (by decide)]; exact h1
  have g3 : (st.set "sign" (.str [c])).get "before" = some (.str [b]) := by rw [get_set, if_neg (by decide)]; exact h2
  generalize st.set "sign" (.str [c]) = s1 at *
  have sg : ∀ n k : Nat, decide ([n] = [k]) = decide (n = k) := fun n k => decide_eq_decide.mpr ⟨fun h => (List.cons.inj h).1, fun h => h ▸ rfl⟩
  have a1 : evalT P00 (.and [(.cmp .eq (.var "sign") (.str [46])), (.cmp .inn (.var "before") (.str [13, 10]))]) s1 = _ := evalT_and2 (evalT_cmp (eval_var g1) eval_str (congrArg some (sg c 46))) (evalT_cmp (eval_var g3) eval_str rfl)
  have a2 : evalT P00 (.or [(.cmp .eq (.var "sign") (.str [13])), (.and [(.cmp .eq (.var "sign") (.str [10])), (.cmp .ne (.var "before") (.str [13]))])]) s1 = _ :=
    evalT_or2 (evalT_cmp (eval_var g1) eval_str (congrArg some (sg c 13))) (evalT_and2 (evalT_cmp (eval_var g1) eval_str (congrArg some (sg c 10))) (evalT_cmp (eval_var g3) eval_str (congrArg (fun q => some (!q)) (sg b 13))))
  have a3 : evalT P00 (.cmp .ne (.var "sign") (.str [10])) s1 = _ := evalT_cmp (eval_var g1) eval_str (congrArg (fun q => some (!q)) (sg c 10))
  have e : ∀ (z : PE) (y : List Nat), evalE P00 z s1 = some (.str y) → y.length ≤ 2 → execL P00 [.asg "told" (.bin .add (.var "told") z)] s1 = some (.next, s1.set "told" (.str (t ++ y))) := fun z y hz hy => execL_asg (eval_bin (eval_var g2) hz (add_str (Nat.le_trans (Nat.add_le_add_left hy _) h3)))
  have fin : ∀ y, execL P00 sentBody s1 = execL P00 [.asg "before" (.var "sign")] (s1.set "told" (.str (t ++ y))) → ∃ s2, s2.get "told" = some (.str (t ++ y)) ∧ s2.get "sign" = some (.str [c]) ∧ execL P00 sentBody s1 = execL P00 [.asg "before" (.var "sign")] s2 :=
    fun y h => ⟨_, by rw [get_set, if_pos rfl], by rw [get_set, if_neg (by decide)]; exact g1, h⟩
  have main : ∃ s2, s2.get "told" = some (.str (t ++ tok b c)) ∧ s2.get "sign" = some (.str [c]) ∧ execL P00 sentBody s1 = execL P00 [.asg "before" (.var "sign")] s2 := by
    rw [← tokB_eq]
    generalize (decide (c = 46) && decide (b ∈ [13, 10])) = p at a1 ⊢
    generalize (decide (c = 13) || (decide (c = 10) && !decide (b = 13))) = q at a2 ⊢
    generalize (!decide (c = 10)) = r at a3 ⊢
    cases p
    · cases q
      · cases r
        · exact ⟨s1, by rw [g2]; exact congrArg (some ∘ V.str) (List.append_nil t).symm, g1, (execL_ite a1).trans (bs ((execL_ite a2).trans (bs (execL_ite a3) rfl)) rfl)⟩
        · exact fin _ ((execL_ite a1).trans (bs ((execL_ite a2).trans (bs ((execL_ite a3).trans (bs (e _ _ (eval_var g1) (Nat.le_succ 1)) rfl)) rfl)) rfl))
      · exact fin _ ((execL_ite a1).trans (bs ((execL_ite a2).trans (bs (e _ _ eval_str (Nat.le_refl 2)) rfl)) rfl))
    · exact fin _ ((execL_ite a1).trans (bs (e _ _ eval_str (Nat.le_refl 2)) rfl))
  obtain ⟨s2, m1, m2, m3⟩ := main
  refine ⟨s2.set "before" (.str [c]), m3.trans (execL_asg (eval_var m2)), ?_, by rw [get_set, if_pos rfl]⟩
  rw [get_set, if_neg (by decide)]; exact m1
theorem sent_loop : ∀ (x : List Nat) (t : List Nat) (b : Nat) (st : St) (e : St → Option (Fl × St)), st.get "told" = some (.str t) → st.get "before" = some (.str [b]) → t.length + 2 * x.length + 2 ≤ big →
    ∃ st', forGo (fun v st => execL P00 sentBody (st.set "sign" v)) e (x.map fun c => V.str [c]) st = e st' ∧ st'.get "told" = some (.str (t ++ sentGo b x))
  | [], t, b, st, e, h1, h2, h3 => ⟨st, rfl, by rw [h1]; exact congrArg (some ∘ V.str) (List.append_nil t).symm⟩
  | c :: x, t, b, st, e, h1, h2, h3 => by
    rw [List.length_cons] at h3
    obtain ⟨st1, q1, q2, q3⟩ := sent_step (c := c) h1 h2 (by omega)
    obtain ⟨st2, r1, r2⟩ := sent_loop x (t ++ tok b c) c st1 e q2 q3 (by have := tok_len b c; rw [List.length_append]; omega)
    exact ⟨st2, (forGo_cons q1).trans r1, by rw [r2, sentGo_cons, List.append_assoc]⟩
theorem run_sent {x : List Nat} (h : 2 * x.length + 2 ≤ big) : fn1 "_law_sent" [.str x] = some (.str (sent x)) := by
  obtain ⟨st', q1, q2⟩ := sent_loop x [] 10 (({ locs := [("piece", V.str x)], tr := [] } : St).set "told" (.str []) |>.set "before" (.str [10])) (fun st => execL P00 [] st) rfl rfl (Nat.le_trans (Nat.le_of_eq (by rw [List.length_nil, Nat.zero_add])) h)
  refine (fn1_sent _).trans (run_of (st' := st') rfl (Eq.trans ?_ (execL_ret (P := P00) (ps := []) (ret_var q2 rfl))))
  exact (execL_asg eval_str).trans ((execL_asg eval_str).trans (execL_for (v := .str x) rfl rfl rfl q1))

/-- how many signs fall off -/
noncomputable def cutN (p q : List Nat) : Nat := if p.getLast? = some 13 ∧ q.head? = some 10 then 2 else if q.head? = some 46 ∧ p.getLast? ≠ some 13 ∧ p.getLast? ≠ some 10 then 1 else 0
noncomputable def lastOr (b : Nat) : List Nat → Nat
  | [] => b
  | c :: r => lastOr c r
theorem sentGo_app : ∀ (p q : List Nat) (b : Nat), sentGo b (p ++ q) = sentGo b p ++ sentGo (lastOr b p) q
  | [], q, b => rfl
  | c :: p, q, b => by rw [List.cons_append, sentGo_cons, sentGo_app p q c, sentGo_cons, List.append_assoc]; rfl
theorem lastOr_last : ∀ {p : List Nat} {b : Nat}, p ≠ [] → p.getLast? = some (lastOr b p)
  | [c], b, _ => rfl
  | c :: d :: r, b, _ => by rw [List.getLast?_cons_cons]; exact lastOr_last (b := c) (by simp)
theorem sent_app {p q : List Nat} (hp : p ≠ []) : sent (p ++ q) = sent p ++ (sent q).drop (cutN p q) := by
  unfold sent
  rw [sentGo_app]
  congr 1
  cases q with
  | nil => simp [sentGo]
  | cons c r =>
    have hl := lastOr_last (b := 10) hp
    generalize lastOr 10 p = l at hl
    rw [sentGo_cons, sentGo_cons]
    unfold cutN tok
    rw [hl]
    simp only [List.head?_cons, Option.some.injEq]
    by_cases hc : c = 46
    · subst hc
      by_cases h13 : l = 13
      · simp [h13]
      · by_cases h10 : l = 10
        · simp [h10]
        · simp [h13, h10]
    · by_cases hn : c = 10
      · subst hn
        by_cases h13 : l = 13
        · simp [h13]
        · simp [h13]
      · by_cases hr : c = 13
        · subst hr; simp
        · simp [hc, hn, hr]
theorem idx_str {st : St} {x : List Nat} {i : Int} {c : Nat} (hl : x.length ≤ big) (h : idxL x i = some c) : idxV st (.str x) (.int i) = some (.str [c]) := by
  show (if x.length ≤ big then _ else none) = _
  rw [if_pos hl, h]; rfl
theorem idx_last {x : List Nat} {c : Nat} (h : x.getLast? = some c) (hl : x.length ≤ big) {st : St} : idxV st (.str x) (.int (-1)) = some (.str [c]) := by
  refine idx_str hl ?_
  have hpos : 0 < x.length := List.length_pos_iff.mpr fun e => by rw [e] at h; cases h
  unfold idxL
  rw [if_neg (by decide), if_pos (by omega), ← h, List.getLast?_eq_getElem?]
  congr 1
  omega
theorem idx_head {x : List Nat} {c : Nat} (h : x.head? = some c) (hl : x.length ≤ big) {st : St} : idxV st (.str x) (.int 0) = some (.str [c]) := by
  refine idx_str hl ?_
  cases x with
  | nil => cases h
  | cons d r => exact h
theorem run_cut {x y : List Nat} (hx : x ≠ []) (hy : y ≠ []) (lx : x.length ≤ big) (ly : y.length ≤ big) : fn1 "_law_cut" [.str x, .str y] = some (.int (cutN x y)) := by
  obtain ⟨a, ha⟩ : ∃ a, x.getLast? = some a := ⟨_, List.getLast?_eq_some_getLast hx⟩
  obtain ⟨b, hb⟩ : ∃ b, y.head? = some b := by cases y with | nil => exact absurd rfl hy | cons b r => exact ⟨b, rfl⟩
  let s0 : St := { locs := [("piece", V.str x), ("other", V.str y)], tr := [] }
  refine (fn1_cut _).trans (run_of (st' := s0) rfl ?_)
  have e1 : evalE P00 (.idx (.var "piece") (.neg 1)) s0 = some (.str [a]) := eval_idx (v := .str x) rfl eval_neg (idx_last ha lx)
  have e2 : evalE P00 (.idx (.var "other") (.int 0)) s0 = some (.str [b]) := eval_idx (v := .str y) rfl eval_int (idx_head hb ly)
  have sg : ∀ n k : Nat, decide ([n] = [k]) = decide (n = k) := fun n k => decide_eq_decide.mpr ⟨fun h => (List.cons.inj h).1, fun h => h ▸ rfl⟩
  have a1 : evalT P00 (.and [(.cmp .eq (.idx (.var "piece") (.neg 1)) (.str [13])), (.cmp .eq (.idx (.var "other") (.int 0)) (.str [10]))]) s0 = _ := evalT_and2 (evalT_cmp e1 eval_str (congrArg some (sg a 13))) (evalT_cmp e2 eval_str (congrArg some (sg b 10)))
  have a2 : evalT P00 (.and [(.cmp .eq (.idx (.var "other") (.int 0)) (.str [46])), (.cmp .nin (.idx (.var "piece") (.neg 1)) (.str [13, 10]))]) s0 = _ := evalT_and2 (evalT_cmp e2 eval_str (congrArg some (sg b 46))) (evalT_cmp e1 eval_str rfl)
  have hc : cutN x y = cond (decide (a = 13) && decide (b = 10)) 2 (cond (decide (b = 46) && !decide (a ∈ [13, 10])) 1 0) := by
    unfold cutN
    rw [ha, hb, ← Bool.cond_decide, ← Bool.cond_decide]
    congr 1
    · rw [Bool.decide_and, decide_eq_decide.mpr (Option.some_inj (a := a) (b := 13)), decide_eq_decide.mpr (Option.some_inj (a := b) (b := 10))]
    · congr 1
      rw [Bool.decide_and, decide_eq_decide.mpr (Option.some_inj (a := b) (b := 46)), ← decide_not]
      congr 1
      exact decide_eq_decide.mpr ⟨fun h hm => (List.mem_cons.mp hm).elim (fun e => h.1 (e ▸ rfl)) fun hm => h.2 (List.mem_singleton.mp hm ▸ rfl), fun h => ⟨fun e => h (Option.some.inj e ▸ List.mem_cons_self), fun e => h (Option.some.inj e ▸ List.mem_cons_of_mem _ List.mem_cons_self)⟩⟩
  rw [hc]
  generalize (decide (a = 13) && decide (b = 10)) = p at a1 ⊢
  generalize (decide (b = 46) && !decide (a ∈ [13, 10])) = q at a2 ⊢
  cases p
  · refine (execL_skip a1).trans ?_
    cases q
    · exact (execL_skip a2).trans (execL_ret rfl)
    · exact execL_thenR a2 (execL_ret rfl)
  · exact execL_thenR a1 (execL_ret rfl)
end
section
open PySem PySem.Spec PySem.Calls PySem.W PyProof.Rows

theorem i_le {n : Nat} (h : n ≤ big) : (n : Int) ≤ ((big : Nat) : Int) := Int.ofNat_le.mpr h
theorem idx_lst {st : St} {vs : List V} {a : Nat} {v : V} (h : vs[a]? = some v) (ha : a ≤ big) : idxV st (.lst vs) (.int (a : Int)) = some v := by
  show (if (0 : Int) ≤ a ∧ (a : Int) ≤ ((big : Nat) : Int) then vs[((a : Nat) : Int).toNat]? else none) = _
  rw [if_pos ⟨Int.natCast_nonneg a, i_le ha⟩]
  exact h
theorem ib1 : (1 : Int) ≤ ((big : Nat) : Int) := by decide
theorem rng_ok {m n : Nat} (hm : m ≤ big) (hn : n ≤ big) : rngOk (m : Int) (n : Int) := ⟨Int.natCast_nonneg _, i_le hm, i_le hn, Int.le_trans (by decide) (Int.natCast_nonneg n)⟩
theorem items_rng2 {st : St} {m n : Nat} (hm : m ≤ big) (hn : n ≤ big) : itemsOf st (.rng (m : Int) (n : Int)) = some ((List.range (n - m)).map fun k : Nat => V.int ((m : Int) + (k : Int))) := by
  show (if rngOk (m : Int) (n : Int) then some ((List.range ((n : Int) - (m : Int)).toNat).map fun (k : Nat) => V.int ((m : Int) + (k : Int))) else none) = _
  rw [if_pos (rng_ok hm hn), Int.toNat_sub]
theorem items_rng {st : St} {n : Nat} (hn : n ≤ big) : itemsOf st (.rng 0 (n : Int)) = some ((List.range n).map fun k : Nat => V.int (0 + (k : Int))) := items_rng2 (m := 0) (Nat.zero_le _) hn
theorem eval_rng2 {P : Prims} {a b : PE} {st : St} {m n : Nat} (h1 : evalE P a st = some (.int (m : Int))) (h2 : evalE P b st = some (.int (n : Int))) (hm : m ≤ big) (hn : n ≤ big) : evalE P (.rng2 a b) st = some (.rng (m : Int) (n : Int)) := bs h1 (bs h2 (if_pos (rng_ok hm hn)))
theorem eval_rng1 {P : Prims} {e : PE} {st : St} {n : Nat} (he : evalE P e st = some (.int (n : Int))) (h : n ≤ big) : evalE P (.rng1 e) st = some (.rng 0 (n : Int)) := bs he (bs rfl (if_pos (rng_ok (m := 0) (Nat.zero_le _) h)))
theorem eval_len {P : Prims} {e : PE} {st : St} {vs : List V} (he : evalE P e st = some (.lst vs)) (h : vs.length ≤ big) : evalE P (.b1 .len e) st = some (.int (vs.length : Int)) := eval_b1 he (b1_len h)
noncomputable def intsV (l : List Nat) : V := .lst (l.map fun a : Nat => V.int (a : Int))
noncomputable def alV (sn : Nat → List Nat) : V := .lst ((List.range 4).map fun i => V.str (sn i))
noncomputable def ctV (ct : Nat → Nat → Nat) : V := .lst ((List.range 4).map fun i => V.lst ((List.range 4).map fun j => V.int ((ct i j : Nat) : Int)))
noncomputable def ownV (own : Nat → Int) : V := .lst ((List.range 4).map fun i => V.int (own i))
theorem idx_range {st : St} {f : Nat → V} {n a : Nat} (h : a < n) (ha : a ≤ big) : idxV st (.lst ((List.range n).map f)) (.int (a : Int)) = some (f a) :=
  idx_lst (by rw [List.getElem?_map, List.getElem?_range h]; rfl) ha
theorem idx_intsV {st : St} {l : List Nat} {k a : Nat} (h : l[k]? = some a) (hk : k ≤ big) : idxV st (intsV l) (.int (k : Int)) = some (.int (a : Int)) :=
  idx_lst (by rw [List.getElem?_map, h]; rfl) hk
theorem lt_big {a : Nat} (h : a < 1000) : a ≤ big := Nat.le_of_lt (Nat.lt_of_lt_of_le h (by decide))
theorem drop_str {x : List Nat} {k : Nat} (h1 : x.length ≤ big) (h2 : k ≤ big) : dropV (.str x) (.int (k : Int)) = some (.str (x.drop k)) := by
  show (if (0 : Int) ≤ k ∧ (k : Int) ≤ ((big : Nat) : Int) ∧ x.length ≤ big then some (V.str (x.drop ((k : Nat) : Int).toNat)) else none) = _
  exact if_pos ⟨Int.natCast_nonneg k, i_le h2, h1⟩

section
variable (sn : Nat → List Nat) (ct : Nat → Nat → Nat)
noncomputable def mailGo : Nat → List Nat → List Nat
  | _, [] => []
  | a, b :: r => (sn b).drop (ct a b) ++ mailGo b r
noncomputable def mailL : List Nat → List Nat
  | [] => []
  | a :: r => sn a ++ mailGo sn ct a r
variable {sn ct}
theorem mailGo_snoc : ∀ (l : List Nat) (a b c : Nat), (a :: l).getLast? = some b → mailGo sn ct a (l ++ [c]) = mailGo sn ct a l ++ (sn c).drop (ct b c)
  | [], a, b, c, h => by cases h; exact List.append_nil _
  | d :: l, a, b, c, h => by
    rw [List.getLast?_cons_cons] at h
    rw [List.cons_append, mailGo, mailGo_snoc l d b c h, ← List.append_assoc]
    rfl
theorem mailL_take {ch : List Nat} {k a b : Nat} (h1 : ch[k]? = some a) (h2 : ch[k + 1]? = some b) : mailL sn ct (ch.take (k + 2)) = mailL sn ct (ch.take (k + 1)) ++ (sn b).drop (ct a b) := by
  have e : ch.take (k + 2) = ch.take (k + 1) ++ [b] := by rw [List.take_add_one, h2]; rfl
  have hlast : (ch.take (k + 1)).getLast? = some a := by
    rw [List.take_add_one, h1]
    exact List.getLast?_concat
  rw [e]
  cases hr : ch.take (k + 1) with
  | nil => rw [hr] at hlast; cases hlast
  | cons d r =>
    rw [hr] at hlast
    show sn d ++ mailGo sn ct d (r ++ [b]) = sn d ++ mailGo sn ct d r ++ _
    rw [mailGo_snoc r d a b hlast, List.append_assoc]
end

noncomputable def mailBody : List PS := [
    .asg "mail" (.bin .add (.var "mail") (.drop (.idx (.var "alone") (.idx (.var "chosen") (.var "place"))) (.idx (.idx (.var "cuts") (.idx (.var "chosen") (.bin .sub (.var "place") (.int 1)))) (.idx (.var "chosen") (.var "place")))))]
theorem takeV_lst {st : St} {vs : List V} (h : vs.length ≤ big) : takeV st (.lst vs) (.int 1) = some (.lst (vs.take 1)) := by
  show (if (0 : Int) ≤ 1 ∧ (1 : Int) ≤ ((big : Nat) : Int) ∧ vs.length ≤ big then some (V.lst (vs.take 1)) else none) = _
  exact if_pos ⟨by decide, ib1, h⟩
theorem run_mail_nil {sn : Nat → List Nat} {ct : Nat → Nat → Nat} : run P00 ["chosen", "alone", "cuts"] p_law_mail [intsV [], alV sn, ctV ct] = some (.str []) := by
  refine run_of (st' := (({ locs := [("chosen", intsV []), ("alone", alV sn), ("cuts", ctV ct)], tr := [] } : St).set "mail" (.str []))) rfl ?_
  have q1 : evalE P00 (.join [] (.comp (.idx (.var "alone") (.var "one")) "one" (.take (.var "chosen") (.int 1)) [])) { locs := [("chosen", intsV []), ("alone", alV sn), ("cuts", ctV ct)], tr := [] } = some (.str []) :=
    eval_join (eval_comp0 (ys := []) (eval_take (v := intsV []) rfl eval_int (takeV_lst (Nat.zero_le _))) rfl (Nat.zero_le _) rfl) rfl
  exact (execL_asg q1).trans ((execL_for (v := .rng 1 0) (vs := []) rfl rfl rfl rfl).trans (execL_ret (ret_var get_eq rfl)))
theorem mail_step {ch : List Nat} {sn : Nat → List Nat} {ct : Nat → Nat → Nat} (hc : ∀ a ∈ ch, a < 4) (hsn : ∀ a < 4, (sn a).length ≤ 100) (hct : ∀ a < 4, ∀ b < 4, ct a b ≤ 2) (hl : ch.length ≤ 100) {j : Nat} (hj : j < ch.length - 1) {st : St} {m : List Nat}
    (i1 : st.get "chosen" = some (intsV ch)) (i2 : st.get "alone" = some (alV sn)) (i3 : st.get "cuts" = some (ctV ct)) (i4 : st.get "mail" = some (.str m)) (i5 : m.length ≤ 100 * (j + 1)) :
    ∃ a b, ch[j]? = some a ∧ ch[j + 1]? = some b ∧ ((sn b).drop (ct a b)).length ≤ 100 ∧ execL P00 mailBody (st.set "place" (.int (1 + (j : Int)))) = some (.next, (st.set "place" (.int ((j + 1 : Nat) : Int))).set "mail" (.str (m ++ (sn b).drop (ct a b)))) := by
  have hj1 : j + 1 < ch.length := Nat.add_lt_of_lt_sub hj
  obtain ⟨a, ha⟩ : ∃ a, ch[j]? = some a := ⟨_, List.getElem?_eq_getElem (Nat.lt_of_succ_lt hj1)⟩
  obtain ⟨b, hb⟩ : ∃ b, ch[j + 1]? = some b := ⟨_, List.getElem?_eq_getElem hj1⟩
  have a4 := hc a (List.mem_of_getElem? ha)
  have b4 := hc b (List.mem_of_getElem? hb)
  have hdl : ((sn b).drop (ct a b)).length ≤ 100 := by rw [List.length_drop]; exact Nat.le_trans (Nat.sub_le _ _) (hsn b b4)
  have b4b : b ≤ big := Nat.le_trans (Nat.le_of_lt b4) (by decide)
  have a4b : a ≤ big := Nat.le_trans (Nat.le_of_lt a4) (by decide)
  have hjb : j + 1 ≤ big := Nat.le_trans (Nat.le_of_lt hj1) (Nat.le_trans hl (by decide))
  refine ⟨a, b, ha, hb, hdl, ?_⟩
  rw [show (1 + (j : Int)) = ((j + 1 : Nat) : Int) from Int.add_comm _ _]
  have g0 : (st.set "place" (.int ((j + 1 : Nat) : Int))).get "place" = _ := get_eq
  have g1 : (st.set "place" (.int ((j + 1 : Nat) : Int))).get "chosen" = _ := get_ne i1
  have g2 : (st.set "place" (.int ((j + 1 : Nat) : Int))).get "alone" = _ := get_ne i2
  have g3 : (st.set "place" (.int ((j + 1 : Nat) : Int))).get "cuts" = _ := get_ne i3
  have g4 : (st.set "place" (.int ((j + 1 : Nat) : Int))).get "mail" = _ := get_ne i4
  generalize st.set "place" (.int ((j + 1 : Nat) : Int)) = s1 at *
  have q1 : evalE P00 (.idx (.var "chosen") (.var "place")) s1 = some (.int (b : Int)) := eval_idx (eval_var g1) (eval_var g0) (idx_intsV hb hjb)
  have q2 : evalE P00 (.idx (.var "chosen") (.bin .sub (.var "place") (.int 1))) s1 = some (.int (a : Int)) :=
    eval_idx (eval_var g1) (eval_bin (eval_var g0) eval_int (congrArg (some ∘ V.int) (Int.add_sub_cancel (j : Int) 1))) (idx_intsV ha (Nat.le_of_succ_le hjb))
  exact execL_asg (eval_bin (eval_var g4) (eval_drop (eval_idx (eval_var g2) q1 (idx_range b4 b4b)) (eval_idx (eval_idx (eval_var g3) q2 (idx_range a4 a4b)) q1 (idx_range b4 b4b))
    (drop_str (Nat.le_trans (hsn b b4) (by decide)) (Nat.le_trans (hct a a4 b b4) (by decide)))) (add_str (by rw [big_eq]; omega)))
theorem one_le_big : 1 ≤ big := by decide
theorem mail_head {ch : List Nat} {sn : Nat → List Nat} {ct : Nat → Nat → Nat} {a0 : Nat} {r0 : List Nat} (hch : a0 :: r0 = ch) (ha0 : a0 < 4) (hsn : (sn a0).length ≤ 100) (hl : ch.length ≤ 100) :
    evalE P00 (.join [] (.comp (.idx (.var "alone") (.var "one")) "one" (.take (.var "chosen") (.int 1)) [])) { locs := [("chosen", intsV ch), ("alone", alV sn), ("cuts", ctV ct)], tr := [] } = some (.str (sn a0)) := by
  subst hch
  refine eval_join (v := .lst [.str (sn a0)]) (eval_comp0 (v := .lst [.int (a0 : Int)]) (eval_take (v := intsV (a0 :: r0)) rfl eval_int (takeV_lst (vs := (a0 :: r0).map fun a : Nat => V.int (a : Int)) (by rw [List.length_map]; exact Nat.le_trans hl (by decide)))) rfl one_le_big ?_) ?_
  · exact bs (comp_elt (eval_idx (v := alV sn) (w := .int (a0 : Int)) rfl rfl (idx_range ha0 (Nat.le_trans (Nat.le_of_lt ha0) (by decide))))) rfl
  · exact if_pos (show (sn a0).length + 0 + 1 * 0 ≤ big from Nat.le_trans hsn (by decide))
theorem mail_loop {ch : List Nat} {sn : Nat → List Nat} {ct : Nat → Nat → Nat} (hc : ∀ a ∈ ch, a < 4) (hsn : ∀ a < 4, (sn a).length ≤ 100) (hct : ∀ a < 4, ∀ b < 4, ct a b ≤ 2) (hl : ch.length ≤ 100) (h1 : 1 ≤ ch.length) {st : St} (e : St → Option (Fl × St))
    (i1 : st.get "chosen" = some (intsV ch)) (i2 : st.get "alone" = some (alV sn)) (i3 : st.get "cuts" = some (ctV ct)) (i4 : st.get "mail" = some (.str (mailL sn ct (ch.take 1)))) (i5 : (mailL sn ct (ch.take 1)).length ≤ 100) :
    ∃ st', st'.get "mail" = some (.str (mailL sn ct ch)) ∧ forGo (fun v st => execL P00 mailBody (st.set "place" v)) e ((List.range (ch.length - 1)).map fun (k : Nat) => V.int (1 + (k : Int))) st = e st' := by
  obtain ⟨st', hI, e⟩ := forGo_next (f := fun v st => execL P00 mailBody (st.set "place" v)) e (fun k st => st.get "chosen" = some (intsV ch) ∧ st.get "alone" = some (alV sn) ∧ st.get "cuts" = some (ctV ct) ∧ st.get "mail" = some (.str (mailL sn ct (ch.take (k + 1)))) ∧ (mailL sn ct (ch.take (k + 1))).length ≤ 100 * (k + 1)) ((List.range (ch.length - 1)).map fun (k : Nat) => V.int (1 + (k : Int))) 0 st ⟨i1, i2, i3, i4, i5⟩ (by
      rintro j v st hv ⟨i1, i2, i3, i4, i5⟩
      obtain ⟨hj, rfl⟩ := range_get hv
      rw [Nat.zero_add] at i4 i5 ⊢
      obtain ⟨a, b, ha, hb, hdl, he⟩ := mail_step hc hsn hct hl hj i1 i2 i3 i4 i5
      refine ⟨_, he, get_ne (get_ne i1), get_ne (get_ne i2), get_ne (get_ne i3), ?_, ?_⟩
      · rw [mailL_take ha hb]; exact get_eq
      · rw [mailL_take ha hb, List.length_append]; exact Nat.add_le_add i5 hdl)
  obtain ⟨i1, i2, i3, i4, i5⟩ := hI
  have hall : ch.take (0 + ((List.range (ch.length - 1)).map fun (k : Nat) => V.int (1 + (k : Int))).length + 1) = ch := by
    rw [List.length_map, List.length_range, Nat.zero_add, Nat.sub_add_cancel h1]
    exact List.take_length
  rw [hall] at i4
  exact ⟨st', i4, e⟩
end
section
open PySem PySem.Spec PySem.Calls PySem.W PyProof.Rows
theorem run_mail {ch : List Nat} {sn : Nat → List Nat} {ct : Nat → Nat → Nat} (hc : ∀ a ∈ ch, a < 4) (hsn : ∀ a < 4, (sn a).length ≤ 100) (hct : ∀ a < 4, ∀ b < 4, ct a b ≤ 2) (hl : ch.length ≤ 100) :
    fn1 "_law_mail" [intsV ch, alV sn, ctV ct] = some (.str (mailL sn ct ch)) := by
  rw [fn1_mail]
  cases ch with
  | nil =>
    exact run_mail_nil
  | cons a0 r0 =>
    generalize hch : a0 :: r0 = ch at *
    have ha0 : a0 < 4 := hc a0 (by rw [← hch]; exact List.mem_cons_self)
    have hlen : 1 ≤ ch.length := by rw [← hch]; simp
    have h00 : mailL sn ct (ch.take 1) = sn a0 := by rw [← hch]; simp [mailL, mailGo]
    let s0 : St := { locs := [("chosen", intsV ch), ("alone", alV sn), ("cuts", ctV ct)], tr := [] }
    obtain ⟨st', i4, e⟩ := mail_loop hc hsn hct hl hlen (st := s0.set "mail" (.str (sn a0))) (fun st => some (.next, st)) rfl rfl rfl (by rw [h00]; rfl) (by rw [h00]; exact hsn a0 ha0)
    have c3 : ch.length ≤ big := Nat.le_trans hl (by decide)
    have q2 : evalE P00 (.rng2 (.int 1) (.b1 .len (.var "chosen"))) (s0.set "mail" (.str (sn a0))) = some (.rng 1 (ch.length : Int)) := by
      refine eval_rng2 (m := 1) eval_int ?_ (by decide) c3
      have := eval_len (P := P00) (e := .var "chosen") (st := s0.set "mail" (.str (sn a0))) (vs := ch.map fun a : Nat => V.int (a : Int)) rfl (by rw [List.length_map]; exact c3)
      rw [List.length_map] at this
      exact this
    exact run_of rfl ((execL_asg (mail_head (ct := ct) hch ha0 (hsn a0 ha0) hl)).trans ((execL_for q2 rfl (items_rng2 (m := 1) (by decide) c3) e).trans (execL_ret (ret_var i4 rfl))))
end
section
open PySem PySem.Spec PySem.Calls PySem.W PyProof.Rows

theorem ib (n : Nat) (h : n ≤ 1000) : (n : Int) ≤ ((big : Nat) : Int) := i_le (Nat.le_trans h (by decide))
theorem ibn (n : Nat) : -((big : Nat) : Int) ≤ (n : Int) := Int.le_trans (by decide) (Int.natCast_nonneg n)
noncomputable def fellN : Nat → Int
  | 0 => 0
  | 1 => 46
  | _ => 23
noncomputable def w1 : Nat → Int
  | 0 => 6
  | 1 => 2
  | _ => 1
noncomputable def w2 : Nat → Int
  | 0 => 0
  | 1 => 4
  | _ => 1
noncomputable def term (ct : Nat → Nat → Nat) (one : Nat) (ch : List Nat) (h l : Nat) : Int :=
  if one = ch.getD l 0 ∨ one = ch.getD h 0 then -(w1 (h - l - 1) * fellN (ct (ch.getD l 0) (ch.getD h 0))) else if ch.getD l 0 < one ∧ one < ch.getD h 0 then w2 (h - l - 1) * fellN (ct (ch.getD l 0) (ch.getD h 0)) else 0
noncomputable def shareL (own : Nat → Int) (ct : Nat → Nat → Nat) (one : Nat) (ch : List Nat) : Int := (List.range ch.length).foldl (fun s h => (List.range h).foldl (fun s l => s + term ct one ch h l) s) (12 * own one)

theorem idx3 {st : St} {a b c : Int} {k : Nat} {f : Nat → Int} (h : k ≤ 2) (h0 : f 0 = a) (h1 : f 1 = b) (h2 : f 2 = c) : idxV st (.lst [.int a, .int b, .int c]) (.int (k : Int)) = some (.int (f k)) := by
  refine idx_lst ?_ (Nat.le_trans h (by decide))
  match k, h with
  | 0, _ => rw [h0]; rfl
  | 1, _ => rw [h1]; rfl
  | 2, _ => rw [h2]; rfl
theorem eval_lst3 {P : Prims} {st : St} {a b c : Int} : evalE P (.lst [.int a, .int b, .int c]) st = some (.lst [.int a, .int b, .int c]) := bs (evs_cons eval_int (evs_cons eval_int (evs_cons eval_int evs_nil))) (if_pos (show 3 ≤ big from by decide))

noncomputable def shareInner : List PS := [
      .asg "fell" (.idx (.lst [(.int 0), (.int 46), (.int 23)]) (.idx (.idx (.var "cuts") (.idx (.var "chosen") (.var "low"))) (.idx (.var "chosen") (.var "high")))),
      .ite (.or [(.cmp .eq (.var "one") (.idx (.var "chosen") (.var "low"))), (.cmp .eq (.var "one") (.idx (.var "chosen") (.var "high")))]) [
        .asg "share" (.bin .sub (.var "share") (.bin .mul (.idx (.lst [(.int 6), (.int 2), (.int 1)]) (.bin .sub (.bin .sub (.var "high") (.var "low")) (.int 1))) (.var "fell")))] [
        .ite (.chain (.idx (.var "chosen") (.var "low")) (.var "one") (.idx (.var "chosen") (.var "high"))) [
          .asg "share" (.bin .add (.var "share") (.bin .mul (.idx (.lst [(.int 0), (.int 4), (.int 1)]) (.bin .sub (.bin .sub (.var "high") (.var "low")) (.int 1))) (.var "fell")))] []]]

structure ShF (own : Nat → Int) (ct : Nat → Nat → Nat) (one : Nat) (ch : List Nat) (sh : Int) (st : St) : Prop where
  one' : st.get "one" = some (.int (one : Int))
  ch' : st.get "chosen" = some (intsV ch)
  own' : st.get "own" = some (ownV own)
  ct' : st.get "cuts" = some (ctV ct)
  sh' : st.get "share" = some (.int sh)

theorem natD (x y : Nat) : decide ((x : Int) = (y : Int)) = decide (x = y) := decide_eq_decide.mpr Int.ofNat_inj
theorem natL (x y : Nat) : decide ((x : Int) < (y : Int)) = decide (x < y) := decide_eq_decide.mpr Int.ofNat_lt
theorem mul_ints {st : St} {a b : Int} (h : a.natAbs ≤ big * big) : binV st .mul (.int a) (.int b) = some (.int (a * b)) := if_pos (Or.inl h)
theorem evalT_var {P : Prims} {x : String} {st : St} {v : V} {q : Bool} (h1 : st.get x = some v) (h2 : truthyV st v = some q) : evalT P (.var x) st = some q := bs h1 h2
theorem evalT_not {P : Prims} {t : PE} {st : St} {q : Bool} (h : evalT P t st = some q) : evalT P (.not t) st = some (!q) := by
  show (evalT P t st).map _ = _
  rw [h]; rfl
theorem pow_ints {st : St} {a b : Int} (h : 0 ≤ a ∧ a ≤ 100 ∧ 0 ≤ b ∧ b ≤ 100) : binV st .pow (.int a) (.int b) = some (.int (a ^ b.toNat)) := if_pos h
theorem fdiv_ints {st : St} {a b : Int} (h : 0 < b ∧ b ≤ big) : binV st .fdiv (.int a) (.int b) = some (.int (a / b)) := if_pos h
theorem fmod_ints {st : St} {a b : Int} (h : 0 < b ∧ b ≤ big) : binV st .fmod (.int a) (.int b) = some (.int (a % b)) := if_pos h
theorem shl_ints {st : St} {a b : Int} (h : a.natAbs ≤ big * big ∧ 0 ≤ b ∧ b ≤ 100) : binV st .shl (.int a) (.int b) = some (.int (a * 2 ^ b.toNat)) := if_pos h
theorem w_bound : ∀ k : Nat, (w1 k).natAbs ≤ big * big ∧ (w2 k).natAbs ≤ big * big
  | 0 => ⟨by decide, by decide⟩
  | 1 => ⟨by decide, by decide⟩
  | _ + 2 => ⟨Nat.le_trans (Nat.le_refl 1) (by decide), Nat.le_trans (Nat.le_refl 1) (by decide)⟩
theorem share_step {own : Nat → Int} {ct : Nat → Nat → Nat} {one : Nat} {ch : List Nat} {sh : Int} {st : St} {h l : Nat} (F : ShF own ct one ch sh st) (hh : st.get "high" = some (.int (h : Int))) (hc : ∀ a ∈ ch, a < 4) (hct : ∀ a < 4, ∀ b < 4, ct a b ≤ 2) (hlen : ch.length ≤ 4) (hl : l < h) (hhl : h < ch.length) :
    ∃ st', execL P00 shareInner (st.set "low" (.int (l : Int))) = some (.next, st') ∧ ShF own ct one ch (sh + term ct one ch h l) st' ∧ st'.get "high" = some (.int (h : Int)) := by
  obtain ⟨a, ha⟩ : ∃ a, ch[l]? = some a := ⟨_, List.getElem?_eq_getElem (Nat.lt_trans hl hhl)⟩
  obtain ⟨b, hb⟩ : ∃ b, ch[h]? = some b := ⟨_, List.getElem?_eq_getElem hhl⟩
  have a4 := hc a (List.mem_of_getElem? ha)
  have b4 := hc b (List.mem_of_getElem? hb)
  have hcab := hct a a4 b b4
  have h4 : h < 4 := Nat.lt_of_lt_of_le hhl hlen
  have hb' : h ≤ big := Nat.le_trans (Nat.le_of_lt h4) (by decide)
  have lb : l ≤ big := Nat.le_trans (Nat.le_of_lt hl) hb'
  have a4b : a ≤ big := Nat.le_trans (Nat.le_of_lt a4) (by decide)
  have b4b : b ≤ big := Nat.le_trans (Nat.le_of_lt b4) (by decide)
  have ht : term ct one ch h l = cond (decide (one = a) || decide (one = b)) (-(w1 (h - l - 1) * fellN (ct a b))) (cond (decide (a < one) && decide (one < b)) (w2 (h - l - 1) * fellN (ct a b)) 0) := by
    unfold term
    rw [List.getD_eq_getElem?_getD, List.getD_eq_getElem?_getD, ha, hb, ← Bool.cond_decide, ← Bool.cond_decide, Bool.decide_or, Bool.decide_and]
    rfl
  rw [ht]
  have g1 : (st.set "low" (.int (l : Int))).get "low" = _ := get_eq
  have g2 : (st.set "low" (.int (l : Int))).get "chosen" = _ := get_ne F.ch'
  have g3 : (st.set "low" (.int (l : Int))).get "high" = _ := get_ne hh
  have g4 : (st.set "low" (.int (l : Int))).get "cuts" = _ := get_ne F.ct'
  have g5 : (st.set "low" (.int (l : Int))).get "share" = _ := get_ne F.sh'
  have g6 : (st.set "low" (.int (l : Int))).get "one" = _ := get_ne F.one'
  have g7 : (st.set "low" (.int (l : Int))).get "own" = _ := get_ne F.own'
  generalize st.set "low" (.int (l : Int)) = s0 at *
  have q1 : evalE P00 (.idx (.lst [(.int 0), (.int 46), (.int 23)]) (.idx (.idx (.var "cuts") (.idx (.var "chosen") (.var "low"))) (.idx (.var "chosen") (.var "high")))) s0 = some (.int (fellN (ct a b))) :=
    eval_idx eval_lst3 (eval_idx (eval_idx (eval_var g4) (eval_idx (eval_var g2) (eval_var g1) (idx_intsV ha lb)) (idx_range a4 a4b)) (eval_idx (eval_var g2) (eval_var g3) (idx_intsV hb hb')) (idx_range b4 b4b)) (idx3 hcab rfl rfl rfl)
  refine (fun (z : ∃ st', execL P00 (List.tail shareInner) (s0.set "fell" (.int (fellN (ct a b)))) = some (.next, st') ∧ _) => z.elim fun st' z => ⟨st', (execL_asg q1).trans z.1, z.2⟩) ?_
  have f1 : (s0.set "fell" (.int (fellN (ct a b)))).get "low" = _ := get_ne g1
  have f2 : (s0.set "fell" (.int (fellN (ct a b)))).get "chosen" = _ := get_ne g2
  have f3 : (s0.set "fell" (.int (fellN (ct a b)))).get "high" = _ := get_ne g3
  have f4 : (s0.set "fell" (.int (fellN (ct a b)))).get "cuts" = _ := get_ne g4
  have f5 : (s0.set "fell" (.int (fellN (ct a b)))).get "share" = _ := get_ne g5
  have f6 : (s0.set "fell" (.int (fellN (ct a b)))).get "one" = _ := get_ne g6
  have f7 : (s0.set "fell" (.int (fellN (ct a b)))).get "own" = _ := get_ne g7
  have f8 : (s0.set "fell" (.int (fellN (ct a b)))).get "fell" = _ := get_eq
  generalize s0.set "fell" (.int (fellN (ct a b))) = s1 at *
  clear g1 g2 g3 g4 g5 g6 g7 q1 F hh ht
  have cl := eval_idx (P := P00) (eval_var f2) (eval_var f1) (idx_intsV ha lb)
  have chh := eval_idx (P := P00) (eval_var f2) (eval_var f3) (idx_intsV hb hb')
  have hi : evalE P00 (.bin .sub (.bin .sub (.var "high") (.var "low")) (.int 1)) s1 = some (.int ((h - l - 1 : Nat) : Int)) :=
    eval_bin (eval_bin (eval_var f3) (eval_var f1) rfl) eval_int (congrArg (some ∘ V.int) (show (h : Int) - l - 1 = _ from by omega))
  have hk : h - l - 1 ≤ 2 := by omega
  have fin : ∀ x : Int, ShF own ct one ch (sh + x) (s1.set "share" (.int (sh + x))) ∧ (s1.set "share" (.int (sh + x))).get "high" = some (.int (h : Int)) := fun x => ⟨⟨get_ne f6, get_ne f2, get_ne f7, get_ne f4, get_eq⟩, get_ne f3⟩
  have orT : evalT P00 (.or [(.cmp .eq (.var "one") (.idx (.var "chosen") (.var "low"))), (.cmp .eq (.var "one") (.idx (.var "chosen") (.var "high")))]) s1 = _ := evalT_or2 (evalT_cmp (eval_var f6) cl (congrArg some (natD one a))) (evalT_cmp (eval_var f6) chh (congrArg some (natD one b)))
  have chT : evalT P00 (.chain (.idx (.var "chosen") (.var "low")) (.var "one") (.idx (.var "chosen") (.var "high"))) s1 = some (decide (a < one) && decide (one < b)) := natL a one ▸ natL one b ▸ evalT_chain cl (eval_var f6) chh
  have q6 : evalE P00 (.bin .mul (.idx (.lst [(.int 6), (.int 2), (.int 1)]) (.bin .sub (.bin .sub (.var "high") (.var "low")) (.int 1))) (.var "fell")) s1 = some (.int (w1 (h - l - 1) * fellN (ct a b))) :=
    eval_bin (eval_idx (eval_lst3 (a := 6) (b := 2) (c := 1)) hi (idx3 (f := w1) hk rfl rfl rfl)) (eval_var f8) (mul_ints (w_bound _).1)
  have q7 : evalE P00 (.bin .mul (.idx (.lst [(.int 0), (.int 4), (.int 1)]) (.bin .sub (.bin .sub (.var "high") (.var "low")) (.int 1))) (.var "fell")) s1 = some (.int (w2 (h - l - 1) * fellN (ct a b))) :=
    eval_bin (eval_idx (eval_lst3 (a := 0) (b := 4) (c := 1)) hi (idx3 (f := w2) hk rfl rfl rfl)) (eval_var f8) (mul_ints (w_bound _).2)
  generalize (decide (one = a) || decide (one = b)) = p at orT ⊢
  generalize (decide (a < one) && decide (one < b)) = q at chT ⊢
  cases p
  · cases q
    · exact ⟨s1, (execL_ite orT).trans (bs (execL_skip chT) rfl), ⟨f6, f2, f7, f4, (Int.add_zero sh).symm ▸ f5⟩, f3⟩
    · exact ⟨_, (execL_ite orT).trans (bs (execL_then chT (execL_asg (eval_bin (eval_var f5) q7 rfl))) rfl), fin _⟩
  · exact ⟨_, (execL_ite orT).trans (bs (execL_asg (eval_bin (eval_var f5) q6 (congrArg (some ∘ V.int) Int.sub_eq_add_neg))) rfl), fin _⟩
end
section
open PySem PySem.Spec PySem.Calls PySem.W PyProof.Rows

theorem foldl_range_succ {α : Type} (f : α → Nat → α) (a : α) (n : Nat) : (List.range (n + 1)).foldl f a = f ((List.range n).foldl f a) n := by
  rw [List.range_succ, List.foldl_append]; rfl

section
variable {own : Nat → Int} {ct : Nat → Nat → Nat} {one : Nat} {ch : List Nat}
theorem share_low {sh : Int} {st : St} {h : Nat} (F : ShF own ct one ch sh st) (hh : st.get "high" = some (.int (h : Int))) (hc : ∀ a ∈ ch, a < 4) (hct : ∀ a < 4, ∀ b < 4, ct a b ≤ 2) (hlen : ch.length ≤ 4) (hhl : h < ch.length) (e : St → Option (Fl × St)) :
    ∃ st', (ShF own ct one ch ((List.range h).foldl (fun s l => s + term ct one ch h l) sh) st' ∧ st'.get "high" = some (.int (h : Int))) ∧ forGo (fun v st => execL P00 shareInner (st.set "low" v)) e ((List.range h).map fun k : Nat => V.int (0 + (k : Int))) st = e st' := by
  obtain ⟨st', hI, q⟩ := forGo_next (f := fun v st => execL P00 shareInner (st.set "low" v)) e (fun k st => ShF own ct one ch ((List.range k).foldl (fun s l => s + term ct one ch h l) sh) st ∧ st.get "high" = some (.int (h : Int))) ((List.range h).map fun k : Nat => V.int (0 + (k : Int))) 0 st ⟨F, hh⟩ (by
    rintro j v st hv ⟨F, hh⟩
    obtain ⟨hj, rfl⟩ := range_get hv
    rw [Nat.zero_add] at F ⊢
    obtain ⟨st1, q1, q2, q3⟩ := share_step F hh hc hct hlen hj hhl
    refine ⟨st1, ?_, ?_, q3⟩
    · rw [Int.zero_add]; exact q1
    · rw [foldl_range_succ]; exact q2)
  rw [List.length_map, List.length_range, Nat.zero_add] at hI
  exact ⟨st', hI, q⟩

noncomputable def shareOuter : List PS := [.for' "low" (.rng1 (.var "high")) shareInner []]
theorem share_high {sh : Int} {st : St} (F : ShF own ct one ch sh st) (hc : ∀ a ∈ ch, a < 4) (hct : ∀ a < 4, ∀ b < 4, ct a b ≤ 2) (hlen : ch.length ≤ 4) (e : St → Option (Fl × St)) :
    ∃ st', ShF own ct one ch ((List.range ch.length).foldl (fun s h => (List.range h).foldl (fun s l => s + term ct one ch h l) s) sh) st' ∧ forGo (fun v st => execL P00 shareOuter (st.set "high" v)) e ((List.range ch.length).map fun k : Nat => V.int (0 + (k : Int))) st = e st' := by
  obtain ⟨st', hI, q⟩ := forGo_next (f := fun v st => execL P00 shareOuter (st.set "high" v)) e (fun k st => ShF own ct one ch ((List.range k).foldl (fun s h => (List.range h).foldl (fun s l => s + term ct one ch h l) s) sh) st) ((List.range ch.length).map fun k : Nat => V.int (0 + (k : Int))) 0 st F (by
    intro j v st hv F
    obtain ⟨hj, rfl⟩ := range_get hv
    rw [Nat.zero_add] at F ⊢
    rw [Int.zero_add]
    have hg : (st.set "high" (.int (j : Int))).get "high" = some (.int (j : Int)) := get_eq
    have hjb : j ≤ big := Nat.le_trans (Nat.le_of_lt (Nat.lt_of_lt_of_le hj hlen)) (by decide)
    obtain ⟨st1, ⟨q1, _⟩, q2⟩ := share_low (⟨get_ne F.one', get_ne F.ch', get_ne F.own', get_ne F.ct', get_ne F.sh'⟩ : ShF own ct one ch ((List.range j).foldl (fun s h => (List.range h).foldl (fun s l => s + term ct one ch h l) s) sh) (st.set "high" (.int (j : Int)))) hg hc hct hlen hj (fun st => some (.next, st))
    refine ⟨st1, execL_for (eval_rng1 (eval_var hg) hjb) rfl (items_rng hjb) q2, ?_⟩
    · rw [foldl_range_succ]; exact q1)
  rw [List.length_map, List.length_range, Nat.zero_add] at hI
  exact ⟨st', hI, q⟩
theorem run_share (hc : ∀ a ∈ ch, a < 4) (hone : one < 4) (hct : ∀ a < 4, ∀ b < 4, ct a b ≤ 2) (hlen : ch.length ≤ 4) :
    fn1 "_law_share" [.int (one : Int), intsV ch, ownV own, ctV ct] = some (.int (shareL own ct one ch)) := by
  let s0 : St := { locs := [("one", .int (one : Int)), ("chosen", intsV ch), ("own", ownV own), ("cuts", ctV ct)], tr := [] }
  have F0 : ShF own ct one ch (12 * own one) (s0.set "share" (.int (12 * own one))) := ⟨rfl, rfl, rfl, rfl, rfl⟩
  obtain ⟨st', F, q⟩ := share_high F0 hc hct hlen (fun st => some (.next, st))
  have hlb : ch.length ≤ big := Nat.le_trans hlen (by decide)
  have q0 : evalE P00 (.bin .mul (.int 12) (.idx (.var "own") (.var "one"))) s0 = some (.int (12 * own one)) :=
    eval_bin eval_int (eval_idx (v := ownV own) (w := .int (one : Int)) (eval_var rfl) (eval_var rfl) (idx_range hone (Nat.le_trans (Nat.le_of_lt hone) (by decide)))) (mul_ints (by decide))
  have q1 : evalE P00 (.b1 .len (.var "chosen")) (s0.set "share" (.int (12 * own one))) = some (.int (ch.length : Int)) := by
    have := eval_len (P := P00) (e := .var "chosen") (vs := ch.map fun a : Nat => V.int (a : Int)) (eval_var F0.ch') (by rw [List.length_map]; exact hlb)
    rw [List.length_map] at this
    exact this
  exact (fn1_share _).trans (run_of rfl ((execL_asg q0).trans ((execL_for (eval_rng1 q1 hlb) rfl (items_rng hlb) q).trans (execL_ret (ret_var F.sh' rfl)))))
end
end
section
open PySem PySem.Spec PySem.Calls PySem.W PyProof.Rows

noncomputable def hiD (l : Nat) : Nat := if l % 64 < 63 then 64 + l % 64 else 255
noncomputable def loD (n : Nat) : Nat := if 31 < n % 64 then n % 64 else 128 + n % 64
noncomputable def numGo : Nat → Nat → List Nat → List Nat
  | 0, _, t => t
  | k + 1, l, t => if 0 < l then numGo k (l / 64) (hiD l :: t) else t
noncomputable def numeral (n : Nat) : List Nat := numGo 3 (n / 64) [loD n]

theorem eval_fmod {P : Prims} {a b : PE} {st : St} {x y : Nat} (h1 : evalE P a st = some (.int (x : Int))) (h2 : evalE P b st = some (.int (y : Int))) (hy : 0 < y) (hb : y ≤ 1000) : evalE P (.bin .fmod a b) st = some (.int ((x % y : Nat) : Int)) :=
  eval_bin h1 h2 (if_pos ⟨Int.ofNat_lt.mpr hy, ib y hb⟩)
theorem eval_fdiv {P : Prims} {a b : PE} {st : St} {x y : Nat} (h1 : evalE P a st = some (.int (x : Int))) (h2 : evalE P b st = some (.int (y : Int))) (hy : 0 < y) (hb : y ≤ 1000) : evalE P (.bin .fdiv a b) st = some (.int ((x / y : Nat) : Int)) :=
  eval_bin h1 h2 (if_pos ⟨Int.ofNat_lt.mpr hy, ib y hb⟩)
theorem eval_chr {P : Prims} {a : PE} {st : St} {c : Nat} (h : evalE P a st = some (.int (c : Int))) (hc : c ≤ 1000) : evalE P (.b1 .chr a) st = some (.str [c]) :=
  eval_b1 h (show (if (0 : Int) ≤ c ∧ (c : Int) ≤ 1114111 then some (V.str [((c : Nat) : Int).toNat]) else none) = _ from if_pos ⟨Int.natCast_nonneg c, Int.ofNat_le.mpr (Nat.le_trans hc (by decide))⟩)

noncomputable def numBody : List PS := [
    .asg "text" (.bin .add (.ife (.cmp .lt (.bin .fmod (.var "left") (.int 64)) (.int 63)) (.b1 .chr (.bin .add (.int 64) (.bin .fmod (.var "left") (.int 64)))) (.b1 .chr (.int 255))) (.var "text")),
    .asg "left" (.bin .fdiv (.var "left") (.int 64))]
theorem mod64 (l : Nat) : l % 64 < 64 := Nat.mod_lt _ (by decide)
theorem num_step {l : Nat} {t : List Nat} {st : St} (h1 : st.get "left" = some (.int (l : Int))) (h2 : st.get "text" = some (.str t)) (h3 : t.length ≤ 100) :
    execL P00 numBody st = some (.next, (st.set "text" (.str (hiD l :: t))).set "left" (.int ((l / 64 : Nat) : Int))) := by
  have q1 : evalE P00 (.bin .fmod (.var "left") (.int 64)) st = some (.int ((l % 64 : Nat) : Int)) := eval_fmod (y := 64) (eval_var h1) eval_int (by decide) (by decide)
  have q2 : evalE P00 (.ife (.cmp .lt (.bin .fmod (.var "left") (.int 64)) (.int 63)) (.b1 .chr (.bin .add (.int 64) (.bin .fmod (.var "left") (.int 64)))) (.b1 .chr (.int 255))) st = some (.str [hiD l]) := by
    refine eval_ife (evalT_cmp q1 eval_int (congrArg some (natL (l % 64) 63))) ?_
    unfold hiD
    by_cases h : l % 64 < 63
    · rw [decide_eq_true h, if_pos h]
      exact eval_chr (eval_bin (eval_int (i := 64)) q1 rfl) (Nat.le_trans (Nat.add_le_add_left (Nat.le_of_lt h) 64) (by decide))
    · rw [decide_eq_false h, if_neg h]
      exact eval_chr (c := 255) eval_int (by decide)
  exact (execL_asg (eval_bin q2 (eval_var h2) (add_str (Nat.le_trans (Nat.add_le_add_left h3 1) (by decide))))).trans (execL_asg (eval_fdiv (x := l) (y := 64) (eval_var (get_ne h1)) eval_int (by decide) (by decide)))
theorem whileGo_stop {t : St → Option Bool} {f : St → Option (Fl × St)} {n : Nat} {st : St} (h : t st = some false) : whileGo t f (n + 1) st = some (.next, st) := bs h rfl
theorem whileGo_go {t : St → Option Bool} {f : St → Option (Fl × St)} {n : Nat} {st st1 : St} (h : t st = some true) (k : f st = some (.next, st1)) : whileGo t f (n + 1) st = whileGo t f n st1 := bs h (bs k rfl)
theorem num_while : ∀ (k l : Nat) (t : List Nat) (st : St) (m : Nat), l < 64 ^ k → k < m → t.length + k ≤ 100 → st.get "left" = some (.int (l : Int)) → st.get "text" = some (.str t) →
    ∃ st', whileGo (fun st => evalT P00 (.cmp .gt (.var "left") (.int 0)) st) (fun st => execL P00 numBody st) m st = some (.next, st') ∧ st'.get "text" = some (.str (numGo k l t))
  | _, _, _, _, 0, _, h, _, _, _ => absurd h (Nat.not_lt_zero _)
  | 0, l, t, st, m + 1, hl, _, _, h1, h2 => by
    cases Nat.lt_one_iff.mp hl
    exact ⟨st, whileGo_stop (evalT_cmp (eval_var h1) eval_int rfl), h2⟩
  | k + 1, l, t, st, m + 1, hl, hm, ht, h1, h2 => by
    have e : evalT P00 (.cmp .gt (.var "left") (.int 0)) st = some (decide (0 < l)) := evalT_cmp (eval_var h1) eval_int (congrArg some (natL 0 l))
    by_cases h : 0 < l
    · obtain ⟨st', q1, q2⟩ := num_while k (l / 64) (hiD l :: t) ((st.set "text" (.str (hiD l :: t))).set "left" (.int ((l / 64 : Nat) : Int))) m (Nat.div_lt_of_lt_mul (Nat.mul_comm _ _ ▸ hl)) (Nat.lt_of_succ_lt_succ hm) (Nat.le_trans (Nat.le_of_eq (Nat.succ_add_eq_add_succ _ _)) ht) get_eq (get_ne get_eq)
      rw [decide_eq_true h] at e
      exact ⟨st', (whileGo_go e (num_step h1 h2 (Nat.le_trans (Nat.le_add_right _ _) ht))).trans q1, q2.trans (by rw [numGo, if_pos h])⟩
    · rw [decide_eq_false h] at e
      exact ⟨st, whileGo_stop e, h2.trans (by rw [numGo, if_neg h])⟩
theorem execL_while {P : Prims} {t : PE} {body ps : List PS} {st st' : St} (h : whileGo (fun st => evalT P t st) (fun st => execL P body st) fuel st = some (.next, st')) : execL P (.while' t body :: ps) st = execL P ps st' := bs (show execS P (.while' t body) st = _ from h) rfl
theorem run_numeral {n : Nat} (hn : n < 64 ^ 4) : fn1 "_law_numeral" [.int (n : Int)] = some (.str (numeral n)) := by
  let s0 : St := { locs := [("number", .int (n : Int))], tr := [] }
  have q1 : evalE P00 (.bin .fmod (.var "number") (.int 64)) s0 = some (.int ((n % 64 : Nat) : Int)) := eval_fmod (y := 64) (eval_var rfl) eval_int (by decide) (by decide)
  have g1 : (s0.set "last" (.int ((n % 64 : Nat) : Int))).get "last" = _ := get_eq
  have g2 : (s0.set "last" (.int ((n % 64 : Nat) : Int))).get "number" = some (.int (n : Int)) := rfl
  generalize hs1 : s0.set "last" (.int ((n % 64 : Nat) : Int)) = s1 at *
  have q2 : evalE P00 (.ife (.cmp .gt (.var "last") (.int 31)) (.b1 .chr (.var "last")) (.b1 .chr (.bin .add (.int 128) (.var "last")))) s1 = some (.str [loD n]) := by
    refine eval_ife (evalT_cmp (eval_var g1) eval_int (congrArg some (natL 31 (n % 64)))) ?_
    unfold loD
    have hm := Nat.le_of_lt (mod64 n)
    by_cases h : 31 < n % 64
    · rw [decide_eq_true h, if_pos h]
      exact eval_chr (eval_var g1) (Nat.le_trans hm (by decide))
    · rw [decide_eq_false h, if_neg h]
      exact eval_chr (eval_bin (eval_int (i := 128)) (eval_var g1) rfl) (Nat.le_trans (Nat.add_le_add_left hm 128) (by decide))
  have g3 : (s1.set "text" (.str [loD n])).get "number" = _ := get_ne g2
  have g4 : (s1.set "text" (.str [loD n])).get "text" = _ := get_eq
  generalize hs2 : s1.set "text" (.str [loD n]) = s2 at *
  have q3 : evalE P00 (.bin .fdiv (.var "number") (.int 64)) s2 = some (.int ((n / 64 : Nat) : Int)) := eval_fdiv (y := 64) (eval_var g3) eval_int (by decide) (by decide)
  obtain ⟨st', r1, r2⟩ := num_while 3 (n / 64) [loD n] (s2.set "left" (.int ((n / 64 : Nat) : Int))) fuel (Nat.div_lt_of_lt_mul hn) (by decide) (show 4 ≤ 100 by decide) get_eq (get_ne g4)
  have hx : execL P00 [.asg "left" (.bin .fdiv (.var "number") (.int 64)), .while' (.cmp .gt (.var "left") (.int 0)) numBody, .ret (.var "text")] s2 = some (.ret (.str (numeral n)), st') := (execL_asg q3).trans ((execL_while r1).trans (execL_ret (ret_var r2 rfl)))
  subst hs2
  have hx := (execL_asg q2).trans hx
  subst hs1
  exact (fn1_numeral _).trans (run_of rfl ((execL_asg q1).trans hx))

/-- octets of a numeral -/
theorem hiD_ok0 : ∀ m < 64, 64 ≤ (if m < 63 then 64 + m else 255) ∧ (if m < 63 then 64 + m else 255) ≠ 127 ∧ (if m < 63 then 64 + m else 255) < 256 ∧ (if m < 63 then 64 + m else 255) % 64 = m ∧ (if m < 63 then 64 + m else 255) / 64 % 2 = 1 := by decide +kernel
theorem hiD_ok (l : Nat) : 64 ≤ hiD l ∧ hiD l ≠ 127 ∧ hiD l < 256 ∧ hiD l % 64 = l % 64 ∧ hiD l / 64 % 2 = 1 := hiD_ok0 _ (mod64 l)
theorem loD_ok0 : ∀ m < 64, 32 ≤ (if 31 < m then m else 128 + m) ∧ (if 31 < m then m else 128 + m) ≠ 127 ∧ (if 31 < m then m else 128 + m) < 256 ∧ (if 31 < m then m else 128 + m) % 64 = m ∧ (if 31 < m then m else 128 + m) / 64 % 2 = 0 := by decide +kernel
theorem loD_ok (n : Nat) : 32 ≤ loD n ∧ loD n ≠ 127 ∧ loD n < 256 ∧ loD n % 64 = n % 64 ∧ loD n / 64 % 2 = 0 := loD_ok0 _ (mod64 n)
theorem and63 : ∀ b : Nat, b < 256 → Builtin.bitAnd (b : Int) 63 = ((b % 64 : Nat) : Int) ∧ (b / 64 % 2 = 1 → Builtin.bitAnd (b : Int) 64 ≠ 0) ∧ (b / 64 % 2 = 0 → Builtin.bitAnd (b : Int) 64 = 0) := by decide +kernel
theorem or64 (v x : Nat) (hx : x < 64) : Builtin.bitOr ((v : Int) * 2 ^ 6) (x : Int) = ((v * 64 + x : Nat) : Int) := by
  have e : (v : Int) * 2 ^ 6 = ((v * 64 : Nat) : Int) := by omega
  rw [e, bitOr_and, bitAnd_pp (by omega) (by omega)]
  have z : ((v * 64 : Nat) : Int).toNat &&& (x : Int).toNat = 0 := by
    simp only [Int.toNat_natCast]
    refine Nat.eq_of_testBit_eq fun i => ?_
    rw [Nat.testBit_and, Nat.zero_testBit, show v * 64 = 2 ^ 6 * v from by omega, Nat.testBit_two_pow_mul]
    by_cases hi : 6 ≤ i
    · have : x.testBit i = false := Nat.testBit_lt_two_pow (Nat.lt_of_lt_of_le hx (Nat.pow_le_pow_right (by omega) hi : 2 ^ 6 ≤ 2 ^ i))
      rw [this, Bool.and_false]
    · have : decide (i ≥ 6) = false := by simpa using hi
      rw [this]; rfl
  rw [z]
  omega
noncomputable def octs (x : List Nat) : List Int := x.map fun c : Nat => (c : Int)
theorem big2 {v : Nat} (hv : v ≤ 1000000) : (v : Int).natAbs ≤ big * big := Nat.le_trans hv (by decide)
theorem pvI_hi {v l : Nat} {r : List Int} (hv : v ≤ 1000000) : pvI (v : Int) ((hiD l : Int) :: r) = pvI ((v * 64 + l % 64 : Nat) : Int) r := by
  obtain ⟨h1, h2, h3, h4, h5⟩ := hiD_ok l
  obtain ⟨a1, a2, a3⟩ := and63 _ h3
  rw [pvI, if_pos (big2 hv), if_pos (a2 h5), a1, h4, or64 _ _ (mod64 l)]
theorem pvI_lo {v n : Nat} {r : List Int} (hv : v ≤ 1000000) : pvI (v : Int) ((loD n : Int) :: r) = some (((v * 64 + n % 64 : Nat) : Int), r) := by
  obtain ⟨h1, h2, h3, h4, h5⟩ := loD_ok n
  obtain ⟨a1, a2, a3⟩ := and63 _ h3
  rw [pvI, if_pos (big2 hv), if_neg (not_not_intro (a3 h5)), a1, h4, or64 _ _ (mod64 n)]
theorem pvS_hi {l : Nat} {r : List Int} : pvS ((hiD l : Int) :: r) = pvI ((l % 64 : Nat) : Int) r := by
  obtain ⟨h1, h2, h3, h4, h5⟩ := hiD_ok l
  obtain ⟨a1, a2, a3⟩ := and63 _ h3
  rw [pvS, if_pos (a2 h5), a1, h4]
theorem pvS_lo {n : Nat} {r : List Int} : pvS ((loD n : Int) :: r) = some (((n % 64 : Nat) : Int), r) := by
  obtain ⟨h1, h2, h3, h4, h5⟩ := loD_ok n
  obtain ⟨a1, a2, a3⟩ := and63 _ h3
  rw [pvS, if_neg (not_not_intro (a3 h5)), a1, h4]
theorem mod_top {l : Nat} (h : ¬ 0 < l / 64) : l % 64 = l := by
  have := Nat.div_add_mod' l 64
  rw [Nat.eq_zero_of_not_pos h, Nat.zero_mul, Nat.zero_add] at this
  exact this
theorem parse_numeral {n : Nat} (hn : n < 64 ^ 4) (r : List Int) : pvS (octs (numeral n) ++ r) = some ((n : Int), r) := by
  have b1 : n / 64 < 64 ^ 3 := Nat.div_lt_of_lt_mul hn
  have b2 : n / 64 / 64 < 64 ^ 2 := Nat.div_lt_of_lt_mul b1
  have b3 : n / 64 / 64 / 64 < 64 := Nat.div_lt_of_lt_mul b2
  have c1 : n / 64 ≤ 1000000 := Nat.le_trans (Nat.le_of_lt b1) (by decide)
  have c2 : n / 64 / 64 ≤ 1000000 := Nat.le_trans (Nat.div_le_self _ _) c1
  have c3 : n / 64 / 64 / 64 ≤ 1000000 := Nat.le_trans (Nat.div_le_self _ _) c2
  have e1 := Nat.div_add_mod' n 64
  have e2 := Nat.div_add_mod' (n / 64) 64
  have e3 := Nat.div_add_mod' (n / 64 / 64) 64
  unfold numeral numGo
  by_cases h1 : 0 < n / 64
  · rw [if_pos h1]
    unfold numGo
    by_cases h2 : 0 < n / 64 / 64
    · rw [if_pos h2]
      unfold numGo
      by_cases h3 : 0 < n / 64 / 64 / 64
      · rw [if_pos h3]
        refine pvS_hi.trans ?_
        rw [Nat.mod_eq_of_lt b3]
        refine (pvI_hi c3).trans ?_
        rw [e3]
        refine (pvI_hi c2).trans ?_
        rw [e2]
        exact (pvI_lo c1).trans (by rw [e1]; rfl)
      · rw [if_neg h3]
        refine pvS_hi.trans ?_
        rw [mod_top h3]
        refine (pvI_hi c2).trans ?_
        rw [e2]
        exact (pvI_lo c1).trans (by rw [e1]; rfl)
    · rw [if_neg h2]
      refine pvS_hi.trans ?_
      rw [mod_top h2]
      exact (pvI_lo c1).trans (by rw [e1]; rfl)
  · rw [if_neg h1]
    exact pvS_lo.trans (by rw [mod_top h1]; rfl)
theorem numGo_len : ∀ (k l : Nat) (t : List Nat), (numGo k l t).length ≤ k + t.length
  | 0, _, _ => Nat.le_add_left _ _
  | k + 1, l, t => by
    unfold numGo
    split
    · exact Nat.le_trans (numGo_len k _ _) (Nat.le_of_eq (Nat.succ_add_eq_add_succ _ _).symm)
    · exact Nat.le_add_left _ _
theorem numeral_len (n : Nat) : (numeral n).length ≤ 4 := numGo_len 3 _ _
theorem numGo_mem {c : Nat} : ∀ (k l : Nat) (t : List Nat), c ∈ numGo k l t → c ∈ t ∨ ∃ x, c = hiD x
  | 0, _, _, h => .inl h
  | k + 1, l, t, h => by
    unfold numGo at h
    split at h
    · rcases numGo_mem k _ _ h with h | h
      · exact (List.mem_cons.mp h).elim (fun e => .inr ⟨l, e⟩) .inl
      · exact .inr h
    · exact .inl h
theorem numeral_cases {n c : Nat} (h : c ∈ numeral n) : c = loD n ∨ ∃ x, c = hiD x := (numGo_mem 3 _ _ h).imp List.mem_singleton.mp id
theorem numeral_mem {n c : Nat} (h : c ∈ numeral n) : 32 ≤ c ∧ c ≠ 127 := by
  rcases numeral_cases h with rfl | ⟨x, rfl⟩
  · exact ⟨(loD_ok n).1, (loD_ok n).2.1⟩
  · exact ⟨Nat.le_trans (by decide) (hiD_ok x).1, (hiD_ok x).2.1⟩
theorem numeral_ok (n : Nat) : strOk (numeral n) = true :=
  Bool.and_eq_true_iff.mpr ⟨List.all_eq_true.mpr fun c hc => Bool.and_eq_true_iff.mpr ⟨decide_eq_true (numeral_mem hc).1, bne_iff_ne.mpr (numeral_mem hc).2⟩, decide_eq_true (Nat.le_trans (numeral_len n) (by decide))⟩
end
section
open PySem PySem.Spec PySem.Calls PySem.W PyProof.Rows

theorem eval_comp {P : Prims} {α : Type} {elt it : PE} {x : String} {st : St} {v : V} {l : List α} {k g : α → V} (hit : evalE P it st = some v) (hi : itemsOf st v = some (l.map k)) (hl : l.length ≤ 1000) (hg : ∀ u ∈ l, evalE P elt { locs := (x, k u) :: st.locs, tr := st.tr } = some (g u)) :
    evalE P (.comp elt x it []) st = some (.lst (l.map g)) :=
  eval_comp0 hit hi (by rw [List.length_map]; exact Nat.le_trans hl (by decide)) (compGo_map' fun u hu => comp_elt (hg u hu))
theorem get_here {st : St} {x : String} {v : V} : St.get { locs := (x, v) :: st.locs, tr := st.tr } x = some v := (get_comp _ _ _ _).trans (if_pos rfl)
theorem get_there {st : St} {x y : String} {v : V} (h : x ≠ y) : St.get { locs := (x, v) :: st.locs, tr := st.tr } y = st.get y := (get_comp _ _ _ _).trans (if_neg h)

noncomputable def signs : List (List Nat) := [[], [46], [13], [10], [97], [46], [13], [10], [32], [133]]
noncomputable def signAt (z : Int) (k : Nat) : List Nat := signs.getD ((z / 10 ^ k % 10).toNat) []
noncomputable def rawOf (z : Int) : List Nat := signAt z 0 ++ signAt z 1 ++ signAt z 2
noncomputable def pieceOf (z : Int) : List Nat := if rawOf z ≠ [] then rawOf z else [46]
structure OkP (p : List Nat) : Prop where
  ne : p ≠ []
  len : p.length ≤ 3
  abc : ∀ c ∈ p, c = 46 ∨ c = 13 ∨ c = 10 ∨ c = 97 ∨ c = 32 ∨ c = 133
theorem mod10 (z : Int) : (z % 10).toNat < 10 := by omega
theorem mod10' (z : Int) : z % 10 = (((z % 10).toNat : Nat) : Int) := by omega
theorem signAt_ok (z : Int) (k : Nat) : (signAt z k).length ≤ 1 ∧ ∀ c ∈ signAt z k, c = 46 ∨ c = 13 ∨ c = 10 ∨ c = 97 ∨ c = 32 ∨ c = 133 := by
  unfold signAt
  have h := mod10 (z / 10 ^ k)
  generalize (z / 10 ^ k % 10).toNat = i at h
  have : ∀ i < 10, (signs.getD i []).length ≤ 1 ∧ ∀ c ∈ signs.getD i [], c = 46 ∨ c = 13 ∨ c = 10 ∨ c = 97 ∨ c = 32 ∨ c = 133 := by decide
  exact this i h
theorem pieceOf_ok (z : Int) : OkP (pieceOf z) := by
  unfold pieceOf
  have h0 := signAt_ok z 0
  have h1 := signAt_ok z 1
  have h2 := signAt_ok z 2
  split
  · rename_i hne
    refine ⟨hne, by unfold rawOf; simp only [List.length_append]; omega, fun c hc => ?_⟩
    unfold rawOf at hc
    rcases List.mem_append.mp hc with hc | hc
    · rcases List.mem_append.mp hc with hc | hc
      · exact h0.2 c hc
      · exact h1.2 c hc
    · exact h2.2 c hc
  · exact ⟨by simp, by simp, by simp⟩

noncomputable def signsV : V := .lst (signs.map V.str)
theorem ten_pow : ∀ k < 3, (0 : Int) < 10 ^ k ∧ (10 : Int) ^ k ≤ ((big : Nat) : Int) := by decide
theorem eval_sign {st : St} {z : Int} {k : Nat} (h1 : st.get "signs" = some signsV) (h2 : st.get "cell" = some (.int z)) (h3 : st.get "step" = some (.int (k : Int))) (hk : k < 3) :
    evalE P00 (.idx (.var "signs") (.bin .fmod (.bin .fdiv (.var "cell") (.bin .pow (.int 10) (.var "step"))) (.int 10))) st = some (.str (signAt z k)) := by
  have q1 : evalE P00 (.bin .pow (.int 10) (.var "step")) st = some (.int ((10 : Int) ^ k)) := eval_bin eval_int (eval_var h3) (pow_ints ⟨by decide, by decide, Int.natCast_nonneg k, Int.ofNat_le.mpr (Nat.le_trans (Nat.le_of_lt hk) (by decide))⟩)
  have q2 : evalE P00 (.bin .fmod (.bin .fdiv (.var "cell") (.bin .pow (.int 10) (.var "step"))) (.int 10)) st = some (.int (z / 10 ^ k % 10)) := eval_bin (eval_bin (eval_var h2) q1 (fdiv_ints (ten_pow k hk))) eval_int (fmod_ints (by decide))
  refine eval_idx (eval_var h1) q2 ?_
  have hlt := mod10 (z / 10 ^ k)
  rw [mod10' (z / 10 ^ k)]
  refine idx_lst ?_ (Nat.le_trans (Nat.le_of_lt hlt) (by decide))
  unfold signAt
  rw [List.getElem?_map, List.getD_eq_getElem?_getD]
  have : ((z / 10 ^ k % 10).toNat) < signs.length := hlt
  rw [List.getElem?_eq_getElem this]
  rfl
theorem eval_raw {st : St} {z : Int} (h1 : st.get "signs" = some signsV) (h2 : st.get "cell" = some (.int z)) :
    evalE P00 (.join [] (.comp (.idx (.var "signs") (.bin .fmod (.bin .fdiv (.var "cell") (.bin .pow (.int 10) (.var "step"))) (.int 10))) "step" (.rng1 (.int 3)) [])) st = some (.str (rawOf z)) := by
  have q : evalE P00 (.comp (.idx (.var "signs") (.bin .fmod (.bin .fdiv (.var "cell") (.bin .pow (.int 10) (.var "step"))) (.int 10))) "step" (.rng1 (.int 3)) []) st = some (.lst ((List.range 3).map fun k => V.str (signAt z k))) := by
    refine eval_comp (v := .rng 0 3) (k := fun k : Nat => V.int (0 + (k : Int))) (eval_rng1 (n := 3) eval_int (by decide)) (items_rng (n := 3) (by decide)) (by decide) fun k hk => ?_
    exact eval_sign ((get_there (by decide)).trans h1) ((get_there (by decide)).trans h2) (by rw [get_here, Int.zero_add]) (List.mem_range.mp hk)
  refine eval_join q ?_
  have h0 := (signAt_ok z 0).1
  have h1' := (signAt_ok z 1).1
  have h2' := (signAt_ok z 2).1
  have e : rawOf z = signAt z 0 ++ [] ++ (signAt z 1 ++ [] ++ signAt z 2) := by unfold rawOf; rw [List.append_nil, List.append_nil, List.append_assoc]
  rw [e]
  exact if_pos (show (signAt z 0).length + ((signAt z 1).length + ((signAt z 2).length + 0)) + 3 * 0 ≤ big from Nat.le_trans (show (signAt z 0).length + ((signAt z 1).length + (signAt z 2).length) ≤ 3 from Nat.add_le_add h0 (Nat.add_le_add h1' h2')) (by decide))

structure PcI (script cs : List Int) (st : St) : Prop where
  scr : st.get "script" = some (.lst (script.map V.int))
  cel : st.get "cells" = some (.trk 0)
  tr : st.tr = [cs.map V.int]
  len : cs.length = 4
noncomputable def pcBody : List PS := [.setI "cells" (.bin .fmod (.var "place") (.int 4)) (.bin .add (.idx (.var "cells") (.bin .fmod (.var "place") (.int 4))) (.idx (.var "script") (.var "place")))]
theorem idx_trk {st : St} {i : Nat} {vs : List V} {a : Nat} {v : V} (ht : st.tr[i]? = some vs) (h : vs[a]? = some v) (ha : a ≤ big) : idxV st (.trk i) (.int (a : Int)) = some v := by
  show (st.tr[i]?).bind _ = _
  rw [ht]
  show (if (0 : Int) ≤ a ∧ (a : Int) ≤ ((big : Nat) : Int) then vs[((a : Nat) : Int).toNat]? else none) = _
  rw [if_pos ⟨Int.natCast_nonneg a, i_le ha⟩]
  exact h
theorem pieces_step {script cs : List Int} {st : St} {j : Nat} (F : PcI script cs st) (hj : j < script.length) (hl : script.length ≤ 1000) :
    ∃ st' cs', execL P00 pcBody (st.set "place" (.int (j : Int))) = some (.next, st') ∧ PcI script cs' st' := by
  obtain ⟨z, hz⟩ : ∃ z, script[j]? = some z := ⟨_, List.getElem?_eq_getElem hj⟩
  have h4 := Nat.mod_lt j (show 0 < 4 by decide)
  have hm : j % 4 < cs.length := by rw [F.len]; exact h4
  obtain ⟨y, hy⟩ : ∃ y, cs[j % 4]? = some y := ⟨_, List.getElem?_eq_getElem hm⟩
  have g1 : (st.set "place" (.int (j : Int))).get "place" = _ := get_eq
  have g2 : (st.set "place" (.int (j : Int))).get "script" = _ := get_ne F.scr
  have g3 : (st.set "place" (.int (j : Int))).get "cells" = _ := get_ne F.cel
  have g4 : (st.set "place" (.int (j : Int))).tr = [cs.map V.int] := F.tr
  generalize st.set "place" (.int (j : Int)) = s1 at *
  have q1 : evalE P00 (.bin .fmod (.var "place") (.int 4)) s1 = some (.int ((j % 4 : Nat) : Int)) := eval_fmod (y := 4) (eval_var g1) eval_int (by decide) (by decide)
  have t0 : s1.tr[0]? = some (cs.map V.int) := by rw [g4]; rfl
  have q2 : evalE P00 (.idx (.var "cells") (.bin .fmod (.var "place") (.int 4))) s1 = some (.int y) := eval_idx (eval_var g3) q1 (idx_trk t0 (by rw [List.getElem?_map, hy]; rfl) (Nat.le_trans (Nat.le_of_lt h4) (by decide)))
  have q3 : evalE P00 (.idx (.var "script") (.var "place")) s1 = some (.int z) := eval_idx (eval_var g2) (eval_var g1) (idx_lst (by rw [List.getElem?_map, hz]; rfl) (Nat.le_trans (Nat.le_of_lt hj) (Nat.le_trans hl (by decide))))
  have q4 : evalE P00 (.bin .add (.idx (.var "cells") (.bin .fmod (.var "place") (.int 4))) (.idx (.var "script") (.var "place"))) s1 = some (.int (y + z)) := eval_bin q2 q3 rfl
  refine ⟨{ s1 with tr := s1.tr.set 0 ((cs.map V.int).set (j % 4) (.int (y + z))) }, cs.set (j % 4) (y + z), ?_, g2, g3, ?_, by rw [List.length_set, F.len]⟩
  · exact bs (show execS P00 _ s1 = _ from bs q4 (bs g3 (bs (x := gTrk (.trk 0)) rfl (bs q1 (bs (x := gInt (.int ((j % 4 : Nat) : Int))) rfl (bs t0 (if_pos ⟨Int.natCast_nonneg _, Int.ofNat_lt.mpr (by rw [List.length_map]; exact hm), by rw [List.length_map, F.len]; decide⟩))))))) rfl
  · show s1.tr.set 0 _ = _
    rw [g4, List.map_set]; rfl
theorem run_pieces {script : List Int} (hl : script.length ≤ 1000) : ∃ cs : List Int, cs.length = 4 ∧ fn1 "_law_pieces" [.lst (script.map V.int)] = some (.lst (cs.map fun z => V.str (pieceOf z))) := by
  let s0 : St := { locs := [("script", .lst (script.map V.int))], tr := [] }
  have F0 : PcI script [24, 13, 41, 275] { locs := setL s0.locs "cells" (.trk 0), tr := [] ++ [[.int 24, .int 13, .int 41, .int 275]] } := ⟨rfl, rfl, rfl, rfl⟩
  generalize hs1 : ({ locs := setL s0.locs "cells" (.trk 0), tr := [] ++ [[.int 24, .int 13, .int 41, .int 275]] } : St) = s1 at *
  obtain ⟨s2, ⟨cs, F⟩, q⟩ := forGo_next (f := fun v st => execL P00 pcBody (st.set "place" v)) (fun st => some (.next, st)) (fun _ st => ∃ cs, PcI script cs st) ((List.range script.length).map fun k : Nat => V.int (0 + (k : Int))) 0 s1 ⟨_, F0⟩ (by
    rintro j v st hv ⟨cs, F⟩
    obtain ⟨hj, rfl⟩ := range_get hv
    rw [Int.zero_add]
    obtain ⟨st', cs', e, F'⟩ := pieces_step F hj hl
    exact ⟨st', e, cs', F'⟩)
  refine ⟨cs, F.len, ?_⟩
  have hlb : script.length ≤ big := Nat.le_trans hl (by decide)
  have q1 : evalE P00 (.b1 .len (.var "script")) s1 = some (.int (script.length : Int)) := by
    have := eval_len (P := P00) (e := .var "script") (vs := script.map V.int) (eval_var F0.scr) (by rw [List.length_map]; exact hlb)
    rw [List.length_map] at this
    exact this
  have q2 : evalE P00 (.lst [(.str []), (.str [46]), (.str [13]), (.str [10]), (.str [97]), (.str [46]), (.str [13]), (.str [10]), (.str [32]), (.str [133])]) s2 = some signsV :=
    bs (show evalEs P00 _ s2 = some (signs.map V.str) from rfl) (if_pos (show 10 ≤ big from by decide))
  have g1 : (s2.set "signs" signsV).get "signs" = some signsV := get_eq
  have g2 : (s2.set "signs" signsV).get "cells" = some (.trk 0) := get_ne F.cel
  have g3 : (s2.set "signs" signsV).tr[0]? = some (cs.map V.int) := by show s2.tr[0]? = _; rw [F.tr]; rfl
  generalize hs3 : s2.set "signs" signsV = s3 at *
  have hcl : cs.length ≤ 1000 := by rw [F.len]; decide
  have q3 : evalE P00 (.comp (.join [] (.comp (.idx (.var "signs") (.bin .fmod (.bin .fdiv (.var "cell") (.bin .pow (.int 10) (.var "step"))) (.int 10))) "step" (.rng1 (.int 3)) [])) "cell" (.var "cells") []) s3 = some (.lst (cs.map fun z => V.str (rawOf z))) :=
    eval_comp (k := V.int) (v := .trk 0) (eval_var g2) g3 hcl fun z _ => eval_raw ((get_there (by decide)).trans g1) get_here
  have g4 : (s3.set "pieces" (.lst (cs.map fun z => V.str (rawOf z)))).get "pieces" = some (.lst (cs.map fun z => V.str (rawOf z))) := get_eq
  generalize hs4 : s3.set "pieces" (.lst (cs.map fun z => V.str (rawOf z))) = s4 at *
  have q4 : evalE P00 (.comp (.ife (.cmp .ne (.var "piece") (.str [])) (.var "piece") (.str [46])) "piece" (.var "pieces") []) s4 = some (.lst (cs.map fun z => V.str (pieceOf z))) := by
    refine eval_comp (k := fun z => V.str (rawOf z)) (eval_var g4) rfl hcl fun z _ => ?_
    refine eval_ife (evalT_cmp (eval_var get_here) eval_str cmp_ne_str) ?_
    unfold pieceOf
    by_cases h : rawOf z = []
    · rw [decide_eq_true h, if_neg (not_not_intro h)]; rfl
    · rw [decide_eq_false h, if_pos h]; exact eval_var (P := P00) get_here
  have q5 : retV P00 (.comp (.ife (.cmp .ne (.var "piece") (.str [])) (.var "piece") (.str [46])) "piece" (.var "pieces") []) s4 = some (.lst (cs.map fun z => V.str (pieceOf z))) :=
    bs q4 (if_pos (by rw [List.all_map]; exact List.all_eq_true.mpr fun _ _ => rfl))
  have hx := execL_ret (ps := []) q5
  rw [← hs4] at hx
  have hx := (execL_asg q3).trans hx
  rw [← hs3] at hx
  have hx := (execL_for (x := "place") (body := pcBody) (els := []) (eval_rng1 q1 hlb) rfl (items_rng hlb) q).trans ((execL_asg q2).trans hx)
  rw [← hs1] at hx
  exact (fn1_pieces _).trans (run_of rfl ((execL_asgL (vs := [.int 24, .int 13, .int 41, .int 275]) rfl (by decide)).trans hx))
end
section
open PySem PySem.Spec PySem.Calls PySem.W PyProof.Rows

theorem get_tr {st : St} {tr : List (List V)} {y : String} : St.get { st with tr := tr } y = st.get y := rfl
theorem get_setL {l : List (String × V)} {tr : List (List V)} {x y : String} {v : V} : St.get { locs := setL l x v, tr := tr } y = if y = x then some v else getL l y := getL_setL _ _ _ _
theorem strs_of : ∀ xs : List (List Nat), strsOf (xs.map V.str) = some xs
  | [] => rfl
  | x :: xs => bs (x := gStr (.str x)) rfl (bs (strs_of xs) rfl)
theorem joinV_strs {st : St} {sep : List Nat} {xs : List (List Nat)} (h : (xs.map List.length).sum + xs.length * sep.length ≤ big) : joinV st sep (.lst (xs.map V.str)) = some (.str (joinL sep xs)) := bs (x := lview st (.lst (xs.map V.str))) rfl (bs (strs_of xs) (if_pos h))
theorem joinV_trk {st : St} {sep : List Nat} {xs : List (List Nat)} {i : Nat} (ht : st.tr[i]? = some (xs.map V.str)) (h : (xs.map List.length).sum + xs.length * sep.length ≤ big) : joinV st sep (.trk i) = some (.str (joinL sep xs)) := bs (x := lview st (.trk i)) ht (bs (strs_of xs) (if_pos h))
theorem sum_len {xs : List (List Nat)} {b : Nat} (h : ∀ x ∈ xs, x.length ≤ b) : (xs.map List.length).sum ≤ b * xs.length := by
  induction xs with
  | nil => exact Nat.le_refl 0
  | cons x xs ih =>
    rw [List.map_cons, List.sum_cons, List.length_cons, Nat.mul_succ, Nat.add_comm]
    exact Nat.add_le_add (ih fun y hy => h y (List.mem_cons_of_mem _ hy)) (h x List.mem_cons_self)

noncomputable def fname (i : Nat) : List Nat := (flagTab.lookup ((2 ^ i : Nat) : Int)).getD (hexS (2 ^ i))
theorem tabV_str {tab : List (Int × List Nat)} {i : Int} {y : List Nat} : tabV tab i (.str y) = .str ((tab.lookup i).getD y) := by
  unfold tabV
  cases tab.lookup i <;> rfl
noncomputable def nxt (n i : Nat) : Nat := n + 2 ^ i - 2 * (n &&& 2 ^ i)
noncomputable def prGo : List Nat → Nat → List (List Nat) → List (List Nat)
  | [], n, acc => acc ++ [hexS n]
  | i :: r, n, acc => if n &&& 2 ^ i ≠ 0 then (if nxt n i = 0 then acc ++ [fname i] else prGo r (nxt n i) (acc ++ [fname i])) else prGo r n acc
noncomputable def prOk : List Nat → Nat → Bool
  | [], n => decide ((hexS n).length ≤ 1000)
  | i :: r, n => if n &&& 2 ^ i ≠ 0 then (if nxt n i = 0 then true else prOk r (nxt n i)) else prOk r n
noncomputable def pretty (n : Nat) : List Nat := joinL [44, 32] (prGo (List.range 32) n [])

theorem fname_len : ∀ i < 32, (hexS (2 ^ i)).length ≤ 1000 ∧ (fname i).length ≤ 1000 := by decide +kernel

noncomputable def prBody : List PS := [
    .asg "flag" (.bin .shl (.int 1) (.var "i")),
    .ite (.bin .band (.var "flags") (.var "flag")) [
      .app "names" (.dget (.var "flag") (.b1 .hex (.var "flag"))),
      .aug .bxor "flags" (.var "flag"),
      .ite (.not (.var "flags")) [
        .brk] []] []]
noncomputable def prElse : List PS := [.app "names" (.b1 .hex (.var "flags"))]
theorem eval_hex {P : Prims} {e : PE} {st : St} {n : Nat} (h : evalE P e st = some (.int (n : Int))) (hl : (hexS n).length ≤ 1000) : evalE P (.b1 .hex e) st = some (.str (hexS n)) :=
  eval_b1 h (show (if (0 : Int) ≤ n ∧ (hexS ((n : Nat) : Int).toNat).length ≤ big then some (V.str (hexS ((n : Nat) : Int).toNat)) else none) = _ from if_pos ⟨Int.natCast_nonneg n, Nat.le_trans hl (by decide)⟩)
structure PrI (n : Nat) (acc : List (List Nat)) (st : St) : Prop where
  fl : st.get "flags" = some (.int (n : Int))
  nm : st.get "names" = some (.trk 0)
  tr : st.tr = [acc.map V.str]
theorem and_nat (n m : Nat) : Builtin.bitAnd (n : Int) (m : Int) = ((n &&& m : Nat) : Int) := by rw [bitAnd_pp (Int.natCast_nonneg _) (Int.natCast_nonneg _), Int.toNat_natCast, Int.toNat_natCast]
theorem xor_nxt (n i : Nat) : Builtin.bitXor (n : Int) ((2 ^ i : Nat) : Int) = ((nxt n i : Nat) : Int) := by
  have h1 : n &&& 2 ^ i ≤ n := Nat.and_le_left
  have h2 : n &&& 2 ^ i ≤ 2 ^ i := Nat.and_le_right
  unfold Builtin.bitXor nxt
  rw [bitOr_and, and_nat]
  omega
theorem truthy_nat {st : St} (n : Nat) : truthyV st (.int (n : Int)) = some (decide (n ≠ 0)) := congrArg some (decide_eq_decide.mpr (not_congr (Int.ofNat_inj (m := n) (n := 0))))
theorem pr_flag {n i : Nat} {acc : List (List Nat)} {st : St} (F : PrI n acc st) (hi : i < 32) : ∃ s1, (∀ ps, execL P00 (.asg "flag" (.bin .shl (.int 1) (.var "i")) :: ps) (st.set "i" (.int (i : Int))) = execL P00 ps s1) ∧ PrI n acc s1 ∧ s1.get "flag" = some (.int ((2 ^ i : Nat) : Int)) ∧
    evalT P00 (.bin .band (.var "flags") (.var "flag")) s1 = some (decide (n &&& 2 ^ i ≠ 0)) := by
  have q0 : evalE P00 (.bin .shl (.int 1) (.var "i")) (st.set "i" (.int (i : Int))) = some (.int ((2 ^ i : Nat) : Int)) :=
    eval_bin (w := .int (i : Int)) eval_int (eval_var get_eq) ((shl_ints ⟨by decide, Int.natCast_nonneg i, Int.ofNat_le.mpr (Nat.le_trans (Nat.le_of_lt hi) (by decide))⟩).trans (by rw [Int.one_mul, Int.toNat_natCast, Int.natCast_pow]; rfl))
  have g1 : ((st.set "i" (.int (i : Int))).set "flag" (.int ((2 ^ i : Nat) : Int))).get "flags" = _ := get_ne (get_ne F.fl)
  have g2 : ((st.set "i" (.int (i : Int))).set "flag" (.int ((2 ^ i : Nat) : Int))).get "flag" = _ := get_eq
  exact ⟨_, fun ps => execL_asg q0, ⟨g1, get_ne (get_ne F.nm), F.tr⟩, g2, evalT_bin (eval_var g1) (eval_var g2) (congrArg (some ∘ V.int) (and_nat n (2 ^ i))) (truthy_nat _)⟩
theorem pr_skip {n i : Nat} {acc : List (List Nat)} {st : St} (F : PrI n acc st) (hi : i < 32) (h : n &&& 2 ^ i = 0) : ∃ st', execL P00 prBody (st.set "i" (.int (i : Int))) = some (.next, st') ∧ PrI n acc st' := by
  obtain ⟨s1, e, F1, _, t⟩ := pr_flag F hi
  rw [decide_eq_false (not_not_intro h)] at t
  exact ⟨s1, (e _).trans (execL_skip t), F1⟩
theorem pr_take {n i : Nat} {acc : List (List Nat)} {st : St} (F : PrI n acc st) (hi : i < 32) (hacc : acc.length ≤ 100) (h : n &&& 2 ^ i ≠ 0) : ∃ st', execL P00 prBody (st.set "i" (.int (i : Int))) = some (if nxt n i = 0 then .brk else .next, st') ∧ PrI (nxt n i) (acc ++ [fname i]) st' := by
  obtain ⟨s1, e, F1, g2, t⟩ := pr_flag F hi
  rw [decide_eq_true h] at t
  have q1 : evalE P00 (.dget (.var "flag") (.b1 .hex (.var "flag"))) s1 = some (.str (fname i)) :=
    bs (eval_var g2) (bs (eval_hex (eval_var g2) (fname_len i hi).1) (bs (x := gInt (.int ((2 ^ i : Nat) : Int))) rfl (congrArg some tabV_str)))
  have x1 := exec_app F1.nm q1 (vs := acc.map V.str) (by rw [F1.tr]; rfl) (by rw [List.length_map]; exact Nat.le_trans hacc (by decide))
  have f1 : St.get { s1 with tr := s1.tr.set 0 (acc.map V.str ++ [.str (fname i)]) } "flags" = some (.int (n : Int)) := F1.fl
  have f2 : St.get { s1 with tr := s1.tr.set 0 (acc.map V.str ++ [.str (fname i)]) } "flag" = some (.int ((2 ^ i : Nat) : Int)) := g2
  have f3 : St.get { s1 with tr := s1.tr.set 0 (acc.map V.str ++ [.str (fname i)]) } "names" = some (.trk 0) := F1.nm
  have f4 : (St.mk s1.locs (s1.tr.set 0 (acc.map V.str ++ [.str (fname i)]))).tr = [(acc ++ [fname i]).map V.str] := by
    show s1.tr.set 0 _ = _
    rw [F1.tr, List.map_append]; rfl
  generalize (St.mk s1.locs (s1.tr.set 0 (acc.map V.str ++ [.str (fname i)]))) = s2 at *
  have q2 : execS P00 (.aug .bxor "flags" (.var "flag")) s2 = some (.next, s2.set "flags" (.int ((nxt n i : Nat) : Int))) := exec_aug f1 (eval_var f2) rfl (congrArg (some ∘ V.int) (xor_nxt n i))
  have t2 : evalT P00 (.not (.var "flags")) (s2.set "flags" (.int ((nxt n i : Nat) : Int))) = some (!decide (nxt n i ≠ 0)) := evalT_not (evalT_var get_eq (truthy_nat _))
  have x2 : execL P00 [.app "names" (.dget (.var "flag") (.b1 .hex (.var "flag"))), .aug .bxor "flags" (.var "flag"), .ite (.not (.var "flags")) [.brk] []] s1 = some (if nxt n i = 0 then Fl.brk else .next, s2.set "flags" (.int ((nxt n i : Nat) : Int))) := by
    refine execL_cons x1 (execL_cons q2 ((execL_ite t2).trans ?_))
    by_cases hz : nxt n i = 0
    · rw [if_pos hz, decide_eq_false (not_not_intro hz)]; rfl
    · rw [if_neg hz, decide_eq_true hz]; rfl
  refine ⟨_, (e _).trans ((execL_ite t).trans (bs x2 ?_)), ⟨get_eq, get_ne f3, f4⟩⟩
  by_cases hz : nxt n i = 0
  · rw [if_pos hz]; rfl
  · rw [if_neg hz]; rfl
theorem pr_loop : ∀ (l : List Nat) (n : Nat) (acc : List (List Nat)) (st : St), (∀ i ∈ l, i < 32) → PrI n acc st → acc.length + l.length ≤ 40 → prOk l n = true →
    ∃ st' m, forGo (fun v st => execL P00 prBody (st.set "i" v)) (fun st => execL P00 prElse st) (l.map fun k : Nat => V.int (0 + (k : Int))) st = some (.next, st') ∧ PrI m (prGo l n acc) st'
  | [], n, acc, st, _, F, hl, hok => by
    refine ⟨{ st with tr := st.tr.set 0 (acc.map V.str ++ [.str (hexS n)]) }, n, ?_, ⟨F.fl, F.nm, ?_⟩⟩
    · exact (execL_app F.nm (eval_hex (eval_var F.fl) (of_decide_eq_true hok)) (vs := acc.map V.str) (by rw [F.tr]; rfl) (by rw [List.length_map]; exact Nat.le_trans (Nat.le_trans (Nat.le_add_right _ _) hl) (by decide)))
    · show st.tr.set 0 _ = _
      rw [F.tr, prGo, List.map_append]; rfl
  | i :: l, n, acc, st, hi, F, hl, hok => by
    have hi0 := hi i List.mem_cons_self
    have hi' := fun j hj => hi j (List.mem_cons_of_mem i hj)
    have hl' : acc.length + 1 + l.length ≤ 40 := Nat.le_trans (Nat.le_of_eq (Nat.succ_add_eq_add_succ _ _)) hl
    rw [prOk] at hok
    rw [List.map_cons, Int.zero_add, prGo]
    by_cases h : n &&& 2 ^ i = 0
    · obtain ⟨st1, q1, F1⟩ := pr_skip F hi0 h
      rw [if_neg (not_not_intro h)] at hok
      rw [if_neg (not_not_intro h)]
      obtain ⟨st2, m, q2, F2⟩ := pr_loop l n acc st1 hi' F1 (Nat.le_trans (Nat.add_le_add_right (Nat.le_succ _) _) hl') hok
      exact ⟨st2, m, (forGo_cons q1).trans q2, F2⟩
    · obtain ⟨st1, q1, F1⟩ := pr_take F hi0 (Nat.le_trans (Nat.le_trans (Nat.le_add_right _ _) hl) (by decide)) h
      rw [if_pos h] at hok
      rw [if_pos h]
      by_cases hz : nxt n i = 0
      · rw [if_pos hz] at q1
        rw [if_pos hz]
        exact ⟨st1, _, bs q1 rfl, F1⟩
      · rw [if_neg hz] at q1 hok
        rw [if_neg hz]
        obtain ⟨st2, m, q2, F2⟩ := pr_loop l (nxt n i) (acc ++ [fname i]) st1 hi' F1 (by rw [List.length_append]; exact hl') hok
        exact ⟨st2, m, (forGo_cons q1).trans q2, F2⟩
theorem prGo_len : ∀ (l : List Nat) (n : Nat) (acc : List (List Nat)), (∀ i ∈ l, i < 32) → prOk l n = true → (∀ x ∈ acc, x.length ≤ 1000) → (∀ x ∈ prGo l n acc, x.length ≤ 1000) ∧ (prGo l n acc).length ≤ acc.length + l.length + 1
  | [], n, acc, _, hok, ha => ⟨fun x hx => (List.mem_append.mp hx).elim (ha x) fun h => List.mem_singleton.mp h ▸ of_decide_eq_true hok, Nat.le_of_eq List.length_append⟩
  | i :: l, n, acc, hi, hok, ha => by
    have ha' : ∀ x ∈ acc ++ [fname i], x.length ≤ 1000 := fun x hx => (List.mem_append.mp hx).elim (ha x) fun h => List.mem_singleton.mp h ▸ (fname_len i (hi i List.mem_cons_self)).2
    have hi' := fun j hj => hi j (List.mem_cons_of_mem i hj)
    have e : (acc ++ [fname i]).length = acc.length + 1 := List.length_append
    rw [prGo]
    rw [prOk] at hok
    split
    · rename_i h
      rw [if_pos h] at hok
      split
      · exact ⟨ha', by rw [e, List.length_cons]; omega⟩
      · rename_i hz
        rw [if_neg hz] at hok
        have := prGo_len l (nxt n i) (acc ++ [fname i]) hi' hok ha'
        exact ⟨this.1, Nat.le_trans this.2 (by rw [e, List.length_cons]; omega)⟩
    · rename_i h
      rw [if_neg h] at hok
      have := prGo_len l n acc hi' hok ha
      exact ⟨this.1, Nat.le_trans this.2 (by rw [List.length_cons]; omega)⟩
theorem run_pretty {n : Nat} (hok : prOk (List.range 32) n = true) : fn1 "pretty_flags" [.int (n : Int)] = some (.str (pretty n)) := by
  let s0 : St := { locs := [("flags", .int (n : Int))], tr := [] }
  have F0 : PrI n [] { locs := setL s0.locs "names" (.trk s0.tr.length), tr := s0.tr ++ [[]] } := ⟨rfl, rfl, rfl⟩
  obtain ⟨s2, m, q, F⟩ := pr_loop (List.range 32) n [] _ (fun i hi => List.mem_range.mp hi) F0 (by decide) hok
  have hlen := prGo_len (List.range 32) n [] (fun i hi => List.mem_range.mp hi) hok nofun
  have q1 : evalE P00 (.join [44, 32] (.var "names")) s2 = some (.str (pretty n)) := by
    refine eval_join (eval_var F.nm) (joinV_trk (by rw [F.tr]; rfl) ?_)
    have h2 : (prGo (List.range 32) n []).length ≤ 33 := hlen.2
    exact Nat.le_trans (Nat.add_le_add (Nat.le_trans (sum_len hlen.1) (Nat.mul_le_mul_left 1000 h2)) (Nat.mul_le_mul_right 2 h2)) (by decide)
  exact (fn1_pretty _).trans (run_of rfl ((execL_asgL (vs := []) rfl (Nat.zero_le _)).trans ((execL_for (v := .rng 0 32) (eval_rng1 (n := 32) eval_int (by decide)) rfl (items_rng (n := 32) (by decide)) q).trans (execL_ret (bs q1 rfl)))))
end
section
open PySem PySem.Spec PySem.Calls PySem.W PyProof.Rows

noncomputable def hexd : List Nat := [48, 49, 50, 51, 52, 53, 54, 55, 56, 57, 97, 98, 99, 100, 101, 102]
noncomputable def sxGo : Nat → Nat → List Nat → List Nat
  | 0, _, t => t
  | k + 1, l, t => if 0 < l then sxGo k (l / 16) (hexd.getD (l % 16) 0 :: t) else t
noncomputable def sixteens (n : Nat) : List Nat := [48, 120] ++ sxGo 20 (n / 16) [hexd.getD (n % 16) 0]
theorem idx_strN {x : List Nat} {st : St} {i : Nat} (h : i < x.length) (hl : x.length ≤ 1000) : idxV st (.str x) (.int (i : Int)) = some (.str [x.getD i 0]) := by
  refine idx_str (Nat.le_trans hl (by decide)) ?_
  unfold idxL
  rw [if_pos (Int.natCast_nonneg i), Int.toNat_natCast, List.getElem?_eq_getElem h, List.getD_eq_getElem?_getD, List.getElem?_eq_getElem h]
  rfl
theorem eval_hexd {st : St} {e : PE} {n : Nat} (h : evalE P00 e st = some (.int (n : Int))) : evalE P00 (.idx (.str hexd) (.bin .fmod e (.int 16))) st = some (.str [hexd.getD (n % 16) 0]) :=
  eval_idx eval_str (eval_fmod (y := 16) h eval_int (by decide) (by decide)) (idx_strN (Nat.mod_lt n (show 0 < 16 by decide)) (by decide))
noncomputable def sxBody : List PS := [
    .asg "text" (.bin .add (.idx (.str hexd) (.bin .fmod (.var "left") (.int 16))) (.var "text")),
    .asg "left" (.bin .fdiv (.var "left") (.int 16))]
theorem sx_step {l : Nat} {t : List Nat} {st : St} (h1 : st.get "left" = some (.int (l : Int))) (h2 : st.get "text" = some (.str t)) (h3 : t.length ≤ 100) :
    execL P00 sxBody st = some (.next, (st.set "text" (.str (hexd.getD (l % 16) 0 :: t))).set "left" (.int ((l / 16 : Nat) : Int))) :=
  (execL_asg (eval_bin (eval_hexd (eval_var h1)) (eval_var h2) (add_str (Nat.le_trans (Nat.add_le_add_left h3 1) (by decide))))).trans (execL_asg (eval_fdiv (x := l) (y := 16) (eval_var (get_ne h1)) eval_int (by decide) (by decide)))
theorem sx_while : ∀ (k l : Nat) (t : List Nat) (st : St) (m : Nat), l < 16 ^ k → k < m → t.length + k ≤ 100 → st.get "left" = some (.int (l : Int)) → st.get "text" = some (.str t) →
    ∃ st', whileGo (fun st => evalT P00 (.cmp .gt (.var "left") (.int 0)) st) (fun st => execL P00 sxBody st) m st = some (.next, st') ∧ st'.get "text" = some (.str (sxGo k l t))
  | _, _, _, _, 0, _, h, _, _, _ => absurd h (Nat.not_lt_zero _)
  | 0, l, t, st, m + 1, hl, _, _, h1, h2 => by
    cases Nat.lt_one_iff.mp hl
    exact ⟨st, whileGo_stop (evalT_cmp (eval_var h1) eval_int rfl), h2⟩
  | k + 1, l, t, st, m + 1, hl, hm, ht, h1, h2 => by
    have e : evalT P00 (.cmp .gt (.var "left") (.int 0)) st = some (decide (0 < l)) := evalT_cmp (eval_var h1) eval_int (congrArg some (natL 0 l))
    by_cases h : 0 < l
    · obtain ⟨st', q1, q2⟩ := sx_while k (l / 16) (hexd.getD (l % 16) 0 :: t) ((st.set "text" (.str (hexd.getD (l % 16) 0 :: t))).set "left" (.int ((l / 16 : Nat) : Int))) m (Nat.div_lt_of_lt_mul (Nat.mul_comm _ _ ▸ hl)) (Nat.lt_of_succ_lt_succ hm) (Nat.le_trans (Nat.le_of_eq (Nat.succ_add_eq_add_succ _ _)) ht) get_eq (get_ne get_eq)
      rw [decide_eq_true h] at e
      exact ⟨st', (whileGo_go e (sx_step h1 h2 (Nat.le_trans (Nat.le_add_right _ _) ht))).trans q1, q2.trans (by rw [sxGo, if_pos h])⟩
    · rw [decide_eq_false h] at e
      exact ⟨st, whileGo_stop e, h2.trans (by rw [sxGo, if_neg h])⟩
theorem sxGo_len : ∀ (k l : Nat) (t : List Nat), (sxGo k l t).length ≤ k + t.length
  | 0, _, _ => Nat.le_add_left _ _
  | k + 1, l, t => by
    unfold sxGo
    split
    · exact Nat.le_trans (sxGo_len k _ _) (Nat.le_of_eq (Nat.succ_add_eq_add_succ _ _).symm)
    · exact Nat.le_add_left _ _
theorem run_sixteens {n : Nat} (hn : n < 16 ^ 20) : fn1 "_law_sixteens" [.int (n : Int)] = some (.str (sixteens n)) ∧ (sixteens n).length ≤ 100 := by
  let s0 : St := { locs := [("number", .int (n : Int))], tr := [] }
  have q1 : evalE P00 (.idx (.str hexd) (.bin .fmod (.var "number") (.int 16))) s0 = some (.str [hexd.getD (n % 16) 0]) := eval_hexd (eval_var rfl)
  have g3 : (s0.set "text" (.str [hexd.getD (n % 16) 0])).get "number" = some (.int (n : Int)) := rfl
  have g4 : (s0.set "text" (.str [hexd.getD (n % 16) 0])).get "text" = some (.str [hexd.getD (n % 16) 0]) := get_eq
  generalize hs2 : s0.set "text" (.str [hexd.getD (n % 16) 0]) = s2 at *
  have q3 : evalE P00 (.bin .fdiv (.var "number") (.int 16)) s2 = some (.int ((n / 16 : Nat) : Int)) := eval_fdiv (y := 16) (eval_var g3) eval_int (by decide) (by decide)
  obtain ⟨st', r1, r2⟩ := sx_while 20 (n / 16) [hexd.getD (n % 16) 0] (s2.set "left" (.int ((n / 16 : Nat) : Int))) fuel (Nat.lt_of_le_of_lt (Nat.div_le_self _ _) hn) (by decide) (show 21 ≤ 100 by decide) get_eq (get_ne g4)
  have r3 : (sxGo 20 (n / 16) [hexd.getD (n % 16) 0]).length ≤ 21 := sxGo_len _ _ _
  have hlen : 2 + (sxGo 20 (n / 16) [hexd.getD (n % 16) 0]).length ≤ 100 := Nat.le_trans (Nat.add_le_add_left r3 2) (by decide)
  have q5 : retV P00 (.bin .add (.str [48, 120]) (.var "text")) st' = some (.str (sixteens n)) := bs (eval_bin eval_str (eval_var r2) (add_str (Nat.le_trans hlen (by decide)))) rfl
  have hx : execL P00 [.asg "left" (.bin .fdiv (.var "number") (.int 16)), .while' (.cmp .gt (.var "left") (.int 0)) sxBody, .ret (.bin .add (.str [48, 120]) (.var "text"))] s2 = some (.ret (.str (sixteens n)), st') := (execL_asg q3).trans ((execL_while r1).trans (execL_ret q5))
  subst hs2
  exact ⟨(fn1_sixteens _).trans (run_of rfl ((execL_asg q1).trans hx)), Nat.le_trans (Nat.le_of_eq List.length_append) hlen⟩

noncomputable def nms8 : List (List Nat) := [[79, 80, 84, 73, 77, 73, 90, 69, 68], [78, 69, 87, 76, 79, 67, 65, 76, 83], [86, 65, 82, 65, 82, 71, 83], [86, 65, 82, 75, 69, 89, 87, 79, 82, 68, 83], [78, 69, 83, 84, 69, 68], [71, 69, 78, 69, 82, 65, 84, 79, 82], [78, 79, 70, 82, 69, 69], [67, 79, 82, 79, 85, 84, 73, 78, 69]]
noncomputable def nms2 : List (List Nat) := [[73, 84, 69, 82, 65, 66, 76, 69, 95, 67, 79, 82, 79, 85, 84, 73, 78, 69], [65, 83, 89, 78, 67, 95, 71, 69, 78, 69, 82, 65, 84, 79, 82]]
noncomputable def nms : List (List Nat) := nms8 ++ nms2
noncomputable def nmAt (p : Nat) : List Nat := if p < 10 then nms.getD p [] else [48, 120] ++ [([49, 50, 52, 56] : List Nat).getD (p % 4) 0] ++ List.replicate (p / 4) 48
noncomputable def nmGo (shift : Nat) : List Nat → List (List Nat) → Nat → List (List Nat) × Nat
  | [], ps, r => (ps, r)
  | one :: l, ps, r => if shift + one < 32 then nmGo shift l (ps ++ [nmAt (shift + one)]) r else nmGo shift l ps (r + 2 ^ (shift + one))
noncomputable def nameL (ch : List Nat) (shift : Nat) : List Nat := let q := nmGo shift ch [] 0; joinL [44, 32] (if q.2 ≠ 0 ∨ ch = [] then q.1 ++ [sixteens q.2] else q.1)
theorem nmAt_len : ∀ p < 40, (nmAt p).length ≤ 100 := by decide +kernel

noncomputable def nmBody : List PS := [
    .asg "place" (.bin .add (.var "shift") (.var "one")),
    .ite (.cmp .lt (.var "place") (.int 10)) [
      .app "parts" (.idx (.var "names") (.var "place"))] [
      .ite (.cmp .lt (.var "place") (.int 32)) [
        .app "parts" (.bin .add (.bin .add (.str [48, 120]) (.idx (.str [49, 50, 52, 56]) (.bin .fmod (.var "place") (.int 4)))) (.bin .mul (.str [48]) (.bin .fdiv (.var "place") (.int 4))))] [
        .asg "rest" (.bin .add (.var "rest") (.bin .pow (.int 2) (.var "place")))]]]
structure NmI (ch : List Nat) (shift : Nat) (ps : List (List Nat)) (r : Nat) (st : St) : Prop where
  ch' : st.get "chosen" = some (intsV ch)
  sh : st.get "shift" = some (.int (shift : Int))
  nm : st.get "names" = some (.lst (nms.map V.str))
  pt : st.get "parts" = some (.trk 0)
  rs : st.get "rest" = some (.int (r : Int))
  tr : st.tr = [ps.map V.str]
theorem rep_flat (k : Nat) : (List.replicate k [48]).flatten = List.replicate k 48 := by
  induction k with
  | zero => rfl
  | succ k ih => rw [List.replicate_succ, List.flatten_cons, ih]; rfl
theorem mul_strs {st : St} {x : List Nat} {n : Nat} (h : n ≤ 100 ∧ x.length ≤ 100) : binV st .mul (.str x) (.int (n : Int)) = some (.str (List.replicate n x).flatten) :=
  show (if 0 ≤ (n : Int) ∧ (n : Int) ≤ 100 ∧ x.length ≤ 100 then some (V.str (List.replicate ((n : Nat) : Int).toNat x).flatten) else none) = _ from if_pos ⟨Int.natCast_nonneg n, Int.ofNat_le.mpr h.1, h.2⟩
theorem nmAt_eval {st : St} {p : Nat} (hp : p < 32) (g1 : st.get "place" = some (.int (p : Int))) (h10 : ¬ p < 10) :
    evalE P1 (.bin .add (.bin .add (.str [48, 120]) (.idx (.str [49, 50, 52, 56]) (.bin .fmod (.var "place") (.int 4)))) (.bin .mul (.str [48]) (.bin .fdiv (.var "place") (.int 4)))) st = some (.str (nmAt p)) := by
  have m4 : evalE P1 (.bin .fmod (.var "place") (.int 4)) st = some (.int ((p % 4 : Nat) : Int)) := eval_fmod (y := 4) (eval_var g1) eval_int (by decide) (by decide)
  have d4 : evalE P1 (.bin .fdiv (.var "place") (.int 4)) st = some (.int ((p / 4 : Nat) : Int)) := eval_fdiv (y := 4) (eval_var g1) eval_int (by decide) (by decide)
  have hd : p / 4 ≤ 32 := Nat.le_trans (Nat.div_le_self _ _) (Nat.le_of_lt hp)
  have r4 : evalE P1 (.bin .mul (.str [48]) (.bin .fdiv (.var "place") (.int 4))) st = some (.str (List.replicate (p / 4) 48)) := eval_bin eval_str d4 (rep_flat (p / 4) ▸ mul_strs ⟨Nat.le_trans hd (by decide), by decide⟩)
  unfold nmAt
  rw [if_neg h10]
  exact eval_bin (eval_bin eval_str (eval_idx eval_str m4 (idx_strN (Nat.mod_lt p (show 0 < 4 by decide)) (by decide))) (add_str (show 2 + 1 ≤ big by decide))) r4 (add_str (by
    rw [List.length_replicate]
    exact Nat.le_trans (Nat.add_le_add_left hd 3) (by decide)))
theorem nm_step {ch : List Nat} {shift one : Nat} {ps : List (List Nat)} {r : Nat} {st : St} (F : NmI ch shift ps r st) (h1 : shift < 36) (h2 : one < 4) (hps : ps.length ≤ 100) :
    ∃ st', execL P1 nmBody (st.set "one" (.int (one : Int))) = some (.next, st') ∧ NmI ch shift (if shift + one < 32 then ps ++ [nmAt (shift + one)] else ps) (if shift + one < 32 then r else r + 2 ^ (shift + one)) st' := by
  have q0 : evalE P1 (.bin .add (.var "shift") (.var "one")) (st.set "one" (.int (one : Int))) = some (.int ((shift + one : Nat) : Int)) := eval_bin (v := .int (shift : Int)) (w := .int (one : Int)) (eval_var (get_ne F.sh)) (eval_var get_eq) rfl
  have hp100 : shift + one ≤ 100 := Nat.le_trans (Nat.add_le_add (Nat.le_of_lt h1) (Nat.le_of_lt h2)) (by decide)
  generalize hp : shift + one = p at *
  have g1 : ((st.set "one" (.int (one : Int))).set "place" (.int (p : Int))).get "place" = _ := get_eq
  have g2 : ((st.set "one" (.int (one : Int))).set "place" (.int (p : Int))).get "chosen" = _ := get_ne (get_ne F.ch')
  have g3 : ((st.set "one" (.int (one : Int))).set "place" (.int (p : Int))).get "shift" = _ := get_ne (get_ne F.sh)
  have g4 : ((st.set "one" (.int (one : Int))).set "place" (.int (p : Int))).get "names" = _ := get_ne (get_ne F.nm)
  have g5 : ((st.set "one" (.int (one : Int))).set "place" (.int (p : Int))).get "parts" = _ := get_ne (get_ne F.pt)
  have g6 : ((st.set "one" (.int (one : Int))).set "place" (.int (p : Int))).get "rest" = _ := get_ne (get_ne F.rs)
  have g7 : ((st.set "one" (.int (one : Int))).set "place" (.int (p : Int))).tr = [ps.map V.str] := F.tr
  have x0 := fun qs => execL_asg (x := "place") (ps := qs) q0
  generalize (st.set "one" (.int (one : Int))).set "place" (.int (p : Int)) = s1 at *
  have t1 : evalT P1 (.cmp .lt (.var "place") (.int 10)) s1 = some (decide (p < 10)) := evalT_cmp (eval_var g1) eval_int (congrArg some (natL p 10))
  have t2 : evalT P1 (.cmp .lt (.var "place") (.int 32)) s1 = some (decide (p < 32)) := evalT_cmp (eval_var g1) eval_int (congrArg some (natL p 32))
  have app : ∀ v : List Nat, NmI ch shift (ps ++ [v]) r { s1 with tr := s1.tr.set 0 (ps.map V.str ++ [.str v]) } := fun v => ⟨g2, g3, g4, g5, g6, by show s1.tr.set 0 _ = _; rw [g7, List.map_append]; rfl⟩
  have appx : ∀ {e : PE} {v : List Nat}, evalE P1 e s1 = some (.str v) → execL P1 [.app "parts" e] s1 = some (.next, { s1 with tr := s1.tr.set 0 (ps.map V.str ++ [.str v]) }) := fun q => execL_app g5 q (by rw [g7]; rfl) (by rw [List.length_map]; exact Nat.le_trans hps (by decide))
  by_cases h10 : p < 10
  · have h32 : p < 32 := Nat.lt_trans h10 (by decide)
    have q1 : evalE P1 (.idx (.var "names") (.var "place")) s1 = some (.str (nmAt p)) := by
      refine eval_idx (eval_var g4) (eval_var g1) (idx_lst ?_ (Nat.le_trans (Nat.le_of_lt h10) (by decide)))
      have hl : p < nms.length := h10
      rw [List.getElem?_map, List.getElem?_eq_getElem hl]
      unfold nmAt
      rw [if_pos h10, List.getD_eq_getElem?_getD, List.getElem?_eq_getElem hl]
      rfl
    rw [if_pos h32, if_pos h32]
    rw [decide_eq_true h10] at t1
    exact ⟨_, (x0 _).trans ((execL_ite t1).trans (bs (appx q1) rfl)), app _⟩
  · rw [decide_eq_false h10] at t1
    by_cases h32 : p < 32
    · rw [if_pos h32, if_pos h32]
      rw [decide_eq_true h32] at t2
      exact ⟨_, (x0 _).trans ((execL_ite t1).trans (bs ((execL_ite t2).trans (bs (appx (nmAt_eval h32 g1 h10)) rfl)) rfl)), app _⟩
    · rw [decide_eq_false h32] at t2
      have q1 : evalE P1 (.bin .add (.var "rest") (.bin .pow (.int 2) (.var "place"))) s1 = some (.int ((r + 2 ^ p : Nat) : Int)) :=
        eval_bin (eval_var g6) (eval_bin (r := .int ((2 ^ p : Nat) : Int)) eval_int (eval_var g1) ((pow_ints ⟨by decide, by decide, Int.natCast_nonneg p, Int.ofNat_le.mpr hp100⟩).trans (by rw [Int.toNat_natCast, Int.natCast_pow]; rfl))) rfl
      rw [if_neg h32, if_neg h32]
      exact ⟨s1.set "rest" (.int ((r + 2 ^ p : Nat) : Int)), (x0 _).trans ((execL_ite t1).trans (bs ((execL_ite t2).trans (bs (execL_asg q1) rfl)) rfl)), ⟨get_ne g2, get_ne g3, get_ne g4, get_ne g5, get_eq, g7⟩⟩
theorem nm_loop {ch : List Nat} {shift B : Nat} (h1 : shift < 36) (hB : 2 ^ 39 ≤ B) : ∀ (l : List Nat) (ps : List (List Nat)) (r : Nat) (st : St), NmI ch shift ps r st → (∀ a ∈ l, a < 4) → ps.length + l.length ≤ 100 → (∀ x ∈ ps, x.length ≤ 100) →
    ∃ st', forGo (fun v st => execL P1 nmBody (st.set "one" v)) (fun st => some (.next, st)) (l.map fun a : Nat => V.int (a : Int)) st = some (.next, st') ∧ NmI ch shift (nmGo shift l ps r).1 (nmGo shift l ps r).2 st' ∧ (∀ x ∈ (nmGo shift l ps r).1, x.length ≤ 100) ∧ (nmGo shift l ps r).1.length ≤ ps.length + l.length ∧ (nmGo shift l ps r).2 ≤ r + l.length * B
  | [], ps, r, st, F, _, _, hx => ⟨st, rfl, F, hx, Nat.le_add_right _ _, Nat.le_add_right _ _⟩
  | one :: l, ps, r, st, F, hl, hlen, hx => by
    have hlen' : ps.length + 1 + l.length ≤ 100 := Nat.le_trans (Nat.le_of_eq (Nat.succ_add_eq_add_succ _ _)) hlen
    have ho := hl one List.mem_cons_self
    have hl' := fun a ha => hl a (List.mem_cons_of_mem one ha)
    have eB : r + (one :: l).length * B = r + l.length * B + B := by rw [List.length_cons, Nat.succ_mul, Nat.add_assoc]
    obtain ⟨st1, q1, F1⟩ := nm_step F h1 ho (Nat.le_trans (Nat.le_add_right _ _) hlen)
    rw [nmGo]
    by_cases h32 : shift + one < 32
    · rw [if_pos h32, if_pos h32] at F1
      have e1 : (ps ++ [nmAt (shift + one)]).length = ps.length + 1 := List.length_append
      obtain ⟨st2, q2, F2, a1, a2, a3⟩ := nm_loop h1 hB l _ _ st1 F1 hl' (e1 ▸ hlen') (fun x hx' => (List.mem_append.mp hx').elim (hx x) fun h => List.mem_singleton.mp h ▸ nmAt_len _ (Nat.lt_trans h32 (by decide)))
      rw [if_pos h32]
      exact ⟨st2, (forGo_cons q1).trans q2, F2, a1, Nat.le_trans a2 (Nat.le_of_eq (by rw [e1]; exact Nat.succ_add_eq_add_succ _ _)), Nat.le_trans a3 (by rw [eB]; exact Nat.le_add_right _ _)⟩
    · rw [if_neg h32, if_neg h32] at F1
      obtain ⟨st2, q2, F2, a1, a2, a3⟩ := nm_loop h1 hB l _ _ st1 F1 hl' (Nat.le_trans (Nat.add_le_add_right (Nat.le_succ _) _) hlen') hx
      rw [if_neg h32]
      have hp : 2 ^ (shift + one) ≤ B := Nat.le_trans (Nat.pow_le_pow_right (by decide) (Nat.le_of_lt_succ (Nat.lt_of_lt_of_le (Nat.add_lt_add h1 ho) (by decide)))) hB
      exact ⟨st2, (forGo_cons q1).trans q2, F2, a1, Nat.le_trans a2 (Nat.add_le_add_left (Nat.le_succ _) _), Nat.le_trans a3 (by rw [eB, Nat.add_right_comm]; exact Nat.add_le_add_left hp _)⟩
theorem add_lsts {st : St} {l m : List V} (h : l.length + m.length ≤ big) : binV st .add (.lst l) (.lst m) = some (.lst (l ++ m)) := show (if l.length + m.length ≤ big then some (V.lst (l ++ m)) else none) = _ from if_pos h
theorem run_name {ch : List Nat} {shift : Nat} (h1 : shift < 36) (hc : ∀ a ∈ ch, a < 4) (hl : ch.length ≤ 4) (heq : ∀ st, cmpV st .eq (intsV ch) (.lst []) = some (decide (ch = []))) :
    run P1 ["chosen", "shift"] p_law_name [intsV ch, .int (shift : Int)] = some (.str (nameL ch shift)) := by
  let s0 : St := { locs := [("chosen", intsV ch), ("shift", .int (shift : Int))], tr := [] }
  have l8 : ∀ st, evalE P1 (.lst [(.str [79, 80, 84, 73, 77, 73, 90, 69, 68]), (.str [78, 69, 87, 76, 79, 67, 65, 76, 83]), (.str [86, 65, 82, 65, 82, 71, 83]), (.str [86, 65, 82, 75, 69, 89, 87, 79, 82, 68, 83]), (.str [78, 69, 83, 84, 69, 68]), (.str [71, 69, 78, 69, 82, 65, 84, 79, 82]), (.str [78, 79, 70, 82, 69, 69]), (.str [67, 79, 82, 79, 85, 84, 73, 78, 69])]) st = some (.lst (nms8.map V.str)) := fun st =>
    bs (show evalEs P1 _ st = some (nms8.map V.str) from rfl) (if_pos (show 8 ≤ big from by decide))
  have l2 : ∀ st, evalE P1 (.lst [(.str [73, 84, 69, 82, 65, 66, 76, 69, 95, 67, 79, 82, 79, 85, 84, 73, 78, 69]), (.str [65, 83, 89, 78, 67, 95, 71, 69, 78, 69, 82, 65, 84, 79, 82])]) st = some (.lst (nms2.map V.str)) := fun st =>
    bs (show evalEs P1 _ st = some (nms2.map V.str) from rfl) (if_pos (show 2 ≤ big from by decide))
  have q2 : evalE P1 (.bin .add (.var "names") (.lst [(.str [73, 84, 69, 82, 65, 66, 76, 69, 95, 67, 79, 82, 79, 85, 84, 73, 78, 69]), (.str [65, 83, 89, 78, 67, 95, 71, 69, 78, 69, 82, 65, 84, 79, 82])])) (s0.set "names" (.lst (nms8.map V.str))) = some (.lst (nms.map V.str)) :=
    eval_bin (eval_var get_eq) (l2 _) (add_lsts (show 10 ≤ big from by decide))
  let s2 : St := (s0.set "names" (.lst (nms8.map V.str))).set "names" (.lst (nms.map V.str))
  have F0 : NmI ch shift [] 0 ((St.mk (setL s2.locs "parts" (.trk s2.tr.length)) (s2.tr ++ [[]])).set "rest" (.int 0)) := ⟨rfl, rfl, rfl, rfl, rfl, rfl⟩
  obtain ⟨s3, q3, F, a1, a2, a3⟩ := nm_loop (B := 2 ^ 39) h1 (Nat.le_refl _) ch [] 0 _ F0 hc (by rw [List.length_nil, Nat.zero_add]; exact Nat.le_trans hl (by decide)) nofun
  have hr : (nmGo shift ch [] 0).2 < 16 ^ 20 := Nat.lt_of_le_of_lt (Nat.le_trans a3 (Nat.le_trans (Nat.le_of_eq (Nat.zero_add _)) (Nat.mul_le_mul_right _ hl))) (by decide)
  obtain ⟨sx1, sx2⟩ := run_sixteens hr
  have qc : evalE P1 (.call "_law_sixteens" [(.var "rest")]) s3 = some (.str (sixteens (nmGo shift ch [] 0).2)) := eval_call1 (eval_var F.rs) rfl sx1
  have tt : evalT P1 (.or [(.cmp .ne (.var "rest") (.int 0)), (.cmp .eq (.var "chosen") (.lst []))]) s3 = some (!decide ((nmGo shift ch [] 0).2 = 0) || decide (ch = [])) :=
    evalT_or2 (evalT_cmp (eval_var F.rs) eval_int (congrArg (fun q => some (!q)) (natD _ 0))) (evalT_cmp (eval_var F.ch') (bs evs_nil (if_pos (Nat.zero_le big))) (heq _))
  have fin : ∀ (ps : List (List Nat)) (st : St), (∀ x ∈ ps, x.length ≤ 100) → ps.length ≤ 10 → st.get "parts" = some (.trk 0) → st.tr = [ps.map V.str] → retV P1 (.join [44, 32] (.var "parts")) st = some (.str (joinL [44, 32] ps)) := fun ps st h1 h2 h3 h4 =>
    bs (eval_join (eval_var h3) (joinV_trk (by rw [h4]; rfl) (Nat.le_trans (Nat.add_le_add (Nat.le_trans (sum_len h1) (Nat.mul_le_mul_left 100 h2)) (Nat.mul_le_mul_right 2 h2)) (by decide)))) rfl
  have a2 : (nmGo shift ch [] 0).1.length ≤ 4 := Nat.le_trans a2 (Nat.le_trans (Nat.le_of_eq (Nat.zero_add _)) hl)
  have hx : ∃ st', execL P1 [.ite (.or [(.cmp .ne (.var "rest") (.int 0)), (.cmp .eq (.var "chosen") (.lst []))]) [.app "parts" (.call "_law_sixteens" [(.var "rest")])] [], .ret (.join [44, 32] (.var "parts"))] s3 = some (.ret (.str (nameL ch shift)), st') := by
    by_cases h : (nmGo shift ch [] 0).2 ≠ 0 ∨ ch = []
    · have hn : nameL ch shift = joinL [44, 32] ((nmGo shift ch [] 0).1 ++ [sixteens (nmGo shift ch [] 0).2]) := congrArg (joinL [44, 32]) (if_pos h)
      have hb : (!decide ((nmGo shift ch [] 0).2 = 0) || decide (ch = [])) = true := by rw [← decide_not, ← Bool.decide_or]; exact decide_eq_true h
      rw [hb] at tt
      rw [hn]
      exact ⟨_, (execL_then tt (execL_app F.pt qc (by rw [F.tr]; rfl) (by rw [List.length_map]; exact Nat.le_trans a2 (by decide)))).trans (execL_ret (fin _ _ (fun x hx => (List.mem_append.mp hx).elim (a1 x) fun h => List.mem_singleton.mp h ▸ sx2) (Nat.le_trans (Nat.le_of_eq List.length_append) (Nat.le_trans (Nat.add_le_add_right a2 1) (by decide))) F.pt (by show s3.tr.set 0 _ = _; rw [F.tr, List.map_append]; rfl)))⟩
    · have hn : nameL ch shift = joinL [44, 32] (nmGo shift ch [] 0).1 := congrArg (joinL [44, 32]) (if_neg h)
      have hb : (!decide ((nmGo shift ch [] 0).2 = 0) || decide (ch = [])) = false := by rw [← decide_not, ← Bool.decide_or]; exact decide_eq_false h
      rw [hb] at tt
      rw [hn]
      exact ⟨_, (execL_skip tt).trans (execL_ret (fin _ _ a1 (Nat.le_trans a2 (by decide)) F.pt F.tr))⟩
  obtain ⟨st', hx⟩ := hx
  exact run_of rfl ((execL_asg (l8 _)).trans ((execL_asg q2).trans ((execL_asgL (vs := []) rfl (Nat.zero_le _)).trans ((execL_asg eval_int).trans ((execL_for (els := []) (eval_var F0.ch') rfl rfl q3).trans hx)))))
end
section
open PySem PySem.Spec PySem.Calls PySem.W PyProof.Rows

noncomputable def chosen (c : Nat) : List Nat := (List.range 4).filter fun i => decide (c / 2 ^ i % 2 = 1)
noncomputable def nm (s c : Nat) : List Nat := nameL (chosen c) s
theorem nm_pretty : ∀ s < 35, ∀ c < 16, prOk (List.range 32) (c * 2 ^ s) = true ∧ pretty (c * 2 ^ s) = nm s c ∧ asciiOk (nm s c) = true := by decide +kernel
theorem nm_none : ∀ s < 35, prOk (List.range 32) (16 * 2 ^ s) = true ∧ asciiOk (pretty (16 * 2 ^ s)) = true ∧ ∀ c < 16, lower' (nm s c) ≠ lower' (pretty (16 * 2 ^ s)) := by decide +kernel
noncomputable def hsh (x : List Nat) : Nat := x.foldl (fun h k => h * 256 + k) 0
noncomputable def allD : List Nat → Bool
  | [] => true
  | x :: r => r.all (fun y => y != x) && allD r
theorem allD_inj : ∀ {l : List Nat} {x i j : Nat}, allD l = true → l[i]? = some x → l[j]? = some x → i = j
  | y :: r, x, 0, 0, _, _, _ => rfl
  | y :: r, x, 0, j + 1, h, h1, h2 => by
    have := List.all_eq_true.mp (Bool.and_eq_true_iff.mp h).1 x (List.mem_of_getElem? h2)
    cases h1
    exact absurd rfl (bne_iff_ne.mp this)
  | y :: r, x, i + 1, 0, h, h1, h2 => by
    have := List.all_eq_true.mp (Bool.and_eq_true_iff.mp h).1 x (List.mem_of_getElem? h1)
    cases h2
    exact absurd rfl (bne_iff_ne.mp this)
  | y :: r, x, i + 1, j + 1, h, h1, h2 => congrArg (· + 1) (allD_inj (Bool.and_eq_true_iff.mp h).2 h1 h2)
theorem nm_d : ∀ s < 35, allD ((List.range 16).map fun c => hsh (lower' (nm s c))) = true := by decide +kernel
theorem nm_at (s c : Nat) (hc : c < 16) : ((List.range 16).map fun c => hsh (lower' (nm s c)))[c]? = some (hsh (lower' (nm s c))) := by
  rw [List.getElem?_map, List.getElem?_range hc]; rfl
theorem nm_inj (s : Nat) (hs : s < 35) (c : Nat) (hc : c < 16) (c' : Nat) (hc' : c' < 16) (e : lower' (nm s c) = lower' (nm s c')) : c = c' := allD_inj (nm_d s hs) (nm_at s c hc) (e ▸ nm_at s c' hc')
theorem case_ok : ∀ c < 128, 32 ≤ c ∧ c ≠ 127 → (lowA (swapA c) = lowA c ∧ lowA (upA c) = lowA c ∧ lowA (lowA c) = lowA c) ∧ (swapA c < 128 ∧ 32 ≤ swapA c ∧ swapA c ≠ 127) ∧ (upA c < 128 ∧ 32 ≤ upA c ∧ upA c ≠ 127) ∧ (lowA c < 128 ∧ 32 ≤ lowA c ∧ lowA c ≠ 127) := by decide +kernel
end
section
open PySem PySem.Spec PySem.Calls PySem.W PyProof.Rows

theorem cutN_le (p q : List Nat) : cutN p q ≤ 2 := by
  unfold cutN
  split
  · exact Nat.le_refl _
  · split <;> omega
theorem cutN_head {p q q' : List Nat} (h : q.head? = q'.head?) : cutN p q = cutN p q' := by unfold cutN; rw [h]
/-- what falls off -/
theorem cut_off {p q : List Nat} : ∃ x, sent q = x ++ (sent q).drop (cutN p q) ∧ x.length = cutN p q ∧ codes x = fellN (cutN p q) := by
  cases q with
  | nil =>
    have : cutN p [] = 0 := by unfold cutN; simp
    rw [this]
    exact ⟨[], rfl, rfl, rfl⟩
  | cons c r =>
    unfold cutN
    simp only [List.head?_cons, Option.some.injEq]
    by_cases h1 : p.getLast? = some 13 ∧ c = 10
    · rw [if_pos h1, h1.2]
      exact ⟨[13, 10], rfl, rfl, rfl⟩
    · rw [if_neg h1]
      by_cases h2 : c = 46 ∧ p.getLast? ≠ some 13 ∧ p.getLast? ≠ some 10
      · rw [if_pos h2, h2.1]
        exact ⟨[46], rfl, rfl, rfl⟩
      · rw [if_neg h2]
        exact ⟨[], rfl, rfl, rfl⟩
theorem codes_app (x y : List Nat) : codes (x ++ y) = codes x + codes y := by
  unfold codes
  rw [List.map_append, List.sum_append]
theorem codes_drop {p q : List Nat} : codes ((sent q).drop (cutN p q)) = codes (sent q) - fellN (cutN p q) := by
  obtain ⟨x, h1, _, h3⟩ := cut_off (p := p) (q := q)
  have h := congrArg codes h1
  rw [codes_app, h3] at h
  omega
theorem codes_nonneg (x : List Nat) : 0 ≤ codes x := by
  induction x with
  | nil => exact Int.le_refl _
  | cons c x ih =>
    have : codes (c :: x) = (c : Int) + codes x := by unfold codes; simp
    rw [this]; omega
theorem codes_le {x : List Nat} {b : Nat} (h : ∀ c ∈ x, c ≤ b) : codes x ≤ b * x.length := by
  induction x with
  | nil => simp [codes]
  | cons c x ih =>
    have e : codes (c :: x) = (c : Int) + codes x := by unfold codes; simp
    have h1 := h c List.mem_cons_self
    have h2 := ih fun d hd => h d (List.mem_cons_of_mem _ hd)
    rw [e, List.length_cons]
    have : ((x.length + 1 : Nat) : Int) = (x.length : Int) + 1 := by omega
    rw [this, Int.mul_add, Int.mul_one]
    omega
theorem sentGo_len : ∀ (x : List Nat) (b : Nat), (sentGo b x).length ≤ 2 * x.length
  | [], _ => Nat.le_refl _
  | c :: x, b => by
    rw [sentGo_cons, List.length_append, List.length_cons]
    have := tok_len b c
    have := sentGo_len x c
    omega
theorem slen (x : List Nat) : (sent x).length ≤ 2 * x.length := sentGo_len x 10
theorem sentGo_mem : ∀ (x : List Nat) (b d : Nat), d ∈ sentGo b x → d = 46 ∨ d = 13 ∨ d = 10 ∨ d ∈ x
  | [], _, d, h => by cases h
  | c :: x, b, d, h => by
    rw [sentGo_cons] at h
    rcases List.mem_append.mp h with h | h
    · unfold tok at h
      split at h
      · simp at h; exact .inl h
      · split at h
        · simp at h; rcases h with h | h
          · exact .inr (.inl h)
          · exact .inr (.inr (.inl h))
        · split at h
          · simp at h; exact .inr (.inr (.inr (h ▸ List.mem_cons_self)))
          · cases h
    · rcases sentGo_mem x c d h with h | h | h | h
      · exact .inl h
      · exact .inr (.inl h)
      · exact .inr (.inr (.inl h))
      · exact .inr (.inr (.inr (List.mem_cons_of_mem _ h)))

section
variable (p : Nat → List Nat)
noncomputable def snOf (i : Nat) : List Nat := sent (p i)
noncomputable def ctOf (i j : Nat) : Nat := cutN (p i) (p j)
noncomputable def ownOf (i : Nat) : Int := codes (sent (p i))
noncomputable def feOf (i j : Nat) : Int := fellN (ctOf p i j)
noncomputable def joined (ch : List Nat) : List Nat := (ch.map p).flatten
variable {p}
theorem mail_joined (hp : ∀ i, p i ≠ []) : ∀ (r : List Nat) (a : Nat), sent (joined p (a :: r)) = snOf p a ++ mailGo (snOf p) (ctOf p) a r
  | [], a => by simp [joined, snOf, mailGo]
  | b :: r, a => by
    have ih := mail_joined hp r b
    have e : joined p (a :: b :: r) = p a ++ joined p (b :: r) := by simp [joined]
    have hh : (joined p (b :: r)).head? = (p b).head? := by
      have : joined p (b :: r) = p b ++ joined p r := by simp [joined]
      rw [this]
      cases hb : p b with
      | nil => exact absurd hb (hp b)
      | cons c s => rfl
    rw [e, sent_app (hp a), cutN_head hh, ih]
    obtain ⟨x, h1, h2, _⟩ := cut_off (p := p a) (q := p b)
    have hl : cutN (p a) (p b) ≤ (sent (p b)).length := by rw [h1, List.length_append, h2]; omega
    rw [List.drop_append_of_le_length (by exact hl)]
    simp only [mailGo, snOf, ctOf, List.append_assoc]
theorem mailL_joined (hp : ∀ i, p i ≠ []) (ch : List Nat) : mailL (snOf p) (ctOf p) ch = sent (joined p ch) := by
  cases ch with
  | nil => rfl
  | cons a r => rw [mail_joined hp r a]; rfl
noncomputable def vGo (own : Nat → Int) (fe : Nat → Nat → Int) : Nat → List Nat → Int
  | _, [] => 0
  | a, b :: r => own b - fe a b + vGo own fe b r
noncomputable def vL (own : Nat → Int) (fe : Nat → Nat → Int) : List Nat → Int
  | [] => 0
  | a :: r => own a + vGo own fe a r
theorem codes_mailGo : ∀ (r : List Nat) (a : Nat), codes (mailGo (snOf p) (ctOf p) a r) = vGo (ownOf p) (feOf p) a r
  | [], a => rfl
  | b :: r, a => by
    simp only [mailGo, vGo]
    rw [codes_app, codes_mailGo r b]
    have : codes ((snOf p b).drop (ctOf p a b)) = ownOf p b - feOf p a b := codes_drop
    rw [this]
theorem price_eq (hp : ∀ i, p i ≠ []) (ch : List Nat) : codes (sent (joined p ch)) = vL (ownOf p) (feOf p) ch := by
  rw [← mailL_joined hp]
  cases ch with
  | nil => rfl
  | cons a r =>
    simp only [mailL, vL]
    rw [codes_app, codes_mailGo]
    rfl
/-- bounds -/
theorem fe_bounds (i j : Nat) : 0 ≤ feOf p i j ∧ feOf p i j ≤ ownOf p j := by
  constructor
  · unfold feOf
    have := cutN_le (p i) (p j)
    unfold ctOf
    generalize cutN (p i) (p j) = k at *
    rcases k with _ | _ | k <;> simp [fellN]
  · have h := codes_nonneg ((sent (p j)).drop (cutN (p i) (p j)))
    rw [codes_drop] at h
    unfold feOf ownOf ctOf
    omega
theorem own_le (hp : ∀ i, OkP (p i)) (i : Nat) : 0 ≤ ownOf p i ∧ ownOf p i ≤ 798 := by
  refine ⟨codes_nonneg _, ?_⟩
  have h1 : ∀ c ∈ sent (p i), c ≤ 133 := fun c hc => by
    rcases sentGo_mem _ _ _ hc with h | h | h | h
    · omega
    · omega
    · omega
    · rcases (hp i).abc c h with h | h | h | h | h | h <;> omega
  have h2 := codes_le h1
  have h3 := slen (p i)
  have h4 := (hp i).len
  unfold ownOf
  have : ((sent (p i)).length : Int) ≤ 6 := by omega
  have h5 : ((133 : Nat) : Int) * ((sent (p i)).length : Int) ≤ 133 * 6 := Int.mul_le_mul_of_nonneg_left this (by omega)
  omega
end
end
section
open PySem PySem.Spec PySem.Calls PySem.W PyProof.Rows

/-- sums of unknowns with given factors -/
noncomputable def ev (x : Nat → Int) : Nat → List Int → Int
  | _, [] => 0
  | k, c :: cs => c * x k + ev x (k + 1) cs
noncomputable def addC : List Int → List Int → List Int
  | [], ds => ds
  | c :: cs, [] => c :: cs
  | c :: cs, d :: ds => (c + d) :: addC cs ds
noncomputable def mulC (m : Int) (cs : List Int) : List Int := cs.map (m * ·)
noncomputable def un : Nat → List Int
  | 0 => [1]
  | n + 1 => 0 :: un n
noncomputable def eqC (a b : List Int) : Bool := (addC a (mulC (-1) b)).all (· == 0)
section
variable (x : Nat → Int)
theorem ev_add : ∀ (cs ds : List Int) (k : Nat), ev x k (addC cs ds) = ev x k cs + ev x k ds
  | [], ds, k => (Int.zero_add _).symm
  | c :: cs, [], k => (Int.add_zero _).symm
  | c :: cs, d :: ds, k =>
    (congr (congrArg (· + ·) (Int.add_mul c d (x k))) (ev_add cs ds (k + 1))).trans ((Int.add_assoc _ _ _).trans ((congrArg (c * x k + ·) (Int.add_left_comm _ _ _)).trans (Int.add_assoc _ _ _).symm))
theorem ev_mul (m : Int) : ∀ (cs : List Int) (k : Nat), ev x k (mulC m cs) = m * ev x k cs
  | [], k => (Int.mul_zero m).symm
  | c :: cs, k => (congr (congrArg (· + ·) (Int.mul_assoc m c (x k))) (ev_mul m cs (k + 1))).trans (Int.mul_add _ _ _).symm
theorem ev_un : ∀ n k, ev x k (un n) = x (k + n)
  | 0, k => (Int.add_zero _).trans (Int.one_mul _)
  | n + 1, k => (congrArg (0 * x k + ·) (ev_un n (k + 1))).trans ((congrArg (· + x (k + 1 + n)) (Int.zero_mul _)).trans ((Int.zero_add _).trans (congrArg x (Nat.succ_add k n))))
theorem ev_zero : ∀ (cs : List Int) (k : Nat), cs.all (· == 0) = true → ev x k cs = 0
  | [], _, _ => rfl
  | c :: cs, k, h => by
    rw [List.all_cons, Bool.and_eq_true, beq_iff_eq] at h
    obtain ⟨rfl, h⟩ := h
    exact (congr (congrArg (· + ·) (Int.zero_mul _)) (ev_zero cs (k + 1) h)).trans (Int.zero_add 0)
theorem ev_eq {a b : List Int} (h : eqC a b = true) : ev x 0 a = ev x 0 b := by
  have := ev_zero x _ 0 h
  rw [ev_add, ev_mul] at this
  omega
theorem fold_ev {α : Type} {f : Int → α → Int} {F : List Int → α → List Int} (h : ∀ S a, f (ev x 0 S) a = ev x 0 (F S a)) : ∀ (l : List α) (S : List Int), l.foldl f (ev x 0 S) = ev x 0 (l.foldl F S)
  | [], _ => rfl
  | a :: l, S => (congrArg (List.foldl f · l) (h S a)).trans (fold_ev h l (F S a))
end

section
variable (own : Nat → Int) (fe : Nat → Nat → Int)
noncomputable def px (k : Nat) : Int := if k < 4 then own k else fe ((k - 4) % 4) ((k - 4) / 4)
noncomputable def uf (i j : Nat) : List Int := un (4 + (i + 4 * j))
theorem evc_own {i : Nat} (h : i < 4) : ev (px own fe) 0 (un i) = own i := (ev_un _ _ _).trans ((congrArg (px own fe) (Nat.zero_add i)).trans (if_pos h))
theorem evc_fe {i j : Nat} (h : i < 4) : ev (px own fe) 0 (uf i j) = fe i j := by
  refine (ev_un _ _ _).trans ((congrArg (px own fe) (Nat.zero_add _)).trans ?_)
  unfold px
  rw [if_neg (Nat.not_lt.mpr (Nat.le_add_right _ _)), Nat.add_sub_cancel_left, Nat.add_mul_mod_self_left, Nat.add_mul_div_left _ _ (by decide), Nat.mod_eq_of_lt h, Nat.div_eq_of_lt h, Nat.zero_add]
noncomputable def vGoC : Nat → List Nat → List Int
  | _, [] => []
  | a, b :: r => addC (addC (un b) (mulC (-1) (uf a b))) (vGoC b r)
noncomputable def vC : List Nat → List Int
  | [] => []
  | a :: r => addC (un a) (vGoC a r)
theorem vGo_ev : ∀ (r : List Nat) (a : Nat), (∀ y ∈ a :: r, y < 4) → vGo own fe a r = ev (px own fe) 0 (vGoC a r)
  | [], _, _ => rfl
  | b :: r, a, h => by
    have hr : ∀ y ∈ b :: r, y < 4 := fun y hy => h y (List.mem_cons_of_mem _ hy)
    rw [vGo, vGoC, ev_add, ev_add, ev_mul, evc_own _ _ (hr b List.mem_cons_self), evc_fe _ _ (h a List.mem_cons_self), vGo_ev r b hr, Int.neg_one_mul]
    rfl
theorem v_ev : ∀ (ch : List Nat), (∀ y ∈ ch, y < 4) → vL own fe ch = ev (px own fe) 0 (vC ch)
  | [], _ => rfl
  | a :: r, h => by rw [vL, vC, ev_add, evc_own _ _ (h a List.mem_cons_self), vGo_ev own fe r a h]
noncomputable def potC (ch : List Nat) : List Int := (List.range ch.length).foldl (fun s h => (List.range h).foldl (fun s l => addC s (mulC (-(w1 (h - l - 1))) (uf (ch.getD l 0) (ch.getD h 0)))) (addC s (mulC 12 (un (ch.getD h 0))))) []
noncomputable def potT (c : Nat) : Int := ev (px own fe) 0 (potC (chosen c))
/-- the sum of the potentials with one piece less -/
noncomputable def lessC (c : Nat) : List Nat → List Int
  | [] => []
  | one :: l => addC (potC (chosen (c - 2 ^ one))) (lessC c l)
theorem less_ev (c : Nat) : ∀ l : List Nat, (l.map fun one => potT own fe (c - 2 ^ one)).sum = ev (px own fe) 0 (lessC c l)
  | [] => rfl
  | one :: l => by rw [List.map_cons, List.sum_cons, less_ev c l, lessC, ev_add]; rfl
theorem chosen_lt (c : Nat) : ∀ one ∈ chosen c, one < 4 := fun _ h => List.mem_range.mp ((List.mem_filter.mp h).1)
theorem pot_eqC : ∀ c < 16, eqC (addC (mulC 12 (vC (chosen c))) (lessC c (chosen c))) (mulC ((chosen c).length : Int) (potC (chosen c))) = true := by decide +kernel
theorem pot_eq (c : Nat) (hc : c < 16) : 12 * vL own fe (chosen c) + ((chosen c).map fun one => potT own fe (c - 2 ^ one)).sum = ((chosen c).length : Int) * potT own fe c := by
  rw [v_ev own fe _ (chosen_lt c), less_ev, potT, ← ev_mul, ← ev_mul, ← ev_add]
  exact ev_eq _ (pot_eqC c hc)
theorem pot_bounds (h1 : ∀ i j, 0 ≤ fe i j ∧ fe i j ≤ own j) (h2 : ∀ i, own i ≤ 798) : 0 ≤ potT own fe 15 ∧ potT own fe 15 ≤ 38304 := by
  have e : eqC (potC (chosen 15)) [12, 12, 12, 12, 0, 0, 0, 0, -6, 0, 0, 0, -2, -6, 0, 0, -1, -2, -6] = true := by decide +kernel
  have e' : potT own fe 15 = 12 * own 0 + (12 * own 1 + (12 * own 2 + (12 * own 3 + (0 * fe 0 0 + (0 * fe 1 0 + (0 * fe 2 0 + (0 * fe 3 0 + (-6 * fe 0 1 + (0 * fe 1 1 + (0 * fe 2 1 + (0 * fe 3 1 + (-2 * fe 0 2 + (-6 * fe 1 2 + (0 * fe 2 2 + (0 * fe 3 2 + (-1 * fe 0 3 + (-2 * fe 1 3 + (-6 * fe 2 3 + 0)))))))))))))))))) := ev_eq (px own fe) e
  have o0 := h2 0; have p0 := h1 0 0; have o1 := h2 1; have o2 := h2 2; have o3 := h2 3; have q01 := h1 0 1; have q02 := h1 0 2; have q12 := h1 1 2; have q03 := h1 0 3; have q13 := h1 1 3; have q23 := h1 2 3
  omega
theorem v_le (h1 : ∀ i j, 0 ≤ fe i j ∧ fe i j ≤ own j) (h2 : ∀ i, own i ≤ 798) : ∀ (r : List Nat) (a : Nat), vGo own fe a r ≤ 798 * (r.length : Int)
  | [], _ => Int.le_refl 0
  | b :: r, a => by
    have h := v_le h1 h2 r b
    have := h2 b
    have := (h1 a b).1
    rw [vGo, List.length_cons, Int.natCast_add, Int.mul_add]
    show _ ≤ _ + 798
    omega
end
section
variable (own : Nat → Int) (ct : Nat → Nat → Nat)
noncomputable def termC (one : Nat) (ch : List Nat) (h l : Nat) : List Int :=
  if one = ch.getD l 0 ∨ one = ch.getD h 0 then mulC (-(w1 (h - l - 1))) (uf (ch.getD l 0) (ch.getD h 0)) else if ch.getD l 0 < one ∧ one < ch.getD h 0 then mulC (w2 (h - l - 1)) (uf (ch.getD l 0) (ch.getD h 0)) else []
noncomputable def shareC (one : Nat) (ch : List Nat) : List Int := (List.range ch.length).foldl (fun s h => (List.range h).foldl (fun s l => addC s (termC one ch h l)) s) (mulC 12 (un one))
theorem getD_lt {ch : List Nat} (h : ∀ y ∈ ch, y < 4) (i : Nat) : ch.getD i 0 < 4 := by
  rw [List.getD_eq_getElem?_getD]
  cases e : ch[i]? with
  | none => exact (by decide : 0 < 4)
  | some y => exact h y (List.mem_of_getElem? e)
theorem term_ev {ch : List Nat} (hch : ∀ y ∈ ch, y < 4) (one h l : Nat) : term ct one ch h l = ev (px own fun i j => fellN (ct i j)) 0 (termC one ch h l) := by
  have hf := evc_fe own (fun i j => fellN (ct i j)) (j := ch.getD h 0) (getD_lt hch l)
  unfold term termC
  split
  · rw [ev_mul, hf, Int.neg_mul]
  · split
    · rw [ev_mul, hf]
    · rfl
theorem share_ev {ch : List Nat} (hch : ∀ y ∈ ch, y < 4) {one : Nat} (ho : one < 4) : shareL own ct one ch = ev (px own fun i j => fellN (ct i j)) 0 (shareC one ch) := by
  unfold shareL shareC
  rw [show 12 * own one = ev (px own fun i j => fellN (ct i j)) 0 (mulC 12 (un one)) from by rw [ev_mul, evc_own _ _ ho]]
  exact fold_ev (f := fun s h => (List.range h).foldl (fun s l => s + term ct one ch h l) s) (F := fun s h => (List.range h).foldl (fun s l => addC s (termC one ch h l)) s) _ (fun S h => fold_ev (f := fun s l => s + term ct one ch h l) (F := fun s l => addC s (termC one ch h l)) _ (fun S l => by rw [ev_add, term_ev own ct hch]) _ S) _ _
theorem share_eqC : ∀ c < 16, ∀ one < 4, one ∈ chosen c → eqC (shareC one (chosen c)) (addC (potC (chosen c)) (mulC (-1) (potC (chosen (c - 2 ^ one))))) = true := by decide +kernel
theorem share_eq (c : Nat) (hc : c < 16) (one : Nat) (ho : one ∈ chosen c) : shareL own ct one (chosen c) = potT own (fun i j => fellN (ct i j)) c - potT own (fun i j => fellN (ct i j)) (c - 2 ^ one) := by
  have h := chosen_lt c
  rw [share_ev own ct h (h _ ho), ev_eq _ (share_eqC c hc one (h _ ho) ho), ev_add, ev_mul, Int.neg_one_mul]
  rfl
end
end
section
open PySem PySem.Spec PySem.Calls PySem.W PyProof.Rows

theorem frz_int {st : St} {i : Int} : frz st (.int i) = some (.int i) := rfl
theorem frz_str {st : St} {x : List Nat} : frz st (.str x) = some (.str x) := rfl
theorem noTrks_of {vs : List V} (h : ∀ v ∈ vs, noTrk v = true) : noTrks vs = true := by
  induction vs with
  | nil => rfl
  | cons v vs ih => exact Bool.and_eq_true_iff.mpr ⟨h v List.mem_cons_self, ih fun u hu => h u (List.mem_cons_of_mem _ hu)⟩
theorem noTrks_map {α : Type} {l : List α} {f : α → V} (h : ∀ a ∈ l, noTrk (f a) = true) : noTrks (l.map f) = true := noTrks_of fun v hv => by
  obtain ⟨a, ha, rfl⟩ := List.mem_map.mp hv
  exact h a ha
theorem frz_lst {st : St} {vs : List V} (h : noTrks vs = true) : frz st (.lst vs) = some (.lst vs) := if_pos h

theorem frz_hdr {st : St} {vs : List V} (h : noTrks vs = true) : frz st (.hdr (.lst vs)) = some (.hdr (.lst vs)) := by
  show (if noTrks vs = true then some (V.lst vs) else none).map V.hdr = _
  rw [if_pos h]; rfl
/-- an item of the table -/
noncomputable def item (s : Nat) (pr : Nat → Nat) (c : Nat) : V := .tup [.str (nm s c), .str (numeral (pr c))]
theorem item_trk {s : Nat} {pr : Nat → Nat} {l : List Nat} : noTrks (l.map (item s pr)) = true := noTrks_map fun _ _ => rfl
theorem asciiOk_iff {x : List Nat} : asciiOk x = true ↔ (∀ c ∈ x, c < 128 ∧ 32 ≤ c ∧ c ≠ 127) ∧ x.length ≤ 30000 := by
  unfold asciiOk strOk
  rw [Bool.and_eq_true_iff, Bool.and_eq_true_iff, List.all_eq_true, List.all_eq_true, decide_eq_true_iff]
  refine ⟨fun h => ⟨fun c hc => ⟨of_decide_eq_true (h.1 c hc), ann (h.2.1 c hc) fun h1 h2 => ⟨of_decide_eq_true h1, bne_iff_ne.mp h2⟩⟩, h.2.2⟩, fun h => ⟨fun c hc => decide_eq_true (h.1 c hc).1, fun c hc => Bool.and_eq_true_iff.mpr ⟨decide_eq_true (h.1 c hc).2.1, bne_iff_ne.mpr (h.1 c hc).2.2⟩, h.2⟩⟩
theorem asciiOk_map {x : List Nat} {f : Nat → Nat} (hf : ∀ c < 128, 32 ≤ c ∧ c ≠ 127 → f c < 128 ∧ 32 ≤ f c ∧ f c ≠ 127) (h : asciiOk x = true) : asciiOk (x.map f) = true := by
  have h := asciiOk_iff.mp h
  refine asciiOk_iff.mpr ⟨fun c hc => ?_, Nat.le_trans (Nat.le_of_eq (List.length_map _)) h.2⟩
  obtain ⟨d, hd, rfl⟩ := List.mem_map.mp hc
  exact hf d (h.1 d hd).1 (h.1 d hd).2
theorem asciiOk_mem {x : List Nat} (h : asciiOk x = true) : ∀ c ∈ x, c < 128 ∧ 32 ≤ c ∧ c ≠ 127 := (asciiOk_iff.mp h).1
theorem asciiOk_len {x : List Nat} (h : asciiOk x = true) : x.length ≤ 30000 := (asciiOk_iff.mp h).2
theorem lower_map {x : List Nat} {f : Nat → Nat} (hf : ∀ c < 128, 32 ≤ c ∧ c ≠ 127 → lowA (f c) = lowA c) (h : asciiOk x = true) : lower' (x.map f) = lower' x := by
  unfold lower'
  rw [List.map_map]
  exact List.map_congr_left fun c hc => hf c (asciiOk_mem h c hc).1 (asciiOk_mem h c hc).2
theorem lower_swap {x : List Nat} (h : asciiOk x = true) : lower' (x.map swapA) = lower' x := lower_map (fun c h1 h2 => (case_ok c h1 h2).1.1) h
theorem lower_upper {x : List Nat} (h : asciiOk x = true) : lower' (x.map upA) = lower' x := lower_map (fun c h1 h2 => (case_ok c h1 h2).1.2.1) h
theorem lower_lower {x : List Nat} (h : asciiOk x = true) : lower' (lower' x) = lower' x := lower_map (f := lowA) (fun c h1 h2 => (case_ok c h1 h2).1.2.2) h
theorem eval_m0 {P : Prims} {m : M0} {e : PE} {st : St} {x : List Nat} (he : evalE P e st = some (.str x)) (hx : asciiOk x = true) : evalE P (.m0 m e) st = some (.str (x.map m.f)) :=
  bs he (show (if (∀ c ∈ x, c < 128) ∧ x.length ≤ big then some (V.str (x.map m.f)) else none) = _ from if_pos ⟨fun c hc => (asciiOk_mem hx c hc).1, Nat.le_trans (asciiOk_len hx) (by decide)⟩)

theorem getGo_items {s : Nat} (hs : s < 35) {pr : Nat → Nat} {x : List Nat} {c : Nat} (hc : c < 16) (hx : lower' x = lower' (nm s c)) (rest : List V) : ∀ l : List Nat, (∀ a ∈ l, a < 16) → c ∈ l → getGo x (l.map (item s pr) ++ rest) = some (some (numeral (pr c)))
  | [], _, h => by cases h
  | a :: l, hl, h => by
    have ha := hl a List.mem_cons_self
    show (if asciiOk (nm s a) = true then (if lower' (nm s a) = lower' x then some (some (numeral (pr a))) else getGo x (l.map (item s pr) ++ rest)) else none) = _
    rw [if_pos (nm_pretty s hs a ha).2.2, hx]
    by_cases e : lower' (nm s a) = lower' (nm s c)
    · rw [if_pos e, nm_inj s hs a ha c hc e]
    · rw [if_neg e]
      have : c ∈ l := by
        rcases List.mem_cons.mp h with h | h
        · exact absurd (by rw [h]) e
        · exact h
      exact getGo_items hs hc hx rest l (fun b hb => hl b (List.mem_cons_of_mem _ hb)) this
theorem getV_items {s : Nat} (hs : s < 35) {pr : Nat → Nat} {x : List Nat} {c : Nat} (hc : c < 16) (hx : lower' x = lower' (nm s c)) (hax : asciiOk x = true) (rest : List V) (l : List Nat) (hl : ∀ a ∈ l, a < 16) (hm : c ∈ l) (hlen : (l.map (item s pr) ++ rest).length ≤ 1000) (dv : V) :
    getV (l.map (item s pr) ++ rest) x dv = some (.str (numeral (pr c))) := by
  unfold getV
  rw [if_pos ⟨hax, Nat.le_trans hlen (by decide)⟩, getGo_items hs hc hx rest l hl hm]
  rfl

/-- what the two functions over the table read -/
structure TabCtx (s : Nat) (pr : Nat → Nat) (ord : List Nat) : Prop where
  hs : s < 35
  prb : ∀ c < 16, pr c < 64 ^ 4
  ordb : ∀ a ∈ ord, a < 16
  all : ∀ c < 16, c ∈ ord
  len : ord.length ≤ 900

/-- _parse_varint(iter([ord(sign) for sign in table.get(words[choice].swapcase())])) -/
theorem eval_pit {s : Nat} {pr : Nat → Nat} {ord : List Nat} (C : TabCtx s pr ord) {st : St} {c : Nat} (hc : c < 16) (h1 : st.get "table" = some (.hdr (.lst (ord.map (item s pr))))) (h2 : st.get "words" = some (.lst ((List.range 16).map fun c => V.str (nm s c)))) (h3 : st.get "choice" = some (.int (c : Int))) :
    evalE P1 (.piter (.comp (.b1 .ord (.var "sign")) "sign" (.hmeth "get" (.var "table") [(.m0 .swapcase (.idx (.var "words") (.var "choice")))]) [])) st = some (.int (pr c : Int)) := by
  have ha := (nm_pretty s C.hs c hc).2.2
  have q1 : evalE P1 (.idx (.var "words") (.var "choice")) st = some (.str (nm s c)) := eval_idx (eval_var h2) (eval_var h3) (idx_range hc (Nat.le_trans (Nat.le_of_lt hc) (by decide)))
  have q2 : evalE P1 (.m0 .swapcase (.idx (.var "words") (.var "choice"))) st = some (.str ((nm s c).map swapA)) := eval_m0 q1 ha
  have hsw : asciiOk ((nm s c).map swapA) = true := asciiOk_map (fun c h1 h2 => (case_ok c h1 h2).2.1) ha
  have hg := getV_items C.hs (pr := pr) hc (lower_swap ha) hsw [] ord C.ordb (C.all c hc) (by rw [List.append_nil, List.length_map]; exact Nat.le_trans C.len (by decide)) .none
  rw [List.append_nil] at hg
  have q3 : evalE P1 (.hmeth "get" (.var "table") [(.m0 .swapcase (.idx (.var "words") (.var "choice")))]) st = some (.str (numeral (pr c))) :=
    bs (eval_var h1) (bs (evs_cons q2 evs_nil) (bs (frz_hdr item_trk) (bs (x := gHdr (.hdr (.lst _))) rfl (bs (x := gLst (.lst _)) rfl (bs (frzs_cons frz_str rfl) hg)))))
  have hp := parse_numeral (C.prb c hc) []
  rw [List.append_nil] at hp
  exact bs (eval_ords (P := P1) q3 (Nat.le_trans (numeral_len (pr c)) (by decide))) (bs (x := gLst (.lst _)) rfl ((if_pos (noTrks_map fun _ _ => rfl)).trans (bs (intsOf_codes _) (show (pvS (octs (numeral (pr c)))).map _ = _ by rw [hp]; rfl))))
end
section
open PySem PySem.Spec PySem.Calls PySem.W PyProof.Rows

theorem chosen_ok : ∀ c < 16, (∀ one ∈ chosen c, one < 4 ∧ 2 ^ one ≤ c) ∧ (chosen c).length ≤ 4 ∧ (1 ≤ c → 1 ≤ (chosen c).length) := by decide
noncomputable def wordsV (s : Nat) : V := .lst ((List.range 16).map fun c => V.str (nm s c))
noncomputable def choicesV : V := .lst ((List.range 16).map fun c => intsV (chosen c))
noncomputable def potsV (Pt : Nat → Int) (n : Nat) : List V := (List.range n).map fun c => V.int (Pt c)
structure PtI (s : Nat) (pr : Nat → Nat) (ord : List Nat) (Pt : Nat → Int) (n : Nat) (st : St) : Prop where
  tb : st.get "table" = some (.hdr (.lst (ord.map (item s pr))))
  wd : st.get "words" = some (wordsV s)
  ch : st.get "choices" = some choicesV
  pt : st.get "potentials" = some (.trk 0)
  tr : st.tr = [potsV Pt n]
theorem PtI.set {s : Nat} {pr : Nat → Nat} {ord : List Nat} {Pt : Nat → Int} {n : Nat} {st : St} (F : PtI s pr ord Pt n st) {x : String} {v : V} (h1 : "table" ≠ x := by decide) (h2 : "words" ≠ x := by decide) (h3 : "choices" ≠ x := by decide) (h4 : "potentials" ≠ x := by decide) : PtI s pr ord Pt n (st.set x v) :=
  ⟨get_ne F.tb h1, get_ne F.wd h2, get_ne F.ch h3, get_ne F.pt h4, F.tr⟩
theorem pow_one (one : Nat) : ((2 ^ one : Nat) : Int) = 1 * 2 ^ ((one : Nat) : Int).toNat := by rw [Int.one_mul, Int.toNat_natCast, Int.natCast_pow]; rfl

noncomputable def ptIn : List PS := [.asg "left" (.call "add" [(.var "left"), (.idx (.var "potentials") (.call "sub" [(.var "choice"), (.call "lshift" [(.int 1), (.var "one")])]))])]
theorem pt_inner {s : Nat} {pr : Nat → Nat} {ord : List Nat} {Pt : Nat → Int} {c : Nat} (hc : c < 16) : ∀ (l : List Nat) (x : Int) (st : St) (e : St → Option (Fl × St)), (∀ one ∈ l, one < 4 ∧ 2 ^ one ≤ c) → PtI s pr ord Pt c st → st.get "choice" = some (.int (c : Int)) → st.get "chosen" = some (intsV (chosen c)) → st.get "left" = some (.int x) →
    ∃ st', forGo (fun v st => execL P1 ptIn (st.set "one" v)) e (l.map fun a : Nat => V.int (a : Int)) st = e st' ∧ PtI s pr ord Pt c st' ∧ st'.get "choice" = some (.int (c : Int)) ∧ st'.get "chosen" = some (intsV (chosen c)) ∧ st'.get "left" = some (.int (x + (l.map fun one => Pt (c - 2 ^ one)).sum))
  | [], x, st, e, _, F, h1, h2, h3 => ⟨st, rfl, F, h1, h2, h3.trans (congrArg (some ∘ V.int) (Int.add_zero x).symm)⟩
  | one :: l, x, st, e, hl, F, h1, h2, h3 => by
    obtain ⟨ho, hle⟩ := hl one List.mem_cons_self
    have g1 : (st.set "one" (.int (one : Int))).get "one" = _ := get_eq
    have g2 : (st.set "one" (.int (one : Int))).get "choice" = _ := get_ne h1
    have g3 : (st.set "one" (.int (one : Int))).get "chosen" = _ := get_ne h2
    have g4 : (st.set "one" (.int (one : Int))).get "left" = _ := get_ne h3
    have G : PtI s pr ord Pt c (st.set "one" (.int (one : Int))) := F.set
    generalize hs1 : st.set "one" (.int (one : Int)) = s1 at *
    have q1 : evalE P1 (.call "lshift" [(.int 1), (.var "one")]) s1 = some (.int ((2 ^ one : Nat) : Int)) :=
      eval_call2 eval_int (eval_var g1) frz_int frz_int ((run_lshift 1 (one : Int) ⟨by decide, Int.natCast_nonneg _, Int.ofNat_le.mpr (Nat.le_trans (Nat.le_of_lt ho) (by decide))⟩).trans (by rw [← pow_one]))
    have q2 : evalE P1 (.call "sub" [(.var "choice"), (.call "lshift" [(.int 1), (.var "one")])]) s1 = some (.int ((c - 2 ^ one : Nat) : Int)) :=
      eval_call2 (eval_var g2) q1 frz_int frz_int ((run_sub _ _).trans (congrArg (some ∘ V.int) (Int.ofNat_sub hle).symm))
    have hlt : c - 2 ^ one < c := Nat.sub_lt_of_pos_le (Nat.two_pow_pos one) hle
    have q3 : evalE P1 (.idx (.var "potentials") (.call "sub" [(.var "choice"), (.call "lshift" [(.int 1), (.var "one")])])) s1 = some (.int (Pt (c - 2 ^ one))) :=
      eval_idx (eval_var G.pt) q2 (idx_trk (by rw [G.tr]; rfl) (by rw [potsV, List.getElem?_map, List.getElem?_range hlt]; rfl) (Nat.le_trans (Nat.le_of_lt (Nat.lt_trans hlt hc)) (by decide)))
    have q4 : evalE P1 (.call "add" [(.var "left"), (.idx (.var "potentials") (.call "sub" [(.var "choice"), (.call "lshift" [(.int 1), (.var "one")])]))]) s1 = some (.int (x + Pt (c - 2 ^ one))) := eval_call2 (eval_var g4) q3 frz_int frz_int (run_add _ _)
    obtain ⟨st', r1, r2, r3, r4, r5⟩ := pt_inner hc l (x + Pt (c - 2 ^ one)) (s1.set "left" (.int (x + Pt (c - 2 ^ one)))) e (fun o h => hl o (List.mem_cons_of_mem _ h)) G.set (get_ne g2) (get_ne g3) get_eq
    subst hs1
    exact ⟨st', (forGo_cons (execL_asg q4)).trans r1, r2, r3, r4, r5.trans (by rw [List.map_cons, List.sum_cons, Int.add_assoc])⟩

noncomputable def ptBody : List PS := [
    .asg "chosen" (.idx (.var "choices") (.var "choice")),
    .asg "left" (.call "mul" [(.int 12), (.piter (.comp (.b1 .ord (.var "sign")) "sign" (.hmeth "get" (.var "table") [(.m0 .swapcase (.idx (.var "words") (.var "choice")))]) []))]),
    .for' "one" (.var "chosen") ptIn [],
    .asg "below" (.call "sub" [(.neg 1), (.var "left")]),
    .ite (.cmp .ne (.call "mod" [(.var "below"), (.b1 .len (.var "chosen"))]) (.bin .sub (.b1 .len (.var "chosen")) (.int 1))) [
      .ret (.lst [])] [],
    .app "potentials" (.call "sub" [(.neg 1), (.call "floordiv" [(.var "below"), (.b1 .len (.var "chosen"))])])]
theorem len_mod {n : Nat} (h : 0 < n) (h4 : n ≤ 4) (P : Int) : (-1 - (n : Int) * P) % (n : Int) = (n : Int) - 1 ∧ -1 - (-1 - (n : Int) * P) / (n : Int) = P := by
  have e : (-1 - (n : Int) * P) = ((n : Int) - 1) + (n : Int) * (-P - 1) := by rw [Int.mul_sub, Int.mul_neg, Int.mul_one]; omega
  have h0 : (0 : Int) ≤ (n : Int) - 1 := Int.sub_nonneg_of_le (Int.ofNat_le.mpr h)
  have h1 : (n : Int) - 1 < n := Int.sub_lt_self _ (by decide)
  rw [e, Int.add_mul_emod_self_left, Int.emod_eq_of_lt h0 h1, Int.add_mul_ediv_left _ _ (Int.ne_of_gt (Int.ofNat_lt.mpr h)), Int.ediv_eq_zero_of_lt h0 h1]
  exact ⟨rfl, by omega⟩
theorem pt_step {s : Nat} {pr : Nat → Nat} {ord : List Nat} (C : TabCtx s pr ord) {Pt : Nat → Int} (hpot : ∀ c, 1 ≤ c → c < 16 → 12 * (pr c : Int) + ((chosen c).map fun one => Pt (c - 2 ^ one)).sum = ((chosen c).length : Int) * Pt c)
    {c : Nat} (h1 : 1 ≤ c) (hc : c < 16) {st : St} (F : PtI s pr ord Pt c st) : ∃ st', execL P1 ptBody (st.set "choice" (.int (c : Int))) = some (.next, st') ∧ PtI s pr ord Pt (c + 1) st' := by
  obtain ⟨ok1, ok2, ok3⟩ := chosen_ok c hc
  have ok3 := ok3 h1
  have hcb : c ≤ big := Nat.le_trans (Nat.le_of_lt hc) (by decide)
  have g1 : (st.set "choice" (.int (c : Int))).get "choice" = _ := get_eq
  have G : PtI s pr ord Pt c (st.set "choice" (.int (c : Int))) := F.set
  generalize st.set "choice" (.int (c : Int)) = s1 at *
  have q1 : evalE P1 (.idx (.var "choices") (.var "choice")) s1 = some (intsV (chosen c)) := eval_idx (eval_var G.ch) (eval_var g1) (idx_range hc hcb)
  have G2 : PtI s pr ord Pt c (s1.set "chosen" (intsV (chosen c))) := G.set
  have a1 : (s1.set "chosen" (intsV (chosen c))).get "choice" = _ := get_ne g1
  have a2 : (s1.set "chosen" (intsV (chosen c))).get "chosen" = _ := get_eq
  have x1 := fun qs => execL_asg (x := "chosen") (ps := qs) q1
  generalize s1.set "chosen" (intsV (chosen c)) = s2 at *
  have q2 : evalE P1 (.call "mul" [(.int 12), (.piter (.comp (.b1 .ord (.var "sign")) "sign" (.hmeth "get" (.var "table") [(.m0 .swapcase (.idx (.var "words") (.var "choice")))]) []))]) s2 = some (.int (12 * (pr c : Int))) :=
    eval_call2 eval_int (eval_pit C hc G2.tb G2.wd a1) frz_int frz_int (run_mul 12 (pr c : Int) (.inl (by decide)))
  have G3 : PtI s pr ord Pt c (s2.set "left" (.int (12 * (pr c : Int)))) := G2.set
  have b1 : (s2.set "left" (.int (12 * (pr c : Int)))).get "choice" = _ := get_ne a1
  have b2 : (s2.set "left" (.int (12 * (pr c : Int)))).get "chosen" = _ := get_ne a2
  have b3 : (s2.set "left" (.int (12 * (pr c : Int)))).get "left" = _ := get_eq
  have x2 := fun qs => execL_asg (x := "left") (ps := qs) q2
  generalize s2.set "left" (.int (12 * (pr c : Int))) = s3 at *
  obtain ⟨s4, r1, G4, c1, c2, c3⟩ := pt_inner hc (chosen c) (12 * (pr c : Int)) s3 (fun st => some (.next, st)) ok1 G3 b1 b2 b3
  have x3 := fun qs => execL_for (P := P1) (x := "one") (body := ptIn) (els := []) (ps := qs) (eval_var b2) rfl rfl r1
  rw [hpot c h1 hc] at c3
  have q5 : evalE P1 (.call "sub" [(.neg 1), (.var "left")]) s4 = some (.int (-1 - ((chosen c).length : Int) * Pt c)) := eval_call2 eval_neg (eval_var c3) frz_int frz_int (run_sub _ _)
  have x4 := fun qs => execL_asg (x := "below") (ps := qs) q5
  have G5 : PtI s pr ord Pt c (s4.set "below" (.int (-1 - ((chosen c).length : Int) * Pt c))) := G4.set
  have d2 : (s4.set "below" (.int (-1 - ((chosen c).length : Int) * Pt c))).get "chosen" = _ := get_ne c2
  have d3 : (s4.set "below" (.int (-1 - ((chosen c).length : Int) * Pt c))).get "below" = _ := get_eq
  generalize s4.set "below" (.int (-1 - ((chosen c).length : Int) * Pt c)) = s5 at *
  clear a1 a2 b1 b2 b3 c1 c2 c3 g1 q1 q2 q5 r1 G G2 G3 G4 F
  have ql : evalE P1 (.b1 .len (.var "chosen")) s5 = some (.int ((chosen c).length : Int)) := by
    have := eval_len (P := P1) (e := .var "chosen") (vs := (chosen c).map fun a : Nat => V.int (a : Int)) (eval_var d2) (by rw [List.length_map]; exact Nat.le_trans ok2 (by decide))
    rw [List.length_map] at this
    exact this
  have nb : 0 < ((chosen c).length : Int) ∧ ((chosen c).length : Int) ≤ ((big : Nat) : Int) := ⟨Int.ofNat_lt.mpr ok3, i_le (Nat.le_trans ok2 (by decide))⟩
  obtain ⟨hmod, hdiv⟩ := len_mod ok3 ok2 (Pt c)
  have t6 : evalT P1 (.cmp .ne (.call "mod" [(.var "below"), (.b1 .len (.var "chosen"))]) (.bin .sub (.b1 .len (.var "chosen")) (.int 1))) s5 = some false :=
    evalT_cmp (eval_call2 (eval_var d3) ql frz_int frz_int (run_mod _ _ nb)) (eval_bin ql eval_int rfl) (by rw [cmp_ne_int, hmod, decide_eq_true rfl]; rfl)
  have q7 : evalE P1 (.call "sub" [(.neg 1), (.call "floordiv" [(.var "below"), (.b1 .len (.var "chosen"))])]) s5 = some (.int (Pt c)) :=
    eval_call2 eval_neg (eval_call2 (eval_var d3) ql frz_int frz_int (run_floordiv _ _ nb)) frz_int frz_int ((run_sub _ _).trans (by rw [hdiv]))
  refine ⟨_, (x1 _).trans ((x2 _).trans ((x3 _).trans ((x4 _).trans ((execL_skip t6).trans (execL_app G5.pt q7 (vs := potsV Pt c) (by rw [G5.tr]; rfl) (by unfold potsV; rw [List.length_map, List.length_range]; exact hcb)))))), ⟨G5.tb, G5.wd, G5.ch, G5.pt, ?_⟩⟩
  show s5.tr.set 0 _ = _
  rw [G5.tr, potsV, potsV, List.range_succ, List.map_append]
  rfl
theorem run_pot {s : Nat} {pr : Nat → Nat} {ord : List Nat} (C : TabCtx s pr ord) {Pt : Nat → Int} (h0 : Pt 0 = 0) (hpot : ∀ c, 1 ≤ c → c < 16 → 12 * (pr c : Int) + ((chosen c).map fun one => Pt (c - 2 ^ one)).sum = ((chosen c).length : Int) * Pt c) :
    run P1 ["table", "words", "choices"] p_law_potentials [.hdr (.lst (ord.map (item s pr))), wordsV s, choicesV] = some (.lst (potsV Pt 16)) := by
  let s0 : St := { locs := [("table", .hdr (.lst (ord.map (item s pr)))), ("words", wordsV s), ("choices", choicesV)], tr := [] }
  have F0 : PtI s pr ord Pt 1 { locs := setL s0.locs "potentials" (.trk s0.tr.length), tr := s0.tr ++ [[.int 0]] } := ⟨rfl, rfl, rfl, rfl, show [[V.int 0]] = [[V.int (Pt 0)]] by rw [h0]⟩
  generalize hs1 : ({ locs := setL s0.locs "potentials" (.trk s0.tr.length), tr := s0.tr ++ [[.int 0]] } : St) = s1 at *
  obtain ⟨s2, F, q⟩ := forGo_next (f := fun v st => execL P1 ptBody (st.set "choice" v)) (fun st => some (.next, st)) (fun k st => PtI s pr ord Pt (k + 1) st) ((List.range 15).map fun k : Nat => V.int (1 + (k : Int))) 0 s1 F0 (by
    intro j v st hv F
    obtain ⟨hj, rfl⟩ := range_get hv
    rw [Nat.zero_add] at F ⊢
    rw [show (1 + (j : Int)) = ((j + 1 : Nat) : Int) from Int.add_comm _ _]
    exact pt_step C hpot (Nat.le_add_left _ _) (Nat.succ_lt_succ hj) F)
  have F : PtI s pr ord Pt 16 s2 := F
  have q3 : retV P1 (.var "potentials") s2 = some (.lst (potsV Pt 16)) :=
    bs (eval_var F.pt) (bs (x := s2.tr[0]?) (by rw [F.tr]; rfl) (if_pos (by rw [potsV, List.all_map]; exact List.all_eq_true.mpr fun _ _ => rfl)))
  have hx : execL P1 [.for' "choice" (.rng2 (.int 1) (.int 16)) ptBody [], .ret (.var "potentials")] s1 = some (.ret (.lst (potsV Pt 16)), s2) :=
    (execL_for (els := []) (eval_rng2 (m := 1) (n := 16) eval_int eval_int (by decide) (by decide)) rfl (items_rng2 (m := 1) (n := 16) (by decide) (by decide)) q).trans (execL_ret q3)
  subst hs1
  exact run_of rfl ((execL_asgL (vs := [.int 0]) rfl (by decide)).trans hx)
end
section
open PySem PySem.Spec PySem.Calls PySem.W PyProof.Rows

theorem fn2_1 {f : String} (h : lvl2.lookup f = none) (vs : List V) : P2.fn f vs = fn1 f vs := by
  show fn2 f vs = _
  unfold fn2
  rw [h]
theorem fn2_2 {f : String} {a : Addr} {xs : List String} {ps : List PS} (h : lvl2.lookup f = some (a, xs, ps)) (vs : List V) : P2.fn f vs = run P1 xs ps vs := by
  show fn2 f vs = _
  unfold fn2
  rw [h]
theorem n_add : lvl2.lookup "add" = none := rfl
theorem n_sub : lvl2.lookup "sub" = none := rfl
theorem n_mul : lvl2.lookup "mul" = none := rfl
theorem n_mod : lvl2.lookup "mod" = none := rfl
theorem n_lshift : lvl2.lookup "lshift" = none := rfl
theorem n_pretty : lvl2.lookup "pretty_flags" = none := rfl
theorem n_pieces : lvl2.lookup "_law_pieces" = none := rfl
theorem n_sent : lvl2.lookup "_law_sent" = none := rfl
theorem n_cut : lvl2.lookup "_law_cut" = none := rfl
theorem n_mail : lvl2.lookup "_law_mail" = none := rfl
theorem n_share : lvl2.lookup "_law_share" = none := rfl
theorem n_codes : lvl2.lookup "_law_codes" = none := rfl
theorem n_numeral : lvl2.lookup "_law_numeral" = none := rfl
theorem n_quoted : lvl2.lookup "quotedata" = none := rfl
theorem n_name : lvl2.lookup "_law_name" = some (317, ["chosen", "shift"], p_law_name) := rfl
theorem n_pot : lvl2.lookup "_law_potentials" = some (327, ["table", "words", "choices"], p_law_potentials) := rfl

theorem compGo_filter {α : Type} {f : V → Option (Option V)} {k g : α → V} {keep : α → Bool} : ∀ {vs : List α}, (∀ v ∈ vs, f (k v) = some (if keep v = true then some (g v) else none)) → compGo f (vs.map k) = some ((vs.filter keep).map g)
  | [], _ => rfl
  | v :: vs, h => by
    have ih := compGo_filter (vs := vs) fun u hu => h u (List.mem_cons_of_mem _ hu)
    refine bs (h v List.mem_cons_self) (bs ih ?_)
    by_cases hk : keep v = true
    · rw [if_pos hk, List.filter_cons_of_pos hk]; rfl
    · rw [if_neg hk, List.filter_cons_of_neg hk]; rfl
theorem eval_comp_if {P : Prims} {α : Type} {elt it t : PE} {x : String} {st : St} {v : V} {l : List α} {k g : α → V} {keep : α → Bool} (hit : evalE P it st = some v) (hi : itemsOf st v = some (l.map k)) (hl : l.length ≤ 1000)
    (ht : ∀ u ∈ l, evalT P t { locs := (x, k u) :: st.locs, tr := st.tr } = some (keep u)) (hg : ∀ u ∈ l, evalE P elt { locs := (x, k u) :: st.locs, tr := st.tr } = some (g u)) :
    evalE P (.comp elt x it [t]) st = some (.lst ((l.filter keep).map g)) := by
  refine bs hit (bs hi ((if_pos (by rw [List.length_map]; exact Nat.le_trans hl (by decide))).trans ?_))
  rw [compGo_filter (g := g) (keep := keep) fun u hu => ?_]
  · rfl
  · refine bs (show evalAnd P [t] (inner x (k u) st) = some (keep u) from bs (ht u hu) (by cases keep u <;> rfl)) ?_
    cases keep u
    · rfl
    · show (evalE P elt _).map some = _
      rw [show evalE P elt (inner x (k u) st) = some (g u) from hg u hu]; rfl

section
variable {p : Nat → List Nat} (hp : ∀ i, OkP (p i))
noncomputable def piecesV (p : Nat → List Nat) : V := .lst ((List.range 4).map fun i => V.str (p i))
noncomputable def mailsV (p : Nat → List Nat) : V := .lst ((List.range 16).map fun c => V.str (sent (joined p (chosen c))))
include hp
theorem p_len (i : Nat) : (p i).length ≤ 3 := (hp i).len
theorem sn_len (i : Nat) : (snOf p i).length ≤ 6 := Nat.le_trans (slen (p i)) (Nat.mul_le_mul_left 2 (p_len hp i))
theorem ev_alone {st : St} (h : st.get "pieces" = some (piecesV p)) : evalE P2 (.comp (.call "_law_sent" [(.var "piece")]) "piece" (.var "pieces") []) st = some (alV (snOf p)) :=
  eval_comp (eval_var h) rfl (by decide) fun i _ => eval_call1 (eval_var get_here) frz_str ((fn2_1 n_sent _).trans (run_sent (Nat.le_trans (Nat.add_le_add_right (Nat.mul_le_mul_left 2 (p_len hp i)) 2) (by decide))))
theorem ev_own {st : St} (h : st.get "alone" = some (alV (snOf p))) : evalE P2 (.comp (.call "_law_codes" [(.var "text")]) "text" (.var "alone") []) st = some (ownV (ownOf p)) :=
  eval_comp (eval_var h) rfl (by decide) fun i _ => eval_call1 (eval_var get_here) frz_str ((fn2_1 n_codes _).trans (run_codes (Nat.le_trans (sn_len hp i) (by decide))))
theorem ev_cuts {st : St} (h : st.get "pieces" = some (piecesV p)) : evalE P2 (.comp (.comp (.call "_law_cut" [(.var "piece"), (.var "other")]) "other" (.var "pieces") []) "piece" (.var "pieces") []) st = some (ctV (ctOf p)) :=
  eval_comp (eval_var h) rfl (by decide) fun i _ => eval_comp (k := fun j => V.str (p j)) (v := piecesV p) (eval_var ((get_there (by decide)).trans h)) rfl (by decide) fun j _ =>
    eval_call2 (eval_var (v := .str (p i)) ((get_comp _ _ _ _).trans ((if_neg (by decide)).trans get_here))) (eval_var get_here) frz_str frz_str
      ((fn2_1 n_cut _).trans (run_cut (hp i).ne (hp j).ne (Nat.le_trans (p_len hp i) (by decide)) (Nat.le_trans (p_len hp j) (by decide))))
omit hp in
theorem ev_choices {st : St} : evalE P2 (.comp (.comp (.var "one") "one" (.rng1 (.int 4)) [(.cmp .eq (.bin .fmod (.bin .fdiv (.var "choice") (.bin .pow (.int 2) (.var "one"))) (.int 2)) (.int 1))]) "choice" (.rng1 (.int 16)) []) st = some choicesV := by
  refine eval_comp (v := .rng 0 16) (k := fun k : Nat => V.int (0 + (k : Int))) (eval_rng1 (n := 16) eval_int (by decide)) (items_rng (n := 16) (by decide)) (by decide) fun c _ => ?_
  refine eval_comp_if (v := .rng 0 4) (k := fun k : Nat => V.int (0 + (k : Int))) (g := fun a : Nat => V.int (a : Int)) (keep := fun i => decide (c / 2 ^ i % 2 = 1)) (eval_rng1 (n := 4) eval_int (by decide)) (items_rng (n := 4) (by decide)) (by decide) (fun i hi => ?_) fun i _ => eval_var (get_here.trans (by rw [Int.zero_add]))
  have hi := List.mem_range.mp hi
  have hp2 : 2 ^ i ≤ 1000 := Nat.le_trans (Nat.pow_le_pow_right (by decide) (Nat.le_of_lt_succ hi)) (show 2 ^ 3 ≤ 1000 by decide)
  have q1 : evalE P2 (.bin .pow (.int 2) (.var "one")) { locs := ("one", .int (0 + (i : Int))) :: ("choice", .int (0 + (c : Int))) :: st.locs, tr := st.tr } = some (.int ((2 ^ i : Nat) : Int)) :=
    eval_bin eval_int (eval_var (v := .int (i : Int)) (by rw [get_cons, if_pos rfl, Int.zero_add])) ((pow_ints ⟨by decide, by decide, Int.natCast_nonneg i, Int.ofNat_le.mpr (Nat.le_trans (Nat.le_of_lt hi) (by decide))⟩).trans (by rw [Int.toNat_natCast, Int.natCast_pow]; rfl))
  have q2 := eval_fdiv (P := P2) (a := .var "choice") (x := c) (eval_var (st := { locs := ("one", .int (0 + (i : Int))) :: ("choice", .int (0 + (c : Int))) :: st.locs, tr := st.tr }) (by rw [get_cons, if_neg (by decide), get_cons, if_pos rfl, Int.zero_add])) q1 (Nat.two_pow_pos i) hp2
  exact evalT_cmp (eval_fmod (y := 2) q2 eval_int (by decide) (by decide)) eval_int (congrArg some (natD _ 1))
theorem joined_len : ∀ l : List Nat, (joined p l).length ≤ 3 * l.length
  | [] => Nat.le_refl 0
  | a :: l => by
    rw [List.length_cons, Nat.mul_succ, Nat.add_comm]
    exact Nat.le_trans (Nat.le_of_eq List.length_append) (Nat.add_le_add (p_len hp a) (joined_len l))
theorem sent_joined_len (c : Nat) (hc : c < 16) : (joined p (chosen c)).length ≤ 12 ∧ (sent (joined p (chosen c))).length ≤ 24 := by
  have h := Nat.le_trans (joined_len hp (chosen c)) (Nat.mul_le_mul_left 3 (chosen_ok c hc).2.1)
  exact ⟨h, Nat.le_trans (slen _) (Nat.mul_le_mul_left 2 h)⟩
omit hp in
theorem frz_ints (st : St) (l : List Nat) : frz st (intsV l) = some (intsV l) := frz_lst (noTrks_map fun _ _ => rfl)
omit hp in
theorem frz_ct (st : St) (ct : Nat → Nat → Nat) : frz st (ctV ct) = some (ctV ct) := frz_lst (noTrks_map fun _ _ => show noTrks _ = true from noTrks_map fun _ _ => rfl)
theorem ev_mails {st : St} (h1 : st.get "choices" = some choicesV) (h2 : st.get "alone" = some (alV (snOf p))) (h3 : st.get "cuts" = some (ctV (ctOf p))) : evalE P2 (.comp (.call "_law_mail" [(.var "chosen"), (.var "alone"), (.var "cuts")]) "chosen" (.var "choices") []) st = some (mailsV p) := by
  refine eval_comp (eval_var h1) rfl (by decide) fun c hc => ?_
  have hc := List.mem_range.mp hc
  have ok := chosen_ok c hc
  refine eval_call (evs_cons (eval_var get_here) (evs_cons (eval_var ((get_there (by decide)).trans h2)) (evs_cons (eval_var ((get_there (by decide)).trans h3)) evs_nil)))
    (frzs_cons (frz_ints _ _) (frzs_cons (frz_lst (noTrks_map fun _ _ => rfl)) (frzs_cons (frz_ct _ _) rfl))) ?_
  rw [fn2_1 n_mail]
  exact (run_mail (sn := snOf p) (ct := ctOf p) (fun a ha => (ok.1 a ha).1) (fun a _ => Nat.le_trans (sn_len hp a) (by decide)) (fun a _ b _ => cutN_le _ _) (Nat.le_trans ok.2.1 (by decide))).trans (by rw [mailL_joined fun i => (hp i).ne])
end
theorem ints_of : ∀ l : List Int, intsOf (l.map V.int) = some l
  | [] => rfl
  | i :: l => bs (x := gInt (.int i)) rfl (bs (ints_of l) rfl)
theorem ev_total {st : St} {script : List Int} (h : st.get "script" = some (.lst (script.map V.int))) : evalE P2 (.b1 .sum (.var "script")) st = some (.int script.sum) := eval_b1 (eval_var h) (b1_sum (ints_of script))
noncomputable def shiftOf (T : Int) : Nat := ((10 + T) % 35).toNat
theorem shiftOf_lt (T : Int) : shiftOf T < 35 := by unfold shiftOf; omega
theorem shift_eq (T : Int) : (10 + T) % 35 = (shiftOf T : Int) := by unfold shiftOf; omega
theorem ev_shift {st : St} {T : Int} (h : st.get "total" = some (.int T)) : evalE P2 (.bin .fmod (.bin .add (.int 10) (.var "total")) (.int 35)) st = some (.int (shiftOf T : Int)) :=
  eval_bin (eval_bin eval_int (eval_var h) rfl) eval_int ((fmod_ints (by decide)).trans (congrArg (some ∘ V.int) (shift_eq T)))
theorem ev_words {st : St} {s : Nat} (hs : s < 35) (h : st.get "shift" = some (.int (s : Int))) : evalE P2 (.comp (.call "pretty_flags" [(.call "lshift" [(.var "choice"), (.var "shift")])]) "choice" (.rng1 (.int 16)) []) st = some (wordsV s) := by
  refine eval_comp (v := .rng 0 16) (k := fun k : Nat => V.int (0 + (k : Int))) (eval_rng1 (n := 16) eval_int (by decide)) (items_rng (n := 16) (by decide)) (by decide) fun c hc => ?_
  have hc := List.mem_range.mp hc
  have hn := nm_pretty s hs c hc
  have q1 : evalE P2 (.call "lshift" [(.var "choice"), (.var "shift")]) { locs := ("choice", .int (0 + (c : Int))) :: st.locs, tr := st.tr } = some (.int ((c * 2 ^ s : Nat) : Int)) := by
    refine eval_call2 (eval_var (v := .int (c : Int)) (get_here.trans (by rw [Int.zero_add]))) (eval_var (v := .int (s : Int)) ((get_there (by decide)).trans h)) frz_int frz_int ?_
    rw [fn2_1 n_lshift, run_lshift _ _ ⟨Nat.le_trans (Nat.le_of_lt hc) (by decide), Int.natCast_nonneg s, Int.ofNat_le.mpr (Nat.le_trans (Nat.le_of_lt hs) (by decide))⟩, Int.toNat_natCast, Int.natCast_mul, Int.natCast_pow]
    rfl
  exact eval_call1 q1 frz_int ((fn2_1 n_pretty _).trans ((run_pretty hn.1).trans (by rw [hn.2.1])))
noncomputable def steps : List Nat := [1, 3, 5, 7, 9, 11, 13, 15, 3, 5]
noncomputable def stepOf (T : Int) : Nat := steps.getD ((T / 10 % 10).toNat) 0
theorem ev_step {st : St} {T : Int} (h : st.get "total" = some (.int T)) : evalE P2 (.idx (.lst [(.int 1), (.int 3), (.int 5), (.int 7), (.int 9), (.int 11), (.int 13), (.int 15), (.int 3), (.int 5)]) (.bin .fmod (.bin .fdiv (.var "total") (.int 10)) (.int 10))) st = some (.int (stepOf T : Int)) := by
  have q1 : evalE P2 (.bin .fmod (.bin .fdiv (.var "total") (.int 10)) (.int 10)) st = some (.int (((T / 10 % 10).toNat : Nat) : Int)) :=
    eval_bin (eval_bin (eval_var h) eval_int (fdiv_ints (by decide))) eval_int ((fmod_ints (by decide)).trans (congrArg (some ∘ V.int) (mod10' (T / 10))))
  have q2 : evalE P2 (.lst [(.int 1), (.int 3), (.int 5), (.int 7), (.int 9), (.int 11), (.int 13), (.int 15), (.int 3), (.int 5)]) st = some (.lst (steps.map fun a : Nat => V.int (a : Int))) :=
    bs (show evalEs P2 _ st = some (steps.map fun a : Nat => V.int (a : Int)) from rfl) (if_pos (show 10 ≤ big from by decide))
  have hl : (T / 10 % 10).toNat < steps.length := mod10 (T / 10)
  refine eval_idx q2 q1 (idx_lst ?_ (Nat.le_trans (Nat.le_of_lt hl) (by decide)))
  unfold stepOf
  rw [List.getElem?_map, List.getElem?_eq_getElem hl, List.getD_eq_getElem?_getD, List.getElem?_eq_getElem hl]
  rfl
end
section
open PySem PySem.Spec PySem.Calls PySem.W PyProof.Rows

/-- the price as a number from nought on -/
noncomputable def prN (p : Nat → List Nat) (c : Nat) : Nat := (codes (sent (joined p (chosen c)))).toNat
theorem prN_eq (p : Nat → List Nat) (c : Nat) : (prN p c : Int) = codes (sent (joined p (chosen c))) := by
  have := codes_nonneg (sent (joined p (chosen c)))
  unfold prN; omega
theorem prN_v {p : Nat → List Nat} (hp : ∀ i, OkP (p i)) (c : Nat) : (prN p c : Int) = vL (ownOf p) (feOf p) (chosen c) := by
  rw [prN_eq, price_eq (fun i => (hp i).ne)]
theorem prN_lt {p : Nat → List Nat} (hp : ∀ i, OkP (p i)) {c : Nat} (hc : c < 16) : prN p c < 64 ^ 4 := by
  have h1 := prN_v hp c
  have h3 := (chosen_ok c hc).2.1
  cases hch : chosen c with
  | nil => rw [hch] at h1; exact Int.ofNat.inj h1 ▸ (by decide)
  | cons a r =>
    rw [hch] at h1 h3
    have h2 := v_le (ownOf p) (feOf p) (fun i j => fe_bounds i j) (fun i => (own_le hp i).2) r a
    have h4 := (own_le hp a).2
    rw [vL] at h1
    rw [List.length_cons] at h3
    omega
noncomputable def ordOf (T : Int) (k : Nat) : Nat := ((T % 10).toNat + k * stepOf T) % 16
noncomputable def ordL (T : Int) : List Nat := (List.range 16).map (ordOf T)
theorem ord_all0 : ∀ a < 10, ∀ j < 10, ∀ c < 16, ∃ k ∈ List.range 16, (a + k * steps.getD j 0) % 16 = c := by decide +kernel
theorem ordL_all (T : Int) : ∀ c < 16, c ∈ ordL T := fun c hc => by
  obtain ⟨k, hk, e⟩ := ord_all0 (T % 10).toNat (by omega) (T / 10 % 10).toNat (by omega) c hc
  exact List.mem_map.mpr ⟨k, hk, e⟩
theorem ordL_lt (T : Int) : ∀ a ∈ ordL T, a < 16 := fun a ha => by
  obtain ⟨k, _, rfl⟩ := List.mem_map.mp ha
  exact Nat.mod_lt _ (by omega)
theorem tabCtx {p : Nat → List Nat} (hp : ∀ i, OkP (p i)) (T : Int) : TabCtx (shiftOf T) (prN p) (ordL T) :=
  ⟨shiftOf_lt T, fun c hc => prN_lt hp hc, ordL_lt T, ordL_all T, by unfold ordL; rw [List.length_map, List.length_range]; omega⟩
theorem stepOf_le (T : Int) : stepOf T ≤ 15 := by
  have : ∀ j < 10, steps.getD j 0 ≤ 15 := by decide
  exact this _ (by omega)

structure LawI (p : Nat → List Nat) (T : Int) (its : List V) (st : St) : Prop where
  pieces : st.get "pieces" = some (piecesV p)
  own : st.get "own" = some (ownV (ownOf p))
  cuts : st.get "cuts" = some (ctV (ctOf p))
  choices : st.get "choices" = some choicesV
  mails : st.get "mails" = some (mailsV p)
  total : st.get "total" = some (.int T)
  shift : st.get "shift" = some (.int (shiftOf T : Int))
  words : st.get "words" = some (wordsV (shiftOf T))
  step : st.get "step" = some (.int (stepOf T : Int))
  laid : st.get "laid" = some (.trk 0)
  table : st.get "table" = some (.hdr (.trk 0))
  tr : st.tr = [its]
theorem LawI.set {p : Nat → List Nat} {T : Int} {its : List V} {st : St} (F : LawI p T its st) (x : String) (v : V) (hx : x ∉ ["pieces", "own", "cuts", "choices", "mails", "total", "shift", "words", "step", "laid", "table"]) : LawI p T its (st.set x v) := by
  have ne : ∀ {y : String} {r : Option V}, st.get y = r → y ∈ ["pieces", "own", "cuts", "choices", "mails", "total", "shift", "words", "step", "laid", "table"] → (st.set x v).get y = r := fun h hy => get_ne h fun e => hx (e ▸ hy)
  exact ⟨ne F.pieces (by decide), ne F.own (by decide), ne F.cuts (by decide), ne F.choices (by decide), ne F.mails (by decide), ne F.total (by decide), ne F.shift (by decide), ne F.words (by decide), ne F.step (by decide), ne F.laid (by decide), ne F.table (by decide), F.tr⟩

noncomputable def seg1 : List PS := [
  .asg "pieces" (.call "_law_pieces" [(.var "script")]),
  .asg "alone" (.comp (.call "_law_sent" [(.var "piece")]) "piece" (.var "pieces") []),
  .asg "own" (.comp (.call "_law_codes" [(.var "text")]) "text" (.var "alone") []),
  .asg "cuts" (.comp (.comp (.call "_law_cut" [(.var "piece"), (.var "other")]) "other" (.var "pieces") []) "piece" (.var "pieces") []),
  .asg "choices" (.comp (.comp (.var "one") "one" (.rng1 (.int 4)) [(.cmp .eq (.bin .fmod (.bin .fdiv (.var "choice") (.bin .pow (.int 2) (.var "one"))) (.int 2)) (.int 1))]) "choice" (.rng1 (.int 16)) []),
  .asg "mails" (.comp (.call "_law_mail" [(.var "chosen"), (.var "alone"), (.var "cuts")]) "chosen" (.var "choices") []),
  .asg "total" (.b1 .sum (.var "script")),
  .asg "shift" (.bin .fmod (.bin .add (.int 10) (.var "total")) (.int 35)),
  .asg "words" (.comp (.call "pretty_flags" [(.call "lshift" [(.var "choice"), (.var "shift")])]) "choice" (.rng1 (.int 16)) []),
  .asg "step" (.idx (.lst [(.int 1), (.int 3), (.int 5), (.int 7), (.int 9), (.int 11), (.int 13), (.int 15), (.int 3), (.int 5)]) (.bin .fmod (.bin .fdiv (.var "total") (.int 10)) (.int 10))),
  .asgL "laid" [],
  .newH "table" "laid"]
theorem get_setL' {st : St} {tr : List (List V)} {x y : String} {v : V} : St.get { locs := setL st.locs x v, tr := tr } y = if y = x then some v else st.get y := getL_setL _ _ _ _
theorem get_eqL {st : St} {tr : List (List V)} {x : String} {v : V} : St.get { locs := setL st.locs x v, tr := tr } x = some v := (getL_setL _ _ _ _).trans (if_pos rfl)
theorem get_neL {st : St} {tr : List (List V)} {x y : String} {v : V} {r : Option V} (h : st.get y = r) (hne : y ≠ x := by decide) : St.get { locs := setL st.locs x v, tr := tr } y = r := ((getL_setL _ _ _ _).trans (if_neg hne)).trans h
theorem exec_newH {P : Prims} {st : St} {x l : String} {n : Nat} (h1 : st.get l = some (.trk n)) (h2 : st.tr[n]? = some []) : execS P (.newH x l) st = some (.next, st.set x (.hdr (.trk n))) := bs h1 (bs rfl (bs h2 rfl))
theorem addV_tr {st : St} {n : Nat} {x y : List Nat} {vs : List V} (h : st.tr[n]? = some vs) (hx : strOk x = true) (hy : strOk y = true) (hl : vs.length ≤ big) : addV (.hdr (.trk n)) (.str x) (.str y) st = some { st with tr := st.tr.set n (vs ++ [.tup [.str x, .str y]]) } :=
  bs rfl (bs rfl (bs rfl (bs rfl (bs h (if_pos ⟨hx, hy, hl⟩)))))
theorem exec_addH {P : Prims} {st st' : St} {t : String} {a b : PE} {v x y : V} (h1 : st.get t = some v) (h2 : evalE P a st = some x) (h3 : evalE P b st = some y) (h4 : addV v x y st = some st') : execS P (.addH t a b) st = some (.next, st') := bs h1 (bs h2 (bs h3 (bs h4 rfl)))
theorem exec_addIf {P : Prims} {st st' : St} {t : String} {c a b : PE} {v x y : V} (h0 : evalT P c st = some false) (h1 : st.get t = some v) (h2 : evalE P a st = some x) (h3 : evalE P b st = some y) (h4 : addV v x y st = some st') : execS P (.addIf c t a b) st = some (.next, st') := bs h0 (bs h1 (bs h2 (bs h3 (bs h4 rfl))))
theorem seg1_run {script : List Int} (hl : script.length ≤ 1000) : ∃ (p : Nat → List Nat) (st : St), (∀ i, OkP (p i)) ∧ execL P2 seg1 { locs := [("script", .lst (script.map V.int))], tr := [] } = some (.next, st) ∧ LawI p script.sum [] st := by
  obtain ⟨cs, hcs, hpc⟩ := run_pieces hl
  obtain ⟨z0, z1, z2, z3, rfl⟩ : ∃ a b c d, cs = [a, b, c, d] := by
    match cs, hcs with
    | [a, b, c, d], _ => exact ⟨a, b, c, d, rfl⟩
  obtain ⟨p, hp, hpV⟩ : ∃ p : Nat → List Nat, (∀ i, OkP (p i)) ∧ V.lst ([z0, z1, z2, z3].map fun z => V.str (pieceOf z)) = piecesV p := ⟨fun i => pieceOf ([z0, z1, z2, z3].getD i 0), fun i => pieceOf_ok _, rfl⟩
  rw [hpV] at hpc
  let s0 : St := { locs := [("script", .lst (script.map V.int))], tr := [] }
  have q1 : evalE P2 (.call "_law_pieces" [(.var "script")]) s0 = some (piecesV p) := eval_call1 (v := .lst (script.map V.int)) (eval_var rfl) (frz_lst (noTrks_map fun _ _ => rfl)) ((fn2_1 n_pieces _).trans hpc)
  refine ⟨p, _, hp, (execL_asg q1).trans ((execL_asg (ev_alone hp get_eq)).trans ((execL_asg (ev_own hp get_eq)).trans ((execL_asg (ev_cuts hp (get_ne (get_ne get_eq)))).trans ((execL_asg ev_choices).trans
    ((execL_asg (ev_mails hp get_eq (get_ne (get_ne (get_ne get_eq))) (get_ne get_eq))).trans ((execL_asg (ev_total (script := script) rfl)).trans ((execL_asg (ev_shift (T := script.sum) get_eq)).trans ((execL_asg (ev_words (shiftOf_lt script.sum) get_eq)).trans ((execL_asg (ev_step (T := script.sum) (get_ne (get_ne get_eq)))).trans
    ((execL_asgL (vs := []) rfl (Nat.zero_le _)).trans (execL_cons (exec_newH (n := 0) (get_eqL (v := .trk 0)) rfl) rfl))))))))))), ?_⟩
  exact ⟨get_ne (get_neL (get_ne (get_ne (get_ne (get_ne (get_ne (get_ne (get_ne (get_ne (get_ne get_eq)))))))))), get_ne (get_neL (get_ne (get_ne (get_ne (get_ne (get_ne (get_ne (get_ne get_eq)))))))), get_ne (get_neL (get_ne (get_ne (get_ne (get_ne (get_ne (get_ne get_eq))))))), get_ne (get_neL (get_ne (get_ne (get_ne (get_ne (get_ne get_eq)))))), get_ne (get_neL (get_ne (get_ne (get_ne (get_ne get_eq))))), get_ne (get_neL (get_ne (get_ne (get_ne get_eq)))), get_ne (get_neL (get_ne (get_ne get_eq))), get_ne (get_neL (get_ne get_eq)), get_ne (get_neL get_eq), get_ne (get_eqL (v := .trk 0)), get_eq, rfl⟩
end
section
open PySem PySem.Spec PySem.Calls PySem.W PyProof.Rows

theorem joinL_flat : ∀ xs : List (List Nat), joinL [] xs = xs.flatten
  | [] => rfl
  | [x] => (List.append_nil x).symm
  | x :: y :: r => by
    show x ++ [] ++ joinL [] (y :: r) = _
    rw [joinL_flat (y :: r), List.append_nil]
    rfl
theorem asciiOk_str {x : List Nat} (h : asciiOk x = true) : strOk x = true := by
  unfold asciiOk at h
  exact (Bool.and_eq_true_iff.mp h).2

section
variable {p : Nat → List Nat} {T : Int} {its : List V}
/-- the joined text of a choice -/
theorem ev_joined (hp : ∀ i, OkP (p i)) {st : St} {c : Nat} (hc : c < 16) (F : LawI p T its st) (h : st.get "choice" = some (.int (c : Int))) :
    evalE P2 (.join [] (.comp (.idx (.var "pieces") (.var "one")) "one" (.idx (.var "choices") (.var "choice")) [])) st = some (.str (joined p (chosen c))) := by
  have q1 : evalE P2 (.idx (.var "choices") (.var "choice")) st = some (intsV (chosen c)) := eval_idx (eval_var F.choices) (eval_var h) (idx_range hc (Nat.le_trans (Nat.le_of_lt hc) (by decide)))
  have ok := chosen_ok c hc
  have q2 : evalE P2 (.comp (.idx (.var "pieces") (.var "one")) "one" (.idx (.var "choices") (.var "choice")) []) st = some (.lst ((chosen c).map fun i => V.str (p i))) :=
    eval_comp q1 rfl (Nat.le_trans ok.2.1 (by decide)) fun i hi => eval_idx (eval_var (v := piecesV p) ((get_there (by decide)).trans F.pieces)) (eval_var get_here) (idx_range (ok.1 i hi).1 (Nat.le_trans (Nat.le_of_lt (ok.1 i hi).1) (by decide)))
  have hm : (chosen c).map (fun i => V.str (p i)) = ((chosen c).map p).map V.str := by rw [List.map_map]; rfl
  rw [hm] at q2
  have h1 : ∀ x ∈ (chosen c).map p, x.length ≤ 3 := fun x hx => by
    obtain ⟨i, _, rfl⟩ := List.mem_map.mp hx
    exact (hp i).len
  have h2 : ((chosen c).map p).length ≤ 4 := Nat.le_trans (Nat.le_of_eq (List.length_map _)) ok.2.1
  exact eval_join q2 ((joinV_strs (Nat.le_trans (Nat.add_le_add_right (Nat.le_trans (sum_len h1) (Nat.mul_le_mul_left 3 h2)) _) (show 12 + _ * 0 ≤ big by rw [Nat.mul_zero]; decide))).trans (by rw [joinL_flat]; rfl))
noncomputable def turnBody : List PS := [
    .asg "choice" (.call "mod" [(.call "add" [(.bin .fmod (.var "total") (.int 10)), (.call "mul" [(.var "turn"), (.var "step")])]), (.int 16)]),
    .asg "sent" (.call "quotedata" [(.join [] (.comp (.idx (.var "pieces") (.var "one")) "one" (.idx (.var "choices") (.var "choice")) []))]),
    .addIf (.cmp .ne (.var "sent") (.idx (.var "mails") (.var "choice"))) "table" (.idx (.var "words") (.var "choice")) (.call "_law_numeral" [(.call "_law_codes" [(.var "sent")])])]
theorem turn_step (hp : ∀ i, OkP (p i)) {st : St} {k : Nat} (hk : k < 16) (hl : its.length ≤ 100) (F : LawI p T its st) :
    ∃ st', execL P2 turnBody (st.set "turn" (.int (k : Int))) = some (.next, st') ∧ LawI p T (its ++ [item (shiftOf T) (prN p) (ordOf T k)]) st' := by
  have F1 := F.set "turn" (.int (k : Int)) (by decide)
  have g1 : (st.set "turn" (.int (k : Int))).get "turn" = _ := get_eq
  generalize st.set "turn" (.int (k : Int)) = s1 at *
  have hc : ordOf T k < 16 := Nat.mod_lt _ (by decide)
  have q1 : evalE P2 (.call "mul" [(.var "turn"), (.var "step")]) s1 = some (.int ((k * stepOf T : Nat) : Int)) :=
    eval_call2 (eval_var g1) (eval_var F1.step) frz_int frz_int ((fn2_1 n_mul _).trans ((run_mul _ _ (.inl (Nat.le_trans (Nat.le_of_lt hk) (by decide)))).trans (by rw [Int.natCast_mul])))
  have q2 : evalE P2 (.bin .fmod (.var "total") (.int 10)) s1 = some (.int (((T % 10).toNat : Nat) : Int)) := eval_bin (eval_var F1.total) eval_int ((fmod_ints (by decide)).trans (congrArg (some ∘ V.int) (mod10' T)))
  have q3 : evalE P2 (.call "add" [(.bin .fmod (.var "total") (.int 10)), (.call "mul" [(.var "turn"), (.var "step")])]) s1 = some (.int (((T % 10).toNat + k * stepOf T : Nat) : Int)) := eval_call2 q2 q1 frz_int frz_int ((fn2_1 n_add _).trans (run_add _ _))
  have q4 : evalE P2 (.call "mod" [(.call "add" [(.bin .fmod (.var "total") (.int 10)), (.call "mul" [(.var "turn"), (.var "step")])]), (.int 16)]) s1 = some (.int (ordOf T k : Int)) := eval_call2 q3 eval_int frz_int frz_int ((fn2_1 n_mod _).trans (run_mod _ 16 (by decide)))
  have F2 := F1.set "choice" (.int (ordOf T k : Int)) (by decide)
  have g2 : (s1.set "choice" (.int (ordOf T k : Int))).get "choice" = _ := get_eq
  have x1 := fun qs => execL_asg (x := "choice") (ps := qs) q4
  clear q1 q2 q3 q4 F1 g1 F
  generalize s1.set "choice" (.int (ordOf T k : Int)) = s2 at *
  generalize hcc : ordOf T k = c at *
  have hcb : c ≤ big := Nat.le_trans (Nat.le_of_lt hc) (by decide)
  obtain ⟨l12, l24⟩ := sent_joined_len hp c hc
  have q5 : evalE P2 (.call "quotedata" [(.join [] (.comp (.idx (.var "pieces") (.var "one")) "one" (.idx (.var "choices") (.var "choice")) []))]) s2 = some (.str (sent (joined p (chosen c)))) :=
    eval_call1 (ev_joined hp hc F2 g2) frz_str ((fn2_1 n_quoted _).trans (fn1_quoted _ (Nat.le_trans l12 (by decide))))
  have x2 := fun qs => execL_asg (x := "sent") (ps := qs) q5
  have F3 := F2.set "sent" (.str (sent (joined p (chosen c)))) (by decide)
  have g3 : (s2.set "sent" (.str (sent (joined p (chosen c))))).get "sent" = _ := get_eq
  have g4 : (s2.set "sent" (.str (sent (joined p (chosen c))))).get "choice" = _ := get_ne g2
  clear q5 F2 g2
  generalize s2.set "sent" (.str (sent (joined p (chosen c)))) = s3 at *
  have t6 : evalT P2 (.cmp .ne (.var "sent") (.idx (.var "mails") (.var "choice"))) s3 = some false := evalT_cmp (eval_var g3) (eval_idx (eval_var F3.mails) (eval_var g4) (idx_range hc hcb)) (by rw [cmp_ne_str, decide_eq_true rfl]; rfl)
  have q7 : evalE P2 (.idx (.var "words") (.var "choice")) s3 = some (.str (nm (shiftOf T) c)) := eval_idx (eval_var F3.words) (eval_var g4) (idx_range hc hcb)
  have q8 : evalE P2 (.call "_law_numeral" [(.call "_law_codes" [(.var "sent")])]) s3 = some (.str (numeral (prN p c))) :=
    eval_call1 (v := .int (prN p c : Int)) (eval_call1 (eval_var g3) frz_str ((fn2_1 n_codes _).trans ((run_codes (Nat.le_trans l24 (by decide))).trans (by rw [prN_eq])))) frz_int ((fn2_1 n_numeral _).trans (run_numeral (prN_lt hp hc)))
  refine ⟨{ s3 with tr := s3.tr.set 0 (its ++ [item (shiftOf T) (prN p) c]) }, (x1 _).trans ((x2 _).trans (execL_cons (exec_addIf t6 F3.table q7 q8 (addV_tr (by rw [F3.tr]; rfl) (asciiOk_str (nm_pretty _ (shiftOf_lt T) c hc).2.2) (numeral_ok _) (Nat.le_trans hl (by decide)))) rfl)), ?_⟩
  exact ⟨F3.pieces, F3.own, F3.cuts, F3.choices, F3.mails, F3.total, F3.shift, F3.words, F3.step, F3.laid, F3.table, by show s3.tr.set 0 _ = _; rw [F3.tr]; rfl⟩
theorem turn_loop (hp : ∀ i, OkP (p i)) {st : St} (F : LawI p T [] st) {ps : List PS} : ∃ st', LawI p T ((ordL T).map (item (shiftOf T) (prN p))) st' ∧ execL P2 (.for' "turn" (.rng1 (.int 16)) turnBody [] :: ps) st = execL P2 ps st' := by
  obtain ⟨st', hI, q⟩ := forGo_next (f := fun v st => execL P2 turnBody (st.set "turn" v)) (fun st => some (.next, st)) (fun k st => LawI p T ((List.range k).map fun k => item (shiftOf T) (prN p) (ordOf T k)) st) ((List.range 16).map fun k : Nat => V.int (0 + (k : Int))) 0 st F (by
    intro j v st hv F
    obtain ⟨hj, rfl⟩ := range_get hv
    rw [Nat.zero_add] at F ⊢
    rw [Int.zero_add]
    obtain ⟨st', e, F'⟩ := turn_step hp hj (by rw [List.length_map, List.length_range]; exact Nat.le_trans (Nat.le_of_lt hj) (by decide)) F
    refine ⟨st', e, ?_⟩
    rw [List.range_succ, List.map_append]
    exact F')
  refine ⟨st', ?_, ?_⟩
  · have : (ordL T).map (item (shiftOf T) (prN p)) = (List.range (0 + ((List.range 16).map fun k : Nat => V.int (0 + (k : Int))).length)).map fun k => item (shiftOf T) (prN p) (ordOf T k) := by
      unfold ordL
      rw [List.map_map, List.length_map, List.length_range]
      rfl
    rw [this]
    exact hI
  · exact execL_for (eval_rng1 (n := 16) eval_int (by decide)) rfl (items_rng (n := 16) (by decide)) q
end
end
section
open PySem PySem.Spec PySem.Calls PySem.W PyProof.Rows

section
variable {p : Nat → List Nat} {T : Int} {its : List V}
noncomputable def Pt (p : Nat → List Nat) (c : Nat) : Int := potT (ownOf p) (feOf p) c
theorem frz_trk {st : St} {n : Nat} {vs : List V} (h : st.tr[n]? = some vs) (hn : noTrks vs = true) : frz st (.hdr (.trk n)) = some (.hdr (.lst vs)) := by
  show ((st.tr[n]?).bind fun vs => if noTrks vs = true then some (V.lst vs) else none).map V.hdr = _
  rw [h]
  show (if noTrks vs = true then some (V.lst vs) else none).map V.hdr = _
  rw [if_pos hn]; rfl
theorem ev_pots (hp : ∀ i, OkP (p i)) {st : St} (F : LawI p T ((ordL T).map (item (shiftOf T) (prN p))) st) : evalE P2 (.call "_law_potentials" [(.var "table"), (.var "words"), (.var "choices")]) st = some (.lst (potsV (Pt p) 16)) := by
  refine eval_call (ws := [.hdr (.lst ((ordL T).map (item (shiftOf T) (prN p)))), wordsV (shiftOf T), choicesV]) (evs_cons (eval_var F.table) (evs_cons (eval_var F.words) (evs_cons (eval_var F.choices) evs_nil)))
    (frzs_cons (frz_trk (by rw [F.tr]; rfl) item_trk) (frzs_cons (frz_lst (noTrks_map fun _ _ => rfl)) (frzs_cons (frz_lst (noTrks_map fun _ _ => show noTrks _ = true from noTrks_map fun _ _ => rfl)) rfl))) ?_
  · rw [fn2_2 n_pot]
    refine run_pot (tabCtx hp T) rfl fun c h1 hc => ?_
    rw [prN_v hp c]
    exact pot_eq (ownOf p) (feOf p) c hc

structure LawJ (p : Nat → List Nat) (T : Int) (its : List V) (st : St) : Prop extends LawI p T its st where
  pots : st.get "potentials" = some (.lst (potsV (Pt p) 16))
theorem LawJ.set {st : St} (F : LawJ p T its st) (x : String) (v : V) (hx : x ∉ ["pieces", "own", "cuts", "choices", "mails", "total", "shift", "words", "step", "laid", "table"]) (hx' : "potentials" ≠ x) : LawJ p T its (st.set x v) :=
  ⟨F.toLawI.set x v hx, get_ne F.pots hx'⟩
theorem potsV_get {st : St} {Pt : Nat → Int} {c : Nat} (hc : c < 16) : idxV st (.lst (potsV Pt 16)) (.int (c : Int)) = some (.int (Pt c)) := idx_range hc (Nat.le_trans (Nat.le_of_lt hc) (by decide))

noncomputable def shBody : List PS := [
      .ite (.cmp .ne (.call "sub" [(.idx (.var "potentials") (.var "choice")), (.idx (.var "potentials") (.bin .sub (.var "choice") (.bin .pow (.int 2) (.var "one"))))]) (.call "_law_share" [(.var "one"), (.idx (.var "choices") (.var "choice")), (.var "own"), (.var "cuts")])) [
        .ret (.bool false)] []]
theorem sh_step (hp : ∀ i, OkP (p i)) {st : St} {c one : Nat} (hc : c < 16) (ho : one ∈ chosen c) (F : LawJ p T its st) (h : st.get "choice" = some (.int (c : Int))) :
    execL P2 shBody (st.set "one" (.int (one : Int))) = some (.next, st.set "one" (.int (one : Int))) := by
  have ok := chosen_ok c hc
  obtain ⟨ho4, hle⟩ := ok.1 one ho
  have F1 := F.set "one" (.int (one : Int)) (by decide) (by decide)
  have g1 : (st.set "one" (.int (one : Int))).get "one" = _ := get_eq
  have g2 : (st.set "one" (.int (one : Int))).get "choice" = _ := get_ne h
  generalize st.set "one" (.int (one : Int)) = s1 at *
  have hcb : c ≤ big := Nat.le_trans (Nat.le_of_lt hc) (by decide)
  have q1 : evalE P2 (.bin .sub (.var "choice") (.bin .pow (.int 2) (.var "one"))) s1 = some (.int ((c - 2 ^ one : Nat) : Int)) :=
    eval_bin (eval_var g2) (eval_bin (r := .int ((2 ^ one : Nat) : Int)) eval_int (eval_var g1) ((pow_ints ⟨by decide, by decide, Int.natCast_nonneg _, Int.ofNat_le.mpr (Nat.le_trans (Nat.le_of_lt ho4) (by decide))⟩).trans (by rw [Int.toNat_natCast, Int.natCast_pow]; rfl))) (congrArg (some ∘ V.int) (Int.ofNat_sub hle).symm)
  have q2 : evalE P2 (.call "sub" [(.idx (.var "potentials") (.var "choice")), (.idx (.var "potentials") (.bin .sub (.var "choice") (.bin .pow (.int 2) (.var "one"))))]) s1 = some (.int (Pt p c - Pt p (c - 2 ^ one))) :=
    eval_call2 (eval_idx (eval_var F1.pots) (eval_var g2) (potsV_get hc)) (eval_idx (eval_var F1.pots) q1 (potsV_get (Nat.lt_of_le_of_lt (Nat.sub_le _ _) hc))) frz_int frz_int ((fn2_1 n_sub _).trans (run_sub _ _))
  have q3 : evalE P2 (.idx (.var "choices") (.var "choice")) s1 = some (intsV (chosen c)) := eval_idx (eval_var F1.choices) (eval_var g2) (idx_range hc hcb)
  have q4 : evalE P2 (.call "_law_share" [(.var "one"), (.idx (.var "choices") (.var "choice")), (.var "own"), (.var "cuts")]) s1 = some (.int (Pt p c - Pt p (c - 2 ^ one))) := by
    refine eval_call (evs_cons (eval_var g1) (evs_cons q3 (evs_cons (eval_var F1.own) (evs_cons (eval_var F1.cuts) evs_nil)))) (frzs_cons frz_int (frzs_cons (frz_ints _ _) (frzs_cons (frz_lst (noTrks_map fun _ _ => rfl)) (frzs_cons (frz_ct _ _) rfl)))) ?_
    refine (fn2_1 n_share _).trans ((run_share (own := ownOf p) (ct := ctOf p) (fun a ha => (ok.1 a ha).1) ho4 (fun a _ b _ => cutN_le _ _) ok.2.1).trans ?_)
    rw [share_eq (ownOf p) (ctOf p) c hc one ho]
    rfl
  exact execL_skip (evalT_cmp q2 q4 (by rw [cmp_ne_int, decide_eq_true rfl]; rfl))
theorem sh_inner (hp : ∀ i, OkP (p i)) {c : Nat} (hc : c < 16) : ∀ (l : List Nat) (st : St) (e : St → Option (Fl × St)), (∀ one ∈ l, one ∈ chosen c) → LawJ p T its st → st.get "choice" = some (.int (c : Int)) →
    ∃ st', forGo (fun v st => execL P2 shBody (st.set "one" v)) e (l.map fun a : Nat => V.int (a : Int)) st = e st' ∧ LawJ p T its st'
  | [], st, e, _, F, _ => ⟨st, rfl, F⟩
  | one :: l, st, e, hl, F, h => by
    obtain ⟨st', q, F'⟩ := sh_inner hp hc l (st.set "one" (.int (one : Int))) e (fun o ho => hl o (List.mem_cons_of_mem _ ho)) (F.set "one" (.int (one : Int)) (by decide) (by decide)) (get_ne h)
    exact ⟨st', (forGo_cons (sh_step hp hc (hl one List.mem_cons_self) F h)).trans q, F'⟩
noncomputable def shOuter : List PS := [.for' "one" (.idx (.var "choices") (.var "choice")) shBody []]
theorem sh_loop (hp : ∀ i, OkP (p i)) {st : St} (F : LawJ p T its st) {ps : List PS} : ∃ st', LawJ p T its st' ∧ execL P2 (.for' "choice" (.rng2 (.int 1) (.int 16)) shOuter [] :: ps) st = execL P2 ps st' := by
  obtain ⟨st', hI, q⟩ := forGo_next (f := fun v st => execL P2 shOuter (st.set "choice" v)) (fun st => some (.next, st)) (fun _ st => LawJ p T its st) ((List.range 15).map fun k : Nat => V.int (1 + (k : Int))) 0 st F (by
    intro j v st hv F
    obtain ⟨hj, rfl⟩ := range_get hv
    rw [show (1 + (j : Int)) = ((j + 1 : Nat) : Int) from Int.add_comm _ _]
    have hc : j + 1 < 16 := Nat.succ_lt_succ hj
    have F1 := F.set "choice" (.int ((j + 1 : Nat) : Int)) (by decide) (by decide)
    have g1 : (st.set "choice" (.int ((j + 1 : Nat) : Int))).get "choice" = _ := get_eq
    generalize st.set "choice" (.int ((j + 1 : Nat) : Int)) = s1 at *
    obtain ⟨st', q, F'⟩ := sh_inner hp hc (chosen (j + 1)) s1 (fun st => some (.next, st)) (fun _ h => h) F1 g1
    exact ⟨st', execL_for (ps := []) (els := []) (v := intsV (chosen (j + 1))) (eval_idx (eval_var F1.choices) (eval_var g1) (idx_range hc (Nat.le_trans (Nat.le_of_lt hc) (by decide)))) rfl rfl q, F'⟩)
  exact ⟨st', hI, execL_for (els := []) (eval_rng2 (m := 1) (n := 16) eval_int eval_int (by decide) (by decide)) rfl (items_rng2 (m := 1) (n := 16) (by decide) (by decide)) q⟩
noncomputable def seg3 : List PS := [
  .asg "potentials" (.call "_law_potentials" [(.var "table"), (.var "words"), (.var "choices")]),
  .ite (.cmp .ne (.b1 .len (.var "potentials")) (.int 16)) [
    .ret (.bool false)] [],
  .for' "choice" (.rng2 (.int 1) (.int 16)) shOuter []]
theorem seg3_run (hp : ∀ i, OkP (p i)) {st : St} (F : LawI p T ((ordL T).map (item (shiftOf T) (prN p))) st) : ∃ st', LawJ p T ((ordL T).map (item (shiftOf T) (prN p))) st' ∧ execL P2 seg3 st = some (.next, st') := by
  have F1 : LawJ p T ((ordL T).map (item (shiftOf T) (prN p))) (st.set "potentials" (.lst (potsV (Pt p) 16))) := ⟨F.set _ _ (by decide), get_eq⟩
  obtain ⟨st', F', q⟩ := sh_loop hp F1 (ps := [])
  have t : evalT P2 (.cmp .ne (.b1 .len (.var "potentials")) (.int 16)) (st.set "potentials" (.lst (potsV (Pt p) 16))) = some false := by
    have hl : (potsV (Pt p) 16).length = 16 := rfl
    have := eval_len (P := P2) (eval_var F1.pots) (by rw [hl]; decide)
    rw [hl] at this
    exact evalT_cmp this eval_int rfl
  exact ⟨st', F', (execL_asg (ev_pots hp F)).trans ((execL_skip t).trans q)⟩
end
end
section
open PySem PySem.Spec PySem.Calls PySem.W PyProof.Rows

/-- name and text -/
noncomputable def tupOf (q : List Nat × List Nat) : V := .tup [.str q.1, .str q.2]
noncomputable def tupD (q : List Nat × List Nat) : PyData := .tuple [.str ⟨q.1.toArray⟩, .str ⟨q.2.toArray⟩]
theorem toDs_pairs : ∀ l : List (List Nat × List Nat), toDs (l.map tupOf) = some (l.map tupD)
  | [] => rfl
  | q :: l => bs (x := toD (tupOf q)) rfl (bs (toDs_pairs l) rfl)
noncomputable def pairLow (q : List Nat × List Nat) : Prop := (∀ c ∈ q.1, c < 1114112) ∧ ∀ c ∈ q.2, c < 1114112
theorem str_low {x : List Nat} (h : ∀ c ∈ x, c < 1114112) : PyData.canLay0 (.str ⟨x.toArray⟩) = true := by
  simp only [PyData.canLay0, PyData.strOk]
  simpa using h
theorem canLay_pairs : ∀ {l : List (List Nat × List Nat)}, (∀ q ∈ l, pairLow q) → PyData.canLayAll0 (l.map tupD) = true
  | [], _ => rfl
  | q :: l, h => by
    have h1 := h q List.mem_cons_self
    simp only [List.map_cons, PyData.canLayAll0, canLay_pairs fun r hr => h r (List.mem_cons_of_mem _ hr), Bool.and_true]
    unfold tupD
    simp only [PyData.canLay0, PyData.canLayAll0, Bool.and_true]
    have a := str_low h1.1
    have b := str_low h1.2
    simp only [PyData.canLay0] at a b
    rw [a, b]; rfl
theorem depth_pairs : ∀ l : List (List Nat × List Nat), PyData.depthAll (l.map tupD) ≤ 1
  | [] => Nat.zero_le _
  | q :: l => by
    have := depth_pairs l
    have h : PyData.depth (tupD q) = 1 := rfl
    simp only [List.map_cons, PyData.depthAll, h]
    omega
theorem eqV_pairs {l : List (List Nat × List Nat)} (h : ∀ q ∈ l, pairLow q) : eqV (.lst (l.map tupOf)) (.lst (l.map tupOf)) = some true := by
  have hc : PyData.canLay0 (.list (l.map tupD)) = true := by simp only [PyData.canLay0]; exact canLay_pairs h
  have hs : SeqAt.shaped (.list (l.map tupD)) = true := by
    unfold SeqAt.shaped
    rw [hc, Bool.true_and, decide_eq_true_eq]
    have := depth_pairs l
    simp only [PyData.depth]
    omega
  have hd : toD (.lst (l.map tupOf)) = some (.list (l.map tupD)) := by
    show (toDs _).map _ = _
    rw [toDs_pairs]; rfl
  exact bs hd (bs hd ((if_pos (Bool.and_eq_true_iff.mpr ⟨hs, hs⟩)).trans (congrArg some (SeqAt.eqv_refl _ hc))))
theorem pair_trk {l : List (List Nat × List Nat)} : noTrks (l.map tupOf) = true := noTrks_map fun _ _ => rfl

theorem getGo_none {x : List Nat} : ∀ {l : List (List Nat × List Nat)}, (∀ q ∈ l, asciiOk q.1 = true ∧ lower' q.1 ≠ lower' x) → getGo x (l.map tupOf) = some none
  | [], _ => rfl
  | q :: l, h => by
    obtain ⟨h1, h2⟩ := h q List.mem_cons_self
    show (if asciiOk q.1 = true then (if lower' q.1 = lower' x then some (some q.2) else getGo x (l.map tupOf)) else none) = _
    rw [if_pos h1, if_neg h2]
    exact getGo_none fun r hr => h r (List.mem_cons_of_mem _ hr)
theorem getAll_pairs {x : List Nat} {l : List (List Nat × List Nat)} (hx : asciiOk x = true) (hl : l.length ≤ 1000) (h : ∀ q ∈ l, asciiOk q.1 = true) :
    getAllV (l.map tupOf) x = some (.lst ((l.filter fun q => decide (lower' q.1 = lower' x)).map fun q => .str q.2)) := by
  unfold getAllV
  rw [if_pos ⟨hx, by rw [List.length_map]; exact Nat.le_trans hl (by decide)⟩]
  refine bs (compGo_filter (vs := l) (k := tupOf) (g := fun q => V.str q.2) (keep := fun q => decide (lower' q.1 = lower' x)) fun q hq => ?_) (if_pos (by rw [List.all_map]; exact List.all_eq_true.mpr fun _ _ => rfl))
  have t0 : evalT P00 gaIf (inner "kv" (tupOf q) (gaSt (l.map tupOf) x)) = some (decide (lower' q.1 = lower' x)) := evalT_cmp (eval_m0 (eval_idx (v := tupOf q) rfl eval_int rfl) (h q hq)) (eval_var (v := .str (lower' x)) rfl) cmp_eq_str
  refine bs (show evalAnd P00 [gaIf] _ = some (decide (lower' q.1 = lower' x)) from bs t0 (by cases decide (lower' q.1 = lower' x) <;> rfl)) ?_
  cases decide (lower' q.1 = lower' x) <;> rfl
end
section
open PySem PySem.Spec PySem.Calls PySem.W PyProof.Rows

theorem eval_tup2 {P : Prims} {a b : PE} {st : St} {v w : V} (h1 : evalE P a st = some v) (h2 : evalE P b st = some w) : evalE P (.tup [a, b]) st = some (.tup [v, w]) := bs (evs_cons h1 (evs_cons h2 evs_nil)) (if_pos (show 2 ≤ big from by decide))
theorem eval_lst1 {P : Prims} {a : PE} {st : St} {v : V} (h1 : evalE P a st = some v) : evalE P (.lst [a]) st = some (.lst [v]) := bs (evs_cons h1 evs_nil) (if_pos (show 1 ≤ big from by decide))
theorem name_eq : ∀ c < 16, ∀ st, cmpV st .eq (intsV (chosen c)) (.lst []) = some (decide (chosen c = [])) := by
  have h : ∀ c < 16, eqV (intsV (chosen c)) (.lst []) = some (decide (chosen c = [])) := by decide +kernel
  exact fun c hc st => bs (frz_ints st (chosen c)) (bs (frz_lst rfl) (h c hc))
theorem cmp_ne_same {st : St} {a b w : V} (h1 : frz st a = some w) (h2 : frz st b = some w) (h : eqV w w = some true) : cmpV st .ne a b = some false := bs h1 (bs h2 (by rw [h]; rfl))
theorem ne_strs {st : St} {x : List Nat} : cmpV st .ne (.str x) (.str x) = some false := by rw [cmp_ne_str, decide_eq_true rfl]; rfl
theorem eval_hm {P : Prims} {m : String} {t : PE} {args : List PE} {st : St} {v r : V} {l vs ws : List V} (h1 : evalE P t st = some v) (h2 : evalEs P args st = some vs) (h3 : frz st v = some (.hdr (.lst l))) (h4 : frzs st vs = some ws) (h5 : P.hm m l ws = some r) : evalE P (.hmeth m t args) st = some r :=
  bs h1 (bs h2 (bs h3 (bs (x := gHdr (.hdr (.lst l))) rfl (bs (x := gLst (.lst l)) rfl (bs h4 h5)))))

section
variable {p : Nat → List Nat} {T : Int}
noncomputable def PtN (p : Nat → List Nat) : Nat := (Pt p 15).toNat
theorem PtN_eq (hp : ∀ i, OkP (p i)) : (PtN p : Int) = Pt p 15 ∧ PtN p < 64 ^ 4 := by
  have h := pot_bounds (ownOf p) (feOf p) (fun i j => fe_bounds i j) (fun i => (own_le hp i).2)
  have h' : 0 ≤ Pt p 15 ∧ Pt p 15 ≤ 38304 := h
  unfold PtN
  omega
/-- the names and texts of the table at its end -/
noncomputable def pairsOf (p : Nat → List Nat) (T : Int) : List (List Nat × List Nat) := (ordL T).map (fun c => (nm (shiftOf T) c, numeral (prN p c))) ++ [((nm (shiftOf T) 15).map swapA, numeral (PtN p))]
theorem pairs_items : (pairsOf p T).map tupOf = (ordL T).map (item (shiftOf T) (prN p)) ++ [.tup [.str ((nm (shiftOf T) 15).map swapA), .str (numeral (PtN p))]] := by
  unfold pairsOf
  rw [List.map_append, List.map_map]
  rfl
theorem pairs_len : (pairsOf p T).length = 17 := rfl
theorem swap_ok (c : Nat) (hc : c < 16) : asciiOk ((nm (shiftOf T) c).map swapA) = true := asciiOk_map (fun c h1 h2 => (case_ok c h1 h2).2.1) (nm_pretty _ (shiftOf_lt T) c hc).2.2
theorem pairs_ascii : ∀ q ∈ pairsOf p T, asciiOk q.1 = true := by
  intro q hq
  unfold pairsOf at hq
  rcases List.mem_append.mp hq with h | h
  · obtain ⟨c, hc, rfl⟩ := List.mem_map.mp h
    exact (nm_pretty _ (shiftOf_lt T) c (ordL_lt T c hc)).2.2
  · rw [List.mem_singleton.mp h]
    exact swap_ok 15 (by omega)
theorem numeral_low {n c : Nat} (h : c ∈ numeral n) : c < 1114112 := by
  rcases numeral_cases h with rfl | ⟨x, rfl⟩
  · exact Nat.lt_trans (loD_ok n).2.2.1 (by decide)
  · exact Nat.lt_trans (hiD_ok x).2.2.1 (by decide)
theorem pairs_low : ∀ q ∈ pairsOf p T, pairLow q := by
  intro q hq
  refine ⟨fun c hc => ?_, fun c hc => ?_⟩
  · exact Nat.lt_trans (asciiOk_mem (pairs_ascii q hq) c hc).1 (by decide)
  · unfold pairsOf at hq
    rcases List.mem_append.mp hq with h | h
    · obtain ⟨a, ha, rfl⟩ := List.mem_map.mp h
      exact numeral_low hc
    · rw [List.mem_singleton.mp h] at hc
      exact numeral_low hc
theorem ord_one0 : ∀ a < 10, ∀ j < 10, ((List.range 16).map fun k => (a + k * steps.getD j 0) % 16).filter (fun c => decide (c = 15)) = [15] := by decide +kernel
theorem ord_one : (ordL T).filter (fun c => decide (c = 15)) = [15] := ord_one0 (T % 10).toNat (mod10 T) (T / 10 % 10).toNat (mod10 (T / 10))
/-- both texts of the last choice -/
theorem pairs_last {x : List Nat} (hx : lower' x = lower' (nm (shiftOf T) 15)) : ((pairsOf p T).filter fun q => decide (lower' q.1 = lower' x)).map (fun q => V.str q.2) = [.str (numeral (prN p 15)), .str (numeral (PtN p))] := by
  unfold pairsOf
  rw [List.filter_append, List.map_append]
  have h2 : ([((nm (shiftOf T) 15).map swapA, numeral (PtN p))] : List (List Nat × List Nat)).filter (fun q => decide (lower' q.1 = lower' x)) = [((nm (shiftOf T) 15).map swapA, numeral (PtN p))] := by
    rw [List.filter_cons_of_pos]
    · rfl
    · rw [decide_eq_true_eq, hx]
      exact lower_swap (nm_pretty _ (shiftOf_lt T) 15 (by omega)).2.2
  rw [h2, List.filter_map]
  have h3 : (ordL T).filter ((fun q : List Nat × List Nat => decide (lower' q.1 = lower' x)) ∘ fun c => (nm (shiftOf T) c, numeral (prN p c))) = [15] := by
    rw [← ord_one (T := T)]
    refine List.filter_congr fun c hc => ?_
    have hc := ordL_lt T c hc
    show decide (lower' (nm (shiftOf T) c) = lower' x) = decide (c = 15)
    rw [hx]
    by_cases e : c = 15
    · rw [e]; simp
    · have : ¬ lower' (nm (shiftOf T) c) = lower' (nm (shiftOf T) 15) := fun h => e (nm_inj _ (shiftOf_lt T) c hc 15 (by omega) h)
      simp [this, e]
  rw [h3]
  rfl

noncomputable def lastV (p : Nat → List Nat) (T : Int) : V := .tup [.str ((nm (shiftOf T) 15).map swapA), .str (numeral (PtN p))]
noncomputable def seg5 : List PS := [
  .asg "whole" (.call "_law_numeral" [(.idx (.var "potentials") (.int 15))]),
  .addH "table" (.m0 .swapcase (.idx (.var "words") (.int 15))) (.var "whole"),
  .asg "order" (.comp (.bin .fmod (.bin .add (.bin .fmod (.var "total") (.int 10)) (.bin .mul (.var "turn") (.var "step"))) (.int 16)) "turn" (.rng1 (.int 16)) []),
  .asg "names" (.comp (.call "_law_name" [(.var "chosen"), (.var "shift")]) "chosen" (.var "choices") []),
  .asg "lines" (.comp (.tup [(.idx (.var "names") (.var "choice")), (.call "_law_numeral" [(.call "_law_codes" [(.idx (.var "mails") (.var "choice"))])])]) "choice" (.var "order") []),
  .asg "lines" (.bin .add (.var "lines") (.lst [(.tup [(.m0 .swapcase (.idx (.var "names") (.int 15))), (.var "whole")])])),
  .ite (.or [(.cmp .ne (.items (.var "table")) (.var "lines")), (.cmp .ne (.var "laid") (.var "lines"))]) [
    .ret (.bool false)] [],
  .asg "price" (.call "_law_codes" [(.idx (.var "mails") (.int 15))]),
  .ite (.or [(.cmp .ne (.hmeth "get" (.var "table") [(.m0 .lower (.idx (.var "names") (.int 15)))]) (.call "_law_numeral" [(.var "price")])), (.cmp .ne (.hmeth "get" (.var "table") [(.call "pretty_flags" [(.call "lshift" [(.int 16), (.var "shift")])]), (.str [110, 111, 110, 101])]) (.str [110, 111, 110, 101]))]) [
    .ret (.bool false)] []]
theorem ev_order {st : St} {its : List V} (F : LawI p T its st) : evalE P2 (.comp (.bin .fmod (.bin .add (.bin .fmod (.var "total") (.int 10)) (.bin .mul (.var "turn") (.var "step"))) (.int 16)) "turn" (.rng1 (.int 16)) []) st = some (intsV (ordL T)) := by
  have e : intsV (ordL T) = .lst ((List.range 16).map fun k => V.int (ordOf T k : Int)) := by unfold intsV ordL; rw [List.map_map]; rfl
  rw [e]
  refine eval_comp (v := .rng 0 16) (k := fun k : Nat => V.int (0 + (k : Int))) (eval_rng1 (n := 16) eval_int (by decide)) (items_rng (n := 16) (by decide)) (by decide) fun k hk => ?_
  have hk := List.mem_range.mp hk
  have q2 : evalE P2 (.bin .fmod (.var "total") (.int 10)) { locs := ("turn", .int (0 + (k : Int))) :: st.locs, tr := st.tr } = some (.int (((T % 10).toNat : Nat) : Int)) :=
    eval_bin (eval_var ((get_there (by decide)).trans F.total)) eval_int ((fmod_ints (by decide)).trans (congrArg (some ∘ V.int) (mod10' T)))
  have q1 : evalE P2 (.bin .mul (.var "turn") (.var "step")) { locs := ("turn", .int (0 + (k : Int))) :: st.locs, tr := st.tr } = some (.int ((k * stepOf T : Nat) : Int)) :=
    eval_bin (v := .int (k : Int)) (eval_var (get_here.trans (by rw [Int.zero_add]))) (eval_var ((get_there (by decide)).trans F.step)) ((mul_ints (Nat.le_trans (Nat.le_of_lt hk) (by decide))).trans (by rw [Int.natCast_mul]))
  exact eval_fmod (y := 16) (eval_bin q2 q1 rfl) eval_int (by decide) (by decide)
theorem ev_names {st : St} {its : List V} (F : LawI p T its st) : evalE P2 (.comp (.call "_law_name" [(.var "chosen"), (.var "shift")]) "chosen" (.var "choices") []) st = some (wordsV (shiftOf T)) := by
  refine eval_comp (eval_var F.choices) rfl (by decide) fun c hc => ?_
  have hc := List.mem_range.mp hc
  have ok := chosen_ok c hc
  exact eval_call2 (eval_var get_here) (eval_var (v := .int (shiftOf T : Int)) ((get_there (by decide)).trans F.shift)) (frz_ints _ _) frz_int
    ((fn2_2 n_name _).trans (run_name (Nat.lt_trans (shiftOf_lt T) (by decide)) (fun a ha => (ok.1 a ha).1) ok.2.1 (name_eq c hc)))
theorem ev_code (hp : ∀ i, OkP (p i)) {st : St} {c : Nat} (hc : c < 16) {e : PE} (he : evalE P2 e st = some (.str (sent (joined p (chosen c))))) : evalE P2 (.call "_law_codes" [e]) st = some (.int (prN p c : Int)) :=
  eval_call1 he frz_str ((fn2_1 n_codes _).trans ((run_codes (Nat.le_trans (sent_joined_len hp c hc).2 (by decide))).trans (by rw [prN_eq])))
theorem ev_lines (hp : ∀ i, OkP (p i)) {st : St} {its : List V} (F : LawI p T its st) (h1 : st.get "names" = some (wordsV (shiftOf T))) (h2 : st.get "order" = some (intsV (ordL T))) :
    evalE P2 (.comp (.tup [(.idx (.var "names") (.var "choice")), (.call "_law_numeral" [(.call "_law_codes" [(.idx (.var "mails") (.var "choice"))])])]) "choice" (.var "order") []) st = some (.lst ((ordL T).map (item (shiftOf T) (prN p)))) := by
  refine eval_comp (eval_var h2) rfl (show 16 ≤ 1000 by decide) fun c hc => ?_
  have hc := ordL_lt T c hc
  have hcb : c ≤ big := Nat.le_trans (Nat.le_of_lt hc) (by decide)
  exact eval_tup2 (eval_idx (eval_var ((get_there (by decide)).trans h1)) (eval_var get_here) (idx_range hc hcb))
    (eval_call1 (ev_code hp hc (eval_idx (eval_var ((get_there (by decide)).trans F.mails)) (eval_var get_here) (idx_range hc hcb))) frz_int ((fn2_1 n_numeral _).trans (run_numeral (prN_lt hp hc))))

structure LawF (p : Nat → List Nat) (T : Int) (st : St) : Prop extends LawJ p T ((pairsOf p T).map tupOf) st where
  names : st.get "names" = some (wordsV (shiftOf T))
  price : st.get "price" = some (.int (prN p 15 : Int))
theorem frz_table {st : St} (ht : st.tr = [(pairsOf p T).map tupOf]) : frz st (.hdr (.trk 0)) = some (.hdr (.lst ((pairsOf p T).map tupOf))) := frz_trk (by rw [ht]; rfl) pair_trk
theorem b15 : 15 ≤ big := by decide
theorem seg5_run (hp : ∀ i, OkP (p i)) {st : St} (F : LawJ p T ((ordL T).map (item (shiftOf T) (prN p))) st) : ∃ st', LawF p T st' ∧ execL P2 seg5 st = some (.next, st') := by
  have h15 : (15 : Nat) < 16 := by decide
  have hnm := (nm_pretty _ (shiftOf_lt T) 15 h15).2.2
  obtain ⟨pn1, pn2⟩ := PtN_eq hp
  -- whole
  have q1 : evalE P2 (.call "_law_numeral" [(.idx (.var "potentials") (.int 15))]) st = some (.str (numeral (PtN p))) :=
    eval_call1 (v := .int (PtN p : Int)) (by rw [pn1]; exact eval_idx (eval_var F.pots) eval_int (potsV_get (c := 15) h15)) frz_int ((fn2_1 n_numeral _).trans (run_numeral pn2))
  have F1 := F.set "whole" (.str (numeral (PtN p))) (by decide) (by decide)
  have w1 : (st.set "whole" (.str (numeral (PtN p)))).get "whole" = some (.str (numeral (PtN p))) := get_eq
  have x1 := fun qs => execL_asg (x := "whole") (ps := qs) q1
  clear q1 F
  generalize st.set "whole" (.str (numeral (PtN p))) = s1 at *
  -- add_header
  have q2 : evalE P2 (.m0 .swapcase (.idx (.var "words") (.int 15))) s1 = some (.str ((nm (shiftOf T) 15).map swapA)) := eval_m0 (eval_idx (eval_var F1.words) eval_int (idx_range (a := 15) h15 b15)) hnm
  have x2 := exec_addH F1.table q2 (eval_var w1) (addV_tr (vs := (ordL T).map (item (shiftOf T) (prN p))) (by rw [F1.tr]; rfl) (asciiOk_str (swap_ok 15 h15)) (numeral_ok _) (show 16 ≤ big by decide))
  have F2 : LawJ p T ((pairsOf p T).map tupOf) { s1 with tr := s1.tr.set 0 ((ordL T).map (item (shiftOf T) (prN p)) ++ [lastV p T]) } := by
    refine ⟨⟨F1.pieces, F1.own, F1.cuts, F1.choices, F1.mails, F1.total, F1.shift, F1.words, F1.step, F1.laid, F1.table, ?_⟩, F1.pots⟩
    show s1.tr.set 0 _ = _
    rw [F1.tr, pairs_items]
    rfl
  have w2 : St.get { s1 with tr := s1.tr.set 0 ((ordL T).map (item (shiftOf T) (prN p)) ++ [lastV p T]) } "whole" = some (.str (numeral (PtN p))) := w1
  have x12 := fun qs => (x1 (_ :: qs)).trans (execL_cons (ps := qs) (z := _) x2 rfl)
  clear q2 F1 w1 x1 x2
  replace x12 : ∀ qs, _ = execL P2 qs { s1 with tr := s1.tr.set 0 ((ordL T).map (item (shiftOf T) (prN p)) ++ [lastV p T]) } := x12
  generalize (St.mk s1.locs (s1.tr.set 0 ((ordL T).map (item (shiftOf T) (prN p)) ++ [lastV p T]))) = s2 at *
  -- order, names
  have x3 := fun qs => execL_asg (x := "order") (ps := qs) (ev_order F2.toLawI)
  have F3 := F2.set "order" (intsV (ordL T)) (by decide) (by decide)
  have w3 : (s2.set "order" (intsV (ordL T))).get "whole" = _ := get_ne w2
  have o3 : (s2.set "order" (intsV (ordL T))).get "order" = _ := get_eq
  clear F2 w2
  generalize s2.set "order" (intsV (ordL T)) = s3 at *
  have x4 := fun qs => execL_asg (x := "names") (ps := qs) (ev_names F3.toLawI)
  have F4 := F3.set "names" (wordsV (shiftOf T)) (by decide) (by decide)
  have w4 : (s3.set "names" (wordsV (shiftOf T))).get "whole" = _ := get_ne w3
  have o4 : (s3.set "names" (wordsV (shiftOf T))).get "order" = _ := get_ne o3
  have n4 : (s3.set "names" (wordsV (shiftOf T))).get "names" = _ := get_eq
  clear F3 w3 o3
  generalize s3.set "names" (wordsV (shiftOf T)) = s4 at *
  -- lines
  have x5 := fun qs => execL_asg (x := "lines") (ps := qs) (ev_lines hp F4.toLawI n4 o4)
  have F5 := F4.set "lines" (.lst ((ordL T).map (item (shiftOf T) (prN p)))) (by decide) (by decide)
  have w5 : (s4.set "lines" (.lst ((ordL T).map (item (shiftOf T) (prN p))))).get "whole" = _ := get_ne w4
  have n5 : (s4.set "lines" (.lst ((ordL T).map (item (shiftOf T) (prN p))))).get "names" = _ := get_ne n4
  have l5 : (s4.set "lines" (.lst ((ordL T).map (item (shiftOf T) (prN p))))).get "lines" = _ := get_eq
  clear F4 w4 n4 o4
  generalize s4.set "lines" (.lst ((ordL T).map (item (shiftOf T) (prN p)))) = s5 at *
  have qn15 : ∀ {s : St}, s.get "names" = some (wordsV (shiftOf T)) → evalE P2 (.idx (.var "names") (.int 15)) s = some (.str (nm (shiftOf T) 15)) := fun h => eval_idx (eval_var h) eval_int (idx_range (a := 15) h15 b15)
  have q6 : evalE P2 (.bin .add (.var "lines") (.lst [(.tup [(.m0 .swapcase (.idx (.var "names") (.int 15))), (.var "whole")])])) s5 = some (.lst ((pairsOf p T).map tupOf)) :=
    pairs_items (p := p) (T := T) ▸ eval_bin (eval_var l5) (eval_lst1 (eval_tup2 (eval_m0 (qn15 n5) hnm) (eval_var w5))) (add_lsts (show 17 ≤ big from by decide))
  have x6 := fun qs => execL_asg (x := "lines") (ps := qs) q6
  have F6 := F5.set "lines" (.lst ((pairsOf p T).map tupOf)) (by decide) (by decide)
  have n6 : (s5.set "lines" (.lst ((pairsOf p T).map tupOf))).get "names" = _ := get_ne n5
  have l6 : (s5.set "lines" (.lst ((pairsOf p T).map tupOf))).get "lines" = _ := get_eq
  clear F5 w5 n5 l5 q6
  generalize s5.set "lines" (.lst ((pairsOf p T).map tupOf)) = s6 at *
  -- items and the given list
  have heq := eqV_pairs (pairs_low (p := p) (T := T))
  have t0 : s6.tr[0]? = some ((pairsOf p T).map tupOf) := by rw [F6.tr]; rfl
  have fl : frz s6 (.lst ((pairsOf p T).map tupOf)) = some (.lst ((pairsOf p T).map tupOf)) := frz_lst pair_trk
  have ft : frz s6 (.trk 0) = some (.lst ((pairsOf p T).map tupOf)) := bs t0 (if_pos pair_trk)
  have qit : evalE P2 (.items (.var "table")) s6 = some (.lst ((pairsOf p T).map tupOf)) := bs (eval_var F6.table) (bs (x := gHdr (.hdr (.trk 0))) rfl ((if_pos rfl).trans (bs (x := lview s6 (.trk 0)) t0 (if_pos (show 17 ≤ big from by decide)))))
  have t7 : evalT P2 (.or [(.cmp .ne (.items (.var "table")) (.var "lines")), (.cmp .ne (.var "laid") (.var "lines"))]) s6 = some false :=
    evalT_or2 (evalT_cmp qit (eval_var l6) (cmp_ne_same fl fl heq)) (evalT_cmp (eval_var F6.laid) (eval_var l6) (cmp_ne_same ft fl heq))
  have x7 := fun qs => execL_skip (ps := [.ret (.bool false)]) (qs := qs) t7
  -- price
  have q8 : evalE P2 (.call "_law_codes" [(.idx (.var "mails") (.int 15))]) s6 = some (.int (prN p 15 : Int)) := ev_code hp h15 (eval_idx (eval_var F6.mails) eval_int (idx_range (a := 15) h15 b15))
  have x8 := fun qs => execL_asg (x := "price") (ps := qs) q8
  have F7 := F6.set "price" (.int (prN p 15 : Int)) (by decide) (by decide)
  have n7 : (s6.set "price" (.int (prN p 15 : Int))).get "names" = _ := get_ne n6
  have p7 : (s6.set "price" (.int (prN p 15 : Int))).get "price" = _ := get_eq
  clear t7 q8 F6 n6 l6 qit ft fl t0 heq
  generalize s6.set "price" (.int (prN p 15 : Int)) = s7 at *
  -- the two calls of get
  have g1 : evalE P2 (.hmeth "get" (.var "table") [(.m0 .lower (.idx (.var "names") (.int 15)))]) s7 = some (.str (numeral (prN p 15))) :=
    eval_hm (eval_var F7.table) (evs_cons (eval_m0 (qn15 n7) hnm) evs_nil) (frz_table F7.tr) (frzs_cons frz_str rfl)
      (show getV ((pairsOf p T).map tupOf) (lower' (nm (shiftOf T) 15)) .none = _ from pairs_items (p := p) (T := T) ▸ getV_items (shiftOf_lt T) (pr := prN p) (x := lower' (nm (shiftOf T) 15)) h15 (lower_lower hnm) (asciiOk_map (fun c h1 h2 => (case_ok c h1 h2).2.2.2) hnm) [lastV p T] (ordL T) (ordL_lt T) (ordL_all T 15 h15) (show 17 ≤ 1000 by decide) .none)
  have g2 : evalE P2 (.hmeth "get" (.var "table") [(.call "pretty_flags" [(.call "lshift" [(.int 16), (.var "shift")])]), (.str [110, 111, 110, 101])]) s7 = some (.str [110, 111, 110, 101]) := by
    obtain ⟨nn1, nn2, nn3⟩ := nm_none _ (shiftOf_lt T)
    have e0 : evalE P2 (.call "pretty_flags" [(.call "lshift" [(.int 16), (.var "shift")])]) s7 = some (.str (pretty (16 * 2 ^ shiftOf T))) := by
      refine eval_call1 (v := .int ((16 * 2 ^ shiftOf T : Nat) : Int)) (eval_call2 eval_int (eval_var F7.shift) frz_int frz_int ?_) frz_int ((fn2_1 n_pretty _).trans (run_pretty nn1))
      rw [fn2_1 n_lshift, run_lshift _ _ ⟨by decide, Int.natCast_nonneg _, Int.ofNat_le.mpr (Nat.le_trans (Nat.le_of_lt (shiftOf_lt T)) (by decide))⟩, Int.toNat_natCast, Int.natCast_mul, Int.natCast_pow]
      rfl
    refine eval_hm (eval_var F7.table) (evs_cons e0 (evs_cons eval_str evs_nil)) (frz_table F7.tr) (frzs_cons frz_str (frzs_cons frz_str rfl)) ?_
    refine (show P2.hm "get" ((pairsOf p T).map tupOf) [.str (pretty (16 * 2 ^ shiftOf T)), .str [110, 111, 110, 101]] = getV ((pairsOf p T).map tupOf) (pretty (16 * 2 ^ shiftOf T)) (.str [110, 111, 110, 101]) from rfl).trans ?_
    unfold getV
    rw [if_pos ⟨nn2, show 17 ≤ big by decide⟩, getGo_none]
    · rfl
    intro q hq
    refine ⟨pairs_ascii q hq, ?_⟩
    unfold pairsOf at hq
    rcases List.mem_append.mp hq with h | h
    · obtain ⟨c, hc, rfl⟩ := List.mem_map.mp h
      exact nn3 c (ordL_lt T c hc)
    · rw [List.mem_singleton.mp h]
      show lower' ((nm (shiftOf T) 15).map swapA) ≠ _
      rw [lower_swap hnm]
      exact nn3 15 h15
  have qn : evalE P2 (.call "_law_numeral" [(.var "price")]) s7 = some (.str (numeral (prN p 15))) := eval_call1 (eval_var p7) frz_int ((fn2_1 n_numeral _).trans (run_numeral (prN_lt hp h15)))
  have t9 : evalT P2 (.or [(.cmp .ne (.hmeth "get" (.var "table") [(.m0 .lower (.idx (.var "names") (.int 15)))]) (.call "_law_numeral" [(.var "price")])), (.cmp .ne (.hmeth "get" (.var "table") [(.call "pretty_flags" [(.call "lshift" [(.int 16), (.var "shift")])]), (.str [110, 111, 110, 101])]) (.str [110, 111, 110, 101]))]) s7 = some false :=
    evalT_or2 (evalT_cmp g1 qn ne_strs) (evalT_cmp g2 eval_str ne_strs)
  exact ⟨s7, ⟨F7, n7, p7⟩, (x12 _).trans ((x3 _).trans ((x4 _).trans ((x5 _).trans ((x6 _).trans ((x7 _).trans ((x8 _).trans (execL_skip t9)))))))⟩
/-- get_all at the end -/
theorem ev_get_all {st : St} (F : LawF p T st) : evalE P2 (.hmeth "get_all" (.var "table") [(.m0 .upper (.idx (.var "names") (.int 15)))]) st = some (.lst [.str (numeral (prN p 15)), .str (numeral (PtN p))]) := by
  have h15 : (15 : Nat) < 16 := by decide
  have hnm := (nm_pretty _ (shiftOf_lt T) 15 h15).2.2
  have hup : asciiOk ((nm (shiftOf T) 15).map upA) = true := asciiOk_map (fun c h1 h2 => (case_ok c h1 h2).2.2.1) hnm
  have := getAll_pairs (l := pairsOf p T) hup (show 17 ≤ 1000 by decide) (pairs_ascii (p := p) (T := T))
  rw [pairs_last (lower_upper hnm)] at this
  exact eval_hm (eval_var F.table) (evs_cons (eval_m0 (eval_idx (eval_var F.names) eval_int (idx_range (a := 15) h15 b15)) hnm) evs_nil) (frz_table F.tr) (frzs_cons frz_str rfl) this
end
end
section
open PySem PySem.Spec PySem.Calls PySem.W PyProof.Rows

theorem ev_numE {a b : List Nat} (h : a.length + b.length ≤ 1000) : evalE P00 numE { locs := [("texts", .lst [.str a, .str b])], tr := [] } = some (.lst ((octs (a ++ b)).map V.int)) := by
  have e : evalE P00 (.join [] (.var "texts")) { locs := [("texts", .lst [.str a, .str b])], tr := [] } = some (.str (a ++ b)) := by
    refine eval_join (v := .lst ([a, b].map V.str)) rfl ((joinV_strs (Nat.le_trans (Nat.le_of_eq ?_) (Nat.le_trans h (by decide)))).trans ?_)
    · show a.length + (b.length + 0) + 2 * 0 = _
      rfl
    · rw [joinL_flat]
      show some (V.str (a ++ (b ++ []))) = _
      rw [List.append_nil]
  refine (eval_comp (k := fun c : Nat => V.str [c]) (g := fun c : Nat => V.int (c : Int)) e rfl (Nat.le_trans (Nat.le_of_eq List.length_append) h) fun u _ => rfl).trans ?_
  unfold octs
  rw [List.map_map]; rfl

@[elab_as_elim] theorem matchL_ret {M : List Stmt → Prop} {e : PE} {kd : Kd} {ss : List Stmt} (h : matchL [.ret e] kd ss = true) (k : ∀ ex p, matchE e kd ex = true → M [.Return (some ex) p]) : M ss :=
  nonE_elim h fun s ss h => ann h fun h1 h2 => emp_elim (M := fun ss => M (s :: ss)) h2 (matchS_ret (M := fun s => M [s]) h1 fun v p h => k v p h)
theorem eqV_two (a b : Int) : eqV (.lst ([a, b].map V.int)) (.lst ([a, b].map V.int)) = some true := by
  have hc : PyData.canLay0 (.list [.int a, .int b]) = true := rfl
  have hs : SeqAt.shaped (.list [.int a, .int b]) = true := rfl
  show (if (SeqAt.shaped (.list [.int a, .int b]) && SeqAt.shaped (.list [.int a, .int b])) = true then some ((PyData.list [.int a, .int b]).eqv (.list [.int a, .int b])) else none) = _
  rw [hs, SeqAt.eqv_refl _ hc]; rfl
section
variable {prog : Program} {w : World} {mg mb : Str → Option Value} {d : Nat} {K : Frag} {h0 : Heap} {P : Prims}

theorem execL_pre (PK : PrimsOk prog w K mg mb d P) (HK : HdrOk prog w K mg mb d) {qs : List PS} {kd : Kd} {env : Env} {A : Around} {Q : Flow → Shared → Prop} {E : Value → Shared → Prop} (RM : Room d A) (EO : FEnv env kd) {st' : St} :
    ∀ (ps : List PS) {ss : List Stmt} {O : Ads} {ρ : List Addr} {st : St} {s : Shared}, matchL (ps ++ qs) kd ss = true → execL P ps st = some (.next, st') → SRep h0 K mg mb env O ρ st s →
    (∀ ss' s' O' ρ', matchL qs kd ss' = true → Mv env O ρ s O' ρ' s' → SRep h0 K mg mb env O' ρ' st' s' → wpAny (model prog w) A (execs ss' env) Q E s') → wpAny (model prog w) A (execs ss env) Q E s := by
  intro ps
  induction ps with
  | nil =>
    intro ss O ρ st s hm hv R hQ
    cases hv
    exact hQ ss s O ρ hm .refl R
  | cons p ps ih =>
    intro ss O ρ st s hm hv R hQ
    refine nonE_elim hm fun stm ss hm => ann hm fun h1 h2 => wpAny_execs_cons (bnd hv fun r e1 hv => ?_)
    revert e1 hv
    refine fl_cases r (fun st₂ => ?_) (fun st₂ => ?_) (fun r st₂ => ?_) <;> intro e1 hv
    · exact execS_sound PK HK p RM EO h1 e1 R fun s' O' ρ' M R' => ih h2 hv R' fun ss' s'' O'' ρ'' hm' M' R'' => hQ _ _ _ _ hm' (M.trans M') R''
    · cases hv
    · cases hv

theorem Rep.slots {env : Env} {O : Ads} {ρ : List Addr} {st : St} {s s' : Shared} (R : SRep h0 K mg mb env O ρ st s) 
    (hk : ∀ b, b ≠ env.locals → ∀ o, s.heap.get? b = some o → s'.heap.get? b = some o) (hL : ∀ o, s.heap.get? env.locals = some o → ∃ sl, s'.heap.get? env.locals = some { o with slots := sl }) : Rep K mg mb env O ρ st s' := by
  have hup : s.heap.UpToSlots s'.heap := fun b o e _ => by
    by_cases hb : b = env.locals
    · subst hb; exact hL o e
    · exact ⟨o.slots, hk b hb o e⟩
  have hk' : KeepOff O s.heap s'.heap := fun b o hb e => hk b (fun h => hb (h ▸ R.rep.own)) o e
  have vr : ∀ v x, VR O ρ s.heap v x → VR O ρ s'.heap v x := fun v x => VR.mono (fun _ _ h => h) hk' (fun _ _ e => e) v x
  have vrs : ∀ v x, VRs O ρ s.heap v x → VRs O ρ s'.heap v x := fun v x => VRs.mono (fun _ _ h => h) hk' (fun _ _ e => e) v x
  have hnc : ∀ o, s.heap.get? env.locals = some o → ∃ es ep, o.data = .dict es ep := by
    obtain ⟨m, ⟨o, es, ep, e1, e2, _⟩, _⟩ := R.rep.ns
    intro o' e; rw [e1] at e; cases e; exact ⟨es, ep, e2⟩
  refine ⟨R.g0.keeps fun b o e => hk b (fun h => by rw [h, R.o0 _ R.rep.own] at e; cases e) o (R.k0 b o e), fun a ha => ?_, R.rep.own, R.rep.ownρ, R.rep.ownc, ?_, fun x hx => ?_, R.rep.len, fun i a vs h1 h2 => ?_⟩
  · obtain ⟨o, ho⟩ := Option.isSome_iff_exists.mp (R.rep.al a ha)
    unfold Alloc
    by_cases hb : a = env.locals
    · subst hb
      obtain ⟨sl, e⟩ := hL o ho
      rw [e]; rfl
    · rw [hk a hb o ho]; rfl
  · obtain ⟨m, hn, hmm⟩ := R.rep.ns
    refine ⟨m, hup.ns hn, fun x v h1 h2 h3 => ?_⟩
    obtain ⟨val, q1, q2⟩ := hmm x v h1 h2 h3
    exact ⟨val, q1, vr _ _ q2⟩
  · obtain ⟨c, v₀, q1, ⟨o, e1, e2⟩, q3⟩ := R.rep.cl x hx
    refine ⟨c, v₀, q1, ⟨o, hk c (fun h => by obtain ⟨es, ep, q⟩ := hnc o (h ▸ e1); rw [e2] at q; cases q) o e1, e2⟩, fun v hv => ?_⟩
    obtain ⟨val, q4, q5⟩ := q3 v hv
    exact ⟨val, q4, vr _ _ q5⟩
  · obtain ⟨its, p1, p2⟩ := R.rep.trk i a vs h1 h2
    have ha : a ≠ env.locals := fun h => by obtain ⟨n, e⟩ := p1; obtain ⟨es, ep, q⟩ := hnc _ (h ▸ e); cases q
    exact ⟨its, p1.at fun o e => hk a ha o e, vrs _ _ p2⟩

variable [TK : TopK K]
theorem law_call (DL : Dfn K 332 ["script"] p_law) {A : Around} {s : Shared} {x : Value} {script : List Int} {Q : Value → Shared → Prop} {E : Value → Shared → Prop} (RM : Room (d + 5) A) (hfr : A.frames = some [])
    (G : Gr K mg mb s.heap) (hv : VR (fun _ => False) [] s.heap (.lst (script.map V.int)) x) (hl : script.length ≤ 1000)
    (hQ : ∀ s', (∃ h' t', s' = { s with heap := h', toks := t' }) → (∀ b o, s.heap.get? b = some o → s'.heap.get? b = some o) → Q (.bool true) s') :
    wpAny (model prog w) A (call (.ref 332) [x]) Q E s := by
  obtain ⟨fd, body, F⟩ := DL
  refine call_enter (vs := [.lst (script.map V.int)]) F.toFnIs rfl RM G (vrs_cons hv vrs_nil) fun env O h₁ t₁ EO RM' R => ?_
  obtain ⟨p, st1, hp, e1, I1⟩ := seg1_run hl
  obtain ⟨st2, I2, e2⟩ := turn_loop hp I1 (ps := seg3 ++ seg5)
  obtain ⟨st3, I3, e3⟩ := seg3_run hp I2
  obtain ⟨st4, I4, e4⟩ := seg5_run hp I3
  have hrun : execL P2 (seg1 ++ (.for' "turn" (.rng1 (.int 16)) turnBody [] :: (seg3 ++ seg5))) { locs := [("script", .lst (script.map V.int))], tr := [] } = some (.next, st4) :=
    execL_append.trans (bs e1 (e2.trans (execL_append.trans (bs e3 e4))))
  have hm : matchL ((seg1 ++ (.for' "turn" (.rng1 (.int 16)) turnBody [] :: (seg3 ++ seg5))) ++ [.ret (.cmp .eq (.call "_law_numbers" [(.hmeth "get_all" (.var "table") [(.m0 .upper (.idx (.var "names") (.int 15)))])]) (.lst [(.var "price"), (.idx (.var "potentials") (.int 15))]))]) fd.scope.names body = true := F.m
  refine execL_pre (P2ok' (d := d)) (hdr_ok (d := d + 2)) RM' EO _ hm hrun R fun ss s1 O1 ρ1 hm1 M1 R1 => matchL_ret hm1 fun ex pr hm2 => matchE_cmp hm2 fun l r pc c2 c3 c4 => matchE_call c2 fun pn x0 xs pl n1 n2 n3 => ?_
  clear hrun hm hm1 hm2 c2 e1 e2 e3 e4 I1 I2 I3
  obtain ⟨fdn, _, _, _, _, _, _, _, _, _, _, _, _, _, _, _, _, _, _, _, _, _, ⟨⟨on, hon, hdn⟩, _⟩, _⟩ := TK.num
  have RM4 : Room (d + 4) (A.deeper env) := RM'
  have h15 : (15 : Nat) < 16 := by decide
  obtain ⟨pt1, pt2⟩ := PtN_eq hp
  have ha1 : evalEs P2 [(.hmeth "get_all" (.var "table") [(.m0 .upper (.idx (.var "names") (.int 15)))])] st4 = some [.lst [.str (numeral (prN p 15)), .str (numeral (PtN p))]] := evs_cons (ev_get_all I4) evs_nil
  have ha2 : evalE P2 (.lst [(.var "price"), (.idx (.var "potentials") (.int 15))]) st4 = some (.lst ([(prN p 15 : Int), (PtN p : Int)].map V.int)) :=
    bs (evs_cons (eval_var I4.price) (evs_cons (v := .int (PtN p : Int)) (by rw [pt1]; exact eval_idx (eval_var I4.pots) eval_int (potsV_get (c := 15) h15)) evs_nil)) (if_pos (show 2 ≤ big from by decide))
  refine wpAny_execs_cons (wpAny_Return_some (wpAny_Compare1 ?_ (marks_of c4)))
  refine wpAny_Call_NameR (glob_sound EO.toEnvOk R1.rep.gr n2 n1 (TK.glob ("_law_numbers", some (.ref 322)) (gAt 24 rfl)) ?_)
  refine callWith_def (o := on) hdn (evalEs_sound (P2ok' (d := d)) _ RM4 EO.toEnvOk n3 ha1 R1.rep fun s2 vals k2 hvals => ⟨(R1.keeps k2).rep.gr.k _ _ hon, ?_⟩) (star_of (matchEs_first n3 _ _ rfl))
  have R2 := R1.keeps k2
  obtain ⟨T, _, rfl, hT, rfl⟩ := hvals
  have hT' : VR (fun _ => False) [] s2.heap (.lst [.str (numeral (prN p 15)), .str (numeral (PtN p))]) T := hT.lst_elim fun a its _ hp hv => vr_lst id hp (vrs_scalar rfl hv)
  obtain ⟨mN, hnN, _⟩ := R2.rep.ns
  refine numbers_call (is := octs (numeral (prN p 15) ++ numeral (PtN p))) (nums := [(prN p 15 : Int), (PtN p : Int)]) RM4 (Around.frames_deeper hfr) EO.fr EO.kind hnN G (R2.o0 _ R2.rep.own) R2.k0 hT' (ev_numE (Nat.le_trans (Nat.add_le_add (numeral_len _) (numeral_len _)) (by decide))) ?_ (show 2 < 5 by decide) fun s3 D its hsh hk hL hD hpl hvr => ?_
  · have e : octs (numeral (prN p 15) ++ numeral (PtN p)) = octs (numeral (prN p 15)) ++ (octs (numeral (PtN p)) ++ []) := by unfold octs; rw [List.append_nil, List.map_append]
    rw [e]
    exact .cons (parse_numeral (prN_lt hp h15) _) (.cons (parse_numeral pt2 _) .nil)
  have R3 := Rep.slots R2 hk hL
  refine evalE_sound (P2ok' (d := d)) _ RM4 EO.toEnvOk c3 ha2 R3 fun s4 vb k4 hb => ?_
  have hb' : VR (fun _ => False) [] s4.heap (.lst ([(prN p 15 : Int), (PtN p : Int)].map V.int)) vb := hb.lst_elim fun a its _ hp hv => vr_lst id hp (vrs_scalar rfl hv)
  refine (eqV_sound (v := .lst ([(prN p 15 : Int), (PtN p : Int)].map V.int)) (u := .lst ([(prN p 15 : Int), (PtN p : Int)].map V.int)) (eqV_two _ _) (vr_lst id (hpl.at fun o e => keeps_heap k4 _ _ e) (hvr.keeps k4)) hb' RM4.hu).1 ?_
  obtain ⟨h4, t4, rfl, hk4⟩ := k4
  obtain ⟨h3, t3, rfl⟩ := hsh
  obtain ⟨h2, t2, rfl, hk2⟩ := k2
  obtain ⟨h1, t1, rfl⟩ := M1.sh
  refine hQ _ ⟨_, _, rfl⟩ fun b o e => hk4 b o (hk b (fun h => ?_) o (R2.k0 b o e))
  rw [h, R2.o0 _ R2.rep.own] at e; cases e
end
end
section
open PySem PySem.Spec PySem.Calls PySem.W PyProof.Rows

theorem vrs_well {P : Params} {h : Heap} : ∀ {is : List Int} {vs : List Value}, WellAll P h vs (ofPys (is.map PyData.int)) → VRs (fun _ => False) [] h (is.map V.int) vs
  | [], vs, H => by
    cases H; exact vrs_nil
  | i :: is, vs, H => by
    cases H with
    | cons h1 h2 =>
      cases h1
      exact vrs_cons (vr_int _ _ _) (vrs_well h2)
theorem vr_well {P : Params} {h : Heap} {is : List Int} {x : Value} (H : Well P h x (ofPy (.list (is.map PyData.int)))) : VR (fun _ => False) [] h (.lst (is.map V.int)) x := by
  cases H with
  | list h1 h2 => exact vr_lst id ⟨_, h1⟩ (vrs_well h2)

section
variable {prog : Program} {w : World} {mg mb : Str → Option Value} {K : Frag}
theorem law_good (TK : TopK K) (DL : Dfn K 332 ["script"] p_law) (hl : nsIn K mainGlobals (Str.ofString "law") = some (some (.ref 332))) {P : Params} {s₁ : Shared} {fa : Addr} {x : Value} {is : List Int} {c : ClaimW} {cl : Str → Option Addr} {mean : ExcName → Option Value} {args : List WData}
    (G : Gr K mg mb s₁.heap) (hmg : mg (Str.ofString "law") = some (.ref fa)) (hx : Well P s₁.heap x (ofPy (.list (is.map PyData.int)))) (hlen : is.length ≤ 63) (hg : s₁.gens = #[]) (hn : ∀ cls, c.raises args cls = false) (hp : c.post args (.bool true) args = true) :
    wpAny (model prog w) callerA (call (.ref fa) [x]) (fun v s' => GoodWG c cl mean args s₁ (.ok (.ret v)) s') (fun e s' => GoodWG c cl mean args s₁ (.error e) s') s₁ := by
  have e : fa = 332 := by have := hmg.symm.trans (mg_of G.k G.g hl); cases this; rfl
  subst e
  refine law_call (d := 0) DL ⟨rfl, by decide, by decide⟩ rfl G (vr_well hx) (Nat.le_trans hlen (by decide)) fun s' hsh hk => ?_
  obtain ⟨h', t', rfl⟩ := hsh
  exact ⟨.inl ⟨_, .bool true, [], rfl, hn, .bool true, hp, unshared_nil⟩, .of_keep hk, rfl, .of_eq hg⟩
end
end
section
open PySem PySem.Spec PySem.Calls PySem.W PyProof.Rows
/-- where a def's code stands -/
def codeAddr (K : Frag) (a : Addr) : Option Addr := match K.lookup a with
  | some o => (match o.data with
    | .func fd => (match fd.code with
      | .ref c => some c
      | _ => none)
    | _ => none)
  | none => none
theorem Dfn.of {H : Params → Frag} {p : Params} {a c : Addr} {xs : List String} {ps : List PS} (h0 : chk (H p0) a xs ps = true) (h1 : (H p).lookup a = (H p0).lookup a) (h2 : codeAddr (H p0) a = some c) (h3 : (H p).lookup c = (H p0).lookup c) : Dfn (H p) a xs ps :=
  FnOk.of_chk ((chk_congr h1 fun o fd c' e1 e2 e3 => by
    have e : codeAddr (H p0) a = some c' := by
      unfold codeAddr
      rw [e1]
      dsimp only
      rw [e2]
      dsimp only
      rw [e3]
    cases e.symm.trans h2
    exact h3).trans h0)
theorem holds.tw8564859838321607590 : True := trivial
theorem holds.tw15015857798148245743 : True := trivial
theorem holds.tw4077311611012620791 : True := trivial
theorem holds.tw7670464885185767585 : True := trivial
theorem holds.tw2088224509785070661 : True := trivial
theorem holds.tw14040500308302212198 : True := trivial
theorem holds.tw6405266279934464335 : True := trivial
theorem holds.tw12120460576531838259 : True := trivial
theorem holds.tw11344782188778886410 : True := trivial
theorem holds.tw13090532395170442342 : True := trivial
theorem holds.tw16319319655380244167 : True := trivial
theorem holds.tw13108245259352980691 : True := trivial
theorem holds.tw1692041494862269998 : True := trivial
theorem holds.tw5502875852759468074 : True := trivial
theorem holds.tw14747351113905286367 : True := trivial
theorem holds.tw9260842090827677427 : True := trivial
theorem holds.tw10447927361281507451 : True := trivial
theorem holds.tw14143810129639902174 : True := trivial
theorem holds.tw5531739377885291302 : True := trivial
theorem holds.tw16617498834693519143 : True := trivial
theorem holds.tw10274680400919065884 : True := trivial
theorem holds.tw11413208387583891290 : True := trivial
theorem holds.tw11223116819087169764 : True := trivial
theorem holds.tw9866653766423218390 : True := trivial
theorem holds.tw3083665863380995925 : True := trivial
theorem holds.tw13373784697917265674 : True := trivial
theorem holds.tw12468101337765408714 : True := trivial
theorem holds.tw10576265454180977796 : True := trivial
theorem holds.tw5926597645957970899 : True := trivial
theorem holds.tw5498966250228494579 : True := trivial
theorem holds.tw9279739060811778729 : True := trivial
theorem holds.tw8049511868366338171 : True := trivial
theorem holds.tw4046193847619289583 : True := trivial
theorem holds.tw15789134804574128350 : True := trivial
theorem holds.tw9430090754398894584 : True := trivial
theorem holds.tw13130249910395747862 : True := trivial
theorem holds.tw16315053957116525436 : True := trivial
theorem holds.tw16239030619513480838 : True := trivial
theorem holds.tw13281364814482169325 : True := trivial
theorem holds.tw12540800736699631050 : True := trivial
theorem holds.tw2667925813562934949 : True := trivial
theorem holds.tw5588498093969417903 : True := trivial
theorem holds.tw10828986214106111531 : True := trivial
theorem holds.tw7258431392514884226 : True := trivial
theorem holds.tw16307742377514257941 : True := trivial
theorem holds.tw15864543535133235901 : True := trivial
theorem holds.tw17647985033660283594 : True := trivial
theorem holds.tw185807328385624810 : True := trivial
theorem holds.tw8551410553514715252 : True := trivial
theorem holds.tw1974762919298152056 : True := trivial
theorem holds.tw4583756282420477746 : True := trivial
theorem holds.tw3280128972450656526 : True := trivial
theorem holds.tw4905061745869718969 : True := trivial
theorem holds.tw7991519602905016326 : True := trivial
theorem holds.tw2277698456845511444 : True := trivial
theorem holds.tw16716973418849355883 : True := trivial
theorem holds.tw4529002996912422141 : True := trivial
theorem holds.tw6530656714298385208 : True := trivial
theorem holds.tw3930379177928381544 : True := trivial
theorem holds.tw3937267528351423324 : True := trivial
theorem holds.tw16939745714101447976 : True := trivial
theorem holds.tw3811385743445658432 : True := trivial
theorem holds.tw15168271185221313123 : True := trivial
theorem holds.tw18145382148040430673 : True := trivial
theorem holds.tw10973056549479156102 : True := trivial
theorem holds.tw16697607604324151607 : True := trivial
theorem holds.tw9451202372093027117 : True := trivial
theorem holds.tw11938292756510276569 : True := trivial
theorem holds.tw9869090999611096606 : True := trivial
theorem holds.tw14404905868111484630 : True := trivial
theorem holds.tw1639197193820686003 : True := trivial
theorem holds.tw1882270145967814011 : True := trivial
theorem holds.tw17294395744611713098 : True := trivial
theorem holds.tw1446027475299390936 : True := trivial
theorem holds.tw3272002898400906749 : True := trivial
theorem holds.tw10494946348260405530 : True := trivial
theorem holds.tw6330134614895140133 : True := trivial
theorem holds.tw5599412692616142259 : True := trivial
theorem holds.tw1349225773494744244 : True := trivial
theorem holds.tw13341946137322399123 : True := trivial
theorem holds.tw15216533652830951187 : True := trivial
theorem holds.tw15493915963290111440 : True := trivial
theorem holds.tw2661161477798328453 : True := trivial
theorem holds.tw12941468149822085856 : True := trivial
theorem holds.tw13602253286356535353 : True := trivial
theorem holds.tw5898628582698610718 : True := trivial
theorem holds.tw3906943341852370832 : True := trivial
theorem holds.tw2720468260678641542 : True := trivial
theorem holds.tw7058599786907716777 : True := trivial
theorem holds.tw17254660705983429885 : True := trivial
theorem holds.tw8239031253751857358 : True := trivial
theorem holds.tw4998001990490953706 : True := trivial
theorem holds.tw9284948610034456067 : True := trivial
theorem holds.tw15356600547250028879 : True := trivial
theorem holds.tw2490583276235294983 : True := trivial
theorem holds.tw298297018594106725 : True := trivial
theorem holds.tw5350216910946226995 : True := trivial
theorem holds.tw3969078344035082030 : True := trivial
theorem holds.tw3730361735541598800 : True := trivial
theorem holds.tw8789113547377566482 : True := trivial
theorem holds.tw10491065262344570346 : True := trivial
theorem holds.tw14205006904943715905 : True := trivial
theorem holds.tw154871700347349385 : True := trivial
theorem holds.tw11866763835798034582 : True := trivial
theorem holds.tw341249449185904685 : True := trivial
theorem holds.tw949623864930693503 : True := trivial
theorem holds.tw4252685499439207924 : True := trivial
theorem holds.tw7753079526450916859 : True := trivial
theorem holds.tw4659233104850659043 : True := trivial
theorem holds.tw4949047195023096438 : True := trivial
theorem holds.tw10520202591518659360 : True := trivial
theorem holds.tw7336298536931962653 : True := trivial
set_option maxRecDepth 100000 in
set_option maxHeartbeats 0 in
theorem holds : PySem.Challenge.rw_tc0030_01.Holds := by
  w_on; o_law; k_head
  case hw => w_witness2
  k_fill
  intro w s₀ s₁ mg mb G Y fa o pm cd doc dV kV ho hd1 hcd hD hmg hg args vals as hpre hlay hrd hwl hlo
  have KX := kIn_of Y
  refine Ground.open G ?_
  intro T B D TE TW
  have G9 : Gr _ mg mb s₁.heap := ⟨KX, T.g, T.b, T.builtins, T.nolimit⟩
  have hmg' : mg (Str.ofString "law") = some (.ref fa) := hmg
  clear hmg
  clear D Y G B TE TW hcd hD hd1 ho T KX
  wrow_args hpre hlay hrd hwl hlo
  rename_i is _ _ _ _ _ _ _ a _ _ _ _ hw _ _ _ hlen _
  first | refine callC_kw ?_ | skip
  refine law_good (show TopK (Mine.holds.heap_1_39 w.params) from
    { add := .of (by decide +kernel) rfl rfl rfl,
      floordiv := .of (by decide +kernel) rfl rfl rfl,
      lshift := .of (by decide +kernel) rfl rfl rfl,
      mod := .of (by decide +kernel) rfl rfl rfl,
      mul := .of (by decide +kernel) rfl rfl rfl,
      sub := .of (by decide +kernel) rfl rfl rfl,
      pretty := .of (by decide +kernel) rfl rfl rfl,
      pieces := .of (by decide +kernel) rfl rfl rfl,
      sent := .of (by decide +kernel) rfl rfl rfl,
      cut := .of (by decide +kernel) rfl rfl rfl,
      mail := .of (by decide +kernel) rfl rfl rfl,
      share := .of (by decide +kernel) rfl rfl rfl,
      codes := .of (by decide +kernel) rfl rfl rfl,
      numeral := .of (by decide +kernel) rfl rfl rfl,
      sixteens := .of (by decide +kernel) rfl rfl rfl,
      lname := .of (by decide +kernel) rfl rfl rfl,
      pots := .of (by decide +kernel) rfl rfl rfl,
      quot := ⟨_, _, _, _, _, _, _, _, _, _, _, _, ⟨⟨_, rfl, rfl⟩, rfl, rfl, rfl, rfl, rfl, rfl, rfl, rfl, by decide +kernel, by decide +kernel, by decide⟩, by decide +kernel, by decide +kernel, rfl, by decide +kernel, rfl, by decide +kernel, by decide +kernel⟩,
      conv := ⟨_, _, _, _, _, _, _, _, _, _, _, _, _, _, _, _, _, _, _, _, _, _, _, ⟨⟨_, rfl, rfl⟩, rfl, rfl, rfl, rfl, rfl, rfl, rfl, rfl, by decide +kernel, by decide +kernel, by decide⟩, rfl, rfl, rfl, rfl, rfl, rfl, by decide +kernel, by decide +kernel, by decide +kernel, by decide +kernel, by decide +kernel, by decide +kernel, by decide +kernel, rfl⟩,
      getAll := ⟨_, _, _, _, _, _, _, _, _, _, _, ⟨⟨_, rfl, rfl⟩, rfl, rfl, rfl, rfl, rfl, rfl, rfl, rfl, by decide +kernel, by decide +kernel, by decide⟩, by decide +kernel, by decide +kernel, ⟨_, _, _, _, _, _, _, rfl, rfl, by decide +kernel, rfl, show matchE _ _ _ = true by decide +kernel⟩, rfl, by decide +kernel, ⟨_, _, rfl, by decide +kernel⟩, rfl, by decide +kernel, by decide +kernel⟩,
      items := ⟨_, _, _, _, _, ⟨⟨_, rfl, rfl⟩, rfl, rfl, rfl, rfl, rfl, rfl, rfl, rfl, by decide +kernel, by decide +kernel, by decide⟩, by decide +kernel, ⟨_, _, rfl, by decide +kernel⟩⟩,
      get := ⟨_, _, _, _, _, _, _, _, _, _, _, _, _, _, _, _, ⟨⟨_, rfl, rfl⟩, rfl, rfl, rfl, rfl, rfl, rfl, rfl, rfl, by decide +kernel, by decide +kernel, by decide⟩, rfl, rfl, rfl, rfl, rfl, rfl, by decide +kernel, ⟨_, _, _, _, _, _, _, rfl, rfl, by decide +kernel, rfl, show matchE _ _ _ = true by decide +kernel⟩, rfl, by decide +kernel, by decide +kernel, ⟨_, _, rfl, by decide +kernel⟩, rfl, by decide +kernel, by decide +kernel, by decide +kernel⟩,
      addh := ⟨_, _, _, _, _, _, _, _, _, _, _, _, _, _, _, _, _, _, _, _, _, _, _, _, _, ⟨⟨_, rfl, rfl⟩, rfl, rfl, rfl, rfl, rfl, rfl, rfl, rfl, by decide +kernel, by decide +kernel, by decide⟩, rfl, rfl, rfl, rfl, rfl, rfl, rfl, by decide +kernel, by decide +kernel, by decide +kernel, ⟨_, _, _, _, _, _, _, rfl, rfl, by decide +kernel, rfl, show matchE _ _ _ = true by decide +kernel⟩, rfl, by decide +kernel, by decide +kernel, rfl, ⟨_, _, rfl, by decide +kernel⟩, rfl, ⟨_, _, _, _, _, _, _, rfl, rfl, by decide +kernel, rfl, show matchE _ _ _ = true by decide +kernel⟩, by decide +kernel⟩,
      init := ⟨_, _, _, _, _, _, _, _, _, _, _, _, _, _, _, _, _, _, _, _, _, _, _, _, _, _, _, _, _, _, ⟨⟨_, rfl, rfl⟩, rfl, rfl, rfl, rfl, rfl, rfl, rfl, rfl, by decide +kernel, by decide +kernel, by decide⟩, rfl, rfl, rfl, rfl, rfl, rfl, by decide +kernel, by decide +kernel, by decide +kernel, by decide +kernel⟩,
      pv := ⟨_, _, _, _, _, _, _, _, _, _, _, _, _, ⟨⟨_, rfl, rfl⟩, rfl, rfl, rfl, rfl, rfl, rfl, rfl, rfl, by decide +kernel, by decide +kernel, by decide⟩, by decide +kernel, by decide +kernel, ⟨_, _, _, rfl, by decide +kernel, by decide +kernel⟩, rfl, by decide +kernel, by decide +kernel, by decide +kernel, ⟨_, _, _, rfl, by decide +kernel, by decide +kernel⟩, rfl, by decide +kernel, by decide +kernel⟩,
      num := ⟨_, _, _, _, _, _, _, _, _, _, _, _, _, _, _, _, _, _, _, _, _, _, ⟨⟨_, rfl, rfl⟩, rfl, rfl, rfl, rfl, rfl, rfl, rfl, rfl, by decide +kernel, by decide +kernel, by decide⟩, by decide +kernel, by decide +kernel, by decide +kernel, by decide +kernel, by decide +kernel, by decide +kernel, by decide +kernel, rfl, by decide +kernel, by decide +kernel⟩,
      pat1 := fun h X => ⟨_, _, 42, _, _, X 43 _ rfl, X 42 _ rfl, by first | decide +kernel | simp [Builtin.Re.reRawOf, code1, code2, codeN, codeV]⟩,
      pat2 := fun h X => ⟨_, _, 47, _, _, X 48 _ rfl, X 47 _ rfl, by first | decide +kernel | simp [Builtin.Re.reRawOf, code1, code2, codeN, codeV]⟩,
      patN := fun h X => ⟨_, _, 121, _, _, X 122 _ rfl, X 121 _ rfl, by first | decide +kernel | simp [Builtin.Re.reRawOf, code1, code2, codeN, codeV]⟩,
      patV := fun h X => ⟨_, _, 126, _, _, X 127 _ rfl, X 126 _ rfl, by first | decide +kernel | simp [Builtin.Re.reRawOf, code1, code2, codeN, codeV]⟩,
      glob := List.forall_mem_cons.mpr ⟨rfl, List.forall_mem_cons.mpr ⟨rfl, List.forall_mem_cons.mpr ⟨rfl, List.forall_mem_cons.mpr ⟨rfl, List.forall_mem_cons.mpr ⟨rfl, List.forall_mem_cons.mpr ⟨rfl, List.forall_mem_cons.mpr ⟨rfl, List.forall_mem_cons.mpr ⟨rfl, List.forall_mem_cons.mpr ⟨rfl, List.forall_mem_cons.mpr ⟨rfl, List.forall_mem_cons.mpr ⟨rfl, List.forall_mem_cons.mpr ⟨rfl, List.forall_mem_cons.mpr ⟨rfl, List.forall_mem_cons.mpr ⟨rfl, List.forall_mem_cons.mpr ⟨rfl, List.forall_mem_cons.mpr ⟨rfl, List.forall_mem_cons.mpr ⟨rfl, List.forall_mem_cons.mpr ⟨rfl, List.forall_mem_cons.mpr ⟨rfl, List.forall_mem_cons.mpr ⟨rfl, List.forall_mem_cons.mpr ⟨rfl, List.forall_mem_cons.mpr ⟨rfl, List.forall_mem_cons.mpr ⟨rfl, List.forall_mem_cons.mpr ⟨rfl, List.forall_mem_cons.mpr ⟨rfl, List.forall_mem_cons.mpr ⟨rfl, List.forall_mem_cons.mpr ⟨rfl, List.forall_mem_cons.mpr ⟨rfl, List.forall_mem_cons.mpr ⟨rfl, List.forall_mem_cons.mpr ⟨rfl, List.forall_mem_cons.mpr ⟨rfl, List.forall_mem_cons.mpr ⟨rfl, List.forall_mem_cons.mpr ⟨rfl, List.forall_mem_cons.mpr ⟨rfl, List.forall_mem_cons.mpr ⟨rfl, List.forall_mem_cons.mpr ⟨rfl, List.forall_mem_cons.mpr ⟨rfl, List.forall_mem_cons.mpr ⟨rfl, List.forall_mem_nil _⟩⟩⟩⟩⟩⟩⟩⟩⟩⟩⟩⟩⟩⟩⟩⟩⟩⟩⟩⟩⟩⟩⟩⟩⟩⟩⟩⟩⟩⟩⟩⟩⟩⟩⟩⟩⟩⟩,
      crlf := ⟨_, rfl⟩,
      ga := by kernel_rfl,
      gk := by kernel_rfl,
      fi := List.forall_mem_cons.mpr ⟨by kernel_rfl, List.forall_mem_cons.mpr ⟨by kernel_rfl, List.forall_mem_cons.mpr ⟨by kernel_rfl, List.forall_mem_cons.mpr ⟨by kernel_rfl, List.forall_mem_cons.mpr ⟨by kernel_rfl, List.forall_mem_nil _⟩⟩⟩⟩⟩,
      fi_init := by kernel_rfl,
      fi_setattr := by kernel_rfl,
      fi_own := by kernel_rfl,
      ty := List.forall_mem_cons.mpr ⟨by kernel_rfl, List.forall_mem_cons.mpr ⟨by kernel_rfl, List.forall_mem_cons.mpr ⟨by kernel_rfl, List.forall_mem_cons.mpr ⟨by kernel_rfl, List.forall_mem_cons.mpr ⟨by kernel_rfl, List.forall_mem_cons.mpr ⟨by kernel_rfl, List.forall_mem_nil _⟩⟩⟩⟩⟩⟩,
      keep157 := by kernel_rfl,
      keep256 := by kernel_rfl,
      makes256 := by kernel_rfl,
      over256 := by kernel_rfl,
      taker256 := by kernel_rfl,
      hasd256 := by kernel_rfl,
      tup196 := ⟨_, rfl⟩,
      tup143 := ⟨_, rfl⟩,
      cls256 := ⟨_, rfl⟩,
      tab56 := ⟨_, _, _, rfl, ⟨rfl, rfl, rfl⟩, rfl, by decide +kernel⟩ })
    (.of (H := Mine.holds.heap_1_39) (p := w.params) (by decide +kernel) rfl rfl rfl) rfl G9 hmg' (is := is) hw ?_ hg ?_ ?_
  · omega
  · intro cls; rfl
  · exact postW_of (by wrow_shape) (by wtm_val) (by str_meet; first | done | w_fin)
end
end Mine
theorem PySem.Challenge.cw_tc0030_01_holds : PySem.Challenge.rw_tc0030_01.Holds :=
  Mine.holds
